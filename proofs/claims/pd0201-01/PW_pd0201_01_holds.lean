import PyProof.Rows.All
import Wide.All
import OpenK.AllK
import Wide.FinOn
import PyProof.NoPylong
import PyProof.Walk
import PyProof.ListTruth
import PyProof.ListIndexNeg
import PyProof.MeetsSeq
import PyProof.StrLawsIn
import PyProof.StrLawsTight
import PyProof.StrLawsJoin
import PyProof.StrLawsIdx
import PyProof.FitsReplace
import PyProof.SliceList
import PyProof.RangeIter
import PyProof.ListNew
import PyProof.ExcNew
import PyProof.RaisesMany
import PyProof.SumWalk
import Lean
import PySem.Challenge.RW_pd0201_01
set_option Elab.async false
section
set_option maxRecDepth 100000
namespace Mine
open PySem PySem.Spec PySem.Calls PyProof.Rows PySem.W PySem.W.X

/-- the first address behind the top's heap -/
noncomputable abbrev B : Nat := 892

inductive T3 where
  | n (a : Nat)
  | c (c : Code)
  | v (v : Value)
  | o (x : Obj)
  | e (x : List Env)
abbrev Eqs := List (T3 × T3)
abbrev Slots := List (Nat × Obj)

inductive Fini where
  | bad (n : Nat)
  | ret (r : Result) (T : Slots)
  | stop (c : Code) (T : Slots)

structure Outc where
  eqs : Eqs
  ps : List Prop
  fin : Fini

inductive Hint where
  | o
  | s (j : Nat)
  | i
  | f
  | c (n : Nat) (as : List Nat)
  | z (js : List Nat)
  | e (js : List Nat)
  | cf (n : Nat) (as : List Nat)

noncomputable def digs : Nat → Nat → List Nat
  | 0, _ => []
  | k + 1, n => n % 128 :: digs k (n / 128)
noncomputable def cutD : Nat → Nat → Nat
  | 0, n => n
  | k + 1, n => cutD k (n / 128)
/-- the next hint, and what is behind it: the hints are a number's digits by 128 -/
noncomputable def dec (n : Nat) : Hint × Nat := match Nat.ble 8 (n % 128) with
  | true => (.s (n % 128 - 8), n / 128)
  | false => match Nat.beq (n % 128) 0 with
    | true => (.o, n / 128)
    | false => match Nat.beq (n % 128) 1 with
      | true => (.i, n / 128)
      | false => match Nat.beq (n % 128) 2 with
        | true => (.f, n / 128)
        | false => match Nat.beq (n % 128) 3 with
          | true => (.c (n / 128 % 128) (digs (n / 16384 % 128) (n / 2097152)), cutD (n / 16384 % 128) (n / 2097152))
          | false => match Nat.beq (n % 128) 4 with
            | true => (.z (digs (n / 128 % 128) (n / 16384)), cutD (n / 128 % 128) (n / 16384))
            | false => match Nat.beq (n % 128) 6 with
              | false => (.e (digs (n / 128 % 128) (n / 16384)), cutD (n / 128 % 128) (n / 16384))
              | true => (.cf (n / 128 % 128) (digs (n / 16384 % 128) (n / 2097152)), cutD (n / 16384 % 128) (n / 2097152))

structure ConOut where
  eqs : Eqs
  ps : List Prop
  res : Result
  T : Slots

/-- a contract: how a code is answered without running it -/
structure Con where
  need : Nat
  lvl : Nat
  run : Code → Slots → List Nat → List Nat → Option ConOut

/-- a contract that looks at the frames below -/
structure ConF where
  need : Nat
  lvl : Nat
  run : List Env → Code → Slots → List Nat → List Nat → Option ConOut

structure UV where
  den : Code → Sem Fin
  ent : Code → Sem Fin
  prog : Program
  w : World
  kt : KT
  con : Nat → Option Con
  lvl : Nat
  fr : Option (List Env) := none
  conF : Nat → Option ConF := fun _ => none

/-- a code that may stand on the stack -/
inductive UK where
  | base
  | ret (c : Code) (hd : Option Value) (k : Result → Sem Fin) (κ : UK)
noncomputable def UK.len : UK → Nat
  | .base => 0
  | .ret _ _ _ κ => κ.len + 1
noncomputable def UK.hdl : UK → Option Value
  | .base => none
  | .ret _ hd _ κ => hd.or κ.hdl

/-- the frames below a code, those of the base given -/
noncomputable def frU (F : List Env) : UK → List Env
  | .base => F
  | .ret c _ _ κ => c.envs ++ frU F κ

/-- what is kept at an end: skip g, take one, and so on -/
noncomputable def pick : Slots → List Nat → Option Slots
  | _, [] => some []
  | T, g :: r => match T.drop g with
    | [] => none
    | p :: T' => match pick T' r with
      | some l => some (p :: l)
      | none => none

noncomputable def wt (c : Code) : Nat := match c with
  | .builtin id _ => match id == "claim.caller" with
    | true => 1000
    | false => 5
  | _ => 5

abbrev UTy := Option Nat → Nat → List Nat → Bool → Code → UK → Sem Fin → Slots → Eqs → List Prop → Outc

noncomputable def bad (n : Nat) (e : Eqs) (p : List Prop) : Outc := ⟨e, p, .bad n⟩
noncomputable def endT (T : Slots) (hs : Nat) : Option Slots := match dec hs with
  | (.e js, _) => pick T js
  | _ => none

noncomputable def retU (ih : UTy) (o : Option Nat) (r : Result) (hs : Nat) (xs : List Nat) (κ : UK) (T : Slots) (e : Eqs) (p : List Prop) : Outc := match κ with
  | .base => match xs with
    | [] => match endT T hs with
      | some T' => ⟨e, p, .ret r T'⟩
      | none => bad 1 e p
    | _ :: _ => bad 2 e p
  | .ret c _ k κ => ih o hs xs false c κ (k r) T e p

/-- the code c' is entered, what is behind it is κ -/
noncomputable def codeU (V : UV) (ih : UTy) (o : Option Nat) (c' : Code) (hs : Nat) (xs : List Nat) (κ : UK) (T : Slots) (e : Eqs) (p : List Prop) : Outc := match dec hs with
  | (h, hs) => match h with
    | .i => ih o hs xs false c' κ (V.den c') T e p
    | .f => match Nat.ble κ.len 12 with
      | true => ih o hs xs true c' κ (V.ent c') T e p
      | false => bad 4 e p
    | .c n as => match V.con n with
      | some con => match Nat.ble κ.len 12 && Nat.ble (con.lvl + 1) V.lvl && κ.hdl.isNone with
        | true => match con.run c' T as (xs.take con.need) with
          | some z => match Nat.ble con.need xs.length with
            | true => retU ih none z.res hs (xs.drop con.need) κ z.T (z.eqs ++ e) (z.ps ++ p)
            | false => bad 5 e p
          | none => bad 6 e p
        | false => bad 7 e p
      | none => bad 8 e p
    | .z js => match xs with
      | [] => match κ with
        | .base => match pick T js with
          | some T' => ⟨e, p, .stop c' T'⟩
          | none => bad 9 e p
        | .ret .. => bad 10 e p
      | _ :: _ => bad 11 e p
    | .o => bad 13 e p
    | .s _ => bad 14 e p
    | .e _ => bad 15 e p
    | .cf n as => match V.conF n with
      | some con => match V.fr with
        | some F => match Nat.ble κ.len 12 && Nat.ble (con.lvl + 1) V.lvl && κ.hdl.isNone with
          | true => match con.run (frU F κ) c' T as (xs.take con.need) with
            | some z => match Nat.ble con.need xs.length with
              | true => retU ih none z.res hs (xs.drop con.need) κ z.T (z.eqs ++ e) (z.ps ++ p)
              | false => bad 16 e p
            | none => bad 17 e p
          | false => bad 18 e p
        | none => bad 19 e p
      | none => bad 23 e p

noncomputable def getU (V : UV) (T : Slots) (a : Addr) (h : Hint) : Option (Eqs × Obj) := match h with
  | .o => match V.kt.get a with
    | some o => some ([], o)
    | none => none
  | .s j => match T[j]? with
    | some p => some ([(.n a, .n (p.1 + B))], p.2)
    | none => none
  | _ => none

noncomputable def setAt : Slots → Nat → (Obj → Obj) → Slots
  | [], _, _ => []
  | p :: r, 0, f => (p.1, f p.2) :: r
  | p :: r, n + 1, f => p :: setAt r n f

noncomputable def okMark' (hd : Option Value) : Bool := match hd with
  | none => true
  | some v => match v with
    | .notImplemented => false
    | _ => true

noncomputable def stepU (V : UV) (ih : UTy) : UTy := fun u hs xs en c κ t T e p => match t with
  | .pure fin => match fin with
    | .done f => match en with
      | false => retU ih u (.ok f) hs xs κ T e p
      | true => bad 20 e p
    | .again c' => match c'.quiet with
      | true => codeU V ih u c' hs xs κ T e p
      | false => bad 21 e p
  | .raise v => match en with
    | false => retU ih u (.error v) hs xs κ T e p
    | true => bad 22 e p
  | .rule _ k => ih u hs xs en c κ (k ()) T e p
  | .at _ k => ih u hs xs en c κ (k ()) T e p
  | .point _ k => ih u hs xs en c κ (k ()) T e p
  | .ask k => ih u hs xs en c κ (k ⟨V.prog, V.w.params⟩) T e p
  | .load a _ k => match dec hs with
    | (h, hs) => match getU V T a h with
      | some (es, o) => ih u hs xs en c κ (k o) T (es ++ e) p
      | none => bad 24 e p
  | .loadIfAlive a k => match dec hs with
    | (h, hs) => match getU V T a h with
      | some (es, o) => ih u hs xs en c κ (k (some o)) T (es ++ e) p
      | none => bad 24 e p
  | .alloc o k => match xs with
    | [] => bad 25 e p
    | x :: xs => match o.isFreed with
      | true => bad 26 e p
      | false => ih u hs xs en c κ (k (x + B)) ((x, o) :: T) e p
  | .update a _ f k => match dec hs with
    | (h, hs) => match h with
      | .s j => match T[j]? with
        | some q => match (f q.2).isFreed with
          | true => bad 28 e p
          | false => ih u hs xs en c κ (k ()) (setAt T j f) ((.n a, .n (q.1 + B)) :: e) p
        | none => bad 29 e p
      | _ => bad 30 e p
  | .fresh k => match u with
    | some t => ih (some (t + 1)) hs xs en c κ (k t) T e p
    | none => match xs with
      | [] => bad 31 e p
      | x :: xs => ih none hs xs en c κ (k x) T e p
  | .handled own k => match own with
    | false => ih u hs xs en c κ (k κ.hdl) T e p
    | true => bad 32 e p
  | .call c' hd _ _ k => match en with
    | true => bad 33 e p
    | false => match okMark' hd with
      | true => match Nat.ble (wt c) 5 with
        | true => codeU V ih u c' hs xs (.ret c hd k κ) T e p
        | false => bad 34 e p
      | false => bad 35 e p
  | .unsupported _ => bad 40 e p
  | .stack _ => bad 41 e p
  | .newGen .. => bad 42 e p
  | .genState .. => bad 43 e p
  | .resume .. => bad 44 e p
  | .yield .. => bad 45 e p
  | .finish _ => bad 46 e p
  | .register .. => bad 47 e p
  | .choose .. => bad 48 e p
  | .os .. => bad 49 e p
  | .fork .. => bad 50 e p
  | .thread _ => bad 51 e p
  | .await .. => bad 52 e p

noncomputable def simU (V : UV) (n : Nat) : UTy := Nat.rec (motive := fun _ => UTy) (fun _ _ _ _ _ _ _ _ e p => bad 99 e p) (fun _ ih => stepU V ih) n
theorem simU_succ (V : UV) (n : Nat) : simU V (n + 1) = stepU V (simU V n) := rfl
end Mine
end

section
set_option maxRecDepth 100000
namespace Mine
open PySem PySem.Spec PySem.Calls PyProof.Rows PySem.W PySem.W.X

structure RepU (hT h₀ : Heap) (U : Addr → Prop) (T : Slots) (h : Heap) : Prop where
  top : ∀ b o, hT.get? b = some o → h.get? b = some o
  low : B ≤ h.objs.size
  big : h₀.objs.size ≤ h.objs.size
  at' : ∀ p ∈ T, h.get? (p.1 + B) = some p.2
  nd : (T.map (·.1)).Nodup
  own : ∀ p ∈ T, U (p.1 + B) ∨ h₀.get? (p.1 + B) = none
  keep : ∀ b o, h₀.get? b = some o → ¬ U b → h.get? b = some o

section
variable {hT h₀ h : Heap} {U : Addr → Prop} {T T' : Slots}
theorem RepU.sub (D : RepU hT h₀ U T h) (s : T'.Sublist T) : RepU hT h₀ U T' h :=
  ⟨D.top, D.low, D.big, fun p hp => D.at' p (s.subset hp), (s.map _).nodup D.nd, fun p hp => D.own p (s.subset hp), D.keep⟩
theorem RepU.alloc (D : RepU hT h₀ U T h) {o : Obj} (hf : o.isFreed = false) : RepU hT h₀ U ((h.objs.size - B, o) :: T) (h.push o) := by
  have e : h.objs.size - B + B = h.objs.size := Nat.sub_add_cancel D.low
  refine ⟨fun b o' q => Heap.get?_push_of_some _ (D.top b o' q), ?_, ?_, fun p hp => ?_, ?_, fun p hp => ?_, fun b o' q n => Heap.get?_push_of_some _ (D.keep b o' q n)⟩
  · rw [Heap.size_push]; exact Nat.le_succ_of_le D.low
  · rw [Heap.size_push]; exact Nat.le_succ_of_le D.big
  · rcases List.mem_cons.mp hp with rfl | hp
    · show (h.push o).get? (h.objs.size - B + B) = some o
      rw [e]; exact Heap.get?_push_size _ hf
    · exact Heap.get?_push_of_some _ (D.at' p hp)
  · rw [List.map_cons]
    refine List.nodup_cons.mpr ⟨fun hm => ?_, D.nd⟩
    obtain ⟨p, hp, hx⟩ := List.mem_map.mp hm
    have hlt := Heap.lt_size (D.at' p hp)
    have : p.1 = h.objs.size - B := hx
    rw [this, e] at hlt
    exact Nat.lt_irrefl _ hlt
  · rcases List.mem_cons.mp hp with rfl | hp
    · right
      show h₀.get? (h.objs.size - B + B) = none
      rw [e]
      cases q : h₀.get? h.objs.size with
      | none => rfl
      | some o' => exact absurd (Nat.lt_of_lt_of_le (Heap.lt_size q) D.big) (Nat.lt_irrefl _)
    · exact D.own p hp
theorem setAt_mem {f : Obj → Obj} : ∀ {T : Slots} {j : Nat} {q : Nat × Obj}, T[j]? = some q → (T.map (·.1)).Nodup → ∀ p ∈ setAt T j f, (p = (q.1, f q.2)) ∨ (p ∈ T ∧ p.1 ≠ q.1)
  | [], _, _, e, _, _, _ => by cases e
  | x :: r, 0, q, e, nd, p, hp => by
    have : x = q := by simpa using e
    subst this
    rw [List.map_cons] at nd
    have nd' := List.nodup_cons.mp nd
    unfold setAt at hp
    rcases List.mem_cons.mp hp with rfl | hp
    · exact .inl rfl
    · exact .inr ⟨List.mem_cons_of_mem _ hp, fun h => nd'.1 (h ▸ List.mem_map_of_mem hp)⟩
  | x :: r, n + 1, q, e, nd, p, hp => by
    rw [List.map_cons] at nd
    have nd' := List.nodup_cons.mp nd
    have e' : r[n]? = some q := by simpa using e
    unfold setAt at hp
    rcases List.mem_cons.mp hp with rfl | hp
    · refine .inr ⟨List.mem_cons_self .., fun h => nd'.1 (h ▸ List.mem_map_of_mem (List.mem_of_getElem? e'))⟩
    · rcases setAt_mem e' nd'.2 p hp with h | h
      · exact .inl h
      · exact .inr ⟨List.mem_cons_of_mem _ h.1, h.2⟩
theorem setAt_keys {f : Obj → Obj} : ∀ (T : Slots) (j : Nat), (setAt T j f).map (·.1) = T.map (·.1)
  | [], _ => rfl
  | _ :: _, 0 => rfl
  | x :: r, n + 1 => by unfold setAt; rw [List.map_cons, List.map_cons, setAt_keys r n]
theorem RepU.update (D : RepU hT h₀ U T h) (sz : hT.objs.size = B) {j : Nat} {q : Nat × Obj} {f : Obj → Obj} (e : T[j]? = some q) (hf : (f q.2).isFreed = false) : RepU hT h₀ U (setAt T j f) (h.update (q.1 + B) f) := by
  have hm := List.mem_of_getElem? e
  have ho := D.at' q hm
  have hs : Heap.SameBut (q.1 + B) h (h.update (q.1 + B) f) := Heap.SameBut.update ..
  have hz : (h.update (q.1 + B) f).objs.size = h.objs.size := hs.1
  refine ⟨fun b o' w => ?_, by rw [hz]; exact D.low, by rw [hz]; exact D.big, fun p hp => ?_, by rw [setAt_keys]; exact D.nd, fun p hp => ?_, fun b o' w n => ?_⟩
  · have lt : b < B := sz ▸ Heap.lt_size w
    exact (hs.2 b (Nat.ne_of_lt (Nat.lt_of_lt_of_le lt (Nat.le_add_left ..)))).trans (D.top b o' w)
  · rcases setAt_mem e D.nd p hp with rfl | ⟨hp, hn⟩
    · first | exact Heap.get?_update_self f ho hf | exact Heap.get?_update_self _ ho hf
    · exact (hs.2 _ (fun z => hn (Nat.add_right_cancel z))).trans (D.at' p hp)
  · rcases setAt_mem e D.nd p hp with rfl | ⟨hp, _⟩
    · exact D.own q hm
    · exact D.own p hp
  · refine (hs.2 b ?_).trans (D.keep b o' w n)
    rintro rfl
    rcases D.own q hm with z | z
    · exact n z
    · rw [w] at z; cases z
end

theorem pick_sub : ∀ {js : List Nat} {T T' : Slots}, pick T js = some T' → T'.Sublist T
  | [], T, T', h => by
    cases T <;> (simp only [pick, Option.some.injEq] at h; subst h; exact List.nil_sublist _)
  | g :: r, T, T', h => by
    unfold pick at h
    cases hd : T.drop g with
    | nil => rw [hd] at h; cases h
    | cons p T₁ =>
      rw [hd] at h
      dsimp only at h
      cases hp : pick T₁ r with
      | none => rw [hp] at h; cases h
      | some l =>
        rw [hp] at h
        dsimp only at h
        cases h
        have : (p :: l).Sublist (T.drop g) := by rw [hd]; exact (pick_sub hp).cons_cons _
        exact this.trans (List.drop_sublist _ _)

noncomputable def Room (A : Around) (n : Nat) : Prop := A.depth + 70 * n ≤ 960 ∧ A.units + 130 * n ≤ 9000

noncomputable def qn (v : Value) (d : Str) : Str := match v with
  | .str q _ => q
  | _ => d
/-- the function's body is entered: the call's tree without the look at the stack -/
noncomputable def entTree (bindF : FuncData → Args → Sem (List (Str × Value))) (envF : Scope → Addr → List (Str × Addr) → List (Str × Value) → Str → Option Addr → Value → Option Env → Addr → Sem Env) (fieldF : Value → Nat → Sem Value) (c : Code) : Sem Fin := match c with
  | .call f args => match f with
    | .ref a => .load a none fun o => match o.data with
      | .func fd => match fd.code with
        | .none => .unsupported "u"
        | cd => match fd.scope.isGenerator, fd.scope.isCoroutine with
          | false, false => (do
            let v ← fieldF cd 1
            let env ← envF fd.scope fd.globals fd.closure (← bindF fd args) (qn v fd.qualname ++ ".<locals>.") (some a) cd none fd.builtins
            Sem.pure (.again (match fd.body with
              | .stmts b => .func b env
              | .expr e => .expr e env)))
          | _, _ => .unsupported "u"
      | _ => .unsupported "u"
    | _ => .unsupported "u"
  | _ => .unsupported "u"

theorem code_match {α : Type} {v : Value} {a : α} {f : Value → α} : v ≠ .none → (match v with | .none => a | cd => f cd) = f v := by
  intro h
  cases v <;> first | rfl | exact absurd rfl h
theorem qn_other {v : Value} {d : Str} (h : ∀ q t, v = .str q t → False) : qn v d = d := by
  unfold qn
  split
  · rename_i q t; exact (h q t rfl).elim
  · rfl
theorem ent_sound {prog : Program} {w : World} {A : Around} {c : Code} {R : Result → Shared → Prop} {s : Shared} (hd : A.depth < recursionLimit)
    (h : wpOwn (model prog w) A c (entTree bindArgs @newFunctionEnv field c) (fun fin s' => match fin with | .done _ => False | .again c' => c'.quiet = true ∧ s'.heap.NoLimit ∧ codeAny (model prog w) A c' R s') (fun e s' => R (.error e) s') s) :
    wpOwn (model prog w) A c (denote table c) (postC prog w A R) (postE R) s := by
  intro Γ p hc hΓ
  have h' := h Γ p hc hΓ
  cases c with
  | call f args =>
    cases f with
    | ref a =>
      have w0 : (Code.call (.ref a) args).weight = 0 := rfl
      have hin : Γ.In { A with units := A.units + 1 } := by
        have z := hΓ.in
        rw [hc] at z
        have u0 : A.under (.call (.ref a) args) = A.in1 := Around.under_plain w0 rfl
        rw [u0] at z
        exact z
      obtain ⟨o, ho, h'⟩ := h'
      show Sem.wp _ Γ (callAny (.ref a) args) _ _ p s
      simp only [callAny]
      rw [Sem.wp_bind']
      refine (Sem.wp_load_of _ Γ _ p s ho _).mpr ?_
      cases hdat : o.data with
      | func fd =>
        simp only [hdat] at h'
        simp only [callFunction]
        have key : fd.code ≠ .none := fun q => by rw [q] at h'; exact h'.elim
        rw [code_match key] at h'
        split
        · rename_i q; exact absurd q key
        · cases hg : fd.scope.isGenerator with
          | true => rw [hg] at h'; exact h'.elim
          | false =>
            cases hco : fd.scope.isCoroutine with
            | true => rw [hg, hco] at h'; exact h'.elim
            | false =>
              rw [hg, hco] at h'
              dsimp only at h' ⊢
              rw [Sem.wp_bind'] at h' ⊢
              refine Sem.wp_mono _ Γ _ (fun v p₁ s₁ k₁ => ?_) (fun _ _ _ x => x) p s h'
              rw [Sem.wp_bind'] at k₁
              split
              all_goals
                rw [Sem.wp_bind', Sem.wp_pure', Sem.wp_bind']
                refine Sem.wp_mono _ Γ _ (fun b p₂ s₂ k₂ => ?_) (fun _ _ _ x => x) p₁ s₁ k₁
                rw [Sem.wp_bind'] at k₂ ⊢
                try (rename_i hne; rw [qn_other hne] at k₂)
                try rw [qn] at k₂
                refine Sem.wp_mono _ Γ _ (fun env p₃ s₃ k₃ => ?_) (fun _ _ _ x => x) p₂ s₂ k₂
                rw [Sem.wp_bind']
                have e := wpAny_enterFrame (M := model prog w) (A := { A with units := A.units + 1 }) (E := fun e s' => R (.error e) s') (Q := fun _ s' => s' = s₃) k₃.2.1 hd rfl Γ p₃ hin
                refine Sem.wp_mono _ Γ _ (fun _ p₄ s₄ k₄ => ?_) (fun _ _ _ x => x) p₃ s₃ e
                subst k₄
                exact ⟨k₃.1, k₃.2.2⟩
      | _ => simp only [hdat] at h'; exact h'.elim
    | _ => exact h'.elim
  | _ => exact h'.elim
end Mine
end

section
set_option maxRecDepth 100000
namespace Mine
open PySem PySem.Spec PySem.Calls PyProof.Rows PySem.W PySem.W.X

noncomputable def ConOk (prog : Program) (w : World) (hT : Heap) (con : Con) : Prop :=
  ∀ (A : Around) (h₀ : Heap) (U : Addr → Prop) (g : Array GenState) (d : Drawn) (os : OsState) (c : Code) (T : Slots) (as : List Nat) (R : Result → Shared → Prop) (h : Heap) (tk : Nat),
    A.handled = none → Room A con.lvl → RepU hT h₀ U T h →
    (∀ xs : List Nat, xs.length = con.need → ∃ o, con.run c T as xs = some o ∧ (∀ q ∈ o.eqs, q.1 = q.2) ∧ (∀ q ∈ o.ps, q) ∧ ∀ h' t', RepU hT h₀ U o.T h' → R o.res ⟨h', g, d, t' + 1, os⟩) →
    codeAny (model prog w) A c R ⟨h, g, d, tk + 1, os⟩

noncomputable def ConOkF (prog : Program) (w : World) (hT : Heap) (con : ConF) : Prop :=
  ∀ (A : Around) (h₀ : Heap) (U : Addr → Prop) (g : Array GenState) (d : Drawn) (os : OsState) (c : Code) (T : Slots) (as : List Nat) (R : Result → Shared → Prop) (h : Heap) (tk : Nat) (F : List Env),
    A.handled = none → A.frames = some F → Room A con.lvl → RepU hT h₀ U T h →
    (∀ xs : List Nat, xs.length = con.need → ∃ o, con.run F c T as xs = some o ∧ (∀ q ∈ o.eqs, q.1 = q.2) ∧ (∀ q ∈ o.ps, q) ∧ ∀ h' t', RepU hT h₀ U o.T h' → R o.res ⟨h', g, d, t' + 1, os⟩) →
    codeAny (model prog w) A c R ⟨h, g, d, tk + 1, os⟩

structure UOk (V : UV) (hT : Heap) : Prop where
  den : V.den = denote table
  ent : V.ent = entTree bindArgs @newFunctionEnv field
  kt : V.kt.Holds hT 1 0
  size : hT.objs.size = B
  nolim : hT.NoLimit
  conF : ∀ n con, V.conF n = some con → ConOkF V.prog V.w hT con

noncomputable def arU (A₀ : Around) : UK → Around
  | .base => A₀
  | .ret c hd _ κ => ((arU A₀ κ).under c).mark hd
noncomputable def endU (prog : Program) (w : World) (A₀ : Around) (R : Result → Shared → Prop) : UK → Result → Shared → Prop
  | .base => R
  | .ret c _ k κ => postR prog w (arU A₀ κ) c (postC prog w (arU A₀ κ) (endU prog w A₀ R κ)) (postE (endU prog w A₀ R κ)) k
noncomputable def UK.ok : UK → Prop
  | .base => True
  | .ret c _ _ κ => Nat.ble (wt c) 5 = true ∧ κ.ok
noncomputable def postN (prog : Program) (w : World) (A : Around) (R : Result → Shared → Prop) : Fin → Shared → Prop := fun fin s' => match fin with
  | .done _ => False
  | .again c' => c'.quiet = true ∧ s'.heap.NoLimit ∧ codeAny (model prog w) A c' R s'
noncomputable def postB (prog : Program) (w : World) (en : Bool) (A : Around) (R : Result → Shared → Prop) : Fin → Shared → Prop := match en with
  | false => postC prog w A R
  | true => postN prog w A R

theorem wt_weight {c : Code} (h : Nat.ble (wt c) 5 = true) : c.weight ≤ 5 ∧ c.cUnits ≤ 10 := by
  have fr : c.frames ≤ 3 := by
    unfold Code.frames
    repeat' split
    all_goals omega
  have hw : c.weight ≤ 3 + 1 + 1 + (if c.isCaller then claimMargin else 0) := by
    unfold Code.weight
    repeat' split
    all_goals omega
  have hc : c.isCaller = false := by
    unfold Code.isCaller
    split
    · simp [wt] at h
    · rfl
  rw [hc] at hw
  refine ⟨by simpa using hw, ?_⟩
  unfold Code.cUnits
  repeat' split
  all_goals omega
theorem arU_depth {A₀ : Around} : ∀ {κ : UK}, κ.ok → (arU A₀ κ).depth ≤ A₀.depth + 5 * κ.len ∧ (arU A₀ κ).units ≤ A₀.units + 10 * κ.len
  | .base, _ => ⟨Nat.le_refl _, Nat.le_refl _⟩
  | .ret c hd k κ, ⟨h, hk⟩ => by
    have ih := arU_depth (A₀ := A₀) hk
    have hw := wt_weight h
    refine ⟨?_, ?_⟩
    · show (arU A₀ κ).depth + c.weight ≤ A₀.depth + 5 * (κ.len + 1); omega
    · show (arU A₀ κ).units + c.cUnits ≤ A₀.units + 10 * (κ.len + 1); omega
theorem arU_handled {A₀ : Around} (h : A₀.handled = none) : ∀ {κ : UK}, (arU A₀ κ).handled = κ.hdl
  | .base => h
  | .ret c hd k κ => by
    show hd.or (arU A₀ κ).handled = hd.or κ.hdl
    rw [arU_handled h]
theorem arU_frames {A₀ : Around} {F : List Env} (h : A₀.frames = some F) : ∀ {κ : UK}, (arU A₀ κ).frames = some (frU F κ)
  | .base => h
  | .ret c hd k κ => by
    show pushEnvs c.envs (arU A₀ κ).frames = _
    rw [arU_frames h]
    cases hc : c.envs with
    | nil => show some _ = some (c.envs ++ _); rw [hc]; rfl
    | cons x r => show some _ = some (c.envs ++ _); rw [hc]
theorem okMark_ne {hd : Option Value} (h : okMark' hd = true) : hd ≠ some byPass := by
  rintro rfl
  cases h

/-- what a run's outcome must fulfil -/
noncomputable def GoodU (prog : Program) (w : World) (hT h₀ : Heap) (U : Addr → Prop) (A₀ : Around) (g : Array GenState) (d : Drawn) (os : OsState) (R : Result → Shared → Prop) (o : Outc) : Prop :=
  (∀ q ∈ o.eqs, q.1 = q.2) ∧ (∀ q ∈ o.ps, q) ∧ match o.fin with
    | .bad _ => False
    | .ret r T' => ∀ h' t', RepU hT h₀ U T' h' → R r ⟨h', g, d, t' + 1, os⟩
    | .stop c' T' => ∀ h' t', RepU hT h₀ U T' h' → codeAny (model prog w) A₀ c' R ⟨h', g, d, t' + 1, os⟩

noncomputable def AccU (ih : UTy) : Prop := ∀ u hs xs en c κ t T e p, (∀ q ∈ e, q ∈ (ih u hs xs en c κ t T e p).eqs) ∧ (∀ q ∈ p, q ∈ (ih u hs xs en c κ t T e p).ps)
theorem retU_acc {ih : UTy} (H : AccU ih) (u r hs xs κ T e p) : (∀ q ∈ e, q ∈ (retU ih u r hs xs κ T e p).eqs) ∧ (∀ q ∈ p, q ∈ (retU ih u r hs xs κ T e p).ps) := by
  unfold retU
  repeat' split
  all_goals first | exact ⟨fun _ h => h, fun _ h => h⟩ | exact H ..
theorem codeU_acc {V : UV} {ih : UTy} (H : AccU ih) (u c hs xs κ T e p) : (∀ q ∈ e, q ∈ (codeU V ih u c hs xs κ T e p).eqs) ∧ (∀ q ∈ p, q ∈ (codeU V ih u c hs xs κ T e p).ps) := by
  unfold codeU
  repeat' split
  all_goals first | exact ⟨fun _ h => h, fun _ h => h⟩ | exact H .. | skip
  all_goals (refine ⟨fun q hq => (retU_acc H _ _ _ _ _ _ _ _).1 q (List.mem_append_right _ hq), fun q hq => (retU_acc H _ _ _ _ _ _ _ _).2 q (List.mem_append_right _ hq)⟩)
theorem stepU_acc {V : UV} {ih : UTy} (H : AccU ih) : AccU (stepU V ih) := by
  intro u hs xs en c κ t T e p
  unfold stepU
  repeat' split
  all_goals first | exact ⟨fun _ h => h, fun _ h => h⟩ | exact H .. | exact retU_acc H .. | exact codeU_acc H .. | skip
  all_goals first
    | exact ⟨fun q hq => (H _ _ _ _ _ _ _ _ _ _).1 q (List.mem_append_right _ hq), fun q hq => (H _ _ _ _ _ _ _ _ _ _).2 q hq⟩
    | exact ⟨fun q hq => (H _ _ _ _ _ _ _ _ _ _).1 q (List.mem_cons_of_mem _ hq), fun q hq => (H _ _ _ _ _ _ _ _ _ _).2 q hq⟩
theorem simU_acc (V : UV) : ∀ n, AccU (simU V n)
  | 0 => fun _ _ _ _ _ _ _ _ _ _ => ⟨fun _ h => h, fun _ h => h⟩
  | n + 1 => stepU_acc (simU_acc V n)
end Mine
end

section
set_option maxRecDepth 100000
namespace Mine
open PySem PySem.Spec PySem.Calls PyProof.Rows PySem.W PySem.W.X

section
variable {V : UV} {hT h₀ : Heap} {U : Addr → Prop} {A₀ : Around} {g : Array GenState} {d : Drawn} {os : OsState} {R : Result → Shared → Prop}

def MeansU (V : UV) (A₀ : Around) (R : Result → Shared → Prop) (en : Bool) (c : Code) (κ : UK) (t : Sem Fin) (s : Shared) : Prop :=
  wpOwn (model V.prog V.w) (arU A₀ κ) c t (postB V.prog V.w en (arU A₀ κ) (endU V.prog V.w A₀ R κ)) (postE (endU V.prog V.w A₀ R κ)) s

def AllU (V : UV) (hT h₀ : Heap) (U : Addr → Prop) (A₀ : Around) (g : Array GenState) (d : Drawn) (os : OsState) (R : Result → Shared → Prop) (ih : UTy) : Prop :=
  ∀ u hs k en c κ t T e p h tk, κ.ok → (∀ n, u = some n → n = tk + 1) → (∀ xs : List Nat, xs.length = k → GoodU V.prog V.w hT h₀ U A₀ g d os R (ih u hs xs en c κ t T e p)) → RepU hT h₀ U T h →
    MeansU V A₀ R en c κ t ⟨h, g, d, tk + 1, os⟩

theorem good_eq {o : Outc} (H : GoodU V.prog V.w hT h₀ U A₀ g d os R o) {q : T3 × T3} (h : q ∈ o.eqs) : q.1 = q.2 := H.1 q h
theorem noTk {tk : Nat} : ∀ n, (none : Option Nat) = some n → n = tk + 1 := fun _ e => nomatch e
theorem zeros (k : Nat) : (List.replicate k 0).length = k := List.length_replicate

theorem retU_sound {ih : UTy} (IH : AllU V hT h₀ U A₀ g d os R ih) {u : Option Nat} {r : Result} {hs : Nat} {k : Nat} {κ : UK} {T : Slots} {e : Eqs} {p : List Prop} {h : Heap} {tk : Nat} (hκ : κ.ok) (hu : ∀ n, u = some n → n = tk + 1)
    (H : ∀ xs : List Nat, xs.length = k → GoodU V.prog V.w hT h₀ U A₀ g d os R (retU ih u r hs xs κ T e p)) (D : RepU hT h₀ U T h) : endU V.prog V.w A₀ R κ r ⟨h, g, d, tk + 1, os⟩ := by
  cases κ with
  | base =>
    have z := H _ (zeros k)
    unfold retU at z
    cases k with
    | zero =>
      simp only [List.replicate] at z
      cases he : endT T hs with
      | none => rw [he] at z; exact z.2.2.elim
      | some T' =>
        rw [he] at z
        have sub : T'.Sublist T := by
          unfold endT at he
          split at he
          · exact pick_sub he
          · cases he
        exact z.2.2 h tk (D.sub sub)
    | succ k => simp only [List.replicate] at z; exact z.2.2.elim
  | ret c hd k' κ => exact IH _ _ _ false _ _ _ _ _ _ _ _ hκ.2 hu H D

theorem codeU_sound (O : UOk V hT) (OC : ∀ n con, V.con n = some con → ConOk V.prog V.w hT con) (hR : Room A₀ V.lvl) (h1 : 1 ≤ V.lvl) (hh : A₀.handled = none) (hF : ∀ F, V.fr = some F → A₀.frames = some F)
    {ih : UTy} (AC : AccU ih) (IH : AllU V hT h₀ U A₀ g d os R ih) {u : Option Nat} {c' : Code} {hs : Nat} {k : Nat} {κ : UK} {T : Slots} {e : Eqs} {p : List Prop} {h : Heap} {tk : Nat} (hκ : κ.ok) (hu : ∀ n, u = some n → n = tk + 1)
    (H : ∀ xs : List Nat, xs.length = k → GoodU V.prog V.w hT h₀ U A₀ g d os R (codeU V ih u c' hs xs κ T e p)) (D : RepU hT h₀ U T h) :
    codeAny (model V.prog V.w) (arU A₀ κ) c' (endU V.prog V.w A₀ R κ) ⟨h, g, d, tk + 1, os⟩ := by
  have z := H _ (zeros k)
  cases hdc : dec hs with
  | mk hn hs' =>
    cases hn with
    | o => simp only [codeU, hdc] at z; exact z.2.2.elim
    | s => simp only [codeU, hdc] at z; exact z.2.2.elim
    | e => simp only [codeU, hdc] at z; exact z.2.2.elim
    | i =>
      have y := IH _ _ _ false _ _ _ _ _ _ _ tk hκ hu (fun xs hx => by have := H xs hx; simp only [codeU, hdc] at this; exact this) D
      rw [O.den] at y
      exact y_code _ _ _ _ _ _ y
    | f =>
      have hl : Nat.ble κ.len 12 = true := by
        cases q : Nat.ble κ.len 12 with
        | true => rfl
        | false => simp only [codeU, hdc, q] at z; exact z.2.2.elim
      have y := IH _ _ _ true _ _ _ _ _ _ _ tk hκ hu (fun xs hx => by have := H xs hx; simp only [codeU, hdc, hl] at this; exact this) D
      rw [O.ent] at y
      have hd := (arU_depth (A₀ := A₀) hκ).1
      have := Nat.le_of_ble_eq_true hl
      have r1 := hR.1
      refine y_code _ _ _ _ _ _ (ent_sound (R := endU V.prog V.w A₀ R κ) ?_ y)
      show (arU A₀ κ).depth < 1000
      omega
    | c n as =>
      cases hc : V.con n with
      | none => simp only [codeU, hdc, hc] at z; exact z.2.2.elim
      | some con =>
        cases hl : (Nat.ble κ.len 12 && Nat.ble (con.lvl + 1) V.lvl && κ.hdl.isNone) with
        | false => simp only [codeU, hdc, hc, hl] at z; exact z.2.2.elim
        | true =>
          simp only [Bool.and_eq_true] at hl
          have hd := arU_depth (A₀ := A₀) hκ
          have l1 := Nat.le_of_ble_eq_true hl.1.1
          have l2 := Nat.le_of_ble_eq_true hl.1.2
          have hn : κ.hdl = none := by simpa using hl.2
          have kk : con.need ≤ k := by
            simp only [codeU, hdc, hc, hl.1.1, hl.1.2, hl.2, Bool.and_self] at z
            cases hr : con.run c' T as ((List.replicate k 0).take con.need) with
            | none => rw [hr] at z; exact z.2.2.elim
            | some o =>
              rw [hr] at z
              cases hb : Nat.ble con.need (List.replicate k 0).length with
              | false => simp only [hb] at z; exact z.2.2.elim
              | true => have := Nat.le_of_ble_eq_true hb; rw [zeros] at this; exact this
          refine OC n con hc (arU A₀ κ) h₀ U g d os c' T as _ h tk (by rw [arU_handled hh]; exact hn) ⟨?_, ?_⟩ D fun xs hx => ?_
          · have := hR.1; have := hd.1; have : 70 * (con.lvl + 1) ≤ 70 * V.lvl := Nat.mul_le_mul_left _ l2; omega
          · have := hR.2; have := hd.2; have : 130 * (con.lvl + 1) ≤ 130 * V.lvl := Nat.mul_le_mul_left _ l2; omega
          · have key : ∀ ys : List Nat, ys.length = k - con.need → ∃ o, con.run c' T as xs = some o ∧ GoodU V.prog V.w hT h₀ U A₀ g d os R (retU ih none o.res hs' ys κ o.T (o.eqs ++ e) (o.ps ++ p)) := fun ys hy => by
              have y := H (xs ++ ys) (by rw [List.length_append, hx, hy]; omega)
              have hb : Nat.ble con.need (xs ++ ys).length = true := Nat.ble_eq_true_of_le (by rw [List.length_append, hx]; omega)
              simp only [codeU, hdc, hc, hl.1.1, hl.1.2, hl.2, Bool.and_self, List.take_left' hx, List.drop_left' hx, hb] at y
              cases hr : con.run c' T as xs with
              | none => rw [hr] at y; exact y.2.2.elim
              | some o => rw [hr] at y; exact ⟨o, rfl, y⟩
            obtain ⟨o, ho, y⟩ := key _ (zeros _)
            refine ⟨o, ho, fun q hq => y.1 q ((retU_acc AC _ _ _ _ _ _ _ _).1 q (List.mem_append_left _ hq)), fun q hq => y.2.1 q ((retU_acc AC _ _ _ _ _ _ _ _).2 q (List.mem_append_left _ hq)), fun h' t' D' => ?_⟩
            exact retU_sound (tk := t') IH hκ noTk (fun ys hy => by obtain ⟨o', ho', y'⟩ := key ys hy; rw [ho] at ho'; cases ho'; exact y') D'
    | cf n as =>
      cases hc : V.conF n with
      | none => simp only [codeU, hdc, hc] at z; exact z.2.2.elim
      | some con =>
       cases hfr : V.fr with
       | none => simp only [codeU, hdc, hc, hfr] at z; exact z.2.2.elim
       | some F =>
        cases hl : (Nat.ble κ.len 12 && Nat.ble (con.lvl + 1) V.lvl && κ.hdl.isNone) with
        | false => simp only [codeU, hdc, hc, hfr, hl] at z; exact z.2.2.elim
        | true =>
          simp only [Bool.and_eq_true] at hl
          have hd := arU_depth (A₀ := A₀) hκ
          have l1 := Nat.le_of_ble_eq_true hl.1.1
          have l2 := Nat.le_of_ble_eq_true hl.1.2
          have hn : κ.hdl = none := by simpa using hl.2
          have kk : con.need ≤ k := by
            simp only [codeU, hdc, hc, hfr, hl.1.1, hl.1.2, hl.2, Bool.and_self] at z
            cases hr : con.run (frU F κ) c' T as ((List.replicate k 0).take con.need) with
            | none => rw [hr] at z; exact z.2.2.elim
            | some o =>
              rw [hr] at z
              cases hb : Nat.ble con.need (List.replicate k 0).length with
              | false => simp only [hb] at z; exact z.2.2.elim
              | true => have := Nat.le_of_ble_eq_true hb; rw [zeros] at this; exact this
          refine O.conF n con hc (arU A₀ κ) h₀ U g d os c' T as _ h tk (frU F κ) (by rw [arU_handled hh]; exact hn) (arU_frames (hF F hfr)) ⟨?_, ?_⟩ D fun xs hx => ?_
          · have := hR.1; have := hd.1; have : 70 * (con.lvl + 1) ≤ 70 * V.lvl := Nat.mul_le_mul_left _ l2; omega
          · have := hR.2; have := hd.2; have : 130 * (con.lvl + 1) ≤ 130 * V.lvl := Nat.mul_le_mul_left _ l2; omega
          · have key : ∀ ys : List Nat, ys.length = k - con.need → ∃ o, con.run (frU F κ) c' T as xs = some o ∧ GoodU V.prog V.w hT h₀ U A₀ g d os R (retU ih none o.res hs' ys κ o.T (o.eqs ++ e) (o.ps ++ p)) := fun ys hy => by
              have y := H (xs ++ ys) (by rw [List.length_append, hx, hy]; omega)
              have hb : Nat.ble con.need (xs ++ ys).length = true := Nat.ble_eq_true_of_le (by rw [List.length_append, hx]; omega)
              simp only [codeU, hdc, hc, hfr, hl.1.1, hl.1.2, hl.2, Bool.and_self, List.take_left' hx, List.drop_left' hx, hb] at y
              cases hr : con.run (frU F κ) c' T as xs with
              | none => rw [hr] at y; exact y.2.2.elim
              | some o => rw [hr] at y; exact ⟨o, rfl, y⟩
            obtain ⟨o, ho, y⟩ := key _ (zeros _)
            refine ⟨o, ho, fun q hq => y.1 q ((retU_acc AC _ _ _ _ _ _ _ _).1 q (List.mem_append_left _ hq)), fun q hq => y.2.1 q ((retU_acc AC _ _ _ _ _ _ _ _).2 q (List.mem_append_left _ hq)), fun h' t' D' => ?_⟩
            exact retU_sound (tk := t') IH hκ noTk (fun ys hy => by obtain ⟨o', ho', y'⟩ := key ys hy; rw [ho] at ho'; cases ho'; exact y') D'
    | z js =>
      simp only [codeU, hdc] at z
      cases k with
      | succ k => simp only [List.replicate] at z; exact z.2.2.elim
      | zero =>
        simp only [List.replicate] at z
        cases κ with
        | ret => exact z.2.2.elim
        | base =>
          simp only at z
          cases hp : pick T js with
          | none => rw [hp] at z; exact z.2.2.elim
          | some T' => rw [hp] at z; exact z.2.2 h tk (D.sub (pick_sub hp))
end
end Mine
end

section
set_option maxRecDepth 100000
namespace Mine
open PySem PySem.Spec PySem.Calls PyProof.Rows PySem.W PySem.W.X

section
variable {V : UV} {hT h₀ : Heap} {U : Addr → Prop} {A₀ : Around} {g : Array GenState} {d : Drawn} {os : OsState} {R : Result → Shared → Prop}

theorem RepU.noLimit {T : Slots} {h : Heap} (O : UOk V hT) (D : RepU hT h₀ U T h) : h.NoLimit := O.nolim.keeps D.top

theorem getU_sound (O : UOk V hT) {T : Slots} {a : Addr} {hn : Hint} {es : Eqs} {o : Obj} {h : Heap} (e : getU V T a hn = some (es, o)) (H : ∀ q ∈ es, q.1 = q.2) (D : RepU hT h₀ U T h) : h.get? a = some o := by
  unfold getU at e
  split at e
  · split at e
    · rename_i o' e'
      cases e
      have z := KT.Holds.get O.kt e'
      rw [Nat.one_mul, Nat.add_zero] at z
      exact D.top a _ z
    · cases e
  · split at e
    · rename_i q e'
      cases e
      have z := H _ (List.mem_cons_self ..)
      have z' : a = q.1 + B := by cases z; rfl
      rw [z']
      exact D.at' _ (List.mem_of_getElem? e')
    · cases e
  · cases e

theorem stepU_sound (O : UOk V hT) (OC : ∀ n con, V.con n = some con → ConOk V.prog V.w hT con) (hR : Room A₀ V.lvl) (h1 : 1 ≤ V.lvl) (hh : A₀.handled = none) (hF : ∀ F, V.fr = some F → A₀.frames = some F)
    {ih : UTy} (AC : AccU ih) (IH : AllU V hT h₀ U A₀ g d os R ih) : AllU V hT h₀ U A₀ g d os R (stepU V ih) := by
  intro u hs k en c κ t T e p h tk hκ hu H D
  have z := H _ (zeros k)
  cases t with
  | pure fin =>
    cases fin with
    | done f =>
      cases en with
      | true => exact z.2.2.elim
      | false => exact y_pure _ _ _ _ _ _ _ _ _ (show endU V.prog V.w A₀ R κ (.ok f) _ from retU_sound IH hκ hu H D)
    | again c' =>
      cases q : c'.quiet with
      | false => simp only [stepU, q] at z; exact z.2.2.elim
      | true =>
        have y := codeU_sound O OC hR h1 hh hF AC IH (c' := c') (tk := tk) hκ hu (fun xs hx => by have := H xs hx; simp only [stepU, q] at this; exact this) D
        cases en with
        | false => exact y_pure _ _ _ _ _ _ _ _ _ ⟨q, y⟩
        | true => exact y_pure _ _ _ _ _ _ _ _ _ ⟨q, D.noLimit O, y⟩
  | raise v =>
    cases en with
    | true => exact z.2.2.elim
    | false => exact y_raise _ _ _ _ _ _ _ _ _ (show endU V.prog V.w A₀ R κ (.error v) _ from retU_sound IH hκ hu H D)
  | rule tag k' => exact y_skim _ _ _ _ _ _ _ _ _ 1 (IH _ _ _ _ _ _ _ _ _ _ _ _ hκ hu H D)
  | «at» q k' => exact y_skim _ _ _ _ _ _ _ _ _ 1 (IH _ _ _ _ _ _ _ _ _ _ _ _ hκ hu H D)
  | point l k' => exact y_skim _ _ _ _ _ _ _ _ _ 1 (IH _ _ _ _ _ _ _ _ _ _ _ _ hκ hu H D)
  | ask k' => exact y_skim _ _ _ _ _ _ _ _ _ 1 (IH _ _ _ _ _ _ _ _ _ _ _ _ hκ hu H D)
  | load a q k' =>
    cases hdc : dec hs with
    | mk hn hs =>
      cases hg : getU V T a hn with
      | none => simp only [stepU, hdc, hg] at z; exact z.2.2.elim
      | some r =>
        obtain ⟨es, o⟩ := r
        have H' : ∀ xs : List Nat, xs.length = k → GoodU V.prog V.w hT h₀ U A₀ g d os R (ih u hs xs en c κ (k' o) T (es ++ e) p) := fun xs hx => by have := H xs hx; simp only [stepU, hdc, hg] at this; exact this
        have ho := getU_sound O hg (fun q hq => (H' _ (zeros k)).1 q ((AC _ _ _ _ _ _ _ _ _ _).1 q (List.mem_append_left _ hq))) D
        exact y_load _ _ _ _ _ _ _ _ _ _ _ _ _ _ _ _ ho (IH _ _ _ _ _ _ _ _ _ _ _ _ hκ hu H' D)
  | loadIfAlive a k' =>
    cases hdc : dec hs with
    | mk hn hs =>
      cases hg : getU V T a hn with
      | none => simp only [stepU, hdc, hg] at z; exact z.2.2.elim
      | some r =>
        obtain ⟨es, o⟩ := r
        have H' : ∀ xs : List Nat, xs.length = k → GoodU V.prog V.w hT h₀ U A₀ g d os R (ih u hs xs en c κ (k' (some o)) T (es ++ e) p) := fun xs hx => by have := H xs hx; simp only [stepU, hdc, hg] at this; exact this
        have ho := getU_sound O hg (fun q hq => (H' _ (zeros k)).1 q ((AC _ _ _ _ _ _ _ _ _ _).1 q (List.mem_append_left _ hq))) D
        exact y_alive _ _ _ _ _ _ _ _ _ _ _ _ _ _ _ ho (IH _ _ _ _ _ _ _ _ _ _ _ _ hκ hu H' D)
  | alloc o k' =>
    cases k with
    | zero => exact z.2.2.elim
    | succ k =>
      cases q : o.isFreed with
      | true => simp only [stepU, q, List.replicate] at z; exact z.2.2.elim
      | false =>
        have ea : h.objs.size - B + B = h.objs.size := Nat.sub_add_cancel D.low
        have y := IH u hs k en c κ (k' (h.objs.size - B + B)) ((h.objs.size - B, o) :: T) e p (h.push o) tk hκ hu (fun xs hx => by
          have := H ((h.objs.size - B) :: xs) (by rw [List.length_cons, hx])
          simp only [stepU, q] at this; exact this) (D.alloc q)
        exact wpOwn_bind (m := alloc o) (f := k') (wpOwn_of_wpAny (wpAny_alloc (by rw [ea] at y; exact y)))
  | update a q f k' =>
    cases hdc : dec hs with
    | mk hn hs =>
      cases hn with
      | s j =>
        cases ht : T[j]? with
        | none => simp only [stepU, hdc, ht] at z; exact z.2.2.elim
        | some r =>
          cases hf : (f r.2).isFreed with
          | true => simp only [stepU, hdc, ht, hf] at z; exact z.2.2.elim
          | false =>
            have H' : ∀ xs : List Nat, xs.length = k → GoodU V.prog V.w hT h₀ U A₀ g d os R (ih u hs xs en c κ (k' ()) (setAt T j f) ((.n a, .n (r.1 + B)) :: e) p) := fun xs hx => by have := H xs hx; simp only [stepU, hdc, ht, hf] at this; exact this
            have z1 := (H' _ (zeros k)).1 _ ((AC _ _ _ _ _ _ _ _ _ _).1 _ (List.mem_cons_self ..))
            have za : a = r.1 + B := by cases z1; rfl
            subst za
            have ho := D.at' r (List.mem_of_getElem? ht)
            exact wpOwn_bind (m := updatePart (r.1 + B) q f) (f := k') (wpOwn_of_wpAny (wpAny_updatePart ho (IH _ _ _ _ _ _ _ _ _ _ _ _ hκ hu H' (D.update O.size ht hf))))
      | _ => simp only [stepU, hdc] at z; exact z.2.2.elim
  | fresh k' =>
    cases u with
    | some n =>
      have e1 : n = tk + 1 := hu n rfl
      subst e1
      exact y_fresh _ _ _ _ _ _ _ _ _ _ _ _ _ (IH (some (tk + 1 + 1)) hs k en c κ (k' (tk + 1)) T e p h (tk + 1) hκ (fun n e => by cases e; rfl) H D)
    | none =>
      cases k with
      | zero => exact z.2.2.elim
      | succ k =>
        exact y_fresh _ _ _ _ _ _ _ _ _ _ _ _ _ (IH none hs k en c κ (k' (tk + 1)) T e p h (tk + 1) hκ noTk (fun xs hx => H ((tk + 1) :: xs) (by rw [List.length_cons, hx])) D)
  | handled own k' =>
    cases own with
    | true => exact z.2.2.elim
    | false => exact y_handled _ _ _ _ _ _ _ _ _ (by rw [arU_handled hh]; exact IH _ _ _ _ _ _ _ _ _ _ _ _ hκ hu H D)
  | call c' hd gd l k' =>
    cases en with
    | true => exact z.2.2.elim
    | false =>
      cases hm : okMark' hd with
      | false => simp only [stepU, hm] at z; exact z.2.2.elim
      | true =>
        cases hw : Nat.ble (wt c) 5 with
        | false => simp only [stepU, hm, hw] at z; exact z.2.2.elim
        | true =>
          have hκ' : (UK.ret c hd k' κ).ok := ⟨hw, hκ⟩
          exact y_call _ _ _ _ _ _ _ _ _ _ _ _ _ (okMark_ne hm) (codeU_sound O OC hR h1 hh hF AC IH (c' := c') (tk := tk) hκ' hu (fun xs hx => by have := H xs hx; simp only [stepU, hm, hw] at this; exact this) D)
  | unsupported => exact z.2.2.elim
  | stack => exact z.2.2.elim
  | newGen => exact z.2.2.elim
  | genState => exact z.2.2.elim
  | resume => exact z.2.2.elim
  | «yield» => exact z.2.2.elim
  | finish => exact z.2.2.elim
  | register => exact z.2.2.elim
  | choose => exact z.2.2.elim
  | os => exact z.2.2.elim
  | fork => exact z.2.2.elim
  | thread => exact z.2.2.elim
  | await => exact z.2.2.elim

theorem simU_sound (O : UOk V hT) (OC : ∀ n con, V.con n = some con → ConOk V.prog V.w hT con) (hR : Room A₀ V.lvl) (h1 : 1 ≤ V.lvl) (hh : A₀.handled = none) (hF : ∀ F, V.fr = some F → A₀.frames = some F) : ∀ n, AllU V hT h₀ U A₀ g d os R (simU V n)
  | 0 => fun _ _ k _ _ _ _ _ _ _ _ _ _ _ H _ => (H _ (zeros k)).2.2.elim
  | n + 1 => stepU_sound O OC hR h1 hh hF (simU_acc V n) (simU_sound O OC hR h1 hh hF n)

/-- a code is answered: the run of its tree -/
theorem code_sound (O : UOk V hT) (OC : ∀ n con, V.con n = some con → ConOk V.prog V.w hT con) (hR : Room A₀ V.lvl) (h1 : 1 ≤ V.lvl) (hh : A₀.handled = none) (hF : ∀ F, V.fr = some F → A₀.frames = some F) (n : Nat) {u : Option Nat} {c : Code} {hs : Nat} {k : Nat} {T : Slots} {h : Heap} {tk : Nat} (hu : ∀ n, u = some n → n = tk + 1)
    (H : ∀ xs : List Nat, xs.length = k → GoodU V.prog V.w hT h₀ U A₀ g d os R (codeU V (simU V n) u c hs xs .base T [] [])) (D : RepU hT h₀ U T h) : codeAny (model V.prog V.w) A₀ c R ⟨h, g, d, tk + 1, os⟩ :=
  codeU_sound O OC hR h1 hh hF (simU_acc V n) (simU_sound O OC hR h1 hh hF n) (κ := .base) trivial hu H D
end
end Mine
end

section
set_option maxRecDepth 100000
namespace Mine
open PySem PySem.Spec PySem.Calls PyProof.Rows PySem.W PySem.W.X

/-- a supply: the first k of a function's values -/
noncomputable def mk (f : Nat → Nat) : Nat → List Nat := fun k => Nat.rec (motive := fun _ => Nat → List Nat) (fun _ => []) (fun _ ih i => f i :: ih (i + 1)) k 0
theorem mk_len (f : Nat → Nat) (k : Nat) : (mk f k).length = k := by
  have : ∀ k i, (Nat.rec (motive := fun _ => Nat → List Nat) (fun _ => []) (fun _ ih i => f i :: ih (i + 1)) k i).length = k := by
    intro k
    induction k with
    | zero => intro i; rfl
    | succ k ih => intro i; show (_ :: _ : List Nat).length = _; rw [List.length_cons, ih]
  exact this k 0
theorem mk_of (xs : List Nat) : xs = mk (fun i => xs.getD i 0) xs.length := by
  have : ∀ (ys : List Nat) (f : Nat → Nat) i, (∀ j, j < ys.length → f (i + j) = ys.getD j 0) → ys = (Nat.rec (motive := fun _ => Nat → List Nat) (fun _ => []) (fun _ ih i => f i :: ih (i + 1)) ys.length i) := by
    intro ys
    induction ys with
    | nil => intro f i h; rfl
    | cons y r ih =>
      intro f i h
      show y :: r = f i :: _
      have h0 := h 0 (by simp)
      rw [Nat.add_zero] at h0
      rw [h0]
      congr 1
      refine ih f (i + 1) fun j hj => ?_
      have := h (j + 1) (by simp; omega)
      rw [show i + 1 + j = i + (j + 1) by omega, this]
      simp
  exact this xs _ 0 (fun j _ => by rw [Nat.zero_add])

noncomputable def dup (l : List T3) : Eqs := l.map fun a => (a, a)
noncomputable def heads (e : Eqs) : List T3 := e.map Prod.fst
theorem of_dup {e : Eqs} {l : List T3} (h : e = dup l) : ∀ q ∈ e, q.1 = q.2 := by
  subst h
  intro q hq
  obtain ⟨a, _, rfl⟩ := List.mem_map.mp hq
  rfl
/-- all of a list of propositions -/
def Alls : List Prop → Prop
  | [] => True
  | p :: r => p ∧ Alls r
theorem Alls.all : ∀ {ps : List Prop}, Alls ps → ∀ q ∈ ps, q
  | _ :: _, h, q, hq => by
    rcases List.mem_cons.mp hq with rfl | hq
    · exact h.1
    · exact Alls.all h.2 q hq

theorem RepU.perm {hT h₀ h : Heap} {U : Addr → Prop} {T T' : Slots} (D : RepU hT h₀ U T h) (s : T'.Perm T) : RepU hT h₀ U T' h :=
  ⟨D.top, D.low, D.big, fun p hp => D.at' p (s.subset hp), ((s.map _).nodup_iff).mpr D.nd, fun p hp => D.own p (s.subset hp), D.keep⟩

/-- a code, entered with these slots, answers with one of these results and slots -/
def SegOk (prog : Program) (w : World) (hT : Heap) (lvl need : Nat) (c : Code) (T : Slots) (out : List Nat → Result × Slots) : Prop :=
  ∀ (A : Around) (h₀ : Heap) (U : Addr → Prop) (g : Array GenState) (d : Drawn) (os : OsState) (R : Result → Shared → Prop) (h : Heap) (tk : Nat),
    A.handled = none → Room A lvl → RepU hT h₀ U T h →
    (∀ xs : List Nat, xs.length = need → ∀ h' t', RepU hT h₀ U (out xs).2 h' → R (out xs).1 ⟨h', g, d, t' + 1, os⟩) →
    codeAny (model prog w) A c R ⟨h, g, d, tk + 1, os⟩

/-- what must be shown of a run -/
structure RunIs (o : Outc) (ps : List Prop) (fin : Fini) : Prop where
  eqs : o.eqs = dup (heads o.eqs)
  ps : o.ps = ps
  fin : o.fin = fin

section
variable {V : UV} {hT : Heap}
theorem SegOk.run (O : UOk V hT) (OC : ∀ n con, V.con n = some con → ConOk V.prog V.w hT con) (n : Nat) {c : Code} {hs : Nat} {k need : Nat} {T : Slots} {out : List Nat → Result × Slots} (h1 : 1 ≤ V.lvl)
    (H : ∀ f : Nat → Nat, ∃ ys : List Nat, ys.length = need ∧ ∃ ps, Alls ps ∧ RunIs (codeU V (simU V n) none c hs (mk f k) .base T [] []) ps (.ret (out ys).1 (out ys).2)) (hf : V.fr = none := by rfl) :
    SegOk V.prog V.w hT V.lvl need c T out := by
  intro A h₀ U g d os R h tk hh hr D K
  refine code_sound O OC hr h1 hh (fun F e => by rw [hf] at e; cases e) n (u := none) (hs := hs) (k := k) (T := T) noTk (fun xs hx => ?_) D
  have e := mk_of xs
  rw [hx] at e
  obtain ⟨ys, hy, ps, ha, ro⟩ := H (fun i => xs.getD i 0)
  rw [← e] at ro
  refine ⟨of_dup ro.eqs, by rw [ro.ps]; exact ha.all, ?_⟩
  rw [ro.fin]
  exact fun h' t' D' => K ys hy h' t' D'
/-- the same, the tokens told: the first is n + 1 -/
theorem SegOk.runT (O : UOk V hT) (OC : ∀ n con, V.con n = some con → ConOk V.prog V.w hT con) (n : Nat) {c : Code} {hs : Nat} {k need : Nat} {T : Slots} {out : List Nat → Result × Slots} (h1 : 1 ≤ V.lvl)
    (H : ∀ (f : Nat → Nat) (tk : Nat), ∃ ys : List Nat, ys.length = need ∧ ∃ ps, Alls ps ∧ RunIs (codeU V (simU V n) (some (tk + 1)) c hs (mk f k) .base T [] []) ps (.ret (out ys).1 (out ys).2)) (hf : V.fr = none := by rfl) :
    SegOk V.prog V.w hT V.lvl need c T out := by
  intro A h₀ U g d os R h tk hh hr D K
  refine code_sound O OC hr h1 hh (fun F e => by rw [hf] at e; cases e) n (u := some (tk + 1)) (hs := hs) (k := k) (T := T) (fun n e => by cases e; rfl) (fun xs hx => ?_) D
  have e := mk_of xs
  rw [hx] at e
  obtain ⟨ys, hy, ps, ha, ro⟩ := H (fun i => xs.getD i 0) tk
  rw [← e] at ro
  refine ⟨of_dup ro.eqs, by rw [ro.ps]; exact ha.all, ?_⟩
  rw [ro.fin]
  exact fun h' t' D' => K ys hy h' t' D'
/-- a run that stops at a code from which the same is known -/
theorem SegOk.then (O : UOk V hT) (OC : ∀ n con, V.con n = some con → ConOk V.prog V.w hT con) (n : Nat) {c : Code} {hs : Nat} {k need : Nat} {T : Slots} {out : List Nat → Result × Slots} (h1 : 1 ≤ V.lvl)
    (H : ∀ f : Nat → Nat, ∃ c' T' ps, Alls ps ∧ RunIs (codeU V (simU V n) none c hs (mk f k) .base T [] []) ps (.stop c' T') ∧ SegOk V.prog V.w hT V.lvl need c' T' out) (hf : V.fr = none := by rfl) :
    SegOk V.prog V.w hT V.lvl need c T out := by
  intro A h₀ U g d os R h tk hh hr D K
  refine code_sound O OC hr h1 hh (fun F e => by rw [hf] at e; cases e) n (u := none) (hs := hs) (k := k) (T := T) noTk (fun xs hx => ?_) D
  have e := mk_of xs
  rw [hx] at e
  obtain ⟨c', T', ps, ha, ro, S⟩ := H (fun i => xs.getD i 0)
  rw [← e] at ro
  refine ⟨of_dup ro.eqs, by rw [ro.ps]; exact ha.all, ?_⟩
  rw [ro.fin]
  exact fun h' t' D' => S A h₀ U g d os R h' t' hh hr D' K
end

/-- the same, the frames below known -/
def SegOkF (prog : Program) (w : World) (hT : Heap) (lvl need : Nat) (F : List Env) (c : Code) (T : Slots) (out : List Nat → Result × Slots) : Prop :=
  ∀ (A : Around) (h₀ : Heap) (U : Addr → Prop) (g : Array GenState) (d : Drawn) (os : OsState) (R : Result → Shared → Prop) (h : Heap) (tk : Nat),
    A.handled = none → A.frames = some F → Room A lvl → RepU hT h₀ U T h →
    (∀ xs : List Nat, xs.length = need → ∀ h' t', RepU hT h₀ U (out xs).2 h' → R (out xs).1 ⟨h', g, d, t' + 1, os⟩) →
    codeAny (model prog w) A c R ⟨h, g, d, tk + 1, os⟩
theorem SegOkF.of {prog : Program} {w : World} {hT : Heap} {lvl need : Nat} {F : List Env} {c : Code} {T : Slots} {out : List Nat → Result × Slots} (S : SegOk prog w hT lvl need c T out) : SegOkF prog w hT lvl need F c T out :=
  fun A h₀ U g d os R h tk hh _ hr D K => S A h₀ U g d os R h tk hh hr D K
section
variable {V : UV} {hT : Heap}
theorem SegOkF.run (O : UOk V hT) (OC : ∀ n con, V.con n = some con → ConOk V.prog V.w hT con) (n : Nat) {F : List Env} {c : Code} {hs : Nat} {k need : Nat} {T : Slots} {out : List Nat → Result × Slots} (h1 : 1 ≤ V.lvl) (hf : V.fr = some F)
    (H : ∀ f : Nat → Nat, ∃ ys : List Nat, ys.length = need ∧ ∃ ps, Alls ps ∧ RunIs (codeU V (simU V n) none c hs (mk f k) .base T [] []) ps (.ret (out ys).1 (out ys).2)) :
    SegOkF V.prog V.w hT V.lvl need F c T out := by
  intro A h₀ U g d os R h tk hh hA hr D K
  refine code_sound O OC hr h1 hh (fun F' e => by rw [hf] at e; cases e; exact hA) n (u := none) (hs := hs) (k := k) (T := T) noTk (fun xs hx => ?_) D
  have e := mk_of xs
  rw [hx] at e
  obtain ⟨ys, hy, ps, ha, ro⟩ := H (fun i => xs.getD i 0)
  rw [← e] at ro
  refine ⟨of_dup ro.eqs, by rw [ro.ps]; exact ha.all, ?_⟩
  rw [ro.fin]
  exact fun h' t' D' => K ys hy h' t' D'
theorem SegOkF.then (O : UOk V hT) (OC : ∀ n con, V.con n = some con → ConOk V.prog V.w hT con) (n : Nat) {F : List Env} {c : Code} {hs : Nat} {k need : Nat} {T : Slots} {out : List Nat → Result × Slots} (h1 : 1 ≤ V.lvl) (hf : ∀ F', V.fr = some F' → F' = F)
    (H : ∀ f : Nat → Nat, ∃ c' T' ps, Alls ps ∧ RunIs (codeU V (simU V n) none c hs (mk f k) .base T [] []) ps (.stop c' T') ∧ SegOkF V.prog V.w hT V.lvl need F c' T' out) :
    SegOkF V.prog V.w hT V.lvl need F c T out := by
  intro A h₀ U g d os R h tk hh hA hr D K
  refine code_sound O OC hr h1 hh (fun F' e => by rw [hf F' e]; exact hA) n (u := none) (hs := hs) (k := k) (T := T) noTk (fun xs hx => ?_) D
  have e := mk_of xs
  rw [hx] at e
  obtain ⟨c', T', ps, ha, ro, S⟩ := H (fun i => xs.getD i 0)
  rw [← e] at ro
  refine ⟨of_dup ro.eqs, by rw [ro.ps]; exact ha.all, ?_⟩
  rw [ro.fin]
  exact fun h' t' D' => S A h₀ U g d os R h' t' hh hA hr D' K
end

theorem SegOk.mono {prog : Program} {w : World} {hT : Heap} {lvl need lvl' need' : Nat} {c : Code} {T : Slots} {out out' : List Nat → Result × Slots} (S : SegOk prog w hT lvl need c T out) (hl : lvl ≤ lvl')
    (H : ∀ xs : List Nat, xs.length = need → ∃ ys : List Nat, ys.length = need' ∧ (out' ys).1 = (out xs).1 ∧ (out' ys).2 = (out xs).2) : SegOk prog w hT lvl' need' c T out' := by
  intro A h₀ U g d os R h tk hh hr D K
  have l1 : 70 * lvl ≤ 70 * lvl' := Nat.mul_le_mul_left _ hl
  have l2 : 130 * lvl ≤ 130 * lvl' := Nat.mul_le_mul_left _ hl
  refine S A h₀ U g d os R h tk hh ⟨Nat.le_trans (Nat.add_le_add_left l1 _) hr.1, Nat.le_trans (Nat.add_le_add_left l2 _) hr.2⟩ D fun xs hx h' t' D' => ?_
  obtain ⟨ys, hy, e1, e2⟩ := H xs hx
  have := K ys hy h' t' (by rw [e2]; exact D')
  rw [e1] at this
  exact this

/-- the slots at these places -/
noncomputable def sel (T : Slots) : List Nat → Option Slots
  | [] => some []
  | j :: r => match T[j]? with
    | some q => match sel T r with
      | some l => some (q :: l)
      | none => none
    | none => none
noncomputable def putS (T : Slots) : List Nat → List Obj → Slots
  | j :: r, o :: os => putS (setAt T j fun _ => o) r os
  | _, _ => T
noncomputable def distinct : List Nat → Bool
  | [] => true
  | j :: r => (r.all fun i => !(Nat.beq i j)) && distinct r
noncomputable def objEqs : List Obj → List Obj → Option Eqs
  | [], [] => some []
  | a :: r, b :: s => match objEqs r s with
    | some l => some ((.o a, .o b) :: l)
    | none => none
  | _, _ => none
end Mine
end

section
set_option maxRecDepth 100000
namespace Mine
open PySem PySem.Spec PySem.Calls PyProof.Rows PySem.W PySem.W.X

noncomputable def keys (T : Slots) : List Nat := T.map (·.1)
noncomputable def objs (T : Slots) : List Obj := T.map (·.2)
noncomputable def zipS (ids : List Nat) (os : List Obj) : Slots := ids.zip os

theorem zipS_self (l : Slots) : zipS (keys l) (objs l) = l := by
  unfold zipS keys objs
  induction l with
  | nil => rfl
  | cons p r ih => simp only [List.map_cons, List.zip_cons_cons, ih]
theorem zipS_keys {ids : List Nat} {os : List Obj} (h : ids.length = os.length) : (zipS ids os).map (·.1) = ids := by
  unfold zipS
  rw [show ((fun x : Nat × Obj => x.1)) = Prod.fst from rfl, List.map_fst_zip (Nat.le_of_eq h)]
theorem sel_get {T : Slots} : ∀ {as : List Nat} {l : Slots}, sel T as = some l → l.length = as.length ∧ ∀ p ∈ l, ∃ j ∈ as, T[j]? = some p
  | [], l, h => by simp only [sel, Option.some.injEq] at h; subst h; exact ⟨rfl, fun _ h => nomatch h⟩
  | j :: r, l, h => by
    simp only [sel] at h
    cases e : T[j]? with
    | none => rw [e] at h; cases h
    | some q =>
      rw [e] at h
      dsimp only at h
      cases e2 : sel T r with
      | none => rw [e2] at h; cases h
      | some l' =>
        rw [e2] at h
        cases h
        have ih := sel_get e2
        refine ⟨by simp [ih.1], fun p hp => ?_⟩
        rcases List.mem_cons.mp hp with rfl | hp
        · exact ⟨j, List.mem_cons_self .., e⟩
        · obtain ⟨i, hi, hx⟩ := ih.2 p hp; exact ⟨i, List.mem_cons_of_mem _ hi, hx⟩
theorem nd_inj : ∀ {l : List Nat}, l.Nodup → ∀ i j (a : i < l.length) (b : j < l.length), l[i] = l[j] → i = j
  | [], _, _, _, a, _, _ => absurd a (Nat.not_lt_zero _)
  | x :: r, nd, 0, 0, _, _, _ => rfl
  | x :: r, nd, 0, j + 1, _, b, e => ((List.nodup_cons.mp nd).1 (by
      have e' : x = r[j]'(Nat.lt_of_succ_lt_succ b) := e
      rw [e']; exact List.getElem_mem _)).elim
  | x :: r, nd, i + 1, 0, a, _, e => ((List.nodup_cons.mp nd).1 (by
      have e' : r[i]'(Nat.lt_of_succ_lt_succ a) = x := e
      rw [← e']; exact List.getElem_mem _)).elim
  | x :: r, nd, i + 1, j + 1, a, b, e => congrArg Nat.succ (nd_inj (List.nodup_cons.mp nd).2 i j (Nat.lt_of_succ_lt_succ a) (Nat.lt_of_succ_lt_succ b) e)
theorem get_inj : ∀ {T : Slots}, (T.map (·.1)).Nodup → ∀ {i j : Nat} {p q : Nat × Obj}, T[i]? = some p → T[j]? = some q → p.1 = q.1 → i = j
  | T, nd, i, j, p, q, hi, hj, e => by
    have h1 : (T.map (·.1))[i]? = some p.1 := by rw [List.getElem?_map, hi]; rfl
    have h2 : (T.map (·.1))[j]? = some q.1 := by rw [List.getElem?_map, hj]; rfl
    rw [e] at h1
    obtain ⟨a, x⟩ := List.getElem?_eq_some_iff.mp h1
    obtain ⟨b, y⟩ := List.getElem?_eq_some_iff.mp h2
    exact nd_inj nd _ _ a b (x.trans y.symm)
theorem sel_nodup {T : Slots} (nd : (T.map (·.1)).Nodup) : ∀ {as : List Nat} {l : Slots}, sel T as = some l → distinct as = true → (l.map (·.1)).Nodup
  | [], l, h, _ => by simp only [sel, Option.some.injEq] at h; subst h; exact List.nodup_nil
  | j :: r, l, h, hd => by
    simp only [sel] at h
    cases e : T[j]? with
    | none => rw [e] at h; cases h
    | some q =>
      rw [e] at h
      dsimp only at h
      cases e2 : sel T r with
      | none => rw [e2] at h; cases h
      | some l' =>
        rw [e2] at h
        cases h
        simp only [distinct, Bool.and_eq_true, List.all_eq_true, Bool.not_eq_true'] at hd
        rw [List.map_cons]
        refine List.nodup_cons.mpr ⟨fun hm => ?_, sel_nodup nd e2 hd.2⟩
        obtain ⟨p, hp, hx⟩ := List.mem_map.mp hm
        obtain ⟨i, hi, hi'⟩ := (sel_get e2).2 p hp
        have := get_inj nd hi' e hx
        subst this
        have := hd.1 i hi
        rw [Nat.beq_refl] at this
        cases this
theorem setAt_get {f : Obj → Obj} : ∀ (T : Slots) (j i : Nat), i ≠ j → (setAt T j f)[i]? = T[i]?
  | [], _, _, _ => rfl
  | x :: r, 0, i, h => by
    unfold setAt
    cases i with
    | zero => exact absurd rfl h
    | succ i => rfl
  | x :: r, n + 1, i, h => by
    unfold setAt
    cases i with
    | zero => rfl
    | succ i => exact setAt_get r n i (fun e => h (congrArg Nat.succ e))
theorem sel_setAt {T : Slots} {j : Nat} {f : Obj → Obj} : ∀ {r : List Nat}, (r.all fun i => !(Nat.beq i j)) = true → sel (setAt T j f) r = sel T r
  | [], _ => rfl
  | i :: r, h => by
    simp only [List.all_cons, Bool.and_eq_true, Bool.not_eq_true'] at h
    unfold sel
    rw [setAt_get T j i (fun e => by subst e; rw [Nat.beq_refl] at h; cases h.1), sel_setAt h.2]
theorem putS_keys : ∀ (T : Slots) (as : List Nat) (os : List Obj), (putS T as os).map (·.1) = T.map (·.1)
  | T, [], _ => by simp only [putS]
  | T, _ :: _, [] => by simp only [putS]
  | T, j :: r, o :: os => by simp only [putS]; rw [putS_keys, setAt_keys]
theorem putS_mem : ∀ {as : List Nat} {os : List Obj} {T l : Slots}, (T.map (·.1)).Nodup → sel T as = some l → distinct as = true → as.length = os.length →
    ∀ p ∈ putS T as os, p ∈ zipS (keys l) os ∨ (p ∈ T ∧ p.1 ∉ keys l)
  | [], os, T, l, nd, h, _, _, p, hp => by
    simp only [sel, Option.some.injEq] at h; subst h
    simp only [putS] at hp
    exact .inr ⟨hp, fun h => nomatch h⟩
  | j :: r, [], T, l, _, _, _, hl, _, _ => by simp at hl
  | j :: r, o :: os, T, l, nd, h, hd, hl, p, hp => by
    simp only [sel] at h
    cases e : T[j]? with
    | none => rw [e] at h; cases h
    | some q =>
      rw [e] at h
      dsimp only at h
      cases e2 : sel T r with
      | none => rw [e2] at h; cases h
      | some l' =>
        rw [e2] at h
        cases h
        simp only [distinct, Bool.and_eq_true] at hd
        simp only [putS] at hp
        have nd' : ((setAt T j fun _ => o).map (·.1)).Nodup := by rw [setAt_keys]; exact nd
        rcases putS_mem nd' ((sel_setAt hd.1).trans e2) hd.2 (by simpa using hl) p hp with h | ⟨h, hn⟩
        · exact .inl (List.mem_cons_of_mem _ h)
        · rcases setAt_mem e nd p h with h | ⟨h, hne⟩
          · exact .inl (by rw [h]; exact List.mem_cons_self ..)
          · exact .inr ⟨h, fun hm => by
              rcases List.mem_cons.mp hm with h' | h'
              · exact hne h'
              · exact hn h'⟩

theorem RepU.comp {hT h₀ h h' : Heap} {U : Addr → Prop} {T l N : Slots} {as : List Nat} {post : List Obj} (D : RepU hT h₀ U T h) (hs : sel T as = some l) (hd : distinct as = true) (hl : as.length = post.length)
    (D' : RepU hT h (fun b => ∃ p ∈ l, b = p.1 + B) (N ++ zipS (keys l) post) h') : RepU hT h₀ U (N ++ putS T as post) h' := by
  have sg := sel_get hs
  have lT : ∀ p ∈ l, p ∈ T := fun p hp => by obtain ⟨j, _, e⟩ := sg.2 p hp; exact List.mem_of_getElem? e
  have zk : (zipS (keys l) post).map (·.1) = keys l := zipS_keys (by unfold keys; rw [List.length_map, sg.1, hl])
  have nd' := D'.nd
  rw [List.map_append, zk] at nd'
  have nd3 := List.nodup_append.mp nd'
  have fresh : ∀ p ∈ N, h.get? (p.1 + B) = none := fun p hp => by
    rcases D'.own p (List.mem_append_left _ hp) with ⟨q, hq, e⟩ | e
    · have e' : p.1 = q.1 := Nat.add_right_cancel e
      exact (nd3.2.2 p.1 (List.mem_map_of_mem hp) q.1 (List.mem_map_of_mem hq) e').elim
    · exact e
  have pm := putS_mem D.nd hs hd hl
  have pk := putS_keys T as post
  refine ⟨D'.top, D'.low, Nat.le_trans D.big D'.big, fun p hp => ?_, ?_, fun p hp => ?_, fun b o hb hn => ?_⟩
  · rcases List.mem_append.mp hp with hp | hp
    · exact D'.at' p (List.mem_append_left _ hp)
    · rcases pm p hp with h | ⟨h, hn⟩
      · exact D'.at' p (List.mem_append_right _ h)
      · refine D'.keep _ _ (D.at' p h) ?_
        rintro ⟨q, hq, e⟩
        have e' : p.1 = q.1 := Nat.add_right_cancel e
        exact hn (e' ▸ List.mem_map_of_mem hq)
  · rw [List.map_append, pk]
    refine List.nodup_append.mpr ⟨nd3.1, D.nd, fun x hx y hy e => ?_⟩
    subst e
    obtain ⟨p, hp, rfl⟩ := List.mem_map.mp hx
    obtain ⟨q, hq, e⟩ := List.mem_map.mp hy
    have a1 := fresh p hp
    have a2 := D.at' q hq
    have e' : q.1 = p.1 := e
    rw [e', a1] at a2
    cases a2
  · rcases List.mem_append.mp hp with hp | hp
    · have a1 := fresh p hp
      cases e : h₀.get? (p.1 + B) with
      | none => exact .inr rfl
      | some o =>
        by_cases hU : U (p.1 + B)
        · exact .inl hU
        · have := D.keep _ _ e hU; rw [a1] at this; cases this
    · have : p.1 ∈ T.map (·.1) := by rw [← pk]; exact List.mem_map_of_mem hp
      obtain ⟨q, hq, e⟩ := List.mem_map.mp this
      have e' : q.1 = p.1 := e
      have := D.own q hq
      rw [e'] at this
      exact this
  · refine D'.keep _ _ (D.keep _ _ hb hn) ?_
    rintro ⟨q, hq, rfl⟩
    rcases D.own q (lT q hq) with h | h
    · exact hn h
    · rw [hb] at h; cases h

/-- a piece of work: from a code and some slots to an answer, new slots and these slots' new objects -/
structure Job (D : Type) where
  lvl : Nat
  need : Nat
  ext : Code → List Obj → Option D
  code : List Nat → D → Code
  pre : List Nat → D → List Obj
  side : List Nat → D → List Prop
  res : List Nat → D → List Nat → Result
  new : List Nat → D → List Nat → Slots
  post : List Nat → D → List Nat → List Obj

noncomputable def Job.con {D : Type} (J : Job D) : Con where
  need := J.need
  lvl := J.lvl
  run := fun c T as xs => match distinct as with
    | true => match sel T as with
      | some l => match J.ext c (objs l) with
        | some d => match objEqs (objs l) (J.pre (keys l) d) with
          | some es => some ⟨(.c c, .c (J.code (keys l) d)) :: es, J.side (keys l) d, J.res (keys l) d xs, J.new (keys l) d xs ++ putS T as (J.post (keys l) d xs)⟩
          | none => none
        | none => none
      | none => none
    | false => none

theorem objEqs_eq : ∀ {a b : List Obj} {es : Eqs}, objEqs a b = some es → (∀ q ∈ es, q.1 = q.2) → a = b
  | [], [], _, _, _ => rfl
  | a :: r, b :: s, es, h, H => by
    simp only [objEqs] at h
    cases e : objEqs r s with
    | none => rw [e] at h; cases h
    | some l =>
      rw [e] at h
      cases h
      have h1 := H _ (List.mem_cons_self ..)
      have : a = b := by cases h1; rfl
      rw [this, objEqs_eq e fun q hq => H q (List.mem_cons_of_mem _ hq)]
  | [], _ :: _, _, h, _ => by cases h
  | _ :: _, [], _, h, _ => by cases h

theorem alls_of : ∀ {ps : List Prop}, (∀ q ∈ ps, q) → Alls ps
  | [], _ => trivial
  | _ :: _, h => ⟨h _ (List.mem_cons_self ..), alls_of fun q hq => h q (List.mem_cons_of_mem _ hq)⟩

/-- the slots before and behind a job -/
noncomputable def Job.into {D : Type} (J : Job D) (ids : List Nat) (d : D) : Slots := zipS ids (J.pre ids d)
noncomputable def Job.out {D : Type} (J : Job D) (ids : List Nat) (d : D) (xs : List Nat) : Result × Slots := (J.res ids d xs, J.new ids d xs ++ zipS ids (J.post ids d xs))
noncomputable def Job.Ok {D : Type} (J : Job D) (prog : Program) (w : World) (hT : Heap) : Prop :=
  ∀ ids d, ids.length = (J.pre ids d).length → Alls (J.side ids d) → SegOk prog w hT J.lvl J.need (J.code ids d) (J.into ids d) (J.out ids d)

theorem Job.con_ok {D : Type} {J : Job D} {prog : Program} {w : World} {hT : Heap} (H : J.Ok prog w hT) (hp : ∀ ids d xs, (J.post ids d xs).length = (J.pre ids d).length) : ConOk prog w hT J.con := by
  intro A h₀ U g d os c T as R h tk hh hr D K
  have key : ∀ xs : List Nat, xs.length = J.need → ∃ o, J.con.run c T as xs = some o ∧ (∀ q ∈ o.eqs, q.1 = q.2) ∧ (∀ q ∈ o.ps, q) ∧ ∀ h' t', RepU hT h₀ U o.T h' → R o.res ⟨h', g, d, t' + 1, os⟩ := K
  obtain ⟨o, ho, he, hps, _⟩ := key _ (zeros J.need)
  simp only [Job.con] at ho key
  cases hd : distinct as with
  | false => rw [hd] at ho; cases ho
  | true =>
    cases hs : sel T as with
    | none => rw [hd, hs] at ho; cases ho
    | some l =>
      cases hx : J.ext c (objs l) with
      | none => simp only [hd, hs, hx] at ho; cases ho
      | some y =>
        cases hb : objEqs (objs l) (J.pre (keys l) y) with
        | none => simp only [hd, hs, hx, hb] at ho; cases ho
        | some es =>
          simp only [hd, hs, hx, hb] at ho key
          cases ho
          have e1 := he _ (List.mem_cons_self ..)
          have hc : c = J.code (keys l) y := by cases e1; rfl
          have hpre := objEqs_eq hb fun q hq => he q (List.mem_cons_of_mem _ hq)
          have sg := sel_get hs
          have len : (keys l).length = (J.pre (keys l) y).length := by rw [← hpre]; unfold keys objs; rw [List.length_map, List.length_map]
          have lT : ∀ p ∈ l, p ∈ T := fun p hp => by obtain ⟨j, _, e⟩ := sg.2 p hp; exact List.mem_of_getElem? e
          have Din : RepU hT h (fun b => ∃ p ∈ l, b = p.1 + B) (J.into (keys l) y) h := by
            unfold Job.into
            rw [← hpre, zipS_self]
            exact ⟨D.top, D.low, Nat.le_refl _, fun p hp => D.at' p (lT p hp), sel_nodup D.nd hs hd, fun p hp => .inl ⟨p, hp, rfl⟩, fun _ _ e _ => e⟩
          rw [hc]
          refine H (keys l) y len (alls_of hps) A h _ g d os R h tk hh hr Din fun xs hx' h' t' D' => ?_
          obtain ⟨o, ho, _, _, hR⟩ := key xs hx'
          cases ho
          refine hR h' t' (D.comp hs hd ?_ D')
          rw [hp, ← len]
          unfold keys
          rw [List.length_map, sg.1]
end Mine
end

section
set_option maxRecDepth 100000
set_option maxHeartbeats 8000000
namespace Mine
open PySem PySem.W
theorem q0 : Str.ofString "_find_unsafe" = ⟨⟨[nat_lit 95, nat_lit 102, nat_lit 105, nat_lit 110, nat_lit 100, nat_lit 95, nat_lit 117, nat_lit 110, nat_lit 115, nat_lit 97, nat_lit 102, nat_lit 101]⟩⟩ := rfl
theorem q1 : Str.ofString "_twin_re_1" = ⟨⟨[nat_lit 95, nat_lit 116, nat_lit 119, nat_lit 105, nat_lit 110, nat_lit 95, nat_lit 114, nat_lit 101, nat_lit 95, nat_lit 49]⟩⟩ := rfl
theorem q2 : Str.ofString "search" = ⟨⟨[nat_lit 115, nat_lit 101, nat_lit 97, nat_lit 114, nat_lit 99, nat_lit 104]⟩⟩ := rfl
theorem q3 : Str.ofString "quote" = ⟨⟨[nat_lit 113, nat_lit 117, nat_lit 111, nat_lit 116, nat_lit 101]⟩⟩ := rfl
theorem q4 : Str.ofString "s" = ⟨⟨[nat_lit 115]⟩⟩ := rfl
theorem q5 : Str.ofString "''" = ⟨⟨[nat_lit 39, nat_lit 39]⟩⟩ := rfl
theorem q6 : Str.ofString "'" = ⟨⟨[nat_lit 39]⟩⟩ := rfl
theorem q7 : Str.ofString "replace" = ⟨⟨[nat_lit 114, nat_lit 101, nat_lit 112, nat_lit 108, nat_lit 97, nat_lit 99, nat_lit 101]⟩⟩ := rfl
theorem q8 : Str.ofString "'\"'\"'" = ⟨⟨[nat_lit 39, nat_lit 34, nat_lit 39, nat_lit 34, nat_lit 39]⟩⟩ := rfl
theorem q9 : Str.ofString "__name__" = ⟨⟨[nat_lit 95, nat_lit 95, nat_lit 110, nat_lit 97, nat_lit 109, nat_lit 101, nat_lit 95, nat_lit 95]⟩⟩ := rfl
theorem q10 : Str.ofString "law_pd0201_01" = ⟨⟨[nat_lit 108, nat_lit 97, nat_lit 119, nat_lit 95, nat_lit 112, nat_lit 100, nat_lit 48, nat_lit 50, nat_lit 48, nat_lit 49, nat_lit 95, nat_lit 48, nat_lit 49]⟩⟩ := rfl
theorem q11 : Str.ofString "_law_octets" = ⟨⟨[nat_lit 95, nat_lit 108, nat_lit 97, nat_lit 119, nat_lit 95, nat_lit 111, nat_lit 99, nat_lit 116, nat_lit 101, nat_lit 116, nat_lit 115]⟩⟩ := rfl
theorem q12 : Str.ofString "number" = ⟨⟨[nat_lit 110, nat_lit 117, nat_lit 109, nat_lit 98, nat_lit 101, nat_lit 114]⟩⟩ := rfl
theorem q13 : Str.ofString "octets" = ⟨⟨[nat_lit 111, nat_lit 99, nat_lit 116, nat_lit 101, nat_lit 116, nat_lit 115]⟩⟩ := rfl
theorem q14 : Str.ofString "_law_round" = ⟨⟨[nat_lit 95, nat_lit 108, nat_lit 97, nat_lit 119, nat_lit 95, nat_lit 114, nat_lit 111, nat_lit 117, nat_lit 110, nat_lit 100]⟩⟩ := rfl
theorem q15 : Str.ofString "names" = ⟨⟨[nat_lit 110, nat_lit 97, nat_lit 109, nat_lit 101, nat_lit 115]⟩⟩ := rfl
theorem q16 : Str.ofString "flow" = ⟨⟨[nat_lit 102, nat_lit 108, nat_lit 111, nat_lit 119]⟩⟩ := rfl
theorem q17 : Str.ofString "parts" = ⟨⟨[nat_lit 112, nat_lit 97, nat_lit 114, nat_lit 116, nat_lit 115]⟩⟩ := rfl
theorem q18 : Str.ofString "iter" = ⟨⟨[nat_lit 105, nat_lit 116, nat_lit 101, nat_lit 114]⟩⟩ := rfl
theorem q19 : Str.ofString "bytes" = ⟨⟨[nat_lit 98, nat_lit 121, nat_lit 116, nat_lit 101, nat_lit 115]⟩⟩ := rfl
theorem q20 : Str.ofString "here" = ⟨⟨[nat_lit 104, nat_lit 101, nat_lit 114, nat_lit 101]⟩⟩ := rfl
theorem q21 : Str.ofString "name" = ⟨⟨[nat_lit 110, nat_lit 97, nat_lit 109, nat_lit 101]⟩⟩ := rfl
theorem q22 : Str.ofString ".." = ⟨⟨[nat_lit 46, nat_lit 46]⟩⟩ := rfl
theorem q23 : Str.ofString "_parse_varint" = ⟨⟨[nat_lit 95, nat_lit 112, nat_lit 97, nat_lit 114, nat_lit 115, nat_lit 101, nat_lit 95, nat_lit 118, nat_lit 97, nat_lit 114, nat_lit 105, nat_lit 110, nat_lit 116]⟩⟩ := rfl
theorem q24 : Str.ofString "normpath" = ⟨⟨[nat_lit 110, nat_lit 111, nat_lit 114, nat_lit 109, nat_lit 112, nat_lit 97, nat_lit 116, nat_lit 104]⟩⟩ := rfl
theorem q25 : Str.ofString "join_posixpath" = ⟨⟨[nat_lit 106, nat_lit 111, nat_lit 105, nat_lit 110, nat_lit 95, nat_lit 112, nat_lit 111, nat_lit 115, nat_lit 105, nat_lit 120, nat_lit 112, nat_lit 97, nat_lit 116, nat_lit 104]⟩⟩ := rfl
theorem q26 : Str.ofString "_law_place" = ⟨⟨[nat_lit 95, nat_lit 108, nat_lit 97, nat_lit 119, nat_lit 95, nat_lit 112, nat_lit 108, nat_lit 97, nat_lit 99, nat_lit 101]⟩⟩ := rfl
theorem q27 : Str.ofString "ups" = ⟨⟨[nat_lit 117, nat_lit 112, nat_lit 115]⟩⟩ := rfl
theorem q28 : Str.ofString "lows" = ⟨⟨[nat_lit 108, nat_lit 111, nat_lit 119, nat_lit 115]⟩⟩ := rfl
theorem q29 : Str.ofString "height" = ⟨⟨[nat_lit 104, nat_lit 101, nat_lit 105, nat_lit 103, nat_lit 104, nat_lit 116]⟩⟩ := rfl
theorem q30 : Str.ofString "up" = ⟨⟨[nat_lit 117, nat_lit 112]⟩⟩ := rfl
theorem q31 : Str.ofString "append" = ⟨⟨[nat_lit 97, nat_lit 112, nat_lit 112, nat_lit 101, nat_lit 110, nat_lit 100]⟩⟩ := rfl
theorem q32 : Str.ofString "whole" = ⟨⟨[nat_lit 119, nat_lit 104, nat_lit 111, nat_lit 108, nat_lit 101]⟩⟩ := rfl
theorem q33 : Str.ofString "kept" = ⟨⟨[nat_lit 107, nat_lit 101, nat_lit 112, nat_lit 116]⟩⟩ := rfl
theorem q34 : Str.ofString "k" = ⟨⟨[nat_lit 107]⟩⟩ := rfl
theorem q35 : Str.ofString "range" = ⟨⟨[nat_lit 114, nat_lit 97, nat_lit 110, nat_lit 103, nat_lit 101]⟩⟩ := rfl
theorem q36 : Str.ofString "len" = ⟨⟨[nat_lit 108, nat_lit 101, nat_lit 110]⟩⟩ := rfl
theorem q37 : Str.ofString "min" = ⟨⟨[nat_lit 109, nat_lit 105, nat_lit 110]⟩⟩ := rfl
theorem q38 : Str.ofString ".0" = ⟨⟨[nat_lit 46, nat_lit 48]⟩⟩ := rfl
theorem q39 : Str.ofString "/" = ⟨⟨[nat_lit 47]⟩⟩ := rfl
theorem q40 : Str.ofString "join" = ⟨⟨[nat_lit 106, nat_lit 111, nat_lit 105, nat_lit 110]⟩⟩ := rfl
theorem q41 : Str.ofString "fast" = ⟨⟨[nat_lit 102, nat_lit 97, nat_lit 115, nat_lit 116]⟩⟩ := rfl
theorem q42 : Str.ofString "law" = ⟨⟨[nat_lit 108, nat_lit 97, nat_lit 119]⟩⟩ := rfl
theorem q43 : Str.ofString "script" = ⟨⟨[nat_lit 115, nat_lit 99, nat_lit 114, nat_lit 105, nat_lit 112, nat_lit 116]⟩⟩ := rfl
theorem q44 : Str.ofString "drawn" = ⟨⟨[nat_lit 100, nat_lit 114, nat_lit 97, nat_lit 119, nat_lit 110]⟩⟩ := rfl
theorem q45 : Str.ofString "x" = ⟨⟨[nat_lit 120]⟩⟩ := rfl
theorem q46 : Str.ofString "a" = ⟨⟨[nat_lit 97]⟩⟩ := rfl
theorem q47 : Str.ofString "b c" = ⟨⟨[nat_lit 98, nat_lit 32, nat_lit 99]⟩⟩ := rfl
theorem q48 : Str.ofString "it's" = ⟨⟨[nat_lit 105, nat_lit 116, nat_lit 39, nat_lit 115]⟩⟩ := rfl
theorem q49 : Str.ofString "..." = ⟨⟨[nat_lit 46, nat_lit 46, nat_lit 46]⟩⟩ := rfl
theorem q50 : Str.ofString "#" = ⟨⟨[nat_lit 35]⟩⟩ := rfl
theorem q51 : Str.ofString "\\" = ⟨⟨[nat_lit 92]⟩⟩ := rfl
theorem q52 : Str.ofString "\"" = ⟨⟨[nat_lit 34]⟩⟩ := rfl
theorem q53 : Str.ofString "words" = ⟨⟨[nat_lit 119, nat_lit 111, nat_lit 114, nat_lit 100, nat_lit 115]⟩⟩ := rfl
theorem q54 : Str.ofString "split" = ⟨⟨[nat_lit 115, nat_lit 112, nat_lit 108, nat_lit 105, nat_lit 116]⟩⟩ := rfl
theorem q55 : Str.ofString " " = ⟨⟨[nat_lit 32]⟩⟩ := rfl
theorem q56 : Str.ofString "octet" = ⟨⟨[nat_lit 111, nat_lit 99, nat_lit 116, nat_lit 101, nat_lit 116]⟩⟩ := rfl
theorem q57 : Str.ofString "cuts" = ⟨⟨[nat_lit 99, nat_lit 117, nat_lit 116, nat_lit 115]⟩⟩ := rfl
theorem q58 : Str.ofString "rounds" = ⟨⟨[nat_lit 114, nat_lit 111, nat_lit 117, nat_lit 110, nat_lit 100, nat_lit 115]⟩⟩ := rfl
theorem q59 : Str.ofString "turn" = ⟨⟨[nat_lit 116, nat_lit 117, nat_lit 114, nat_lit 110]⟩⟩ := rfl
theorem q60 : Str.ofString "told" = ⟨⟨[nat_lit 116, nat_lit 111, nat_lit 108, nat_lit 100]⟩⟩ := rfl
theorem q61 : Str.ofString "here/" = ⟨⟨[nat_lit 104, nat_lit 101, nat_lit 114, nat_lit 101, nat_lit 47]⟩⟩ := rfl
theorem q62 : Str.ofString "max" = ⟨⟨[nat_lit 109, nat_lit 97, nat_lit 120]⟩⟩ := rfl
theorem q63 : Str.ofString "sum" = ⟨⟨[nat_lit 115, nat_lit 117, nat_lit 109]⟩⟩ := rfl
theorem q64 : Str.ofString "p" = ⟨⟨[nat_lit 112]⟩⟩ := rfl
theorem q65 : Str.ofString "_kind" = ⟨⟨[nat_lit 95, nat_lit 107, nat_lit 105, nat_lit 110, nat_lit 100]⟩⟩ := rfl
theorem q66 : Str.ofString "b" = ⟨⟨[nat_lit 98]⟩⟩ := rfl
theorem q67 : Str.ofString "_fspath" = ⟨⟨[nat_lit 95, nat_lit 102, nat_lit 115, nat_lit 112, nat_lit 97, nat_lit 116, nat_lit 104]⟩⟩ := rfl
theorem q68 : Str.ofString "sep" = ⟨⟨[nat_lit 115, nat_lit 101, nat_lit 112]⟩⟩ := rfl
theorem q69 : Str.ofString "path" = ⟨⟨[nat_lit 112, nat_lit 97, nat_lit 116, nat_lit 104]⟩⟩ := rfl
theorem q70 : Str.ofString "startswith" = ⟨⟨[nat_lit 115, nat_lit 116, nat_lit 97, nat_lit 114, nat_lit 116, nat_lit 115, nat_lit 119, nat_lit 105, nat_lit 116, nat_lit 104]⟩⟩ := rfl
theorem q71 : Str.ofString "endswith" = ⟨⟨[nat_lit 101, nat_lit 110, nat_lit 100, nat_lit 115, nat_lit 119, nat_lit 105, nat_lit 116, nat_lit 104]⟩⟩ := rfl
theorem q72 : Str.ofString "TypeError" = ⟨⟨[nat_lit 84, nat_lit 121, nat_lit 112, nat_lit 101, nat_lit 69, nat_lit 114, nat_lit 114, nat_lit 111, nat_lit 114]⟩⟩ := rfl
theorem q73 : Str.ofString "AttributeError" = ⟨⟨[nat_lit 65, nat_lit 116, nat_lit 116, nat_lit 114, nat_lit 105, nat_lit 98, nat_lit 117, nat_lit 116, nat_lit 101, nat_lit 69, nat_lit 114, nat_lit 114, nat_lit 111, nat_lit 114]⟩⟩ := rfl
theorem q74 : Str.ofString "BytesWarning" = ⟨⟨[nat_lit 66, nat_lit 121, nat_lit 116, nat_lit 101, nat_lit 115, nat_lit 87, nat_lit 97, nat_lit 114, nat_lit 110, nat_lit 105, nat_lit 110, nat_lit 103]⟩⟩ := rfl
theorem q75 : Str.ofString "check_arg_types_path" = ⟨⟨[nat_lit 99, nat_lit 104, nat_lit 101, nat_lit 99, nat_lit 107, nat_lit 95, nat_lit 97, nat_lit 114, nat_lit 103, nat_lit 95, nat_lit 116, nat_lit 121, nat_lit 112, nat_lit 101, nat_lit 115, nat_lit 95, nat_lit 112, nat_lit 97, nat_lit 116, nat_lit 104]⟩⟩ := rfl
theorem q76 : Str.ofString "join_path" = ⟨⟨[nat_lit 106, nat_lit 111, nat_lit 105, nat_lit 110, nat_lit 95, nat_lit 112, nat_lit 97, nat_lit 116, nat_lit 104]⟩⟩ := rfl
theorem q77 : Str.ofString "dirname" = ⟨⟨[nat_lit 100, nat_lit 105, nat_lit 114, nat_lit 110, nat_lit 97, nat_lit 109, nat_lit 101]⟩⟩ := rfl
theorem q78 : Str.ofString "i" = ⟨⟨[nat_lit 105]⟩⟩ := rfl
theorem q79 : Str.ofString "rfind" = ⟨⟨[nat_lit 114, nat_lit 102, nat_lit 105, nat_lit 110, nat_lit 100]⟩⟩ := rfl
theorem q80 : Str.ofString "head" = ⟨⟨[nat_lit 104, nat_lit 101, nat_lit 97, nat_lit 100]⟩⟩ := rfl
theorem q81 : Str.ofString "rstrip" = ⟨⟨[nat_lit 114, nat_lit 115, nat_lit 116, nat_lit 114, nat_lit 105, nat_lit 112]⟩⟩ := rfl
theorem q82 : Str.ofString "cpy313.shlex" = ⟨⟨[nat_lit 99, nat_lit 112, nat_lit 121, nat_lit 51, nat_lit 49, nat_lit 51, nat_lit 46, nat_lit 115, nat_lit 104, nat_lit 108, nat_lit 101, nat_lit 120]⟩⟩ := rfl
theorem q83 : Str.ofString "shlex" = ⟨⟨[nat_lit 115, nat_lit 104, nat_lit 108, nat_lit 101, nat_lit 120]⟩⟩ := rfl
theorem q84 : Str.ofString "__init__" = ⟨⟨[nat_lit 95, nat_lit 95, nat_lit 105, nat_lit 110, nat_lit 105, nat_lit 116, nat_lit 95, nat_lit 95]⟩⟩ := rfl
theorem q85 : Str.ofString "self" = ⟨⟨[nat_lit 115, nat_lit 101, nat_lit 108, nat_lit 102]⟩⟩ := rfl
theorem q86 : Str.ofString "instream" = ⟨⟨[nat_lit 105, nat_lit 110, nat_lit 115, nat_lit 116, nat_lit 114, nat_lit 101, nat_lit 97, nat_lit 109]⟩⟩ := rfl
theorem q87 : Str.ofString "infile" = ⟨⟨[nat_lit 105, nat_lit 110, nat_lit 102, nat_lit 105, nat_lit 108, nat_lit 101]⟩⟩ := rfl
theorem q88 : Str.ofString "posix" = ⟨⟨[nat_lit 112, nat_lit 111, nat_lit 115, nat_lit 105, nat_lit 120]⟩⟩ := rfl
theorem q89 : Str.ofString "punctuation_chars" = ⟨⟨[nat_lit 112, nat_lit 117, nat_lit 110, nat_lit 99, nat_lit 116, nat_lit 117, nat_lit 97, nat_lit 116, nat_lit 105, nat_lit 111, nat_lit 110, nat_lit 95, nat_lit 99, nat_lit 104, nat_lit 97, nat_lit 114, nat_lit 115]⟩⟩ := rfl
theorem q90 : Str.ofString "isinstance" = ⟨⟨[nat_lit 105, nat_lit 115, nat_lit 105, nat_lit 110, nat_lit 115, nat_lit 116, nat_lit 97, nat_lit 110, nat_lit 99, nat_lit 101]⟩⟩ := rfl
theorem q91 : Str.ofString "str" = ⟨⟨[nat_lit 115, nat_lit 116, nat_lit 114]⟩⟩ := rfl
theorem q92 : Str.ofString "StringIO" = ⟨⟨[nat_lit 83, nat_lit 116, nat_lit 114, nat_lit 105, nat_lit 110, nat_lit 103, nat_lit 73, nat_lit 79]⟩⟩ := rfl
theorem q93 : Str.ofString "_wall" = ⟨⟨[nat_lit 95, nat_lit 119, nat_lit 97, nat_lit 108, nat_lit 108]⟩⟩ := rfl
theorem q94 : Str.ofString "eof" = ⟨⟨[nat_lit 101, nat_lit 111, nat_lit 102]⟩⟩ := rfl
theorem q95 : Str.ofString "" = ⟨⟨[]⟩⟩ := rfl
theorem q96 : Str.ofString "commenters" = ⟨⟨[nat_lit 99, nat_lit 111, nat_lit 109, nat_lit 109, nat_lit 101, nat_lit 110, nat_lit 116, nat_lit 101, nat_lit 114, nat_lit 115]⟩⟩ := rfl
theorem q97 : Str.ofString "wordchars" = ⟨⟨[nat_lit 119, nat_lit 111, nat_lit 114, nat_lit 100, nat_lit 99, nat_lit 104, nat_lit 97, nat_lit 114, nat_lit 115]⟩⟩ := rfl
theorem q98 : Str.ofString "abcdfeghijklmnopqrstuvwxyzABCDEFGHIJKLMNOPQRSTUVWXYZ0123456789_" = ⟨⟨[nat_lit 97, nat_lit 98, nat_lit 99, nat_lit 100, nat_lit 102, nat_lit 101, nat_lit 103, nat_lit 104, nat_lit 105, nat_lit 106, nat_lit 107, nat_lit 108, nat_lit 109, nat_lit 110, nat_lit 111, nat_lit 112, nat_lit 113, nat_lit 114, nat_lit 115, nat_lit 116, nat_lit 117, nat_lit 118, nat_lit 119, nat_lit 120, nat_lit 121, nat_lit 122, nat_lit 65, nat_lit 66, nat_lit 67, nat_lit 68, nat_lit 69, nat_lit 70, nat_lit 71, nat_lit 72, nat_lit 73, nat_lit 74, nat_lit 75, nat_lit 76, nat_lit 77, nat_lit 78, nat_lit 79, nat_lit 80, nat_lit 81, nat_lit 82, nat_lit 83, nat_lit 84, nat_lit 85, nat_lit 86, nat_lit 87, nat_lit 88, nat_lit 89, nat_lit 90, nat_lit 48, nat_lit 49, nat_lit 50, nat_lit 51, nat_lit 52, nat_lit 53, nat_lit 54, nat_lit 55, nat_lit 56, nat_lit 57, nat_lit 95]⟩⟩ := rfl
theorem q99 : Str.ofString "ßàáâãäåæçèéêëìíîïðñòóôõöøùúûüýþÿÀÁÂÃÄÅÆÇÈÉÊËÌÍÎÏÐÑÒÓÔÕÖØÙÚÛÜÝÞ" = ⟨⟨[nat_lit 223, nat_lit 224, nat_lit 225, nat_lit 226, nat_lit 227, nat_lit 228, nat_lit 229, nat_lit 230, nat_lit 231, nat_lit 232, nat_lit 233, nat_lit 234, nat_lit 235, nat_lit 236, nat_lit 237, nat_lit 238, nat_lit 239, nat_lit 240, nat_lit 241, nat_lit 242, nat_lit 243, nat_lit 244, nat_lit 245, nat_lit 246, nat_lit 248, nat_lit 249, nat_lit 250, nat_lit 251, nat_lit 252, nat_lit 253, nat_lit 254, nat_lit 255, nat_lit 192, nat_lit 193, nat_lit 194, nat_lit 195, nat_lit 196, nat_lit 197, nat_lit 198, nat_lit 199, nat_lit 200, nat_lit 201, nat_lit 202, nat_lit 203, nat_lit 204, nat_lit 205, nat_lit 206, nat_lit 207, nat_lit 208, nat_lit 209, nat_lit 210, nat_lit 211, nat_lit 212, nat_lit 213, nat_lit 214, nat_lit 216, nat_lit 217, nat_lit 218, nat_lit 219, nat_lit 220, nat_lit 221, nat_lit 222]⟩⟩ := rfl
theorem q100 : Str.ofString "whitespace" = ⟨⟨[nat_lit 119, nat_lit 104, nat_lit 105, nat_lit 116, nat_lit 101, nat_lit 115, nat_lit 112, nat_lit 97, nat_lit 99, nat_lit 101]⟩⟩ := rfl
theorem q101 : Str.ofString " \t\r\n" = ⟨⟨[nat_lit 32, nat_lit 9, nat_lit 13, nat_lit 10]⟩⟩ := rfl
theorem q102 : Str.ofString "whitespace_split" = ⟨⟨[nat_lit 119, nat_lit 104, nat_lit 105, nat_lit 116, nat_lit 101, nat_lit 115, nat_lit 112, nat_lit 97, nat_lit 99, nat_lit 101, nat_lit 95, nat_lit 115, nat_lit 112, nat_lit 108, nat_lit 105, nat_lit 116]⟩⟩ := rfl
theorem q103 : Str.ofString "quotes" = ⟨⟨[nat_lit 113, nat_lit 117, nat_lit 111, nat_lit 116, nat_lit 101, nat_lit 115]⟩⟩ := rfl
theorem q104 : Str.ofString "'\"" = ⟨⟨[nat_lit 39, nat_lit 34]⟩⟩ := rfl
theorem q105 : Str.ofString "escape" = ⟨⟨[nat_lit 101, nat_lit 115, nat_lit 99, nat_lit 97, nat_lit 112, nat_lit 101]⟩⟩ := rfl
theorem q106 : Str.ofString "escapedquotes" = ⟨⟨[nat_lit 101, nat_lit 115, nat_lit 99, nat_lit 97, nat_lit 112, nat_lit 101, nat_lit 100, nat_lit 113, nat_lit 117, nat_lit 111, nat_lit 116, nat_lit 101, nat_lit 115]⟩⟩ := rfl
theorem q107 : Str.ofString "state" = ⟨⟨[nat_lit 115, nat_lit 116, nat_lit 97, nat_lit 116, nat_lit 101]⟩⟩ := rfl
theorem q108 : Str.ofString "pushback" = ⟨⟨[nat_lit 112, nat_lit 117, nat_lit 115, nat_lit 104, nat_lit 98, nat_lit 97, nat_lit 99, nat_lit 107]⟩⟩ := rfl
theorem q109 : Str.ofString "deque" = ⟨⟨[nat_lit 100, nat_lit 101, nat_lit 113, nat_lit 117, nat_lit 101]⟩⟩ := rfl
theorem q110 : Str.ofString "lineno" = ⟨⟨[nat_lit 108, nat_lit 105, nat_lit 110, nat_lit 101, nat_lit 110, nat_lit 111]⟩⟩ := rfl
theorem q111 : Str.ofString "debug" = ⟨⟨[nat_lit 100, nat_lit 101, nat_lit 98, nat_lit 117, nat_lit 103]⟩⟩ := rfl
theorem q112 : Str.ofString "token" = ⟨⟨[nat_lit 116, nat_lit 111, nat_lit 107, nat_lit 101, nat_lit 110]⟩⟩ := rfl
theorem q113 : Str.ofString "filestack" = ⟨⟨[nat_lit 102, nat_lit 105, nat_lit 108, nat_lit 101, nat_lit 115, nat_lit 116, nat_lit 97, nat_lit 99, nat_lit 107]⟩⟩ := rfl
theorem q114 : Str.ofString "source" = ⟨⟨[nat_lit 115, nat_lit 111, nat_lit 117, nat_lit 114, nat_lit 99, nat_lit 101]⟩⟩ := rfl
theorem q115 : Str.ofString "();<>|&" = ⟨⟨[nat_lit 40, nat_lit 41, nat_lit 59, nat_lit 60, nat_lit 62, nat_lit 124, nat_lit 38]⟩⟩ := rfl
theorem q116 : Str.ofString "_punctuation_chars" = ⟨⟨[nat_lit 95, nat_lit 112, nat_lit 117, nat_lit 110, nat_lit 99, nat_lit 116, nat_lit 117, nat_lit 97, nat_lit 116, nat_lit 105, nat_lit 111, nat_lit 110, nat_lit 95, nat_lit 99, nat_lit 104, nat_lit 97, nat_lit 114, nat_lit 115]⟩⟩ := rfl
theorem q117 : Str.ofString "_pushback_chars" = ⟨⟨[nat_lit 95, nat_lit 112, nat_lit 117, nat_lit 115, nat_lit 104, nat_lit 98, nat_lit 97, nat_lit 99, nat_lit 107, nat_lit 95, nat_lit 99, nat_lit 104, nat_lit 97, nat_lit 114, nat_lit 115]⟩⟩ := rfl
theorem q118 : Str.ofString "~-./*?=" = ⟨⟨[nat_lit 126, nat_lit 45, nat_lit 46, nat_lit 47, nat_lit 42, nat_lit 63, nat_lit 61]⟩⟩ := rfl
theorem q119 : Str.ofString "t" = ⟨⟨[nat_lit 116]⟩⟩ := rfl
theorem q120 : Str.ofString "maketrans" = ⟨⟨[nat_lit 109, nat_lit 97, nat_lit 107, nat_lit 101, nat_lit 116, nat_lit 114, nat_lit 97, nat_lit 110, nat_lit 115]⟩⟩ := rfl
theorem q121 : Str.ofString "dict" = ⟨⟨[nat_lit 100, nat_lit 105, nat_lit 99, nat_lit 116]⟩⟩ := rfl
theorem q122 : Str.ofString "fromkeys" = ⟨⟨[nat_lit 102, nat_lit 114, nat_lit 111, nat_lit 109, nat_lit 107, nat_lit 101, nat_lit 121, nat_lit 115]⟩⟩ := rfl
theorem q123 : Str.ofString "translate" = ⟨⟨[nat_lit 116, nat_lit 114, nat_lit 97, nat_lit 110, nat_lit 115, nat_lit 108, nat_lit 97, nat_lit 116, nat_lit 101]⟩⟩ := rfl
theorem q124 : Str.ofString "property" = ⟨⟨[nat_lit 112, nat_lit 114, nat_lit 111, nat_lit 112, nat_lit 101, nat_lit 114, nat_lit 116, nat_lit 121]⟩⟩ := rfl
theorem q125 : Str.ofString "push_token" = ⟨⟨[nat_lit 112, nat_lit 117, nat_lit 115, nat_lit 104, nat_lit 95, nat_lit 116, nat_lit 111, nat_lit 107, nat_lit 101, nat_lit 110]⟩⟩ := rfl
theorem q126 : Str.ofString "tok" = ⟨⟨[nat_lit 116, nat_lit 111, nat_lit 107]⟩⟩ := rfl
theorem q127 : Str.ofString "push_source" = ⟨⟨[nat_lit 112, nat_lit 117, nat_lit 115, nat_lit 104, nat_lit 95, nat_lit 115, nat_lit 111, nat_lit 117, nat_lit 114, nat_lit 99, nat_lit 101]⟩⟩ := rfl
theorem q128 : Str.ofString "newstream" = ⟨⟨[nat_lit 110, nat_lit 101, nat_lit 119, nat_lit 115, nat_lit 116, nat_lit 114, nat_lit 101, nat_lit 97, nat_lit 109]⟩⟩ := rfl
theorem q129 : Str.ofString "newfile" = ⟨⟨[nat_lit 110, nat_lit 101, nat_lit 119, nat_lit 102, nat_lit 105, nat_lit 108, nat_lit 101]⟩⟩ := rfl
theorem q130 : Str.ofString "appendleft" = ⟨⟨[nat_lit 97, nat_lit 112, nat_lit 112, nat_lit 101, nat_lit 110, nat_lit 100, nat_lit 108, nat_lit 101, nat_lit 102, nat_lit 116]⟩⟩ := rfl
theorem q131 : Str.ofString "print" = ⟨⟨[nat_lit 112, nat_lit 114, nat_lit 105, nat_lit 110, nat_lit 116]⟩⟩ := rfl
theorem q132 : Str.ofString "shlex: pushing to file " = ⟨⟨[nat_lit 115, nat_lit 104, nat_lit 108, nat_lit 101, nat_lit 120, nat_lit 58, nat_lit 32, nat_lit 112, nat_lit 117, nat_lit 115, nat_lit 104, nat_lit 105, nat_lit 110, nat_lit 103, nat_lit 32, nat_lit 116, nat_lit 111, nat_lit 32, nat_lit 102, nat_lit 105, nat_lit 108, nat_lit 101, nat_lit 32]⟩⟩ := rfl
theorem q133 : Str.ofString "shlex: pushing to stream " = ⟨⟨[nat_lit 115, nat_lit 104, nat_lit 108, nat_lit 101, nat_lit 120, nat_lit 58, nat_lit 32, nat_lit 112, nat_lit 117, nat_lit 115, nat_lit 104, nat_lit 105, nat_lit 110, nat_lit 103, nat_lit 32, nat_lit 116, nat_lit 111, nat_lit 32, nat_lit 115, nat_lit 116, nat_lit 114, nat_lit 101, nat_lit 97, nat_lit 109, nat_lit 32]⟩⟩ := rfl
theorem q134 : Str.ofString "pop_source" = ⟨⟨[nat_lit 112, nat_lit 111, nat_lit 112, nat_lit 95, nat_lit 115, nat_lit 111, nat_lit 117, nat_lit 114, nat_lit 99, nat_lit 101]⟩⟩ := rfl
theorem q135 : Str.ofString "close" = ⟨⟨[nat_lit 99, nat_lit 108, nat_lit 111, nat_lit 115, nat_lit 101]⟩⟩ := rfl
theorem q136 : Str.ofString "popleft" = ⟨⟨[nat_lit 112, nat_lit 111, nat_lit 112, nat_lit 108, nat_lit 101, nat_lit 102, nat_lit 116]⟩⟩ := rfl
theorem q137 : Str.ofString "shlex: popping to %s, line %d" = ⟨⟨[nat_lit 115, nat_lit 104, nat_lit 108, nat_lit 101, nat_lit 120, nat_lit 58, nat_lit 32, nat_lit 112, nat_lit 111, nat_lit 112, nat_lit 112, nat_lit 105, nat_lit 110, nat_lit 103, nat_lit 32, nat_lit 116, nat_lit 111, nat_lit 32, nat_lit 37, nat_lit 115, nat_lit 44, nat_lit 32, nat_lit 108, nat_lit 105, nat_lit 110, nat_lit 101, nat_lit 32, nat_lit 37, nat_lit 100]⟩⟩ := rfl
theorem q138 : Str.ofString "get_token" = ⟨⟨[nat_lit 103, nat_lit 101, nat_lit 116, nat_lit 95, nat_lit 116, nat_lit 111, nat_lit 107, nat_lit 101, nat_lit 110]⟩⟩ := rfl
theorem q139 : Str.ofString "shlex: popping token " = ⟨⟨[nat_lit 115, nat_lit 104, nat_lit 108, nat_lit 101, nat_lit 120, nat_lit 58, nat_lit 32, nat_lit 112, nat_lit 111, nat_lit 112, nat_lit 112, nat_lit 105, nat_lit 110, nat_lit 103, nat_lit 32, nat_lit 116, nat_lit 111, nat_lit 107, nat_lit 101, nat_lit 110, nat_lit 32]⟩⟩ := rfl
theorem q140 : Str.ofString "repr" = ⟨⟨[nat_lit 114, nat_lit 101, nat_lit 112, nat_lit 114]⟩⟩ := rfl
theorem q141 : Str.ofString "raw" = ⟨⟨[nat_lit 114, nat_lit 97, nat_lit 119]⟩⟩ := rfl
theorem q142 : Str.ofString "read_token" = ⟨⟨[nat_lit 114, nat_lit 101, nat_lit 97, nat_lit 100, nat_lit 95, nat_lit 116, nat_lit 111, nat_lit 107, nat_lit 101, nat_lit 110]⟩⟩ := rfl
theorem q143 : Str.ofString "spec" = ⟨⟨[nat_lit 115, nat_lit 112, nat_lit 101, nat_lit 99]⟩⟩ := rfl
theorem q144 : Str.ofString "sourcehook" = ⟨⟨[nat_lit 115, nat_lit 111, nat_lit 117, nat_lit 114, nat_lit 99, nat_lit 101, nat_lit 104, nat_lit 111, nat_lit 111, nat_lit 107]⟩⟩ := rfl
theorem q145 : Str.ofString "shlex: token=" = ⟨⟨[nat_lit 115, nat_lit 104, nat_lit 108, nat_lit 101, nat_lit 120, nat_lit 58, nat_lit 32, nat_lit 116, nat_lit 111, nat_lit 107, nat_lit 101, nat_lit 110, nat_lit 61]⟩⟩ := rfl
theorem q146 : Str.ofString "shlex: token=EOF" = ⟨⟨[nat_lit 115, nat_lit 104, nat_lit 108, nat_lit 101, nat_lit 120, nat_lit 58, nat_lit 32, nat_lit 116, nat_lit 111, nat_lit 107, nat_lit 101, nat_lit 110, nat_lit 61, nat_lit 69, nat_lit 79, nat_lit 70]⟩⟩ := rfl
theorem q147 : Str.ofString "quoted" = ⟨⟨[nat_lit 113, nat_lit 117, nat_lit 111, nat_lit 116, nat_lit 101, nat_lit 100]⟩⟩ := rfl
theorem q148 : Str.ofString "escapedstate" = ⟨⟨[nat_lit 101, nat_lit 115, nat_lit 99, nat_lit 97, nat_lit 112, nat_lit 101, nat_lit 100, nat_lit 115, nat_lit 116, nat_lit 97, nat_lit 116, nat_lit 101]⟩⟩ := rfl
theorem q149 : Str.ofString "nextchar" = ⟨⟨[nat_lit 110, nat_lit 101, nat_lit 120, nat_lit 116, nat_lit 99, nat_lit 104, nat_lit 97, nat_lit 114]⟩⟩ := rfl
theorem q150 : Str.ofString "pop" = ⟨⟨[nat_lit 112, nat_lit 111, nat_lit 112]⟩⟩ := rfl
theorem q151 : Str.ofString "read" = ⟨⟨[nat_lit 114, nat_lit 101, nat_lit 97, nat_lit 100]⟩⟩ := rfl
theorem q152 : Str.ofString "\n" = ⟨⟨[nat_lit 10]⟩⟩ := rfl
theorem q153 : Str.ofString "shlex: in state " = ⟨⟨[nat_lit 115, nat_lit 104, nat_lit 108, nat_lit 101, nat_lit 120, nat_lit 58, nat_lit 32, nat_lit 105, nat_lit 110, nat_lit 32, nat_lit 115, nat_lit 116, nat_lit 97, nat_lit 116, nat_lit 101, nat_lit 32]⟩⟩ := rfl
theorem q154 : Str.ofString " I see character: " = ⟨⟨[nat_lit 32, nat_lit 73, nat_lit 32, nat_lit 115, nat_lit 101, nat_lit 101, nat_lit 32, nat_lit 99, nat_lit 104, nat_lit 97, nat_lit 114, nat_lit 97, nat_lit 99, nat_lit 116, nat_lit 101, nat_lit 114, nat_lit 58, nat_lit 32]⟩⟩ := rfl
theorem q155 : Str.ofString "shlex: I see whitespace in whitespace state" = ⟨⟨[nat_lit 115, nat_lit 104, nat_lit 108, nat_lit 101, nat_lit 120, nat_lit 58, nat_lit 32, nat_lit 73, nat_lit 32, nat_lit 115, nat_lit 101, nat_lit 101, nat_lit 32, nat_lit 119, nat_lit 104, nat_lit 105, nat_lit 116, nat_lit 101, nat_lit 115, nat_lit 112, nat_lit 97, nat_lit 99, nat_lit 101, nat_lit 32, nat_lit 105, nat_lit 110, nat_lit 32, nat_lit 119, nat_lit 104, nat_lit 105, nat_lit 116, nat_lit 101, nat_lit 115, nat_lit 112, nat_lit 97, nat_lit 99, nat_lit 101, nat_lit 32, nat_lit 115, nat_lit 116, nat_lit 97, nat_lit 116, nat_lit 101]⟩⟩ := rfl
theorem q156 : Str.ofString "readline" = ⟨⟨[nat_lit 114, nat_lit 101, nat_lit 97, nat_lit 100, nat_lit 108, nat_lit 105, nat_lit 110, nat_lit 101]⟩⟩ := rfl
theorem q157 : Str.ofString "c" = ⟨⟨[nat_lit 99]⟩⟩ := rfl
theorem q158 : Str.ofString "shlex: I see EOF in quotes state" = ⟨⟨[nat_lit 115, nat_lit 104, nat_lit 108, nat_lit 101, nat_lit 120, nat_lit 58, nat_lit 32, nat_lit 73, nat_lit 32, nat_lit 115, nat_lit 101, nat_lit 101, nat_lit 32, nat_lit 69, nat_lit 79, nat_lit 70, nat_lit 32, nat_lit 105, nat_lit 110, nat_lit 32, nat_lit 113, nat_lit 117, nat_lit 111, nat_lit 116, nat_lit 101, nat_lit 115, nat_lit 32, nat_lit 115, nat_lit 116, nat_lit 97, nat_lit 116, nat_lit 101]⟩⟩ := rfl
theorem q159 : Str.ofString "ValueError" = ⟨⟨[nat_lit 86, nat_lit 97, nat_lit 108, nat_lit 117, nat_lit 101, nat_lit 69, nat_lit 114, nat_lit 114, nat_lit 111, nat_lit 114]⟩⟩ := rfl
theorem q160 : Str.ofString "No closing quotation" = ⟨⟨[nat_lit 78, nat_lit 111, nat_lit 32, nat_lit 99, nat_lit 108, nat_lit 111, nat_lit 115, nat_lit 105, nat_lit 110, nat_lit 103, nat_lit 32, nat_lit 113, nat_lit 117, nat_lit 111, nat_lit 116, nat_lit 97, nat_lit 116, nat_lit 105, nat_lit 111, nat_lit 110]⟩⟩ := rfl
theorem q161 : Str.ofString "shlex: I see EOF in escape state" = ⟨⟨[nat_lit 115, nat_lit 104, nat_lit 108, nat_lit 101, nat_lit 120, nat_lit 58, nat_lit 32, nat_lit 73, nat_lit 32, nat_lit 115, nat_lit 101, nat_lit 101, nat_lit 32, nat_lit 69, nat_lit 79, nat_lit 70, nat_lit 32, nat_lit 105, nat_lit 110, nat_lit 32, nat_lit 101, nat_lit 115, nat_lit 99, nat_lit 97, nat_lit 112, nat_lit 101, nat_lit 32, nat_lit 115, nat_lit 116, nat_lit 97, nat_lit 116, nat_lit 101]⟩⟩ := rfl
theorem q162 : Str.ofString "No escaped character" = ⟨⟨[nat_lit 78, nat_lit 111, nat_lit 32, nat_lit 101, nat_lit 115, nat_lit 99, nat_lit 97, nat_lit 112, nat_lit 101, nat_lit 100, nat_lit 32, nat_lit 99, nat_lit 104, nat_lit 97, nat_lit 114, nat_lit 97, nat_lit 99, nat_lit 116, nat_lit 101, nat_lit 114]⟩⟩ := rfl
theorem q163 : Str.ofString "shlex: I see whitespace in word state" = ⟨⟨[nat_lit 115, nat_lit 104, nat_lit 108, nat_lit 101, nat_lit 120, nat_lit 58, nat_lit 32, nat_lit 73, nat_lit 32, nat_lit 115, nat_lit 101, nat_lit 101, nat_lit 32, nat_lit 119, nat_lit 104, nat_lit 105, nat_lit 116, nat_lit 101, nat_lit 115, nat_lit 112, nat_lit 97, nat_lit 99, nat_lit 101, nat_lit 32, nat_lit 105, nat_lit 110, nat_lit 32, nat_lit 119, nat_lit 111, nat_lit 114, nat_lit 100, nat_lit 32, nat_lit 115, nat_lit 116, nat_lit 97, nat_lit 116, nat_lit 101]⟩⟩ := rfl
theorem q164 : Str.ofString "shlex: I see punctuation in word state" = ⟨⟨[nat_lit 115, nat_lit 104, nat_lit 108, nat_lit 101, nat_lit 120, nat_lit 58, nat_lit 32, nat_lit 73, nat_lit 32, nat_lit 115, nat_lit 101, nat_lit 101, nat_lit 32, nat_lit 112, nat_lit 117, nat_lit 110, nat_lit 99, nat_lit 116, nat_lit 117, nat_lit 97, nat_lit 116, nat_lit 105, nat_lit 111, nat_lit 110, nat_lit 32, nat_lit 105, nat_lit 110, nat_lit 32, nat_lit 119, nat_lit 111, nat_lit 114, nat_lit 100, nat_lit 32, nat_lit 115, nat_lit 116, nat_lit 97, nat_lit 116, nat_lit 101]⟩⟩ := rfl
theorem q165 : Str.ofString "result" = ⟨⟨[nat_lit 114, nat_lit 101, nat_lit 115, nat_lit 117, nat_lit 108, nat_lit 116]⟩⟩ := rfl
theorem q166 : Str.ofString "shlex: raw token=" = ⟨⟨[nat_lit 115, nat_lit 104, nat_lit 108, nat_lit 101, nat_lit 120, nat_lit 58, nat_lit 32, nat_lit 114, nat_lit 97, nat_lit 119, nat_lit 32, nat_lit 116, nat_lit 111, nat_lit 107, nat_lit 101, nat_lit 110, nat_lit 61]⟩⟩ := rfl
theorem q167 : Str.ofString "shlex: raw token=EOF" = ⟨⟨[nat_lit 115, nat_lit 104, nat_lit 108, nat_lit 101, nat_lit 120, nat_lit 58, nat_lit 32, nat_lit 114, nat_lit 97, nat_lit 119, nat_lit 32, nat_lit 116, nat_lit 111, nat_lit 107, nat_lit 101, nat_lit 110, nat_lit 61, nat_lit 69, nat_lit 79, nat_lit 70]⟩⟩ := rfl
theorem q168 : Str.ofString "isabs" = ⟨⟨[nat_lit 105, nat_lit 115, nat_lit 97, nat_lit 98, nat_lit 115]⟩⟩ := rfl
theorem q169 : Str.ofString "r" = ⟨⟨[nat_lit 114]⟩⟩ := rfl
theorem q170 : Str.ofString "error_leader" = ⟨⟨[nat_lit 101, nat_lit 114, nat_lit 114, nat_lit 111, nat_lit 114, nat_lit 95, nat_lit 108, nat_lit 101, nat_lit 97, nat_lit 100, nat_lit 101, nat_lit 114]⟩⟩ := rfl
theorem q171 : Str.ofString "__iter__" = ⟨⟨[nat_lit 95, nat_lit 95, nat_lit 105, nat_lit 116, nat_lit 101, nat_lit 114, nat_lit 95, nat_lit 95]⟩⟩ := rfl
theorem q172 : Str.ofString "__next__" = ⟨⟨[nat_lit 95, nat_lit 95, nat_lit 110, nat_lit 101, nat_lit 120, nat_lit 116, nat_lit 95, nat_lit 95]⟩⟩ := rfl
theorem q173 : Str.ofString "StopIteration" = ⟨⟨[nat_lit 83, nat_lit 116, nat_lit 111, nat_lit 112, nat_lit 73, nat_lit 116, nat_lit 101, nat_lit 114, nat_lit 97, nat_lit 116, nat_lit 105, nat_lit 111, nat_lit 110]⟩⟩ := rfl
theorem q174 : Str.ofString "comments" = ⟨⟨[nat_lit 99, nat_lit 111, nat_lit 109, nat_lit 109, nat_lit 101, nat_lit 110, nat_lit 116, nat_lit 115]⟩⟩ := rfl
theorem q175 : Str.ofString "s argument must not be None" = ⟨⟨[nat_lit 115, nat_lit 32, nat_lit 97, nat_lit 114, nat_lit 103, nat_lit 117, nat_lit 109, nat_lit 101, nat_lit 110, nat_lit 116, nat_lit 32, nat_lit 109, nat_lit 117, nat_lit 115, nat_lit 116, nat_lit 32, nat_lit 110, nat_lit 111, nat_lit 116, nat_lit 32, nat_lit 98, nat_lit 101, nat_lit 32, nat_lit 78, nat_lit 111, nat_lit 110, nat_lit 101]⟩⟩ := rfl
theorem q176 : Str.ofString "lex" = ⟨⟨[nat_lit 108, nat_lit 101, nat_lit 120]⟩⟩ := rfl
theorem q177 : Str.ofString "list" = ⟨⟨[nat_lit 108, nat_lit 105, nat_lit 115, nat_lit 116]⟩⟩ := rfl
theorem q178 : Str.ofString "TextIOBase" = ⟨⟨[nat_lit 84, nat_lit 101, nat_lit 120, nat_lit 116, nat_lit 73, nat_lit 79, nat_lit 66, nat_lit 97, nat_lit 115, nat_lit 101]⟩⟩ := rfl
theorem q179 : Str.ofString "_StringIO__check_dot" = ⟨⟨[nat_lit 95, nat_lit 83, nat_lit 116, nat_lit 114, nat_lit 105, nat_lit 110, nat_lit 103, nat_lit 73, nat_lit 79, nat_lit 95, nat_lit 95, nat_lit 99, nat_lit 104, nat_lit 101, nat_lit 99, nat_lit 107, nat_lit 95, nat_lit 100, nat_lit 111, nat_lit 116]⟩⟩ := rfl
theorem q180 : Str.ofString "_StringIO__check" = ⟨⟨[nat_lit 95, nat_lit 83, nat_lit 116, nat_lit 114, nat_lit 105, nat_lit 110, nat_lit 103, nat_lit 73, nat_lit 79, nat_lit 95, nat_lit 95, nat_lit 99, nat_lit 104, nat_lit 101, nat_lit 99, nat_lit 107]⟩⟩ := rfl
theorem q181 : Str.ofString "line" = ⟨⟨[nat_lit 108, nat_lit 105, nat_lit 110, nat_lit 101]⟩⟩ := rfl
theorem q182 : Str.ofString "_StringIO__line" = ⟨⟨[nat_lit 95, nat_lit 83, nat_lit 116, nat_lit 114, nat_lit 105, nat_lit 110, nat_lit 103, nat_lit 73, nat_lit 79, nat_lit 95, nat_lit 95, nat_lit 108, nat_lit 105, nat_lit 110, nat_lit 101]⟩⟩ := rfl
theorem q183 : Str.ofString "write" = ⟨⟨[nat_lit 119, nat_lit 114, nat_lit 105, nat_lit 116, nat_lit 101]⟩⟩ := rfl
theorem q184 : Str.ofString "type" = ⟨⟨[nat_lit 116, nat_lit 121, nat_lit 112, nat_lit 101]⟩⟩ := rfl
theorem q185 : Str.ofString "n" = ⟨⟨[nat_lit 110]⟩⟩ := rfl
theorem q186 : Str.ofString "_StringIO__translated" = ⟨⟨[nat_lit 95, nat_lit 83, nat_lit 116, nat_lit 114, nat_lit 105, nat_lit 110, nat_lit 103, nat_lit 73, nat_lit 79, nat_lit 95, nat_lit 95, nat_lit 116, nat_lit 114, nat_lit 97, nat_lit 110, nat_lit 115, nat_lit 108, nat_lit 97, nat_lit 116, nat_lit 101, nat_lit 100]⟩⟩ := rfl
theorem q187 : Str.ofString "m" = ⟨⟨[nat_lit 109]⟩⟩ := rfl
theorem q188 : Str.ofString "start" = ⟨⟨[nat_lit 115, nat_lit 116, nat_lit 97, nat_lit 114, nat_lit 116]⟩⟩ := rfl
theorem q189 : Str.ofString "_StringIO__pos" = ⟨⟨[nat_lit 95, nat_lit 83, nat_lit 116, nat_lit 114, nat_lit 105, nat_lit 110, nat_lit 103, nat_lit 73, nat_lit 79, nat_lit 95, nat_lit 95, nat_lit 112, nat_lit 111, nat_lit 115]⟩⟩ := rfl
theorem q190 : Str.ofString "buf" = ⟨⟨[nat_lit 98, nat_lit 117, nat_lit 102]⟩⟩ := rfl
theorem q191 : Str.ofString "_StringIO__buf" = ⟨⟨[nat_lit 95, nat_lit 83, nat_lit 116, nat_lit 114, nat_lit 105, nat_lit 110, nat_lit 103, nat_lit 73, nat_lit 79, nat_lit 95, nat_lit 95, nat_lit 98, nat_lit 117, nat_lit 102]⟩⟩ := rfl
theorem q192 : Str.ofString "\x00" = ⟨⟨[nat_lit 0]⟩⟩ := rfl
theorem q193 : Str.ofString "writelines" = ⟨⟨[nat_lit 119, nat_lit 114, nat_lit 105, nat_lit 116, nat_lit 101, nat_lit 108, nat_lit 105, nat_lit 110, nat_lit 101, nat_lit 115]⟩⟩ := rfl
theorem q194 : Str.ofString "lines" = ⟨⟨[nat_lit 108, nat_lit 105, nat_lit 110, nat_lit 101, nat_lit 115]⟩⟩ := rfl
theorem q195 : Str.ofString "__repr__" = ⟨⟨[nat_lit 95, nat_lit 95, nat_lit 114, nat_lit 101, nat_lit 112, nat_lit 114, nat_lit 95, nat_lit 95]⟩⟩ := rfl
theorem q196 : Str.ofString "truncate" = ⟨⟨[nat_lit 116, nat_lit 114, nat_lit 117, nat_lit 110, nat_lit 99, nat_lit 97, nat_lit 116, nat_lit 101]⟩⟩ := rfl
theorem q197 : Str.ofString "pos" = ⟨⟨[nat_lit 112, nat_lit 111, nat_lit 115]⟩⟩ := rfl
theorem q198 : Str.ofString "size" = ⟨⟨[nat_lit 115, nat_lit 105, nat_lit 122, nat_lit 101]⟩⟩ := rfl
theorem q199 : Str.ofString "_index" = ⟨⟨[nat_lit 95, nat_lit 105, nat_lit 110, nat_lit 100, nat_lit 101, nat_lit 120]⟩⟩ := rfl
theorem q200 : Str.ofString "StringIO.read of a size that is no exact int" = ⟨⟨[nat_lit 83, nat_lit 116, nat_lit 114, nat_lit 105, nat_lit 110, nat_lit 103, nat_lit 73, nat_lit 79, nat_lit 46, nat_lit 114, nat_lit 101, nat_lit 97, nat_lit 100, nat_lit 32, nat_lit 111, nat_lit 102, nat_lit 32, nat_lit 97, nat_lit 32, nat_lit 115, nat_lit 105, nat_lit 122, nat_lit 101, nat_lit 32, nat_lit 116, nat_lit 104, nat_lit 97, nat_lit 116, nat_lit 32, nat_lit 105, nat_lit 115, nat_lit 32, nat_lit 110, nat_lit 111, nat_lit 32, nat_lit 101, nat_lit 120, nat_lit 97, nat_lit 99, nat_lit 116, nat_lit 32, nat_lit 105, nat_lit 110, nat_lit 116]⟩⟩ := rfl
theorem q201 : Str.ofString "stop" = ⟨⟨[nat_lit 115, nat_lit 116, nat_lit 111, nat_lit 112]⟩⟩ := rfl
theorem q202 : Str.ofString "StringIO.readline of a size that is no exact int" = ⟨⟨[nat_lit 83, nat_lit 116, nat_lit 114, nat_lit 105, nat_lit 110, nat_lit 103, nat_lit 73, nat_lit 79, nat_lit 46, nat_lit 114, nat_lit 101, nat_lit 97, nat_lit 100, nat_lit 108, nat_lit 105, nat_lit 110, nat_lit 101, nat_lit 32, nat_lit 111, nat_lit 102, nat_lit 32, nat_lit 97, nat_lit 32, nat_lit 115, nat_lit 105, nat_lit 122, nat_lit 101, nat_lit 32, nat_lit 116, nat_lit 104, nat_lit 97, nat_lit 116, nat_lit 32, nat_lit 105, nat_lit 115, nat_lit 32, nat_lit 110, nat_lit 111, nat_lit 32, nat_lit 101, nat_lit 120, nat_lit 97, nat_lit 99, nat_lit 116, nat_lit 32, nat_lit 105, nat_lit 110, nat_lit 116]⟩⟩ := rfl
theorem q203 : Str.ofString "readlines" = ⟨⟨[nat_lit 114, nat_lit 101, nat_lit 97, nat_lit 100, nat_lit 108, nat_lit 105, nat_lit 110, nat_lit 101, nat_lit 115]⟩⟩ := rfl
theorem q204 : Str.ofString "hint" = ⟨⟨[nat_lit 104, nat_lit 105, nat_lit 110, nat_lit 116]⟩⟩ := rfl
theorem q205 : Str.ofString "detach" = ⟨⟨[nat_lit 100, nat_lit 101, nat_lit 116, nat_lit 97, nat_lit 99, nat_lit 104]⟩⟩ := rfl
theorem q206 : Str.ofString "getvalue" = ⟨⟨[nat_lit 103, nat_lit 101, nat_lit 116, nat_lit 118, nat_lit 97, nat_lit 108, nat_lit 117, nat_lit 101]⟩⟩ := rfl
theorem q207 : Str.ofString "tell" = ⟨⟨[nat_lit 116, nat_lit 101, nat_lit 108, nat_lit 108]⟩⟩ := rfl
theorem q208 : Str.ofString "seek" = ⟨⟨[nat_lit 115, nat_lit 101, nat_lit 101, nat_lit 107]⟩⟩ := rfl
theorem q209 : Str.ofString "whence" = ⟨⟨[nat_lit 119, nat_lit 104, nat_lit 101, nat_lit 110, nat_lit 99, nat_lit 101]⟩⟩ := rfl
theorem q210 : Str.ofString "StringIO.seek to what is no exact int, or a far one" = ⟨⟨[nat_lit 83, nat_lit 116, nat_lit 114, nat_lit 105, nat_lit 110, nat_lit 103, nat_lit 73, nat_lit 79, nat_lit 46, nat_lit 115, nat_lit 101, nat_lit 101, nat_lit 107, nat_lit 32, nat_lit 116, nat_lit 111, nat_lit 32, nat_lit 119, nat_lit 104, nat_lit 97, nat_lit 116, nat_lit 32, nat_lit 105, nat_lit 115, nat_lit 32, nat_lit 110, nat_lit 111, nat_lit 32, nat_lit 101, nat_lit 120, nat_lit 97, nat_lit 99, nat_lit 116, nat_lit 32, nat_lit 105, nat_lit 110, nat_lit 116, nat_lit 44, nat_lit 32, nat_lit 111, nat_lit 114, nat_lit 32, nat_lit 97, nat_lit 32, nat_lit 102, nat_lit 97, nat_lit 114, nat_lit 32, nat_lit 111, nat_lit 110, nat_lit 101]⟩⟩ := rfl
theorem q211 : Str.ofString "_whence" = ⟨⟨[nat_lit 95, nat_lit 119, nat_lit 104, nat_lit 101, nat_lit 110, nat_lit 99, nat_lit 101]⟩⟩ := rfl
theorem q212 : Str.ofString "StringIO.seek with a whence that is no exact int, or a far one" = ⟨⟨[nat_lit 83, nat_lit 116, nat_lit 114, nat_lit 105, nat_lit 110, nat_lit 103, nat_lit 73, nat_lit 79, nat_lit 46, nat_lit 115, nat_lit 101, nat_lit 101, nat_lit 107, nat_lit 32, nat_lit 119, nat_lit 105, nat_lit 116, nat_lit 104, nat_lit 32, nat_lit 97, nat_lit 32, nat_lit 119, nat_lit 104, nat_lit 101, nat_lit 110, nat_lit 99, nat_lit 101, nat_lit 32, nat_lit 116, nat_lit 104, nat_lit 97, nat_lit 116, nat_lit 32, nat_lit 105, nat_lit 115, nat_lit 32, nat_lit 110, nat_lit 111, nat_lit 32, nat_lit 101, nat_lit 120, nat_lit 97, nat_lit 99, nat_lit 116, nat_lit 32, nat_lit 105, nat_lit 110, nat_lit 116, nat_lit 44, nat_lit 32, nat_lit 111, nat_lit 114, nat_lit 32, nat_lit 97, nat_lit 32, nat_lit 102, nat_lit 97, nat_lit 114, nat_lit 32, nat_lit 111, nat_lit 110, nat_lit 101]⟩⟩ := rfl
theorem q213 : Str.ofString "Invalid whence (" = ⟨⟨[nat_lit 73, nat_lit 110, nat_lit 118, nat_lit 97, nat_lit 108, nat_lit 105, nat_lit 100, nat_lit 32, nat_lit 119, nat_lit 104, nat_lit 101, nat_lit 110, nat_lit 99, nat_lit 101, nat_lit 32, nat_lit 40]⟩⟩ := rfl
theorem q214 : Str.ofString ", should be 0, 1 or 2)" = ⟨⟨[nat_lit 44, nat_lit 32, nat_lit 115, nat_lit 104, nat_lit 111, nat_lit 117, nat_lit 108, nat_lit 100, nat_lit 32, nat_lit 98, nat_lit 101, nat_lit 32, nat_lit 48, nat_lit 44, nat_lit 32, nat_lit 49, nat_lit 32, nat_lit 111, nat_lit 114, nat_lit 32, nat_lit 50, nat_lit 41]⟩⟩ := rfl
theorem q215 : Str.ofString "Negative seek position " = ⟨⟨[nat_lit 78, nat_lit 101, nat_lit 103, nat_lit 97, nat_lit 116, nat_lit 105, nat_lit 118, nat_lit 101, nat_lit 32, nat_lit 115, nat_lit 101, nat_lit 101, nat_lit 107, nat_lit 32, nat_lit 112, nat_lit 111, nat_lit 115, nat_lit 105, nat_lit 116, nat_lit 105, nat_lit 111, nat_lit 110, nat_lit 32]⟩⟩ := rfl
theorem q216 : Str.ofString "OSError" = ⟨⟨[nat_lit 79, nat_lit 83, nat_lit 69, nat_lit 114, nat_lit 114, nat_lit 111, nat_lit 114]⟩⟩ := rfl
theorem q217 : Str.ofString "Can't do nonzero cur-relative seeks" = ⟨⟨[nat_lit 67, nat_lit 97, nat_lit 110, nat_lit 39, nat_lit 116, nat_lit 32, nat_lit 100, nat_lit 111, nat_lit 32, nat_lit 110, nat_lit 111, nat_lit 110, nat_lit 122, nat_lit 101, nat_lit 114, nat_lit 111, nat_lit 32, nat_lit 99, nat_lit 117, nat_lit 114, nat_lit 45, nat_lit 114, nat_lit 101, nat_lit 108, nat_lit 97, nat_lit 116, nat_lit 105, nat_lit 118, nat_lit 101, nat_lit 32, nat_lit 115, nat_lit 101, nat_lit 101, nat_lit 107, nat_lit 115]⟩⟩ := rfl
theorem q218 : Str.ofString "seekable" = ⟨⟨[nat_lit 115, nat_lit 101, nat_lit 101, nat_lit 107, nat_lit 97, nat_lit 98, nat_lit 108, nat_lit 101]⟩⟩ := rfl
theorem q219 : Str.ofString "isatty" = ⟨⟨[nat_lit 105, nat_lit 115, nat_lit 97, nat_lit 116, nat_lit 116, nat_lit 121]⟩⟩ := rfl
theorem q220 : Str.ofString "flush" = ⟨⟨[nat_lit 102, nat_lit 108, nat_lit 117, nat_lit 115, nat_lit 104]⟩⟩ := rfl
theorem q221 : Str.ofString "fileno" = ⟨⟨[nat_lit 102, nat_lit 105, nat_lit 108, nat_lit 101, nat_lit 110, nat_lit 111]⟩⟩ := rfl
theorem q222 : Str.ofString "UnsupportedOperation" = ⟨⟨[nat_lit 85, nat_lit 110, nat_lit 115, nat_lit 117, nat_lit 112, nat_lit 112, nat_lit 111, nat_lit 114, nat_lit 116, nat_lit 101, nat_lit 100, nat_lit 79, nat_lit 112, nat_lit 101, nat_lit 114, nat_lit 97, nat_lit 116, nat_lit 105, nat_lit 111, nat_lit 110]⟩⟩ := rfl
theorem q223 : Str.ofString "__enter__" = ⟨⟨[nat_lit 95, nat_lit 95, nat_lit 101, nat_lit 110, nat_lit 116, nat_lit 101, nat_lit 114, nat_lit 95, nat_lit 95]⟩⟩ := rfl
theorem q224 : Str.ofString "__exit__" = ⟨⟨[nat_lit 95, nat_lit 95, nat_lit 101, nat_lit 120, nat_lit 105, nat_lit 116, nat_lit 95, nat_lit 95]⟩⟩ := rfl
theorem q225 : Str.ofString "args" = ⟨⟨[nat_lit 97, nat_lit 114, nat_lit 103, nat_lit 115]⟩⟩ := rfl
theorem q226 : Str.ofString "readable" = ⟨⟨[nat_lit 114, nat_lit 101, nat_lit 97, nat_lit 100, nat_lit 97, nat_lit 98, nat_lit 108, nat_lit 101]⟩⟩ := rfl
theorem q227 : Str.ofString "writable" = ⟨⟨[nat_lit 119, nat_lit 114, nat_lit 105, nat_lit 116, nat_lit 97, nat_lit 98, nat_lit 108, nat_lit 101]⟩⟩ := rfl
theorem q228 : Str.ofString "newlines" = ⟨⟨[nat_lit 110, nat_lit 101, nat_lit 119, nat_lit 108, nat_lit 105, nat_lit 110, nat_lit 101, nat_lit 115]⟩⟩ := rfl
theorem q229 : Str.ofString "encoding" = ⟨⟨[nat_lit 101, nat_lit 110, nat_lit 99, nat_lit 111, nat_lit 100, nat_lit 105, nat_lit 110, nat_lit 103]⟩⟩ := rfl
theorem q230 : Str.ofString "errors" = ⟨⟨[nat_lit 101, nat_lit 114, nat_lit 114, nat_lit 111, nat_lit 114, nat_lit 115]⟩⟩ := rfl
theorem q231 : Str.ofString "__check_dot" = ⟨⟨[nat_lit 95, nat_lit 95, nat_lit 99, nat_lit 104, nat_lit 101, nat_lit 99, nat_lit 107, nat_lit 95, nat_lit 100, nat_lit 111, nat_lit 116]⟩⟩ := rfl
theorem q232 : Str.ofString "I/O operation on closed file." = ⟨⟨[nat_lit 73, nat_lit 47, nat_lit 79, nat_lit 32, nat_lit 111, nat_lit 112, nat_lit 101, nat_lit 114, nat_lit 97, nat_lit 116, nat_lit 105, nat_lit 111, nat_lit 110, nat_lit 32, nat_lit 111, nat_lit 110, nat_lit 32, nat_lit 99, nat_lit 108, nat_lit 111, nat_lit 115, nat_lit 101, nat_lit 100, nat_lit 32, nat_lit 102, nat_lit 105, nat_lit 108, nat_lit 101, nat_lit 46]⟩⟩ := rfl
theorem q233 : Str.ofString "__line" = ⟨⟨[nat_lit 95, nat_lit 95, nat_lit 108, nat_lit 105, nat_lit 110, nat_lit 101]⟩⟩ := rfl
theorem q234 : Str.ofString "limit" = ⟨⟨[nat_lit 108, nat_lit 105, nat_lit 109, nat_lit 105, nat_lit 116]⟩⟩ := rfl
theorem q235 : Str.ofString "cut" = ⟨⟨[nat_lit 99, nat_lit 117, nat_lit 116]⟩⟩ := rfl
theorem q236 : Str.ofString "newline" = ⟨⟨[nat_lit 110, nat_lit 101, nat_lit 119, nat_lit 108, nat_lit 105, nat_lit 110, nat_lit 101]⟩⟩ := rfl
theorem q237 : Str.ofString "_StringIO__newline" = ⟨⟨[nat_lit 95, nat_lit 83, nat_lit 116, nat_lit 114, nat_lit 105, nat_lit 110, nat_lit 103, nat_lit 73, nat_lit 79, nat_lit 95, nat_lit 95, nat_lit 110, nat_lit 101, nat_lit 119, nat_lit 108, nat_lit 105, nat_lit 110, nat_lit 101]⟩⟩ := rfl
theorem q238 : Str.ofString "find" = ⟨⟨[nat_lit 102, nat_lit 105, nat_lit 110, nat_lit 100]⟩⟩ := rfl
theorem q239 : Str.ofString "j" = ⟨⟨[nat_lit 106]⟩⟩ := rfl
theorem q240 : Str.ofString "\r" = ⟨⟨[nat_lit 13]⟩⟩ := rfl
theorem q241 : Str.ofString "end" = ⟨⟨[nat_lit 101, nat_lit 110, nat_lit 100]⟩⟩ := rfl
theorem q242 : Str.ofString "\r\n" = ⟨⟨[nat_lit 13, nat_lit 10]⟩⟩ := rfl
theorem q243 : Str.ofString "closed" = ⟨⟨[nat_lit 99, nat_lit 108, nat_lit 111, nat_lit 115, nat_lit 101, nat_lit 100]⟩⟩ := rfl
theorem q244 : Str.ofString "line_buffering" = ⟨⟨[nat_lit 108, nat_lit 105, nat_lit 110, nat_lit 101, nat_lit 95, nat_lit 98, nat_lit 117, nat_lit 102, nat_lit 102, nat_lit 101, nat_lit 114, nat_lit 105, nat_lit 110, nat_lit 103]⟩⟩ := rfl
theorem q245 : Str.ofString "__module__" = ⟨⟨[nat_lit 95, nat_lit 95, nat_lit 109, nat_lit 111, nat_lit 100, nat_lit 117, nat_lit 108, nat_lit 101, nat_lit 95, nat_lit 95]⟩⟩ := rfl
theorem q246 : Str.ofString "_io" = ⟨⟨[nat_lit 95, nat_lit 105, nat_lit 111]⟩⟩ := rfl
theorem q247 : Str.ofString "initial_value" = ⟨⟨[nat_lit 105, nat_lit 110, nat_lit 105, nat_lit 116, nat_lit 105, nat_lit 97, nat_lit 108, nat_lit 95, nat_lit 118, nat_lit 97, nat_lit 108, nat_lit 117, nat_lit 101]⟩⟩ := rfl
theorem q248 : Str.ofString "illegal newline value: " = ⟨⟨[nat_lit 105, nat_lit 108, nat_lit 108, nat_lit 101, nat_lit 103, nat_lit 97, nat_lit 108, nat_lit 32, nat_lit 110, nat_lit 101, nat_lit 119, nat_lit 108, nat_lit 105, nat_lit 110, nat_lit 101, nat_lit 32, nat_lit 118, nat_lit 97, nat_lit 108, nat_lit 117, nat_lit 101, nat_lit 58, nat_lit 32]⟩⟩ := rfl
theorem q249 : Str.ofString "__translated" = ⟨⟨[nat_lit 95, nat_lit 95, nat_lit 116, nat_lit 114, nat_lit 97, nat_lit 110, nat_lit 115, nat_lit 108, nat_lit 97, nat_lit 116, nat_lit 101, nat_lit 100]⟩⟩ := rfl
theorem q250 : Str.ofString "__check" = ⟨⟨[nat_lit 95, nat_lit 95, nat_lit 99, nat_lit 104, nat_lit 101, nat_lit 99, nat_lit 107]⟩⟩ := rfl
theorem q251 : Str.ofString "I/O operation on closed file" = ⟨⟨[nat_lit 73, nat_lit 47, nat_lit 79, nat_lit 32, nat_lit 111, nat_lit 112, nat_lit 101, nat_lit 114, nat_lit 97, nat_lit 116, nat_lit 105, nat_lit 111, nat_lit 110, nat_lit 32, nat_lit 111, nat_lit 110, nat_lit 32, nat_lit 99, nat_lit 108, nat_lit 111, nat_lit 115, nat_lit 101, nat_lit 100, nat_lit 32, nat_lit 102, nat_lit 105, nat_lit 108, nat_lit 101]⟩⟩ := rfl
theorem q252 : Str.ofString "__buf" = ⟨⟨[nat_lit 95, nat_lit 95, nat_lit 98, nat_lit 117, nat_lit 102]⟩⟩ := rfl
theorem q253 : Str.ofString "__newline" = ⟨⟨[nat_lit 95, nat_lit 95, nat_lit 110, nat_lit 101, nat_lit 119, nat_lit 108, nat_lit 105, nat_lit 110, nat_lit 101]⟩⟩ := rfl
theorem q254 : Str.ofString "__pos" = ⟨⟨[nat_lit 95, nat_lit 95, nat_lit 112, nat_lit 111, nat_lit 115]⟩⟩ := rfl
theorem q255 : Str.ofString "os.path" = ⟨⟨[nat_lit 111, nat_lit 115, nat_lit 46, nat_lit 112, nat_lit 97, nat_lit 116, nat_lit 104]⟩⟩ := rfl
theorem q256 : Str.ofString "NoneType" = ⟨⟨[nat_lit 78, nat_lit 111, nat_lit 110, nat_lit 101, nat_lit 84, nat_lit 121, nat_lit 112, nat_lit 101]⟩⟩ := rfl
theorem q257 : Str.ofString "bool" = ⟨⟨[nat_lit 98, nat_lit 111, nat_lit 111, nat_lit 108]⟩⟩ := rfl
theorem q258 : Str.ofString "int" = ⟨⟨[nat_lit 105, nat_lit 110, nat_lit 116]⟩⟩ := rfl
theorem q259 : Str.ofString "float" = ⟨⟨[nat_lit 102, nat_lit 108, nat_lit 111, nat_lit 97, nat_lit 116]⟩⟩ := rfl
theorem q260 : Str.ofString "tuple" = ⟨⟨[nat_lit 116, nat_lit 117, nat_lit 112, nat_lit 108, nat_lit 101]⟩⟩ := rfl
theorem q261 : Str.ofString "set" = ⟨⟨[nat_lit 115, nat_lit 101, nat_lit 116]⟩⟩ := rfl
theorem q262 : Str.ofString "expected str, bytes or os.PathLike object, not " = ⟨⟨[nat_lit 101, nat_lit 120, nat_lit 112, nat_lit 101, nat_lit 99, nat_lit 116, nat_lit 101, nat_lit 100, nat_lit 32, nat_lit 115, nat_lit 116, nat_lit 114, nat_lit 44, nat_lit 32, nat_lit 98, nat_lit 121, nat_lit 116, nat_lit 101, nat_lit 115, nat_lit 32, nat_lit 111, nat_lit 114, nat_lit 32, nat_lit 111, nat_lit 115, nat_lit 46, nat_lit 80, nat_lit 97, nat_lit 116, nat_lit 104, nat_lit 76, nat_lit 105, nat_lit 107, nat_lit 101, nat_lit 32, nat_lit 111, nat_lit 98, nat_lit 106, nat_lit 101, nat_lit 99, nat_lit 116, nat_lit 44, nat_lit 32, nat_lit 110, nat_lit 111, nat_lit 116, nat_lit 32]⟩⟩ := rfl
theorem q263 : Str.ofString "_check_arg_types" = ⟨⟨[nat_lit 95, nat_lit 99, nat_lit 104, nat_lit 101, nat_lit 99, nat_lit 107, nat_lit 95, nat_lit 97, nat_lit 114, nat_lit 103, nat_lit 95, nat_lit 116, nat_lit 121, nat_lit 112, nat_lit 101, nat_lit 115]⟩⟩ := rfl
theorem q264 : Str.ofString "funcname" = ⟨⟨[nat_lit 102, nat_lit 117, nat_lit 110, nat_lit 99, nat_lit 110, nat_lit 97, nat_lit 109, nat_lit 101]⟩⟩ := rfl
theorem q265 : Str.ofString "() argument must be str, bytes, or os.PathLike object, not " = ⟨⟨[nat_lit 40, nat_lit 41, nat_lit 32, nat_lit 97, nat_lit 114, nat_lit 103, nat_lit 117, nat_lit 109, nat_lit 101, nat_lit 110, nat_lit 116, nat_lit 32, nat_lit 109, nat_lit 117, nat_lit 115, nat_lit 116, nat_lit 32, nat_lit 98, nat_lit 101, nat_lit 32, nat_lit 115, nat_lit 116, nat_lit 114, nat_lit 44, nat_lit 32, nat_lit 98, nat_lit 121, nat_lit 116, nat_lit 101, nat_lit 115, nat_lit 44, nat_lit 32, nat_lit 111, nat_lit 114, nat_lit 32, nat_lit 111, nat_lit 115, nat_lit 46, nat_lit 80, nat_lit 97, nat_lit 116, nat_lit 104, nat_lit 76, nat_lit 105, nat_lit 107, nat_lit 101, nat_lit 32, nat_lit 111, nat_lit 98, nat_lit 106, nat_lit 101, nat_lit 99, nat_lit 116, nat_lit 44, nat_lit 32, nat_lit 110, nat_lit 111, nat_lit 116, nat_lit 32]⟩⟩ := rfl
theorem q266 : Str.ofString "what" = ⟨⟨[nat_lit 119, nat_lit 104, nat_lit 97, nat_lit 116]⟩⟩ := rfl
theorem q267 : Str.ofString "io" = ⟨⟨[nat_lit 105, nat_lit 111]⟩⟩ := rfl
theorem q268 : Str.ofString "IOBase" = ⟨⟨[nat_lit 73, nat_lit 79, nat_lit 66, nat_lit 97, nat_lit 115, nat_lit 101]⟩⟩ := rfl
theorem q269 : Str.ofString "__new__" = ⟨⟨[nat_lit 95, nat_lit 95, nat_lit 110, nat_lit 101, nat_lit 119, nat_lit 95, nat_lit 95]⟩⟩ := rfl
theorem q270 : Str.ofString "cls" = ⟨⟨[nat_lit 99, nat_lit 108, nat_lit 115]⟩⟩ := rfl
theorem q271 : Str.ofString "kwargs" = ⟨⟨[nat_lit 107, nat_lit 119, nat_lit 97, nat_lit 114, nat_lit 103, nat_lit 115]⟩⟩ := rfl
theorem q272 : Str.ofString "BytesIO" = ⟨⟨[nat_lit 66, nat_lit 121, nat_lit 116, nat_lit 101, nat_lit 115, nat_lit 73, nat_lit 79]⟩⟩ := rfl
theorem q273 : Str.ofString "object" = ⟨⟨[nat_lit 111, nat_lit 98, nat_lit 106, nat_lit 101, nat_lit 99, nat_lit 116]⟩⟩ := rfl
theorem q274 : Str.ofString "BufferedIOBase" = ⟨⟨[nat_lit 66, nat_lit 117, nat_lit 102, nat_lit 102, nat_lit 101, nat_lit 114, nat_lit 101, nat_lit 100, nat_lit 73, nat_lit 79, nat_lit 66, nat_lit 97, nat_lit 115, nat_lit 101]⟩⟩ := rfl
theorem q275 : Str.ofString "initial_bytes" = ⟨⟨[nat_lit 105, nat_lit 110, nat_lit 105, nat_lit 116, nat_lit 105, nat_lit 97, nat_lit 108, nat_lit 95, nat_lit 98, nat_lit 121, nat_lit 116, nat_lit 101, nat_lit 115]⟩⟩ := rfl
theorem q276 : Str.ofString "bytearray" = ⟨⟨[nat_lit 98, nat_lit 121, nat_lit 116, nat_lit 101, nat_lit 97, nat_lit 114, nat_lit 114, nat_lit 97, nat_lit 121]⟩⟩ := rfl
theorem q277 : Str.ofString "_BytesIO__buf" = ⟨⟨[nat_lit 95, nat_lit 66, nat_lit 121, nat_lit 116, nat_lit 101, nat_lit 115, nat_lit 73, nat_lit 79, nat_lit 95, nat_lit 95, nat_lit 98, nat_lit 117, nat_lit 102]⟩⟩ := rfl
theorem q278 : Str.ofString "_BytesIO__pos" = ⟨⟨[nat_lit 95, nat_lit 66, nat_lit 121, nat_lit 116, nat_lit 101, nat_lit 115, nat_lit 73, nat_lit 79, nat_lit 95, nat_lit 95, nat_lit 112, nat_lit 111, nat_lit 115]⟩⟩ := rfl
theorem q279 : Str.ofString "_BytesIO__check" = ⟨⟨[nat_lit 95, nat_lit 66, nat_lit 121, nat_lit 116, nat_lit 101, nat_lit 115, nat_lit 73, nat_lit 79, nat_lit 95, nat_lit 95, nat_lit 99, nat_lit 104, nat_lit 101, nat_lit 99, nat_lit 107]⟩⟩ := rfl
theorem q280 : Str.ofString "_BytesIO__line" = ⟨⟨[nat_lit 95, nat_lit 66, nat_lit 121, nat_lit 116, nat_lit 101, nat_lit 115, nat_lit 73, nat_lit 79, nat_lit 95, nat_lit 95, nat_lit 108, nat_lit 105, nat_lit 110, nat_lit 101]⟩⟩ := rfl
theorem q281 : Str.ofString "getbuffer" = ⟨⟨[nat_lit 103, nat_lit 101, nat_lit 116, nat_lit 98, nat_lit 117, nat_lit 102, nat_lit 102, nat_lit 101, nat_lit 114]⟩⟩ := rfl
theorem q282 : Str.ofString "BytesIO.seek to what is no exact int, or a far one" = ⟨⟨[nat_lit 66, nat_lit 121, nat_lit 116, nat_lit 101, nat_lit 115, nat_lit 73, nat_lit 79, nat_lit 46, nat_lit 115, nat_lit 101, nat_lit 101, nat_lit 107, nat_lit 32, nat_lit 116, nat_lit 111, nat_lit 32, nat_lit 119, nat_lit 104, nat_lit 97, nat_lit 116, nat_lit 32, nat_lit 105, nat_lit 115, nat_lit 32, nat_lit 110, nat_lit 111, nat_lit 32, nat_lit 101, nat_lit 120, nat_lit 97, nat_lit 99, nat_lit 116, nat_lit 32, nat_lit 105, nat_lit 110, nat_lit 116, nat_lit 44, nat_lit 32, nat_lit 111, nat_lit 114, nat_lit 32, nat_lit 97, nat_lit 32, nat_lit 102, nat_lit 97, nat_lit 114, nat_lit 32, nat_lit 111, nat_lit 110, nat_lit 101]⟩⟩ := rfl
theorem q283 : Str.ofString "BytesIO.seek with a whence that is no exact int, or a far one" = ⟨⟨[nat_lit 66, nat_lit 121, nat_lit 116, nat_lit 101, nat_lit 115, nat_lit 73, nat_lit 79, nat_lit 46, nat_lit 115, nat_lit 101, nat_lit 101, nat_lit 107, nat_lit 32, nat_lit 119, nat_lit 105, nat_lit 116, nat_lit 104, nat_lit 32, nat_lit 97, nat_lit 32, nat_lit 119, nat_lit 104, nat_lit 101, nat_lit 110, nat_lit 99, nat_lit 101, nat_lit 32, nat_lit 116, nat_lit 104, nat_lit 97, nat_lit 116, nat_lit 32, nat_lit 105, nat_lit 115, nat_lit 32, nat_lit 110, nat_lit 111, nat_lit 32, nat_lit 101, nat_lit 120, nat_lit 97, nat_lit 99, nat_lit 116, nat_lit 32, nat_lit 105, nat_lit 110, nat_lit 116, nat_lit 44, nat_lit 32, nat_lit 111, nat_lit 114, nat_lit 32, nat_lit 97, nat_lit 32, nat_lit 102, nat_lit 97, nat_lit 114, nat_lit 32, nat_lit 111, nat_lit 110, nat_lit 101]⟩⟩ := rfl
theorem q284 : Str.ofString "negative seek value " = ⟨⟨[nat_lit 110, nat_lit 101, nat_lit 103, nat_lit 97, nat_lit 116, nat_lit 105, nat_lit 118, nat_lit 101, nat_lit 32, nat_lit 115, nat_lit 101, nat_lit 101, nat_lit 107, nat_lit 32, nat_lit 118, nat_lit 97, nat_lit 108, nat_lit 117, nat_lit 101, nat_lit 32]⟩⟩ := rfl
theorem q285 : Str.ofString "invalid whence (" = ⟨⟨[nat_lit 105, nat_lit 110, nat_lit 118, nat_lit 97, nat_lit 108, nat_lit 105, nat_lit 100, nat_lit 32, nat_lit 119, nat_lit 104, nat_lit 101, nat_lit 110, nat_lit 99, nat_lit 101, nat_lit 32, nat_lit 40]⟩⟩ := rfl
theorem q286 : Str.ofString "BytesIO.read of a size that is no exact int" = ⟨⟨[nat_lit 66, nat_lit 121, nat_lit 116, nat_lit 101, nat_lit 115, nat_lit 73, nat_lit 79, nat_lit 46, nat_lit 114, nat_lit 101, nat_lit 97, nat_lit 100, nat_lit 32, nat_lit 111, nat_lit 102, nat_lit 32, nat_lit 97, nat_lit 32, nat_lit 115, nat_lit 105, nat_lit 122, nat_lit 101, nat_lit 32, nat_lit 116, nat_lit 104, nat_lit 97, nat_lit 116, nat_lit 32, nat_lit 105, nat_lit 115, nat_lit 32, nat_lit 110, nat_lit 111, nat_lit 32, nat_lit 101, nat_lit 120, nat_lit 97, nat_lit 99, nat_lit 116, nat_lit 32, nat_lit 105, nat_lit 110, nat_lit 116]⟩⟩ := rfl
theorem q287 : Str.ofString "read1" = ⟨⟨[nat_lit 114, nat_lit 101, nat_lit 97, nat_lit 100, nat_lit 49]⟩⟩ := rfl
theorem q288 : Str.ofString "readinto" = ⟨⟨[nat_lit 114, nat_lit 101, nat_lit 97, nat_lit 100, nat_lit 105, nat_lit 110, nat_lit 116, nat_lit 111]⟩⟩ := rfl
theorem q289 : Str.ofString "buffer" = ⟨⟨[nat_lit 98, nat_lit 117, nat_lit 102, nat_lit 102, nat_lit 101, nat_lit 114]⟩⟩ := rfl
theorem q290 : Str.ofString "readinto1" = ⟨⟨[nat_lit 114, nat_lit 101, nat_lit 97, nat_lit 100, nat_lit 105, nat_lit 110, nat_lit 116, nat_lit 111, nat_lit 49]⟩⟩ := rfl
theorem q291 : Str.ofString "BytesIO.readline of a size that is no exact int" = ⟨⟨[nat_lit 66, nat_lit 121, nat_lit 116, nat_lit 101, nat_lit 115, nat_lit 73, nat_lit 79, nat_lit 46, nat_lit 114, nat_lit 101, nat_lit 97, nat_lit 100, nat_lit 108, nat_lit 105, nat_lit 110, nat_lit 101, nat_lit 32, nat_lit 111, nat_lit 102, nat_lit 32, nat_lit 97, nat_lit 32, nat_lit 115, nat_lit 105, nat_lit 122, nat_lit 101, nat_lit 32, nat_lit 116, nat_lit 104, nat_lit 97, nat_lit 116, nat_lit 32, nat_lit 105, nat_lit 115, nat_lit 32, nat_lit 110, nat_lit 111, nat_lit 32, nat_lit 101, nat_lit 120, nat_lit 97, nat_lit 99, nat_lit 116, nat_lit 32, nat_lit 105, nat_lit 110, nat_lit 116]⟩⟩ := rfl
theorem q292 : Str.ofString "extend" = ⟨⟨[nat_lit 101, nat_lit 120, nat_lit 116, nat_lit 101, nat_lit 110, nat_lit 100]⟩⟩ := rfl
theorem q293 : Str.ofString "splitroot" = ⟨⟨[nat_lit 115, nat_lit 112, nat_lit 108, nat_lit 105, nat_lit 116, nat_lit 114, nat_lit 111, nat_lit 111, nat_lit 116]⟩⟩ := rfl
theorem q294 : Str.ofString "fspath" = ⟨⟨[nat_lit 102, nat_lit 115, nat_lit 112, nat_lit 97, nat_lit 116, nat_lit 104]⟩⟩ := rfl
theorem q295 : Str.ofString "empty" = ⟨⟨[nat_lit 101, nat_lit 109, nat_lit 112, nat_lit 116, nat_lit 121]⟩⟩ := rfl
theorem q296 : Str.ofString "dot" = ⟨⟨[nat_lit 100, nat_lit 111, nat_lit 116]⟩⟩ := rfl
theorem q297 : Str.ofString "dotdot" = ⟨⟨[nat_lit 100, nat_lit 111, nat_lit 116, nat_lit 100, nat_lit 111, nat_lit 116]⟩⟩ := rfl
theorem q298 : Str.ofString "." = ⟨⟨[nat_lit 46]⟩⟩ := rfl
theorem q299 : Str.ofString "_" = ⟨⟨[nat_lit 95]⟩⟩ := rfl
theorem q300 : Str.ofString "initial_slashes" = ⟨⟨[nat_lit 105, nat_lit 110, nat_lit 105, nat_lit 116, nat_lit 105, nat_lit 97, nat_lit 108, nat_lit 95, nat_lit 115, nat_lit 108, nat_lit 97, nat_lit 115, nat_lit 104, nat_lit 101, nat_lit 115]⟩⟩ := rfl
theorem q301 : Str.ofString "comps" = ⟨⟨[nat_lit 99, nat_lit 111, nat_lit 109, nat_lit 112, nat_lit 115]⟩⟩ := rfl
theorem q302 : Str.ofString "new_comps" = ⟨⟨[nat_lit 110, nat_lit 101, nat_lit 119, nat_lit 95, nat_lit 99, nat_lit 111, nat_lit 109, nat_lit 112, nat_lit 115]⟩⟩ := rfl
theorem q303 : Str.ofString "comp" = ⟨⟨[nat_lit 99, nat_lit 111, nat_lit 109, nat_lit 112]⟩⟩ := rfl
theorem q304 : Str.ofString "cpy313.dis" = ⟨⟨[nat_lit 99, nat_lit 112, nat_lit 121, nat_lit 51, nat_lit 49, nat_lit 51, nat_lit 46, nat_lit 100, nat_lit 105, nat_lit 115]⟩⟩ := rfl
theorem q305 : Str.ofString "iterator" = ⟨⟨[nat_lit 105, nat_lit 116, nat_lit 101, nat_lit 114, nat_lit 97, nat_lit 116, nat_lit 111, nat_lit 114]⟩⟩ := rfl
theorem q306 : Str.ofString "next" = ⟨⟨[nat_lit 110, nat_lit 101, nat_lit 120, nat_lit 116]⟩⟩ := rfl
theorem q307 : Str.ofString "val" = ⟨⟨[nat_lit 118, nat_lit 97, nat_lit 108]⟩⟩ := rfl
theorem q308 : Str.ofString "_sre" = ⟨⟨[nat_lit 95, nat_lit 115, nat_lit 114, nat_lit 101]⟩⟩ := rfl
theorem q309 : Str.ofString "compile" = ⟨⟨[nat_lit 99, nat_lit 111, nat_lit 109, nat_lit 112, nat_lit 105, nat_lit 108, nat_lit 101]⟩⟩ := rfl
theorem q310 : Str.ofString "[^\\w@%+=:,./-]" = ⟨⟨[nat_lit 91, nat_lit 94, nat_lit 92, nat_lit 119, nat_lit 64, nat_lit 37, nat_lit 43, nat_lit 61, nat_lit 58, nat_lit 44, nat_lit 46, nat_lit 47, nat_lit 45, nat_lit 93]⟩⟩ := rfl
theorem q311 : Str.ofString "hasstr" = ⟨⟨[nat_lit 104, nat_lit 97, nat_lit 115, nat_lit 115, nat_lit 116, nat_lit 114]⟩⟩ := rfl
theorem q312 : Str.ofString "hasbytes" = ⟨⟨[nat_lit 104, nat_lit 97, nat_lit 115, nat_lit 98, nat_lit 121, nat_lit 116, nat_lit 101, nat_lit 115]⟩⟩ := rfl
theorem q313 : Str.ofString "__class__" = ⟨⟨[nat_lit 95, nat_lit 95, nat_lit 99, nat_lit 108, nat_lit 97, nat_lit 115, nat_lit 115, nat_lit 95, nat_lit 95]⟩⟩ := rfl
theorem q314 : Str.ofString "Can't mix strings and bytes in path components" = ⟨⟨[nat_lit 67, nat_lit 97, nat_lit 110, nat_lit 39, nat_lit 116, nat_lit 32, nat_lit 109, nat_lit 105, nat_lit 120, nat_lit 32, nat_lit 115, nat_lit 116, nat_lit 114, nat_lit 105, nat_lit 110, nat_lit 103, nat_lit 115, nat_lit 32, nat_lit 97, nat_lit 110, nat_lit 100, nat_lit 32, nat_lit 98, nat_lit 121, nat_lit 116, nat_lit 101, nat_lit 115, nat_lit 32, nat_lit 105, nat_lit 110, nat_lit 32, nat_lit 112, nat_lit 97, nat_lit 116, nat_lit 104, nat_lit 32, nat_lit 99, nat_lit 111, nat_lit 109, nat_lit 112, nat_lit 111, nat_lit 110, nat_lit 101, nat_lit 110, nat_lit 116, nat_lit 115]⟩⟩ := rfl
theorem q315 : Str.ofString "check_arg_types_genericpath" = ⟨⟨[nat_lit 99, nat_lit 104, nat_lit 101, nat_lit 99, nat_lit 107, nat_lit 95, nat_lit 97, nat_lit 114, nat_lit 103, nat_lit 95, nat_lit 116, nat_lit 121, nat_lit 112, nat_lit 101, nat_lit 115, nat_lit 95, nat_lit 103, nat_lit 101, nat_lit 110, nat_lit 101, nat_lit 114, nat_lit 105, nat_lit 99, nat_lit 112, nat_lit 97, nat_lit 116, nat_lit 104]⟩⟩ := rfl
theorem q316 : Str.ofString "cpy313.posixpath" = ⟨⟨[nat_lit 99, nat_lit 112, nat_lit 121, nat_lit 51, nat_lit 49, nat_lit 51, nat_lit 46, nat_lit 112, nat_lit 111, nat_lit 115, nat_lit 105, nat_lit 120, nat_lit 112, nat_lit 97, nat_lit 116, nat_lit 104]⟩⟩ := rfl
theorem q317 : Str.ofString "_get_sep" = ⟨⟨[nat_lit 95, nat_lit 103, nat_lit 101, nat_lit 116, nat_lit 95, nat_lit 115, nat_lit 101, nat_lit 112]⟩⟩ := rfl
theorem q318 : Str.ofString "ABCMeta" = ⟨⟨[nat_lit 65, nat_lit 66, nat_lit 67, nat_lit 77, nat_lit 101, nat_lit 116, nat_lit 97]⟩⟩ := rfl
theorem q319 : Str.ofString "register" = ⟨⟨[nat_lit 114, nat_lit 101, nat_lit 103, nat_lit 105, nat_lit 115, nat_lit 116, nat_lit 101, nat_lit 114]⟩⟩ := rfl
theorem q320 : Str.ofString "subclass" = ⟨⟨[nat_lit 115, nat_lit 117, nat_lit 98, nat_lit 99, nat_lit 108, nat_lit 97, nat_lit 115, nat_lit 115]⟩⟩ := rfl
theorem q321 : Str.ofString "collections.abc" = ⟨⟨[nat_lit 99, nat_lit 111, nat_lit 108, nat_lit 108, nat_lit 101, nat_lit 99, nat_lit 116, nat_lit 105, nat_lit 111, nat_lit 110, nat_lit 115, nat_lit 46, nat_lit 97, nat_lit 98, nat_lit 99]⟩⟩ := rfl
theorem q322 : Str.ofString "_ABCLike" = ⟨⟨[nat_lit 95, nat_lit 65, nat_lit 66, nat_lit 67, nat_lit 76, nat_lit 105, nat_lit 107, nat_lit 101]⟩⟩ := rfl
theorem q323 : Str.ofString "__instancecheck__" = ⟨⟨[nat_lit 95, nat_lit 95, nat_lit 105, nat_lit 110, nat_lit 115, nat_lit 116, nat_lit 97, nat_lit 110, nat_lit 99, nat_lit 101, nat_lit 99, nat_lit 104, nat_lit 101, nat_lit 99, nat_lit 107, nat_lit 95, nat_lit 95]⟩⟩ := rfl
theorem q324 : Str.ofString "\x69nstance" = ⟨⟨[nat_lit 105, nat_lit 110, nat_lit 115, nat_lit 116, nat_lit 97, nat_lit 110, nat_lit 99, nat_lit 101]⟩⟩ := rfl
theorem q325 : Str.ofString "C" = ⟨⟨[nat_lit 67]⟩⟩ := rfl
theorem q326 : Str.ofString "_abc_kind" = ⟨⟨[nat_lit 95, nat_lit 97, nat_lit 98, nat_lit 99, nat_lit 95, nat_lit 107, nat_lit 105, nat_lit 110, nat_lit 100]⟩⟩ := rfl
theorem q327 : Str.ofString "__subclasscheck__" = ⟨⟨[nat_lit 95, nat_lit 95, nat_lit 115, nat_lit 117, nat_lit 98, nat_lit 99, nat_lit 108, nat_lit 97, nat_lit 115, nat_lit 115, nat_lit 99, nat_lit 104, nat_lit 101, nat_lit 99, nat_lit 107, nat_lit 95, nat_lit 95]⟩⟩ := rfl
theorem q328 : Str.ofString "issubclass" = ⟨⟨[nat_lit 105, nat_lit 115, nat_lit 115, nat_lit 117, nat_lit 98, nat_lit 99, nat_lit 108, nat_lit 97, nat_lit 115, nat_lit 115]⟩⟩ := rfl
theorem q329 : Str.ofString "issubclass() arg 1 must be a class" = ⟨⟨[nat_lit 105, nat_lit 115, nat_lit 115, nat_lit 117, nat_lit 98, nat_lit 99, nat_lit 108, nat_lit 97, nat_lit 115, nat_lit 115, nat_lit 40, nat_lit 41, nat_lit 32, nat_lit 97, nat_lit 114, nat_lit 103, nat_lit 32, nat_lit 49, nat_lit 32, nat_lit 109, nat_lit 117, nat_lit 115, nat_lit 116, nat_lit 32, nat_lit 98, nat_lit 101, nat_lit 32, nat_lit 97, nat_lit 32, nat_lit 99, nat_lit 108, nat_lit 97, nat_lit 115, nat_lit 115]⟩⟩ := rfl
theorem q330 : Str.ofString "_abc_plain_meta" = ⟨⟨[nat_lit 95, nat_lit 97, nat_lit 98, nat_lit 99, nat_lit 95, nat_lit 112, nat_lit 108, nat_lit 97, nat_lit 105, nat_lit 110, nat_lit 95, nat_lit 109, nat_lit 101, nat_lit 116, nat_lit 97]⟩⟩ := rfl
theorem q331 : Str.ofString "os" = ⟨⟨[nat_lit 111, nat_lit 115]⟩⟩ := rfl
theorem q332 : Str.ofString "kind" = ⟨⟨[nat_lit 107, nat_lit 105, nat_lit 110, nat_lit 100]⟩⟩ := rfl
theorem q333 : Str.ofString "hook" = ⟨⟨[nat_lit 104, nat_lit 111, nat_lit 111, nat_lit 107]⟩⟩ := rfl
theorem q334 : Str.ofString "getattr" = ⟨⟨[nat_lit 103, nat_lit 101, nat_lit 116, nat_lit 97, nat_lit 116, nat_lit 116, nat_lit 114]⟩⟩ := rfl
theorem q335 : Str.ofString "__fspath__" = ⟨⟨[nat_lit 95, nat_lit 95, nat_lit 102, nat_lit 115, nat_lit 112, nat_lit 97, nat_lit 116, nat_lit 104, nat_lit 95, nat_lit 95]⟩⟩ := rfl
theorem q336 : Str.ofString "_plain_name" = ⟨⟨[nat_lit 95, nat_lit 112, nat_lit 108, nat_lit 97, nat_lit 105, nat_lit 110, nat_lit 95, nat_lit 110, nat_lit 97, nat_lit 109, nat_lit 101]⟩⟩ := rfl
theorem q337 : Str.ofString "the words of fspath, of an object that is no everyday kind" = ⟨⟨[nat_lit 116, nat_lit 104, nat_lit 101, nat_lit 32, nat_lit 119, nat_lit 111, nat_lit 114, nat_lit 100, nat_lit 115, nat_lit 32, nat_lit 111, nat_lit 102, nat_lit 32, nat_lit 102, nat_lit 115, nat_lit 112, nat_lit 97, nat_lit 116, nat_lit 104, nat_lit 44, nat_lit 32, nat_lit 111, nat_lit 102, nat_lit 32, nat_lit 97, nat_lit 110, nat_lit 32, nat_lit 111, nat_lit 98, nat_lit 106, nat_lit 101, nat_lit 99, nat_lit 116, nat_lit 32, nat_lit 116, nat_lit 104, nat_lit 97, nat_lit 116, nat_lit 32, nat_lit 105, nat_lit 115, nat_lit 32, nat_lit 110, nat_lit 111, nat_lit 32, nat_lit 101, nat_lit 118, nat_lit 101, nat_lit 114, nat_lit 121, nat_lit 100, nat_lit 97, nat_lit 121, nat_lit 32, nat_lit 107, nat_lit 105, nat_lit 110, nat_lit 100]⟩⟩ := rfl
theorem q338 : Str.ofString "given" = ⟨⟨[nat_lit 103, nat_lit 105, nat_lit 118, nat_lit 101, nat_lit 110]⟩⟩ := rfl
theorem q339 : Str.ofString "encode" = ⟨⟨[nat_lit 101, nat_lit 110, nat_lit 99, nat_lit 111, nat_lit 100, nat_lit 101]⟩⟩ := rfl
theorem q340 : Str.ofString "utf-8" = ⟨⟨[nat_lit 117, nat_lit 116, nat_lit 102, nat_lit 45, nat_lit 56]⟩⟩ := rfl
theorem q341 : Str.ofString "expected {}.{}() to return str or bytes, not {}" = ⟨⟨[nat_lit 101, nat_lit 120, nat_lit 112, nat_lit 101, nat_lit 99, nat_lit 116, nat_lit 101, nat_lit 100, nat_lit 32, nat_lit 123, nat_lit 125, nat_lit 46, nat_lit 123, nat_lit 125, nat_lit 40, nat_lit 41, nat_lit 32, nat_lit 116, nat_lit 111, nat_lit 32, nat_lit 114, nat_lit 101, nat_lit 116, nat_lit 117, nat_lit 114, nat_lit 110, nat_lit 32, nat_lit 115, nat_lit 116, nat_lit 114, nat_lit 32, nat_lit 111, nat_lit 114, nat_lit 32, nat_lit 98, nat_lit 121, nat_lit 116, nat_lit 101, nat_lit 115, nat_lit 44, nat_lit 32, nat_lit 110, nat_lit 111, nat_lit 116, nat_lit 32, nat_lit 123, nat_lit 125]⟩⟩ := rfl
theorem q342 : Str.ofString "format" = ⟨⟨[nat_lit 102, nat_lit 111, nat_lit 114, nat_lit 109, nat_lit 97, nat_lit 116]⟩⟩ := rfl
theorem q343 : Str.ofString "the words of fspath, of what an __fspath__ gave" = ⟨⟨[nat_lit 116, nat_lit 104, nat_lit 101, nat_lit 32, nat_lit 119, nat_lit 111, nat_lit 114, nat_lit 100, nat_lit 115, nat_lit 32, nat_lit 111, nat_lit 102, nat_lit 32, nat_lit 102, nat_lit 115, nat_lit 112, nat_lit 97, nat_lit 116, nat_lit 104, nat_lit 44, nat_lit 32, nat_lit 111, nat_lit 102, nat_lit 32, nat_lit 119, nat_lit 104, nat_lit 97, nat_lit 116, nat_lit 32, nat_lit 97, nat_lit 110, nat_lit 32, nat_lit 95, nat_lit 95, nat_lit 102, nat_lit 115, nat_lit 112, nat_lit 97, nat_lit 116, nat_lit 104, nat_lit 95, nat_lit 95, nat_lit 32, nat_lit 103, nat_lit 97, nat_lit 118, nat_lit 101]⟩⟩ := rfl
theorem q344 : Str.ofString "cpy313.genericpath" = ⟨⟨[nat_lit 99, nat_lit 112, nat_lit 121, nat_lit 51, nat_lit 49, nat_lit 51, nat_lit 46, nat_lit 103, nat_lit 101, nat_lit 110, nat_lit 101, nat_lit 114, nat_lit 105, nat_lit 99, nat_lit 112, nat_lit 97, nat_lit 116, nat_lit 104]⟩⟩ := rfl
theorem q345 : Str.ofString "_collections" = ⟨⟨[nat_lit 95, nat_lit 99, nat_lit 111, nat_lit 108, nat_lit 108, nat_lit 101, nat_lit 99, nat_lit 116, nat_lit 105, nat_lit 111, nat_lit 110, nat_lit 115]⟩⟩ := rfl
theorem q346 : Str.ofString "complex" = ⟨⟨[nat_lit 99, nat_lit 111, nat_lit 109, nat_lit 112, nat_lit 108, nat_lit 101, nat_lit 120]⟩⟩ := rfl
theorem q347 : Str.ofString "frozenset" = ⟨⟨[nat_lit 102, nat_lit 114, nat_lit 111, nat_lit 122, nat_lit 101, nat_lit 110, nat_lit 115, nat_lit 101, nat_lit 116]⟩⟩ := rfl
theorem q348 : Str.ofString "abc" = ⟨⟨[nat_lit 97, nat_lit 98, nat_lit 99]⟩⟩ := rfl
theorem q349 : Str.ofString "/claim/cut.py" = ⟨⟨[nat_lit 47, nat_lit 99, nat_lit 108, nat_lit 97, nat_lit 105, nat_lit 109, nat_lit 47, nat_lit 99, nat_lit 117, nat_lit 116, nat_lit 46, nat_lit 112, nat_lit 121]⟩⟩ := rfl
noncomputable def pwT : Program := (fun (_ : True) => ?p) (by
  have h : Challenge.pw_pd0201_01 = ?p := by
    delta Challenge.pw_pd0201_01
    dsimp only [q0, q1, q2, q3, q4, q5, q6, q7, q8, q9, q10, q11, q12, q13, q14, q15, q16, q17, q18, q19, q20, q21, q22, q23, q24, q25, q26, q27, q28, q29, q30, q31, q32, q33, q34, q35, q36, q37, q38, q39, q40, q41, q42, q43, q44, q45, q46, q47, q48, q49, q50, q51, q52, q53, q54, q55, q56, q57, q58, q59, q60, q61, q62, q63, q64, q65, q66, q67, q68, q69, q70, q71, q72, q73, q74, q75, q76, q77, q78, q79, q80, q81, q82, q83, q84, q85, q86, q87, q88, q89, q90, q91, q92, q93, q94, q95, q96, q97, q98, q99, q100, q101, q102, q103, q104, q105, q106, q107, q108, q109, q110, q111, q112, q113, q114, q115, q116, q117, q118, q119, q120, q121, q122, q123, q124, q125, q126, q127, q128, q129, q130, q131, q132, q133, q134, q135, q136, q137, q138, q139, q140, q141, q142, q143, q144, q145, q146, q147, q148, q149, q150, q151, q152, q153, q154, q155, q156, q157, q158, q159, q160, q161, q162, q163, q164, q165, q166, q167, q168, q169, q170, q171, q172, q173, q174, q175, q176, q177, q178, q179, q180, q181, q182, q183, q184, q185, q186, q187, q188, q189, q190, q191, q192, q193, q194, q195, q196, q197, q198, q199, q200, q201, q202, q203, q204, q205, q206, q207, q208, q209, q210, q211, q212, q213, q214, q215, q216, q217, q218, q219, q220, q221, q222, q223, q224, q225, q226, q227, q228, q229, q230, q231, q232, q233, q234, q235, q236, q237, q238, q239, q240, q241, q242, q243, q244, q245, q246, q247, q248, q249, q250, q251, q252, q253, q254, q255, q256, q257, q258, q259, q260, q261, q262, q263, q264, q265, q266, q267, q268, q269, q270, q271, q272, q273, q274, q275, q276, q277, q278, q279, q280, q281, q282, q283, q284, q285, q286, q287, q288, q289, q290, q291, q292, q293, q294, q295, q296, q297, q298, q299, q300, q301, q302, q303, q304, q305, q306, q307, q308, q309, q310, q311, q312, q313, q314, q315, q316, q317, q318, q319, q320, q321, q322, q323, q324, q325, q326, q327, q328, q329, q330, q331, q332, q333, q334, q335, q336, q337, q338, q339, q340, q341, q342, q343, q344, q345, q346, q347, q348, q349]
    exact rfl
  trivial)
theorem pwT_eq : pwT = Challenge.pw_pd0201_01 := by kernel_rfl
end Mine
end

section
open PySem PySem.W PyProof.Rows
set_option Elab.async false
set_option maxRecDepth 100000
set_option maxHeartbeats 8000000
namespace Mine
noncomputable def rwT : OpenLaw := { prog := pwT, name := (PySem.Str.ofString "law"), about := [(PySem.Str.ofString "normpath")], foot := 4, most := some 63, bound := none, writes := false }
theorem olawT (h : rwT.row.wellSaid = true → rwT.row.Holds) : rwT.Holds := by
  w_on; o_law; apply h; assumption
theorem rwT_eq : rwT = PySem.Challenge.rw_pd0201_01 := by
  unfold rwT PySem.Challenge.rw_pd0201_01
  rw [pwT_eq]
theorem olaw (h : PySem.Challenge.rw_pd0201_01.row.wellSaid = true → PySem.Challenge.rw_pd0201_01.row.Holds) : PySem.Challenge.rw_pd0201_01.Holds := by
  rw [← rwT_eq] at h ⊢
  exact olawT h
end Mine
end

section
set_option maxRecDepth 100000
set_option linter.unusedVariables false
namespace Mine
open PySem PySem.Spec PySem.Calls PyProof.Rows PySem.W PySem.W.X

noncomputable def stN : List Stmt → Nat → Stmt
  | [], _ => .Pass default
  | s :: r, n => match Nat.beq n 0 with
    | true => s
    | false => stN r (n - 1)
noncomputable def tS (i : Nat) : Stmt := stN pwT.main.body i
noncomputable def cS (i j : Nat) : Stmt := match tS i with
  | .ClassDef _ _ _ b _ _ _ _ _ _ _ => stN b j
  | s => s
noncomputable def fnA : Stmt → Arguments
  | .FunctionDef _ a _ _ _ _ _ _ _ _ => a
  | _ => default
noncomputable def fnB : Stmt → List Stmt
  | .FunctionDef _ _ b _ _ _ _ _ _ _ => b
  | _ => []
noncomputable def fnS : Stmt → Scope
  | .FunctionDef _ _ _ _ _ _ sc _ _ _ => sc
  | _ => default
noncomputable abbrev s0 : Str := ⟨⟨[95, 95, 110, 97, 109, 101, 95, 95]⟩⟩
noncomputable abbrev s1 : Str := ⟨⟨[98, 117, 105, 108, 116, 105, 110, 115]⟩⟩
noncomputable abbrev s2 : Str := ⟨⟨[95, 95, 100, 111, 99, 95, 95]⟩⟩
noncomputable abbrev s3 : Str := ⟨⟨[95, 95, 112, 97, 99, 107, 97, 103, 101, 95, 95]⟩⟩
noncomputable abbrev s4 : Str := ⟨⟨[95, 95, 108, 111, 97, 100, 101, 114, 95, 95]⟩⟩
noncomputable abbrev s5 : Str := ⟨⟨[95, 95, 115, 112, 101, 99, 95, 95]⟩⟩
noncomputable abbrev s6 : Str := ⟨⟨[95, 95, 98, 117, 105, 108, 100, 95, 99, 108, 97, 115, 115, 95, 95]⟩⟩
noncomputable abbrev s7 : Str := ⟨⟨[95, 95, 105, 109, 112, 111, 114, 116, 95, 95]⟩⟩
noncomputable abbrev s8 : Str := ⟨⟨[97, 98, 115]⟩⟩
noncomputable abbrev s9 : Str := ⟨⟨[97, 108, 108]⟩⟩
noncomputable abbrev s10 : Str := ⟨⟨[97, 110, 121]⟩⟩
noncomputable abbrev s11 : Str := ⟨⟨[97, 115, 99, 105, 105]⟩⟩
noncomputable abbrev s12 : Str := ⟨⟨[98, 105, 110]⟩⟩
noncomputable abbrev s13 : Str := ⟨⟨[98, 114, 101, 97, 107, 112, 111, 105, 110, 116]⟩⟩
noncomputable abbrev s14 : Str := ⟨⟨[99, 97, 108, 108, 97, 98, 108, 101]⟩⟩
noncomputable abbrev s15 : Str := ⟨⟨[99, 104, 114]⟩⟩
noncomputable abbrev s16 : Str := ⟨⟨[99, 111, 109, 112, 105, 108, 101]⟩⟩
noncomputable abbrev s17 : Str := ⟨⟨[100, 101, 108, 97, 116, 116, 114]⟩⟩
noncomputable abbrev s18 : Str := ⟨⟨[100, 105, 114]⟩⟩
noncomputable abbrev s19 : Str := ⟨⟨[100, 105, 118, 109, 111, 100]⟩⟩
noncomputable abbrev s20 : Str := ⟨⟨[101, 118, 97, 108]⟩⟩
noncomputable abbrev s21 : Str := ⟨⟨[101, 120, 101, 99]⟩⟩
noncomputable abbrev s22 : Str := ⟨⟨[102, 111, 114, 109, 97, 116]⟩⟩
noncomputable abbrev s23 : Str := ⟨⟨[103, 101, 116, 97, 116, 116, 114]⟩⟩
noncomputable abbrev s24 : Str := ⟨⟨[103, 108, 111, 98, 97, 108, 115]⟩⟩
noncomputable abbrev s25 : Str := ⟨⟨[104, 97, 115, 97, 116, 116, 114]⟩⟩
noncomputable abbrev s26 : Str := ⟨⟨[104, 97, 115, 104]⟩⟩
noncomputable abbrev s27 : Str := ⟨⟨[104, 101, 120]⟩⟩
noncomputable abbrev s28 : Str := ⟨⟨[105, 100]⟩⟩
noncomputable abbrev s29 : Str := ⟨⟨[105, 110, 112, 117, 116]⟩⟩
noncomputable abbrev s30 : Str := ⟨⟨[105, 115, 105, 110, 115, 116, 97, 110, 99, 101]⟩⟩
noncomputable abbrev s31 : Str := ⟨⟨[105, 115, 115, 117, 98, 99, 108, 97, 115, 115]⟩⟩
noncomputable abbrev s32 : Str := ⟨⟨[105, 116, 101, 114]⟩⟩
noncomputable abbrev s33 : Str := ⟨⟨[97, 105, 116, 101, 114]⟩⟩
noncomputable abbrev s34 : Str := ⟨⟨[108, 101, 110]⟩⟩
noncomputable abbrev s35 : Str := ⟨⟨[108, 111, 99, 97, 108, 115]⟩⟩
noncomputable abbrev s36 : Str := ⟨⟨[109, 97, 120]⟩⟩
noncomputable abbrev s37 : Str := ⟨⟨[109, 105, 110]⟩⟩
noncomputable abbrev s38 : Str := ⟨⟨[110, 101, 120, 116]⟩⟩
noncomputable abbrev s39 : Str := ⟨⟨[97, 110, 101, 120, 116]⟩⟩
noncomputable abbrev s40 : Str := ⟨⟨[111, 99, 116]⟩⟩
noncomputable abbrev s41 : Str := ⟨⟨[111, 114, 100]⟩⟩
noncomputable abbrev s42 : Str := ⟨⟨[112, 111, 119]⟩⟩
noncomputable abbrev s43 : Str := ⟨⟨[112, 114, 105, 110, 116]⟩⟩
noncomputable abbrev s44 : Str := ⟨⟨[114, 101, 112, 114]⟩⟩
noncomputable abbrev s45 : Str := ⟨⟨[114, 111, 117, 110, 100]⟩⟩
noncomputable abbrev s46 : Str := ⟨⟨[115, 101, 116, 97, 116, 116, 114]⟩⟩
noncomputable abbrev s47 : Str := ⟨⟨[115, 111, 114, 116, 101, 100]⟩⟩
noncomputable abbrev s48 : Str := ⟨⟨[115, 117, 109]⟩⟩
noncomputable abbrev s49 : Str := ⟨⟨[118, 97, 114, 115]⟩⟩
noncomputable abbrev s50 : Str := ⟨⟨[78, 111, 110, 101]⟩⟩
noncomputable abbrev s51 : Str := ⟨⟨[69, 108, 108, 105, 112, 115, 105, 115]⟩⟩
noncomputable abbrev s52 : Str := ⟨⟨[78, 111, 116, 73, 109, 112, 108, 101, 109, 101, 110, 116, 101, 100]⟩⟩
noncomputable abbrev s53 : Str := ⟨⟨[70, 97, 108, 115, 101]⟩⟩
noncomputable abbrev s54 : Str := ⟨⟨[84, 114, 117, 101]⟩⟩
noncomputable abbrev s55 : Str := ⟨⟨[98, 111, 111, 108]⟩⟩
noncomputable abbrev s56 : Str := ⟨⟨[109, 101, 109, 111, 114, 121, 118, 105, 101, 119]⟩⟩
noncomputable abbrev s57 : Str := ⟨⟨[98, 121, 116, 101, 97, 114, 114, 97, 121]⟩⟩
noncomputable abbrev s58 : Str := ⟨⟨[98, 121, 116, 101, 115]⟩⟩
noncomputable abbrev s59 : Str := ⟨⟨[99, 108, 97, 115, 115, 109, 101, 116, 104, 111, 100]⟩⟩
noncomputable abbrev s60 : Str := ⟨⟨[99, 111, 109, 112, 108, 101, 120]⟩⟩
noncomputable abbrev s61 : Str := ⟨⟨[100, 105, 99, 116]⟩⟩
noncomputable abbrev s62 : Str := ⟨⟨[101, 110, 117, 109, 101, 114, 97, 116, 101]⟩⟩
noncomputable abbrev s63 : Str := ⟨⟨[102, 105, 108, 116, 101, 114]⟩⟩
noncomputable abbrev s64 : Str := ⟨⟨[102, 108, 111, 97, 116]⟩⟩
noncomputable abbrev s65 : Str := ⟨⟨[102, 114, 111, 122, 101, 110, 115, 101, 116]⟩⟩
noncomputable abbrev s66 : Str := ⟨⟨[112, 114, 111, 112, 101, 114, 116, 121]⟩⟩
noncomputable abbrev s67 : Str := ⟨⟨[105, 110, 116]⟩⟩
noncomputable abbrev s68 : Str := ⟨⟨[108, 105, 115, 116]⟩⟩
noncomputable abbrev s69 : Str := ⟨⟨[109, 97, 112]⟩⟩
noncomputable abbrev s70 : Str := ⟨⟨[111, 98, 106, 101, 99, 116]⟩⟩
noncomputable abbrev s71 : Str := ⟨⟨[114, 97, 110, 103, 101]⟩⟩
noncomputable abbrev s72 : Str := ⟨⟨[114, 101, 118, 101, 114, 115, 101, 100]⟩⟩
noncomputable abbrev s73 : Str := ⟨⟨[115, 101, 116]⟩⟩
noncomputable abbrev s74 : Str := ⟨⟨[115, 108, 105, 99, 101]⟩⟩
noncomputable abbrev s75 : Str := ⟨⟨[115, 116, 97, 116, 105, 99, 109, 101, 116, 104, 111, 100]⟩⟩
noncomputable abbrev s76 : Str := ⟨⟨[115, 116, 114]⟩⟩
noncomputable abbrev s77 : Str := ⟨⟨[115, 117, 112, 101, 114]⟩⟩
noncomputable abbrev s78 : Str := ⟨⟨[116, 117, 112, 108, 101]⟩⟩
noncomputable abbrev s79 : Str := ⟨⟨[116, 121, 112, 101]⟩⟩
noncomputable abbrev s80 : Str := ⟨⟨[122, 105, 112]⟩⟩
noncomputable abbrev s81 : Str := ⟨⟨[95, 95, 100, 101, 98, 117, 103, 95, 95]⟩⟩
noncomputable abbrev s82 : Str := ⟨⟨[66, 97, 115, 101, 69, 120, 99, 101, 112, 116, 105, 111, 110]⟩⟩
noncomputable abbrev s83 : Str := ⟨⟨[66, 97, 115, 101, 69, 120, 99, 101, 112, 116, 105, 111, 110, 71, 114, 111, 117, 112]⟩⟩
noncomputable abbrev s84 : Str := ⟨⟨[69, 120, 99, 101, 112, 116, 105, 111, 110]⟩⟩
noncomputable abbrev s85 : Str := ⟨⟨[71, 101, 110, 101, 114, 97, 116, 111, 114, 69, 120, 105, 116]⟩⟩
noncomputable abbrev s86 : Str := ⟨⟨[75, 101, 121, 98, 111, 97, 114, 100, 73, 110, 116, 101, 114, 114, 117, 112, 116]⟩⟩
noncomputable abbrev s87 : Str := ⟨⟨[83, 121, 115, 116, 101, 109, 69, 120, 105, 116]⟩⟩
noncomputable abbrev s88 : Str := ⟨⟨[65, 114, 105, 116, 104, 109, 101, 116, 105, 99, 69, 114, 114, 111, 114]⟩⟩
noncomputable abbrev s89 : Str := ⟨⟨[65, 115, 115, 101, 114, 116, 105, 111, 110, 69, 114, 114, 111, 114]⟩⟩
noncomputable abbrev s90 : Str := ⟨⟨[65, 116, 116, 114, 105, 98, 117, 116, 101, 69, 114, 114, 111, 114]⟩⟩
noncomputable abbrev s91 : Str := ⟨⟨[66, 117, 102, 102, 101, 114, 69, 114, 114, 111, 114]⟩⟩
noncomputable abbrev s92 : Str := ⟨⟨[69, 79, 70, 69, 114, 114, 111, 114]⟩⟩
noncomputable abbrev s93 : Str := ⟨⟨[73, 109, 112, 111, 114, 116, 69, 114, 114, 111, 114]⟩⟩
noncomputable abbrev s94 : Str := ⟨⟨[76, 111, 111, 107, 117, 112, 69, 114, 114, 111, 114]⟩⟩
noncomputable abbrev s95 : Str := ⟨⟨[77, 101, 109, 111, 114, 121, 69, 114, 114, 111, 114]⟩⟩
noncomputable abbrev s96 : Str := ⟨⟨[78, 97, 109, 101, 69, 114, 114, 111, 114]⟩⟩
noncomputable abbrev s97 : Str := ⟨⟨[79, 83, 69, 114, 114, 111, 114]⟩⟩
noncomputable abbrev s98 : Str := ⟨⟨[82, 101, 102, 101, 114, 101, 110, 99, 101, 69, 114, 114, 111, 114]⟩⟩
noncomputable abbrev s99 : Str := ⟨⟨[82, 117, 110, 116, 105, 109, 101, 69, 114, 114, 111, 114]⟩⟩
noncomputable abbrev s100 : Str := ⟨⟨[83, 116, 111, 112, 65, 115, 121, 110, 99, 73, 116, 101, 114, 97, 116, 105, 111, 110]⟩⟩
noncomputable abbrev s101 : Str := ⟨⟨[83, 116, 111, 112, 73, 116, 101, 114, 97, 116, 105, 111, 110]⟩⟩
noncomputable abbrev s102 : Str := ⟨⟨[83, 121, 110, 116, 97, 120, 69, 114, 114, 111, 114]⟩⟩
noncomputable abbrev s103 : Str := ⟨⟨[83, 121, 115, 116, 101, 109, 69, 114, 114, 111, 114]⟩⟩
noncomputable abbrev s104 : Str := ⟨⟨[84, 121, 112, 101, 69, 114, 114, 111, 114]⟩⟩
noncomputable abbrev s105 : Str := ⟨⟨[86, 97, 108, 117, 101, 69, 114, 114, 111, 114]⟩⟩
noncomputable abbrev s106 : Str := ⟨⟨[87, 97, 114, 110, 105, 110, 103]⟩⟩
noncomputable abbrev s107 : Str := ⟨⟨[70, 108, 111, 97, 116, 105, 110, 103, 80, 111, 105, 110, 116, 69, 114, 114, 111, 114]⟩⟩
noncomputable abbrev s108 : Str := ⟨⟨[79, 118, 101, 114, 102, 108, 111, 119, 69, 114, 114, 111, 114]⟩⟩
noncomputable abbrev s109 : Str := ⟨⟨[90, 101, 114, 111, 68, 105, 118, 105, 115, 105, 111, 110, 69, 114, 114, 111, 114]⟩⟩
noncomputable abbrev s110 : Str := ⟨⟨[66, 121, 116, 101, 115, 87, 97, 114, 110, 105, 110, 103]⟩⟩
noncomputable abbrev s111 : Str := ⟨⟨[68, 101, 112, 114, 101, 99, 97, 116, 105, 111, 110, 87, 97, 114, 110, 105, 110, 103]⟩⟩
noncomputable abbrev s112 : Str := ⟨⟨[69, 110, 99, 111, 100, 105, 110, 103, 87, 97, 114, 110, 105, 110, 103]⟩⟩
noncomputable abbrev s113 : Str := ⟨⟨[70, 117, 116, 117, 114, 101, 87, 97, 114, 110, 105, 110, 103]⟩⟩
noncomputable abbrev s114 : Str := ⟨⟨[73, 109, 112, 111, 114, 116, 87, 97, 114, 110, 105, 110, 103]⟩⟩
noncomputable abbrev s115 : Str := ⟨⟨[80, 101, 110, 100, 105, 110, 103, 68, 101, 112, 114, 101, 99, 97, 116, 105, 111, 110, 87, 97, 114, 110, 105, 110, 103]⟩⟩
noncomputable abbrev s116 : Str := ⟨⟨[82, 101, 115, 111, 117, 114, 99, 101, 87, 97, 114, 110, 105, 110, 103]⟩⟩
noncomputable abbrev s117 : Str := ⟨⟨[82, 117, 110, 116, 105, 109, 101, 87, 97, 114, 110, 105, 110, 103]⟩⟩
noncomputable abbrev s118 : Str := ⟨⟨[83, 121, 110, 116, 97, 120, 87, 97, 114, 110, 105, 110, 103]⟩⟩
noncomputable abbrev s119 : Str := ⟨⟨[85, 110, 105, 99, 111, 100, 101, 87, 97, 114, 110, 105, 110, 103]⟩⟩
noncomputable abbrev s120 : Str := ⟨⟨[85, 115, 101, 114, 87, 97, 114, 110, 105, 110, 103]⟩⟩
noncomputable abbrev s121 : Str := ⟨⟨[66, 108, 111, 99, 107, 105, 110, 103, 73, 79, 69, 114, 114, 111, 114]⟩⟩
noncomputable abbrev s122 : Str := ⟨⟨[67, 104, 105, 108, 100, 80, 114, 111, 99, 101, 115, 115, 69, 114, 114, 111, 114]⟩⟩
noncomputable abbrev s123 : Str := ⟨⟨[67, 111, 110, 110, 101, 99, 116, 105, 111, 110, 69, 114, 114, 111, 114]⟩⟩
noncomputable abbrev s124 : Str := ⟨⟨[70, 105, 108, 101, 69, 120, 105, 115, 116, 115, 69, 114, 114, 111, 114]⟩⟩
noncomputable abbrev s125 : Str := ⟨⟨[70, 105, 108, 101, 78, 111, 116, 70, 111, 117, 110, 100, 69, 114, 114, 111, 114]⟩⟩
noncomputable abbrev s126 : Str := ⟨⟨[73, 110, 116, 101, 114, 114, 117, 112, 116, 101, 100, 69, 114, 114, 111, 114]⟩⟩
noncomputable abbrev s127 : Str := ⟨⟨[73, 115, 65, 68, 105, 114, 101, 99, 116, 111, 114, 121, 69, 114, 114, 111, 114]⟩⟩
noncomputable abbrev s128 : Str := ⟨⟨[78, 111, 116, 65, 68, 105, 114, 101, 99, 116, 111, 114, 121, 69, 114, 114, 111, 114]⟩⟩
noncomputable abbrev s129 : Str := ⟨⟨[80, 101, 114, 109, 105, 115, 115, 105, 111, 110, 69, 114, 114, 111, 114]⟩⟩
noncomputable abbrev s130 : Str := ⟨⟨[80, 114, 111, 99, 101, 115, 115, 76, 111, 111, 107, 117, 112, 69, 114, 114, 111, 114]⟩⟩
noncomputable abbrev s131 : Str := ⟨⟨[84, 105, 109, 101, 111, 117, 116, 69, 114, 114, 111, 114]⟩⟩
noncomputable abbrev s132 : Str := ⟨⟨[73, 110, 100, 101, 110, 116, 97, 116, 105, 111, 110, 69, 114, 114, 111, 114]⟩⟩
noncomputable abbrev s133 : Str := ⟨⟨[95, 73, 110, 99, 111, 109, 112, 108, 101, 116, 101, 73, 110, 112, 117, 116, 69, 114, 114, 111, 114]⟩⟩
noncomputable abbrev s134 : Str := ⟨⟨[73, 110, 100, 101, 120, 69, 114, 114, 111, 114]⟩⟩
noncomputable abbrev s135 : Str := ⟨⟨[75, 101, 121, 69, 114, 114, 111, 114]⟩⟩
noncomputable abbrev s136 : Str := ⟨⟨[77, 111, 100, 117, 108, 101, 78, 111, 116, 70, 111, 117, 110, 100, 69, 114, 114, 111, 114]⟩⟩
noncomputable abbrev s137 : Str := ⟨⟨[78, 111, 116, 73, 109, 112, 108, 101, 109, 101, 110, 116, 101, 100, 69, 114, 114, 111, 114]⟩⟩
noncomputable abbrev s138 : Str := ⟨⟨[80, 121, 116, 104, 111, 110, 70, 105, 110, 97, 108, 105, 122, 97, 116, 105, 111, 110, 69, 114, 114, 111, 114]⟩⟩
noncomputable abbrev s139 : Str := ⟨⟨[82, 101, 99, 117, 114, 115, 105, 111, 110, 69, 114, 114, 111, 114]⟩⟩
noncomputable abbrev s140 : Str := ⟨⟨[85, 110, 98, 111, 117, 110, 100, 76, 111, 99, 97, 108, 69, 114, 114, 111, 114]⟩⟩
noncomputable abbrev s141 : Str := ⟨⟨[85, 110, 105, 99, 111, 100, 101, 69, 114, 114, 111, 114]⟩⟩
noncomputable abbrev s142 : Str := ⟨⟨[66, 114, 111, 107, 101, 110, 80, 105, 112, 101, 69, 114, 114, 111, 114]⟩⟩
noncomputable abbrev s143 : Str := ⟨⟨[67, 111, 110, 110, 101, 99, 116, 105, 111, 110, 65, 98, 111, 114, 116, 101, 100, 69, 114, 114, 111, 114]⟩⟩
noncomputable abbrev s144 : Str := ⟨⟨[67, 111, 110, 110, 101, 99, 116, 105, 111, 110, 82, 101, 102, 117, 115, 101, 100, 69, 114, 114, 111, 114]⟩⟩
noncomputable abbrev s145 : Str := ⟨⟨[67, 111, 110, 110, 101, 99, 116, 105, 111, 110, 82, 101, 115, 101, 116, 69, 114, 114, 111, 114]⟩⟩
noncomputable abbrev s146 : Str := ⟨⟨[84, 97, 98, 69, 114, 114, 111, 114]⟩⟩
noncomputable abbrev s147 : Str := ⟨⟨[85, 110, 105, 99, 111, 100, 101, 68, 101, 99, 111, 100, 101, 69, 114, 114, 111, 114]⟩⟩
noncomputable abbrev s148 : Str := ⟨⟨[85, 110, 105, 99, 111, 100, 101, 69, 110, 99, 111, 100, 101, 69, 114, 114, 111, 114]⟩⟩
noncomputable abbrev s149 : Str := ⟨⟨[85, 110, 105, 99, 111, 100, 101, 84, 114, 97, 110, 115, 108, 97, 116, 101, 69, 114, 114, 111, 114]⟩⟩
noncomputable abbrev s150 : Str := ⟨⟨[69, 120, 99, 101, 112, 116, 105, 111, 110, 71, 114, 111, 117, 112]⟩⟩
noncomputable abbrev s151 : Str := ⟨⟨[69, 110, 118, 105, 114, 111, 110, 109, 101, 110, 116, 69, 114, 114, 111, 114]⟩⟩
noncomputable abbrev s152 : Str := ⟨⟨[73, 79, 69, 114, 114, 111, 114]⟩⟩
noncomputable abbrev s153 : Str := ⟨⟨[111, 112, 101, 110]⟩⟩
noncomputable abbrev s154 : Str := ⟨⟨[113, 117, 105, 116]⟩⟩
noncomputable abbrev s155 : Str := ⟨⟨[101, 120, 105, 116]⟩⟩
noncomputable abbrev s156 : Str := ⟨⟨[99, 111, 112, 121, 114, 105, 103, 104, 116]⟩⟩
noncomputable abbrev s157 : Str := ⟨⟨[99, 114, 101, 100, 105, 116, 115]⟩⟩
noncomputable abbrev s158 : Str := ⟨⟨[108, 105, 99, 101, 110, 115, 101]⟩⟩
noncomputable abbrev s159 : Str := ⟨⟨[104, 101, 108, 112]⟩⟩
noncomputable abbrev s160 : Str := ⟨⟨[105, 109, 112, 111, 114, 116, 46, 108, 111, 97, 100, 101, 100, 46, 95, 115, 114, 101]⟩⟩
noncomputable abbrev s161 : Str := ⟨⟨[99, 108, 97, 115, 115, 46, 95, 102, 114, 111, 122, 101, 110, 95, 105, 109, 112, 111, 114, 116, 108, 105, 98, 46, 66, 117, 105, 108, 116, 105, 110, 73, 109, 112, 111, 114, 116, 101, 114]⟩⟩
noncomputable abbrev s162 : Str := ⟨⟨[119, 97, 116, 99, 104, 101, 100, 46, 105, 109, 112, 111, 114, 116]⟩⟩
noncomputable abbrev s163 : Str := ⟨⟨[99, 108, 97, 115, 115, 46, 95, 102, 114, 111, 122, 101, 110, 95, 105, 109, 112, 111, 114, 116, 108, 105, 98, 46, 77, 111, 100, 117, 108, 101, 83, 112, 101, 99]⟩⟩
noncomputable abbrev s164 : Str := ⟨⟨[115, 121, 115, 46, 109, 111, 100, 117, 108, 101, 115, 46, 98, 111, 111, 107, 101, 100, 45, 101, 112, 111, 99, 104]⟩⟩
noncomputable abbrev s165 : Str := ⟨⟨[105, 109, 112, 111, 114, 116, 46, 108, 97, 116, 101, 114, 45, 108, 97, 105, 100, 46, 95, 115, 114, 101]⟩⟩
noncomputable abbrev s166 : Str := ⟨⟨[119, 97, 116, 99, 104, 101, 100, 46, 108, 105, 98, 114, 97, 114, 121]⟩⟩
noncomputable abbrev s167 : Str := ⟨⟨[119, 97, 116, 99, 104, 101, 100, 46, 108, 105, 98, 114, 97, 114, 121, 45, 111, 98, 106, 101, 99, 116, 115]⟩⟩
noncomputable abbrev s168 : Str := ⟨⟨[12, 30]⟩⟩
noncomputable abbrev s169 : Str := ⟨⟨[119, 97, 116, 99, 104, 101, 100, 46, 108, 105, 98, 114, 97, 114, 121, 45, 100, 101, 101, 112, 46, 95, 115, 114, 101]⟩⟩
noncomputable abbrev s170 : Str := ⟨⟨[4, 0, 0, 11, 4, 0, 0, 11, 4, 0, 0, 3, 4, 0, 0, 11, 8, 4, 100, 105, 99, 116, 2]⟩⟩
noncomputable abbrev s171 : Str := ⟨⟨[105, 109, 112, 111, 114, 116, 46, 108, 111, 97, 100, 101, 100, 46, 95, 99, 111, 108, 108, 101, 99, 116, 105, 111, 110, 115]⟩⟩
noncomputable abbrev s172 : Str := ⟨⟨[115, 121, 115, 46, 109, 111, 100, 117, 108, 101, 115, 46, 108, 97, 110, 100, 101, 100, 46, 95, 99, 111, 108, 108, 101, 99, 116, 105, 111, 110, 115]⟩⟩
noncomputable abbrev s173 : Str := ⟨⟨[105, 109, 112, 111, 114, 116, 46, 108, 97, 116, 101, 114, 45, 108, 97, 105, 100, 46, 95, 99, 111, 108, 108, 101, 99, 116, 105, 111, 110, 115]⟩⟩
noncomputable abbrev s174 : Str := ⟨⟨[119, 97, 116, 99, 104, 101, 100, 46, 108, 105, 98, 114, 97, 114, 121, 45, 100, 101, 101, 112, 46, 95, 99, 111, 108, 108, 101, 99, 116, 105, 111, 110, 115]⟩⟩
noncomputable abbrev s175 : Str := ⟨⟨[4, 0, 0, 29, 4, 0, 0, 29, 4, 0, 0, 3, 4, 0, 0, 29, 8, 4, 100, 105, 99, 116, 2]⟩⟩
noncomputable abbrev s176 : Str := ⟨⟨[116, 121, 112, 101, 46, 95, 95, 115, 117, 98, 99, 108, 97, 115, 115, 101, 115, 95, 95, 46, 79, 83, 69, 114, 114, 111, 114, 46, 48]⟩⟩
noncomputable abbrev s177 : Str := ⟨⟨[116, 121, 112, 101, 46, 95, 95, 115, 117, 98, 99, 108, 97, 115, 115, 101, 115, 95, 95, 46, 79, 83, 69, 114, 114, 111, 114, 46, 110]⟩⟩
noncomputable abbrev s178 : Str := ⟨⟨[108, 97, 119, 95, 112, 100, 48, 50, 48, 49, 95, 48, 49]⟩⟩
noncomputable abbrev s179 : Str := ⟨⟨[95, 95, 97, 110, 110, 111, 116, 97, 116, 105, 111, 110, 115, 95, 95]⟩⟩
noncomputable abbrev s180 : Str := ⟨⟨[95, 95, 98, 117, 105, 108, 116, 105, 110, 115, 95, 95]⟩⟩
noncomputable abbrev s181 : Str := ⟨⟨[95, 95, 102, 105, 108, 101, 95, 95]⟩⟩
noncomputable abbrev s182 : Str := ⟨⟨[47, 99, 108, 97, 105, 109, 47, 99, 117, 116, 46, 112, 121]⟩⟩
noncomputable abbrev s183 : Str := ⟨⟨[95, 95, 99, 97, 99, 104, 101, 100, 95, 95]⟩⟩
noncomputable abbrev s184 : Str := ⟨⟨[95, 115, 114, 101]⟩⟩
noncomputable abbrev s185 : Str := ⟨⟨[100, 101, 113, 117, 101]⟩⟩
noncomputable abbrev s186 : Str := ⟨⟨[95, 119, 97, 108, 108]⟩⟩
noncomputable abbrev s187 : Str := ⟨⟨[95, 112, 108, 97, 105, 110, 95, 110, 97, 109, 101]⟩⟩
noncomputable abbrev s188 : Str := ⟨⟨[65, 66, 67, 77, 101, 116, 97]⟩⟩
noncomputable abbrev s189 : Str := ⟨⟨[95, 65, 66, 67, 76, 105, 107, 101]⟩⟩
noncomputable abbrev s190 : Str := ⟨⟨[95, 97, 98, 99, 95, 112, 108, 97, 105, 110, 95, 109, 101, 116, 97]⟩⟩
noncomputable abbrev s191 : Str := ⟨⟨[102, 115, 112, 97, 116, 104]⟩⟩
noncomputable abbrev s192 : Str := ⟨⟨[95, 99, 104, 101, 99, 107, 95, 97, 114, 103, 95, 116, 121, 112, 101, 115]⟩⟩
noncomputable abbrev s193 : Str := ⟨⟨[99, 104, 101, 99, 107, 95, 97, 114, 103, 95, 116, 121, 112, 101, 115, 95, 103, 101, 110, 101, 114, 105, 99, 112, 97, 116, 104]⟩⟩
noncomputable abbrev s194 : Str := ⟨⟨[95, 103, 101, 116, 95, 115, 101, 112]⟩⟩
noncomputable abbrev s195 : Str := ⟨⟨[106, 111, 105, 110]⟩⟩
noncomputable abbrev s196 : Str := ⟨⟨[106, 111, 105, 110, 95, 112, 111, 115, 105, 120, 112, 97, 116, 104]⟩⟩
noncomputable abbrev s197 : Str := ⟨⟨[115, 112, 108, 105, 116, 114, 111, 111, 116]⟩⟩
noncomputable abbrev s198 : Str := ⟨⟨[110, 111, 114, 109, 112, 97, 116, 104]⟩⟩
noncomputable abbrev s199 : Str := ⟨⟨[95, 112, 97, 114, 115, 101, 95, 118, 97, 114, 105, 110, 116]⟩⟩
noncomputable abbrev s200 : Str := ⟨⟨[95, 116, 119, 105, 110, 95, 114, 101, 95, 49]⟩⟩
noncomputable abbrev s201 : Str := ⟨⟨[95, 119, 104, 101, 110, 99, 101]⟩⟩
noncomputable abbrev s202 : Str := ⟨⟨[95, 105, 110, 100, 101, 120]⟩⟩
noncomputable abbrev s203 : Str := ⟨⟨[85, 110, 115, 117, 112, 112, 111, 114, 116, 101, 100, 79, 112, 101, 114, 97, 116, 105, 111, 110]⟩⟩
noncomputable abbrev s204 : Str := ⟨⟨[73, 79, 66, 97, 115, 101]⟩⟩
noncomputable abbrev s205 : Str := ⟨⟨[66, 117, 102, 102, 101, 114, 101, 100, 73, 79, 66, 97, 115, 101]⟩⟩
noncomputable abbrev s206 : Str := ⟨⟨[84, 101, 120, 116, 73, 79, 66, 97, 115, 101]⟩⟩
noncomputable abbrev s207 : Str := ⟨⟨[66, 121, 116, 101, 115, 73, 79]⟩⟩
noncomputable abbrev s208 : Str := ⟨⟨[83, 116, 114, 105, 110, 103, 73, 79]⟩⟩
noncomputable abbrev s209 : Str := ⟨⟨[95, 107, 105, 110, 100]⟩⟩
noncomputable abbrev s210 : Str := ⟨⟨[95, 102, 115, 112, 97, 116, 104]⟩⟩
noncomputable abbrev s211 : Str := ⟨⟨[99, 104, 101, 99, 107, 95, 97, 114, 103, 95, 116, 121, 112, 101, 115, 95, 112, 97, 116, 104]⟩⟩
noncomputable abbrev s212 : Str := ⟨⟨[105, 115, 97, 98, 115]⟩⟩
noncomputable abbrev s213 : Str := ⟨⟨[106, 111, 105, 110, 95, 112, 97, 116, 104]⟩⟩
noncomputable abbrev s214 : Str := ⟨⟨[100, 105, 114, 110, 97, 109, 101]⟩⟩
noncomputable abbrev s215 : Str := ⟨⟨[115, 104, 108, 101, 120]⟩⟩
noncomputable abbrev s216 : Str := ⟨⟨[115, 112, 108, 105, 116]⟩⟩
noncomputable abbrev s217 : Str := ⟨⟨[95, 102, 105, 110, 100, 95, 117, 110, 115, 97, 102, 101]⟩⟩
noncomputable abbrev s218 : Str := ⟨⟨[113, 117, 111, 116, 101]⟩⟩
noncomputable abbrev s219 : Str := ⟨⟨[95, 108, 97, 119, 95, 111, 99, 116, 101, 116, 115]⟩⟩
noncomputable abbrev s220 : Str := ⟨⟨[95, 108, 97, 119, 95, 114, 111, 117, 110, 100]⟩⟩
noncomputable abbrev s221 : Str := ⟨⟨[95, 108, 97, 119, 95, 112, 108, 97, 99, 101]⟩⟩
noncomputable abbrev s222 : Str := ⟨⟨[108, 97, 119]⟩⟩
noncomputable abbrev s223 : Str := ⟨⟨[111, 115]⟩⟩
noncomputable abbrev s224 : Str := ⟨⟨[99, 112, 121, 51, 49, 51, 46, 112, 111, 115, 105, 120, 112, 97, 116, 104]⟩⟩
noncomputable abbrev s225 : Str := ⟨⟨[99, 112, 121, 51, 49, 51, 46, 100, 105, 115]⟩⟩
noncomputable abbrev s226 : Str := ⟨⟨[91, 94, 92, 119, 64, 37, 43, 61, 58, 44, 46, 47, 45, 93]⟩⟩
noncomputable abbrev s227 : Str := ⟨⟨[105, 111]⟩⟩
noncomputable abbrev s228 : Str := ⟨⟨[95, 95, 110, 101, 119, 95, 95]⟩⟩
noncomputable abbrev s229 : Str := ⟨⟨[73, 79, 66, 97, 115, 101, 46, 95, 95, 110, 101, 119, 95, 95]⟩⟩
noncomputable abbrev s230 : Str := ⟨⟨[95, 95, 109, 111, 100, 117, 108, 101, 95, 95]⟩⟩
noncomputable abbrev s231 : Str := ⟨⟨[95, 95, 102, 105, 114, 115, 116, 108, 105, 110, 101, 110, 111, 95, 95]⟩⟩
noncomputable abbrev s232 : Str := ⟨⟨[95, 95, 115, 116, 97, 116, 105, 99, 95, 97, 116, 116, 114, 105, 98, 117, 116, 101, 115, 95, 95]⟩⟩
noncomputable abbrev s233 : Str := ⟨⟨[95, 95, 100, 105, 99, 116, 95, 95]⟩⟩
noncomputable abbrev s234 : Str := ⟨⟨[95, 95, 119, 101, 97, 107, 114, 101, 102, 95, 95]⟩⟩
noncomputable abbrev s235 : Str := ⟨⟨[]⟩⟩
noncomputable abbrev s236 : Str := ⟨⟨[10]⟩⟩
noncomputable abbrev s237 : Str := ⟨⟨[95, 95, 105, 110, 105, 116, 95, 95]⟩⟩
noncomputable abbrev s238 : Str := ⟨⟨[83, 116, 114, 105, 110, 103, 73, 79, 46, 95, 95, 105, 110, 105, 116, 95, 95]⟩⟩
noncomputable abbrev s239 : Str := ⟨⟨[95, 95, 116, 114, 97, 110, 115, 108, 97, 116, 101, 100]⟩⟩
noncomputable abbrev s240 : Str := ⟨⟨[83, 116, 114, 105, 110, 103, 73, 79, 46, 95, 95, 116, 114, 97, 110, 115, 108, 97, 116, 101, 100]⟩⟩
noncomputable abbrev s241 : Str := ⟨⟨[95, 95, 99, 104, 101, 99, 107]⟩⟩
noncomputable abbrev s242 : Str := ⟨⟨[83, 116, 114, 105, 110, 103, 73, 79, 46, 95, 95, 99, 104, 101, 99, 107]⟩⟩
noncomputable abbrev s243 : Str := ⟨⟨[114, 101, 97, 100]⟩⟩
noncomputable abbrev s244 : Str := ⟨⟨[83, 116, 114, 105, 110, 103, 73, 79, 46, 114, 101, 97, 100]⟩⟩
noncomputable abbrev s245 : Str := ⟨⟨[95, 105, 111]⟩⟩
noncomputable abbrev s246 : Str := ⟨⟨[95, 83, 116, 114, 105, 110, 103, 73, 79, 95, 95, 116, 114, 97, 110, 115, 108, 97, 116, 101, 100]⟩⟩
noncomputable abbrev s247 : Str := ⟨⟨[95, 83, 116, 114, 105, 110, 103, 73, 79, 95, 95, 99, 104, 101, 99, 107]⟩⟩
noncomputable abbrev s248 : Str := ⟨⟨[95, 83, 116, 114, 105, 110, 103, 73, 79, 95, 95, 99, 104, 101, 99, 107, 95, 100, 111, 116]⟩⟩
noncomputable abbrev s249 : Str := ⟨⟨[95, 83, 116, 114, 105, 110, 103, 73, 79, 95, 95, 108, 105, 110, 101]⟩⟩
noncomputable abbrev s250 : Str := ⟨⟨[99, 108, 111, 115, 101, 100]⟩⟩
noncomputable abbrev s251 : Str := ⟨⟨[108, 105, 110, 101, 95, 98, 117, 102, 102, 101, 114, 105, 110, 103]⟩⟩
noncomputable abbrev s252 : Str := ⟨⟨[110, 101, 119, 108, 105, 110, 101, 115]⟩⟩
noncomputable abbrev s253 : Str := ⟨⟨[101, 110, 99, 111, 100, 105, 110, 103]⟩⟩
noncomputable abbrev s254 : Str := ⟨⟨[101, 114, 114, 111, 114, 115]⟩⟩
noncomputable abbrev s255 : Str := ⟨⟨[99, 108, 111, 115, 101]⟩⟩
noncomputable abbrev s256 : Str := ⟨⟨[95, 95, 101, 110, 116, 101, 114, 95, 95]⟩⟩
noncomputable abbrev s257 : Str := ⟨⟨[95, 95, 101, 120, 105, 116, 95, 95]⟩⟩
noncomputable abbrev s258 : Str := ⟨⟨[114, 101, 97, 100, 97, 98, 108, 101]⟩⟩
noncomputable abbrev s259 : Str := ⟨⟨[119, 114, 105, 116, 97, 98, 108, 101]⟩⟩
noncomputable abbrev s260 : Str := ⟨⟨[115, 101, 101, 107, 97, 98, 108, 101]⟩⟩
noncomputable abbrev s261 : Str := ⟨⟨[105, 115, 97, 116, 116, 121]⟩⟩
noncomputable abbrev s262 : Str := ⟨⟨[102, 108, 117, 115, 104]⟩⟩
noncomputable abbrev s263 : Str := ⟨⟨[102, 105, 108, 101, 110, 111]⟩⟩
noncomputable abbrev s264 : Str := ⟨⟨[100, 101, 116, 97, 99, 104]⟩⟩
noncomputable abbrev s265 : Str := ⟨⟨[103, 101, 116, 118, 97, 108, 117, 101]⟩⟩
noncomputable abbrev s266 : Str := ⟨⟨[116, 101, 108, 108]⟩⟩
noncomputable abbrev s267 : Str := ⟨⟨[115, 101, 101, 107]⟩⟩
noncomputable abbrev s268 : Str := ⟨⟨[116, 114, 117, 110, 99, 97, 116, 101]⟩⟩
noncomputable abbrev s269 : Str := ⟨⟨[114, 101, 97, 100, 108, 105, 110, 101]⟩⟩
noncomputable abbrev s270 : Str := ⟨⟨[114, 101, 97, 100, 108, 105, 110, 101, 115]⟩⟩
noncomputable abbrev s271 : Str := ⟨⟨[95, 95, 105, 116, 101, 114, 95, 95]⟩⟩
noncomputable abbrev s272 : Str := ⟨⟨[95, 95, 110, 101, 120, 116, 95, 95]⟩⟩
noncomputable abbrev s273 : Str := ⟨⟨[119, 114, 105, 116, 101]⟩⟩
noncomputable abbrev s274 : Str := ⟨⟨[119, 114, 105, 116, 101, 108, 105, 110, 101, 115]⟩⟩
noncomputable abbrev s275 : Str := ⟨⟨[95, 95, 114, 101, 112, 114, 95, 95]⟩⟩
noncomputable abbrev s276 : Str := ⟨⟨[115, 104, 108, 101, 120, 46, 95, 95, 105, 110, 105, 116, 95, 95]⟩⟩
noncomputable abbrev s277 : Str := ⟨⟨[99, 112, 121, 51, 49, 51, 46, 115, 104, 108, 101, 120]⟩⟩
noncomputable abbrev s278 : Str := ⟨⟨[112, 117, 110, 99, 116, 117, 97, 116, 105, 111, 110, 95, 99, 104, 97, 114, 115]⟩⟩
noncomputable abbrev s279 : Str := ⟨⟨[115, 104, 108, 101, 120, 46, 112, 117, 110, 99, 116, 117, 97, 116, 105, 111, 110, 95, 99, 104, 97, 114, 115]⟩⟩
noncomputable abbrev s280 : Str := ⟨⟨[103, 101, 116, 95, 116, 111, 107, 101, 110]⟩⟩
noncomputable abbrev s281 : Str := ⟨⟨[115, 104, 108, 101, 120, 46, 103, 101, 116, 95, 116, 111, 107, 101, 110]⟩⟩
noncomputable abbrev s282 : Str := ⟨⟨[114, 101, 97, 100, 95, 116, 111, 107, 101, 110]⟩⟩
noncomputable abbrev s283 : Str := ⟨⟨[115, 104, 108, 101, 120, 46, 114, 101, 97, 100, 95, 116, 111, 107, 101, 110]⟩⟩
noncomputable abbrev s284 : Str := ⟨⟨[115, 104, 108, 101, 120, 46, 95, 95, 105, 116, 101, 114, 95, 95]⟩⟩
noncomputable abbrev s285 : Str := ⟨⟨[115, 104, 108, 101, 120, 46, 95, 95, 110, 101, 120, 116, 95, 95]⟩⟩
noncomputable abbrev s286 : Str := ⟨⟨[112, 117, 115, 104, 95, 116, 111, 107, 101, 110]⟩⟩
noncomputable abbrev s287 : Str := ⟨⟨[112, 117, 115, 104, 95, 115, 111, 117, 114, 99, 101]⟩⟩
noncomputable abbrev s288 : Str := ⟨⟨[112, 111, 112, 95, 115, 111, 117, 114, 99, 101]⟩⟩
noncomputable abbrev s289 : Str := ⟨⟨[115, 111, 117, 114, 99, 101, 104, 111, 111, 107]⟩⟩
noncomputable abbrev s290 : Str := ⟨⟨[101, 114, 114, 111, 114, 95, 108, 101, 97, 100, 101, 114]⟩⟩
noncomputable abbrev s291 : Str := ⟨⟨[95, 95, 109, 97, 105, 110, 95, 95]⟩⟩
noncomputable def k0 (P : Params) : Obj := ⟨(.type "dict"), none, (.dict ⟨[⟨PyData.keyHash P s0, (.str s0 1), (.str s1 160)⟩, ⟨PyData.keyHash P s2, (.str s2 2), (.builtin "builtins.__doc__:str#opaque")⟩, ⟨PyData.keyHash P s3, (.str s3 3), (.builtin "builtins.__package__:str#opaque")⟩, ⟨PyData.keyHash P s4, (.str s4 4), (.builtin "builtins.__loader__:shared#opaque")⟩, ⟨PyData.keyHash P s5, (.str s5 5), (.builtin "builtins.__spec__#opaque")⟩, ⟨PyData.keyHash P s6, (.str s6 6), (.builtin "__build_class__")⟩, ⟨PyData.keyHash P s7, (.str s7 7), (.builtin "__import__")⟩, ⟨PyData.keyHash P s8, (.str s8 8), (.builtin "abs")⟩, ⟨PyData.keyHash P s9, (.str s9 9), (.builtin "all")⟩, ⟨PyData.keyHash P s10, (.str s10 10), (.builtin "any")⟩, ⟨PyData.keyHash P s11, (.str s11 11), (.builtin "ascii")⟩, ⟨PyData.keyHash P s12, (.str s12 12), (.builtin "bin")⟩, ⟨PyData.keyHash P s13, (.str s13 13), (.builtin "breakpoint")⟩, ⟨PyData.keyHash P s14, (.str s14 14), (.builtin "callable")⟩, ⟨PyData.keyHash P s15, (.str s15 15), (.builtin "chr")⟩, ⟨PyData.keyHash P s16, (.str s16 16), (.builtin "compile")⟩, ⟨PyData.keyHash P s17, (.str s17 17), (.builtin "delattr")⟩, ⟨PyData.keyHash P s18, (.str s18 18), (.builtin "dir")⟩, ⟨PyData.keyHash P s19, (.str s19 19), (.builtin "divmod")⟩, ⟨PyData.keyHash P s20, (.str s20 20), (.builtin "eval")⟩, ⟨PyData.keyHash P s21, (.str s21 21), (.builtin "exec")⟩, ⟨PyData.keyHash P s22, (.str s22 22), (.builtin "format")⟩, ⟨PyData.keyHash P s23, (.str s23 23), (.builtin "getattr")⟩, ⟨PyData.keyHash P s24, (.str s24 24), (.builtin "globals")⟩, ⟨PyData.keyHash P s25, (.str s25 25), (.builtin "hasattr")⟩, ⟨PyData.keyHash P s26, (.str s26 26), (.builtin "hash")⟩, ⟨PyData.keyHash P s27, (.str s27 27), (.builtin "hex")⟩, ⟨PyData.keyHash P s28, (.str s28 28), (.builtin "id")⟩, ⟨PyData.keyHash P s29, (.str s29 29), (.builtin "input")⟩, ⟨PyData.keyHash P s30, (.str s30 30), (.builtin "isinstance")⟩, ⟨PyData.keyHash P s31, (.str s31 31), (.builtin "issubclass")⟩, ⟨PyData.keyHash P s32, (.str s32 32), (.builtin "iter")⟩, ⟨PyData.keyHash P s33, (.str s33 33), (.builtin "aiter")⟩, ⟨PyData.keyHash P s34, (.str s34 34), (.builtin "len")⟩, ⟨PyData.keyHash P s35, (.str s35 35), (.builtin "locals")⟩, ⟨PyData.keyHash P s36, (.str s36 36), (.builtin "max")⟩, ⟨PyData.keyHash P s37, (.str s37 37), (.builtin "min")⟩, ⟨PyData.keyHash P s38, (.str s38 38), (.builtin "next")⟩, ⟨PyData.keyHash P s39, (.str s39 39), (.builtin "anext")⟩, ⟨PyData.keyHash P s40, (.str s40 40), (.builtin "oct")⟩, ⟨PyData.keyHash P s41, (.str s41 41), (.builtin "ord")⟩, ⟨PyData.keyHash P s42, (.str s42 42), (.builtin "pow")⟩, ⟨PyData.keyHash P s43, (.str s43 43), (.builtin "print")⟩, ⟨PyData.keyHash P s44, (.str s44 44), (.builtin "repr")⟩, ⟨PyData.keyHash P s45, (.str s45 45), (.builtin "round")⟩, ⟨PyData.keyHash P s46, (.str s46 46), (.builtin "setattr")⟩, ⟨PyData.keyHash P s47, (.str s47 47), (.builtin "sorted")⟩, ⟨PyData.keyHash P s48, (.str s48 48), (.builtin "sum")⟩, ⟨PyData.keyHash P s49, (.str s49 49), (.builtin "vars")⟩, ⟨PyData.keyHash P s50, (.str s50 50), .none⟩, ⟨PyData.keyHash P s51, (.str s51 51), .ellipsis⟩, ⟨PyData.keyHash P s52, (.str s52 52), .notImplemented⟩, ⟨PyData.keyHash P s53, (.str s53 53), (.bool false)⟩, ⟨PyData.keyHash P s54, (.str s54 54), (.bool true)⟩, ⟨PyData.keyHash P s55, (.str s55 55), (.type "bool")⟩, ⟨PyData.keyHash P s56, (.str s56 56), (.type "memoryview")⟩, ⟨PyData.keyHash P s57, (.str s57 57), (.type "bytearray")⟩, ⟨PyData.keyHash P s58, (.str s58 58), (.type "bytes")⟩, ⟨PyData.keyHash P s59, (.str s59 59), (.type "classmethod")⟩, ⟨PyData.keyHash P s60, (.str s60 60), (.type "complex")⟩, ⟨PyData.keyHash P s61, (.str s61 61), (.type "dict")⟩, ⟨PyData.keyHash P s62, (.str s62 62), (.type "enumerate")⟩, ⟨PyData.keyHash P s63, (.str s63 63), (.type "filter")⟩, ⟨PyData.keyHash P s64, (.str s64 64), (.type "float")⟩, ⟨PyData.keyHash P s65, (.str s65 65), (.type "frozenset")⟩, ⟨PyData.keyHash P s66, (.str s66 66), (.type "property")⟩, ⟨PyData.keyHash P s67, (.str s67 67), (.type "int")⟩, ⟨PyData.keyHash P s68, (.str s68 68), (.type "list")⟩, ⟨PyData.keyHash P s69, (.str s69 69), (.type "map")⟩, ⟨PyData.keyHash P s70, (.str s70 70), (.type "object")⟩, ⟨PyData.keyHash P s71, (.str s71 71), (.type "range")⟩, ⟨PyData.keyHash P s72, (.str s72 72), (.type "reversed")⟩, ⟨PyData.keyHash P s73, (.str s73 73), (.type "set")⟩, ⟨PyData.keyHash P s74, (.str s74 74), (.type "slice")⟩, ⟨PyData.keyHash P s75, (.str s75 75), (.type "staticmethod")⟩, ⟨PyData.keyHash P s76, (.str s76 76), (.type "str")⟩, ⟨PyData.keyHash P s77, (.str s77 77), (.type "super")⟩, ⟨PyData.keyHash P s78, (.str s78 78), (.type "tuple")⟩, ⟨PyData.keyHash P s79, (.str s79 79), (.type "type")⟩, ⟨PyData.keyHash P s80, (.str s80 80), (.type "zip")⟩, ⟨PyData.keyHash P s81, (.str s81 81), (.bool true)⟩, ⟨PyData.keyHash P s82, (.str s82 82), (.type "BaseException")⟩, ⟨PyData.keyHash P s83, (.str s83 83), (.type "BaseExceptionGroup")⟩, ⟨PyData.keyHash P s84, (.str s84 84), (.type "Exception")⟩, ⟨PyData.keyHash P s85, (.str s85 85), (.type "GeneratorExit")⟩, ⟨PyData.keyHash P s86, (.str s86 86), (.type "KeyboardInterrupt")⟩, ⟨PyData.keyHash P s87, (.str s87 87), (.type "SystemExit")⟩, ⟨PyData.keyHash P s88, (.str s88 88), (.type "ArithmeticError")⟩, ⟨PyData.keyHash P s89, (.str s89 89), (.type "AssertionError")⟩, ⟨PyData.keyHash P s90, (.str s90 90), (.type "AttributeError")⟩, ⟨PyData.keyHash P s91, (.str s91 91), (.type "BufferError")⟩, ⟨PyData.keyHash P s92, (.str s92 92), (.type "EOFError")⟩, ⟨PyData.keyHash P s93, (.str s93 93), (.type "ImportError")⟩, ⟨PyData.keyHash P s94, (.str s94 94), (.type "LookupError")⟩, ⟨PyData.keyHash P s95, (.str s95 95), (.type "MemoryError")⟩, ⟨PyData.keyHash P s96, (.str s96 96), (.type "NameError")⟩, ⟨PyData.keyHash P s97, (.str s97 97), (.type "OSError")⟩, ⟨PyData.keyHash P s98, (.str s98 98), (.type "ReferenceError")⟩, ⟨PyData.keyHash P s99, (.str s99 99), (.type "RuntimeError")⟩, ⟨PyData.keyHash P s100, (.str s100 100), (.type "StopAsyncIteration")⟩, ⟨PyData.keyHash P s101, (.str s101 101), (.type "StopIteration")⟩, ⟨PyData.keyHash P s102, (.str s102 102), (.type "SyntaxError")⟩, ⟨PyData.keyHash P s103, (.str s103 103), (.type "SystemError")⟩, ⟨PyData.keyHash P s104, (.str s104 104), (.type "TypeError")⟩, ⟨PyData.keyHash P s105, (.str s105 105), (.type "ValueError")⟩, ⟨PyData.keyHash P s106, (.str s106 106), (.type "Warning")⟩, ⟨PyData.keyHash P s107, (.str s107 107), (.type "FloatingPointError")⟩, ⟨PyData.keyHash P s108, (.str s108 108), (.type "OverflowError")⟩, ⟨PyData.keyHash P s109, (.str s109 109), (.type "ZeroDivisionError")⟩, ⟨PyData.keyHash P s110, (.str s110 110), (.type "BytesWarning")⟩, ⟨PyData.keyHash P s111, (.str s111 111), (.type "DeprecationWarning")⟩, ⟨PyData.keyHash P s112, (.str s112 112), (.type "EncodingWarning")⟩, ⟨PyData.keyHash P s113, (.str s113 113), (.type "FutureWarning")⟩, ⟨PyData.keyHash P s114, (.str s114 114), (.type "ImportWarning")⟩, ⟨PyData.keyHash P s115, (.str s115 115), (.type "PendingDeprecationWarning")⟩, ⟨PyData.keyHash P s116, (.str s116 116), (.type "ResourceWarning")⟩, ⟨PyData.keyHash P s117, (.str s117 117), (.type "RuntimeWarning")⟩, ⟨PyData.keyHash P s118, (.str s118 118), (.type "SyntaxWarning")⟩, ⟨PyData.keyHash P s119, (.str s119 119), (.type "UnicodeWarning")⟩, ⟨PyData.keyHash P s120, (.str s120 120), (.type "UserWarning")⟩, ⟨PyData.keyHash P s121, (.str s121 121), (.type "BlockingIOError")⟩, ⟨PyData.keyHash P s122, (.str s122 122), (.type "ChildProcessError")⟩, ⟨PyData.keyHash P s123, (.str s123 123), (.type "ConnectionError")⟩, ⟨PyData.keyHash P s124, (.str s124 124), (.type "FileExistsError")⟩, ⟨PyData.keyHash P s125, (.str s125 125), (.type "FileNotFoundError")⟩, ⟨PyData.keyHash P s126, (.str s126 126), (.type "InterruptedError")⟩, ⟨PyData.keyHash P s127, (.str s127 127), (.type "IsADirectoryError")⟩, ⟨PyData.keyHash P s128, (.str s128 128), (.type "NotADirectoryError")⟩, ⟨PyData.keyHash P s129, (.str s129 129), (.type "PermissionError")⟩, ⟨PyData.keyHash P s130, (.str s130 130), (.type "ProcessLookupError")⟩, ⟨PyData.keyHash P s131, (.str s131 131), (.type "TimeoutError")⟩, ⟨PyData.keyHash P s132, (.str s132 132), (.type "IndentationError")⟩, ⟨PyData.keyHash P s133, (.str s133 133), (.type "_IncompleteInputError")⟩, ⟨PyData.keyHash P s134, (.str s134 134), (.type "IndexError")⟩, ⟨PyData.keyHash P s135, (.str s135 135), (.type "KeyError")⟩, ⟨PyData.keyHash P s136, (.str s136 136), (.type "ModuleNotFoundError")⟩, ⟨PyData.keyHash P s137, (.str s137 137), (.type "NotImplementedError")⟩, ⟨PyData.keyHash P s138, (.str s138 138), (.type "PythonFinalizationError")⟩, ⟨PyData.keyHash P s139, (.str s139 139), (.type "RecursionError")⟩, ⟨PyData.keyHash P s140, (.str s140 140), (.type "UnboundLocalError")⟩, ⟨PyData.keyHash P s141, (.str s141 141), (.type "UnicodeError")⟩, ⟨PyData.keyHash P s142, (.str s142 142), (.type "BrokenPipeError")⟩, ⟨PyData.keyHash P s143, (.str s143 143), (.type "ConnectionAbortedError")⟩, ⟨PyData.keyHash P s144, (.str s144 144), (.type "ConnectionRefusedError")⟩, ⟨PyData.keyHash P s145, (.str s145 145), (.type "ConnectionResetError")⟩, ⟨PyData.keyHash P s146, (.str s146 146), (.type "TabError")⟩, ⟨PyData.keyHash P s147, (.str s147 147), (.type "UnicodeDecodeError")⟩, ⟨PyData.keyHash P s148, (.str s148 148), (.type "UnicodeEncodeError")⟩, ⟨PyData.keyHash P s149, (.str s149 149), (.type "UnicodeTranslateError")⟩, ⟨PyData.keyHash P s150, (.str s150 150), (.type "ExceptionGroup")⟩, ⟨PyData.keyHash P s151, (.str s151 151), (.type "OSError")⟩, ⟨PyData.keyHash P s152, (.str s152 152), (.type "OSError")⟩, ⟨PyData.keyHash P s153, (.str s153 153), (.builtin "open")⟩, ⟨PyData.keyHash P s154, (.str s154 154), (.builtin "builtins.quit#opaque")⟩, ⟨PyData.keyHash P s155, (.str s155 155), (.builtin "builtins.exit#opaque")⟩, ⟨PyData.keyHash P s156, (.str s156 156), (.builtin "builtins.copyright#opaque")⟩, ⟨PyData.keyHash P s157, (.str s157 157), (.builtin "builtins.credits#opaque")⟩, ⟨PyData.keyHash P s158, (.str s158 158), (.builtin "builtins.license#opaque")⟩, ⟨PyData.keyHash P s159, (.str s159 159), (.builtin "builtins.help#opaque")⟩]⟩ 159), ⟨[]⟩⟩
noncomputable def k2 (P : Params) : Obj := ⟨.none, none, (.dict ⟨[⟨PyData.keyHash P s160, (.str s160 183), (.bool true)⟩, ⟨PyData.keyHash P s161, (.str s161 185), (.ref 14)⟩, ⟨PyData.keyHash P s162, (.str s162 206), (.ref 18)⟩, ⟨PyData.keyHash P s163, (.str s163 216), (.ref 22)⟩, ⟨PyData.keyHash P s164, (.str s164 245), (.int 4 0)⟩, ⟨PyData.keyHash P s165, (.str s165 270), (.bool true)⟩, ⟨PyData.keyHash P s166, (.str s166 272), (.ref 27)⟩, ⟨PyData.keyHash P s167, (.str s167 0), (.str s168 0)⟩, ⟨PyData.keyHash P s169, (.str s169 273), (.str s170 0)⟩, ⟨PyData.keyHash P s171, (.str s171 280), (.bool true)⟩, ⟨PyData.keyHash P s172, (.str s172 294), (.bool true)⟩, ⟨PyData.keyHash P s173, (.str s173 309), (.bool true)⟩, ⟨PyData.keyHash P s174, (.str s174 311), (.str s175 0)⟩, ⟨PyData.keyHash P s176, (.str s176 576), (.int 188 0)⟩, ⟨PyData.keyHash P s177, (.str s177 577), (.int 1 0)⟩]⟩ 15), ⟨[]⟩⟩
noncomputable def k3 (P : Params) : Obj := ⟨(.type "dict"), none, (.dict ⟨[⟨PyData.keyHash P s0, (.str s0 165), (.str s178 1417)⟩, ⟨PyData.keyHash P s2, (.str s2 166), .none⟩, ⟨PyData.keyHash P s3, (.str s3 167), .none⟩, ⟨PyData.keyHash P s4, (.str s4 168), (.builtin "__main__.__loader__#opaque")⟩, ⟨PyData.keyHash P s5, (.str s5 169), .none⟩, ⟨PyData.keyHash P s179, (.str s179 170), (.ref 6)⟩, ⟨PyData.keyHash P s180, (.str s180 171), (.ref 4)⟩, ⟨PyData.keyHash P s181, (.str s181 173), (.str s182 172)⟩, ⟨PyData.keyHash P s183, (.str s183 174), .none⟩, ⟨PyData.keyHash P s184, (.str s184 275), (.ref 12)⟩, ⟨PyData.keyHash P s185, (.str s185 317), (.type "collections.deque")⟩, ⟨PyData.keyHash P s186, (.str s186 330), (.ref 44)⟩, ⟨PyData.keyHash P s187, (.str s187 341), (.ref 51)⟩, ⟨PyData.keyHash P s188, (.str s188 367), (.ref 68)⟩, ⟨PyData.keyHash P s189, (.str s189 410), (.ref 101)⟩, ⟨PyData.keyHash P s190, (.str s190 417), (.ref 110)⟩, ⟨PyData.keyHash P s191, (.str s191 429), (.ref 117)⟩, ⟨PyData.keyHash P s192, (.str s192 442), (.ref 735)⟩, ⟨PyData.keyHash P s193, (.str s193 443), (.ref 124)⟩, ⟨PyData.keyHash P s194, (.str s194 452), (.ref 131)⟩, ⟨PyData.keyHash P s195, (.str s195 463), (.ref 749)⟩, ⟨PyData.keyHash P s196, (.str s196 464), (.ref 138)⟩, ⟨PyData.keyHash P s197, (.str s197 473), (.ref 145)⟩, ⟨PyData.keyHash P s198, (.str s198 488), (.ref 152)⟩, ⟨PyData.keyHash P s199, (.str s199 499), (.ref 159)⟩, ⟨PyData.keyHash P s200, (.str s200 539), (.ref 164)⟩, ⟨PyData.keyHash P s201, (.str s201 549), (.ref 171)⟩, ⟨PyData.keyHash P s202, (.str s202 557), (.ref 178)⟩, ⟨PyData.keyHash P s203, (.str s203 579), (.ref 188)⟩, ⟨PyData.keyHash P s204, (.str s204 611), (.ref 208)⟩, ⟨PyData.keyHash P s205, (.str s205 629), (.ref 223)⟩, ⟨PyData.keyHash P s206, (.str s206 647), (.ref 235)⟩, ⟨PyData.keyHash P s207, (.str s207 909), (.ref 465)⟩, ⟨PyData.keyHash P s208, (.str s208 1196), (.ref 712)⟩, ⟨PyData.keyHash P s209, (.str s209 1207), (.ref 721)⟩, ⟨PyData.keyHash P s210, (.str s210 1216), (.ref 728)⟩, ⟨PyData.keyHash P s211, (.str s211 1227), (.ref 735)⟩, ⟨PyData.keyHash P s212, (.str s212 1234), (.ref 742)⟩, ⟨PyData.keyHash P s213, (.str s213 1246), (.ref 749)⟩, ⟨PyData.keyHash P s214, (.str s214 1256), (.ref 756)⟩, ⟨PyData.keyHash P s215, (.str s215 1397), (.ref 847)⟩, ⟨PyData.keyHash P s216, (.str s216 1407), (.ref 859)⟩, ⟨PyData.keyHash P s217, (.str s217 1409), (.ref 860)⟩, ⟨PyData.keyHash P s218, (.str s218 1416), (.ref 867)⟩, ⟨PyData.keyHash P s219, (.str s219 1426), (.ref 874)⟩, ⟨PyData.keyHash P s220, (.str s220 1437), (.ref 881)⟩, ⟨PyData.keyHash P s221, (.str s221 1443), (.ref 886)⟩, ⟨PyData.keyHash P s222, (.str s222 1449), (.ref 891)⟩]⟩ 48), ⟨[]⟩⟩
noncomputable def k4 (P : Params) : Obj := ⟨(.type "module"), (some 0), .plain, ⟨[]⟩⟩
noncomputable def k116 (P : Params) : Obj := ⟨(.type "code"), none, (.fields ⟨[(.str s191 420), (.str s191 421), (.str s182 422), (.int 37 0), (.int 1 0), (.int 0 0), (.int 0 0), (.int 3 0), (.ref 111), (.bool true), (.int 318 0), (.ref 112), .none, (.ref 113), (.ref 114), (.ref 115), (.int 427 0), (.int 37 0), (.str s182 428)]⟩), ⟨[]⟩⟩
noncomputable def k117 (P : Params) : Obj := ⟨(.type "function"), none, (.func { name := s191, qualname := s191, params := fnA (tS 11), body := .stmts (fnB (tS 11)), scope := fnS (tS 11), globals := 3, closure := [], defaults := .none, kwdefaults := .none, doc := .none, pyModule := (.str s223 418), annotations := none, code := (.ref 116), closureTuple := .none, builtins := 0 }), ⟨[]⟩⟩
noncomputable def k130 (P : Params) : Obj := ⟨(.type "code"), none, (.fields ⟨[(.str s194 446), (.str s194 447), (.str s182 448), (.int 67 0), (.int 1 0), (.int 0 0), (.int 0 0), (.int 3 0), (.ref 125), (.bool true), (.int 318 0), (.ref 126), .none, (.ref 127), (.ref 128), (.ref 129), (.int 450 0), (.int 67 0), (.str s182 451)]⟩), ⟨[]⟩⟩
noncomputable def k131 (P : Params) : Obj := ⟨(.type "function"), none, (.func { name := s194, qualname := s194, params := fnA (tS 16), body := .stmts (fnB (tS 16)), scope := fnS (tS 16), globals := 3, closure := [], defaults := .none, kwdefaults := .none, doc := .none, pyModule := (.str s224 444), annotations := none, code := (.ref 130), closureTuple := .none, builtins := 0 }), ⟨[]⟩⟩
noncomputable def k137 (P : Params) : Obj := ⟨(.type "code"), none, (.fields ⟨[(.str s195 453), (.str s195 454), (.str s182 455), (.int 72 0), (.int 1 0), (.int 0 0), (.int 0 0), (.int 7 0), (.ref 132), (.bool true), (.int 318 0), (.ref 133), .none, (.ref 134), (.ref 135), (.ref 136), (.int 461 0), (.int 72 0), (.str s182 462)]⟩), ⟨[]⟩⟩
noncomputable def k138 (P : Params) : Obj := ⟨(.type "function"), none, (.func { name := s195, qualname := s195, params := fnA (tS 17), body := .stmts (fnB (tS 17)), scope := fnS (tS 17), globals := 3, closure := [], defaults := .none, kwdefaults := .none, doc := .none, pyModule := (.str s224 444), annotations := none, code := (.ref 137), closureTuple := .none, builtins := 0 }), ⟨[]⟩⟩
noncomputable def k144 (P : Params) : Obj := ⟨(.type "code"), none, (.fields ⟨[(.str s197 465), (.str s197 466), (.str s182 467), (.int 90 0), (.int 1 0), (.int 0 0), (.int 0 0), (.int 3 0), (.ref 139), (.bool true), (.int 318 0), (.ref 140), .none, (.ref 141), (.ref 142), (.ref 143), (.int 471 0), (.int 90 0), (.str s182 472)]⟩), ⟨[]⟩⟩
noncomputable def k145 (P : Params) : Obj := ⟨(.type "function"), none, (.func { name := s197, qualname := s197, params := fnA (tS 19), body := .stmts (fnB (tS 19)), scope := fnS (tS 19), globals := 3, closure := [], defaults := .none, kwdefaults := .none, doc := .none, pyModule := (.str s224 444), annotations := none, code := (.ref 144), closureTuple := .none, builtins := 0 }), ⟨[]⟩⟩
noncomputable def k151 (P : Params) : Obj := ⟨(.type "code"), none, (.fields ⟨[(.str s198 474), (.str s198 475), (.str s182 476), (.int 104 0), (.int 1 0), (.int 0 0), (.int 0 0), (.int 3 0), (.ref 146), (.bool true), (.int 318 0), (.ref 147), .none, (.ref 148), (.ref 149), (.ref 150), (.int 486 0), (.int 104 0), (.str s182 487)]⟩), ⟨[]⟩⟩
noncomputable def k152 (P : Params) : Obj := ⟨(.type "function"), none, (.func { name := s198, qualname := s198, params := fnA (tS 20), body := .stmts (fnB (tS 20)), scope := fnS (tS 20), globals := 3, closure := [], defaults := .none, kwdefaults := .none, doc := .none, pyModule := (.str s224 444), annotations := none, code := (.ref 151), closureTuple := .none, builtins := 0 }), ⟨[]⟩⟩
noncomputable def k158 (P : Params) : Obj := ⟨(.type "code"), none, (.fields ⟨[(.str s199 491), (.str s199 492), (.str s182 493), (.int 130 0), (.int 1 0), (.int 0 0), (.int 0 0), (.int 3 0), (.ref 153), (.bool true), (.int 318 0), (.ref 154), .none, (.ref 155), (.ref 156), (.ref 157), (.int 497 0), (.int 130 0), (.str s182 498)]⟩), ⟨[]⟩⟩
noncomputable def k159 (P : Params) : Obj := ⟨(.type "function"), none, (.func { name := s199, qualname := s199, params := fnA (tS 22), body := .stmts (fnB (tS 22)), scope := fnS (tS 22), globals := 3, closure := [], defaults := .none, kwdefaults := .none, doc := .none, pyModule := (.str s225 489), annotations := none, code := (.ref 158), closureTuple := .none, builtins := 0 }), ⟨[]⟩⟩
noncomputable def k163 (P : Params) : Obj := ⟨(.type "tuple"), none, (.seq ⟨[(.int 14 0), (.int 17 0), (.int 4 0), (.int 1 0), (.int 1 0), (.int 21 0), (.int 9 0), (.int 0 0), (.int 604043296 0), (.int 1 0), (.int 0 0), (.int 0 0), (.int 0 0), (.int 0 0), (.int 0 0), (.int 8 0), (.int 4 0), (.int 0 0), (.int 13 0), (.int 14 0), (.int 21 0), (.int 9 0), (.int 0 0), (.int 604043296 0), (.int 1 0), (.int 0 0), (.int 0 0), (.int 0 0), (.int 0 0), (.int 0 0), (.int 8 0), (.int 4 0), (.int 0 0), (.int 1 0)]⟩ 0), ⟨[]⟩⟩
noncomputable def k164 (P : Params) : Obj := ⟨(.type "re.Pattern"), none, (.fields ⟨[(.str s226 501), (.int 256 538), (.int 0 0), .none, .none, (.ref 163), (.int 0 0)]⟩), ⟨[]⟩⟩
noncomputable def k177 (P : Params) : Obj := ⟨(.type "code"), none, (.fields ⟨[(.str s202 550), (.str s202 551), (.str s182 552), (.int 145 0), (.int 2 0), (.int 0 0), (.int 0 0), (.int 3 0), (.ref 172), (.bool true), (.int 318 0), (.ref 173), .none, (.ref 174), (.ref 175), (.ref 176), (.int 555 0), (.int 145 0), (.str s182 556)]⟩), ⟨[]⟩⟩
noncomputable def k178 (P : Params) : Obj := ⟨(.type "function"), none, (.func { name := s202, qualname := s202, params := fnA (tS 26), body := .stmts (fnB (tS 26)), scope := fnS (tS 26), globals := 3, closure := [], defaults := .none, kwdefaults := .none, doc := .none, pyModule := (.str s227 540), annotations := none, code := (.ref 177), closureTuple := .none, builtins := 0 }), ⟨[]⟩⟩
noncomputable def k204 (P : Params) : Obj := ⟨(.type "code"), none, (.fields ⟨[(.str s228 594), (.str s229 595), (.str s182 596), (.int 157 0), (.int 1 0), (.int 1 0), (.int 0 0), (.int 15 0), (.ref 199), (.bool true), (.int 318 0), (.ref 200), .none, (.ref 201), (.ref 202), (.ref 203), (.int 600 0), (.int 157 0), (.str s182 601)]⟩), ⟨[]⟩⟩
noncomputable def k205 (P : Params) : Obj := ⟨(.type "function"), none, (.func { name := s228, qualname := s229, params := fnA (cS 28 1), body := .stmts (fnB (cS 28 1)), scope := fnS (cS 28 1), globals := 3, closure := [], defaults := .none, kwdefaults := .none, doc := .none, pyModule := (.str s227 540), annotations := none, code := (.ref 204), closureTuple := .none, builtins := 0 }), ⟨[]⟩⟩
noncomputable def k207 (P : Params) : Obj := ⟨(.type "dict"), none, (.dict ⟨[⟨PyData.keyHash P s230, (.str s230 587), (.str s227 592)⟩, ⟨PyData.keyHash P s231, (.str s231 591), (.int 154 590)⟩, ⟨PyData.keyHash P s228, (.str s228 602), (.ref 209)⟩, ⟨PyData.keyHash P s232, (.str s232 603), (.ref 206)⟩, ⟨PyData.keyHash P s233, (.str s233 606), (.ref 210)⟩, ⟨PyData.keyHash P s234, (.str s234 608), (.ref 211)⟩, ⟨PyData.keyHash P s2, (.str s2 609), .none⟩]⟩ 4), ⟨[]⟩⟩
noncomputable def k208 (P : Params) : Obj := ⟨(.type "type"), none, (.cls { name := s204, bases := [(.type "object")], mro := [(.ref 208), (.type "object")], ns := 207, qualname := s204, hasDict := true, slotNames := [], subclasses := [(.ref 223), (.ref 235)], abstract := false, collection := none, hasDel := false }), ⟨[none, none, (some (.str s204 580)), (some (.str s204 588)), (some .none), (some (.bool true))]⟩⟩
noncomputable def k209 (P : Params) : Obj := ⟨(.type "staticmethod"), none, (.fields ⟨[(.ref 205)]⟩), ⟨[]⟩⟩
noncomputable def k234 (P : Params) : Obj := ⟨(.type "dict"), none, (.dict ⟨[⟨PyData.keyHash P s230, (.str s230 637), (.str s227 642)⟩, ⟨PyData.keyHash P s231, (.str s231 641), (.int 163 640)⟩, ⟨PyData.keyHash P s232, (.str s232 644), (.ref 233)⟩, ⟨PyData.keyHash P s2, (.str s2 645), .none⟩]⟩ 2), ⟨[]⟩⟩
noncomputable def k235 (P : Params) : Obj := ⟨(.type "type"), none, (.cls { name := s206, bases := [(.ref 208)], mro := [(.ref 235), (.ref 208), (.type "object")], ns := 234, qualname := s206, hasDict := true, slotNames := [], subclasses := [(.ref 712)], abstract := false, collection := none, hasDel := false }), ⟨[(some (.ref 226)), none, (some (.str s206 630)), (some (.str s206 638)), (some .none), (some (.bool true))]⟩⟩
noncomputable def k465 (P : Params) : Obj := ⟨(.type "type"), none, (.cls { name := s207, bases := [(.ref 223)], mro := [(.ref 465), (.ref 223), (.ref 208), (.type "object")], ns := 464, qualname := s207, hasDict := true, slotNames := [], subclasses := [], abstract := false, collection := none, hasDel := false }), ⟨[(some (.ref 238)), none, (some (.str s207 648)), (some (.str s207 656)), (some .none), (some (.bool true))]⟩⟩
noncomputable def k475 (P : Params) : Obj := ⟨(.type "tuple"), none, (.seq ⟨[(.str s235 924), (.str s236 925)]⟩ 0), ⟨[]⟩⟩
noncomputable def k481 (P : Params) : Obj := ⟨(.type "code"), none, (.fields ⟨[(.str s237 926), (.str s238 927), (.str s182 928), (.int 338 0), (.int 3 0), (.int 0 0), (.int 0 0), (.int 3 0), (.ref 476), (.bool true), (.int 318 0), (.ref 477), .none, (.ref 478), (.ref 479), (.ref 480), (.int 932 0), (.int 338 0), (.str s182 933)]⟩), ⟨[]⟩⟩
noncomputable def k482 (P : Params) : Obj := ⟨(.type "function"), none, (.func { name := s237, qualname := s238, params := fnA (cS 32 1), body := .stmts (fnB (cS 32 1)), scope := fnS (cS 32 1), globals := 3, closure := [], defaults := (.ref 475), kwdefaults := .none, doc := .none, pyModule := (.str s227 540), annotations := none, code := (.ref 481), closureTuple := .none, builtins := 0 }), ⟨[]⟩⟩
noncomputable def k488 (P : Params) : Obj := ⟨(.type "code"), none, (.fields ⟨[(.str s239 935), (.str s240 936), (.str s182 937), (.int 351 0), (.int 2 0), (.int 0 0), (.int 0 0), (.int 3 0), (.ref 483), (.bool true), (.int 318 0), (.ref 484), .none, (.ref 485), (.ref 486), (.ref 487), (.int 941 0), (.int 351 0), (.str s182 942)]⟩), ⟨[]⟩⟩
noncomputable def k489 (P : Params) : Obj := ⟨(.type "function"), none, (.func { name := s239, qualname := s240, params := fnA (cS 32 2), body := .stmts (fnB (cS 32 2)), scope := fnS (cS 32 2), globals := 3, closure := [], defaults := .none, kwdefaults := .none, doc := .none, pyModule := (.str s227 540), annotations := none, code := (.ref 488), closureTuple := .none, builtins := 0 }), ⟨[]⟩⟩
noncomputable def k495 (P : Params) : Obj := ⟨(.type "code"), none, (.fields ⟨[(.str s241 944), (.str s242 945), (.str s182 946), (.int 359 0), (.int 1 0), (.int 0 0), (.int 0 0), (.int 3 0), (.ref 490), (.bool true), (.int 318 0), (.ref 491), .none, (.ref 492), (.ref 493), (.ref 494), (.int 948 0), (.int 359 0), (.str s182 949)]⟩), ⟨[]⟩⟩
noncomputable def k496 (P : Params) : Obj := ⟨(.type "function"), none, (.func { name := s241, qualname := s242, params := fnA (cS 32 3), body := .stmts (fnB (cS 32 3)), scope := fnS (cS 32 3), globals := 3, closure := [], defaults := .none, kwdefaults := .none, doc := .none, pyModule := (.str s227 540), annotations := none, code := (.ref 495), closureTuple := .none, builtins := 0 }), ⟨[]⟩⟩
noncomputable def k651 (P : Params) : Obj := ⟨(.type "tuple"), none, (.seq ⟨[(.int (-1) 1117)]⟩ 0), ⟨[]⟩⟩
noncomputable def k657 (P : Params) : Obj := ⟨(.type "code"), none, (.fields ⟨[(.str s243 1118), (.str s244 1119), (.str s182 1120), (.int 481 0), (.int 2 0), (.int 2 0), (.int 0 0), (.int 3 0), (.ref 652), (.bool true), (.int 318 0), (.ref 653), .none, (.ref 654), (.ref 655), (.ref 656), (.int 1125 0), (.int 481 0), (.str s182 1126)]⟩), ⟨[]⟩⟩
noncomputable def k658 (P : Params) : Obj := ⟨(.type "function"), none, (.func { name := s243, qualname := s244, params := fnA (cS 32 25), body := .stmts (fnB (cS 32 25)), scope := fnS (cS 32 25), globals := 3, closure := [], defaults := (.ref 651), kwdefaults := .none, doc := .none, pyModule := (.str s227 540), annotations := none, code := (.ref 657), closureTuple := .none, builtins := 0 }), ⟨[]⟩⟩
noncomputable def k711 (P : Params) : Obj := ⟨(.type "dict"), none, (.dict ⟨[⟨PyData.keyHash P s230, (.str s230 917), (.str s245 922)⟩, ⟨PyData.keyHash P s231, (.str s231 921), (.int 335 920)⟩, ⟨PyData.keyHash P s237, (.str s237 934), (.ref 482)⟩, ⟨PyData.keyHash P s246, (.str s246 943), (.ref 489)⟩, ⟨PyData.keyHash P s247, (.str s247 950), (.ref 496)⟩, ⟨PyData.keyHash P s248, (.str s248 957), (.ref 503)⟩, ⟨PyData.keyHash P s249, (.str s249 972), (.ref 510)⟩, ⟨PyData.keyHash P s250, (.str s250 980), (.ref 518)⟩, ⟨PyData.keyHash P s251, (.str s251 988), (.ref 526)⟩, ⟨PyData.keyHash P s252, (.str s252 996), (.ref 534)⟩, ⟨PyData.keyHash P s253, (.str s253 1004), (.ref 542)⟩, ⟨PyData.keyHash P s254, (.str s254 1012), (.ref 550)⟩, ⟨PyData.keyHash P s255, (.str s255 1019), (.ref 557)⟩, ⟨PyData.keyHash P s256, (.str s256 1026), (.ref 564)⟩, ⟨PyData.keyHash P s257, (.str s257 1034), (.ref 571)⟩, ⟨PyData.keyHash P s258, (.str s258 1041), (.ref 578)⟩, ⟨PyData.keyHash P s259, (.str s259 1048), (.ref 585)⟩, ⟨PyData.keyHash P s260, (.str s260 1055), (.ref 592)⟩, ⟨PyData.keyHash P s261, (.str s261 1062), (.ref 599)⟩, ⟨PyData.keyHash P s262, (.str s262 1069), (.ref 606)⟩, ⟨PyData.keyHash P s263, (.str s263 1076), (.ref 613)⟩, ⟨PyData.keyHash P s264, (.str s264 1083), (.ref 620)⟩, ⟨PyData.keyHash P s265, (.str s265 1090), (.ref 627)⟩, ⟨PyData.keyHash P s266, (.str s266 1097), (.ref 634)⟩, ⟨PyData.keyHash P s267, (.str s267 1107), (.ref 642)⟩, ⟨PyData.keyHash P s268, (.str s268 1115), (.ref 650)⟩, ⟨PyData.keyHash P s243, (.str s243 1127), (.ref 658)⟩, ⟨PyData.keyHash P s269, (.str s269 1137), (.ref 666)⟩, ⟨PyData.keyHash P s270, (.str s270 1147), (.ref 674)⟩, ⟨PyData.keyHash P s271, (.str s271 1154), (.ref 681)⟩, ⟨PyData.keyHash P s272, (.str s272 1162), (.ref 688)⟩, ⟨PyData.keyHash P s273, (.str s273 1174), (.ref 695)⟩, ⟨PyData.keyHash P s274, (.str s274 1182), (.ref 702)⟩, ⟨PyData.keyHash P s275, (.str s275 1189), (.ref 709)⟩, ⟨PyData.keyHash P s232, (.str s232 1193), (.ref 710)⟩, ⟨PyData.keyHash P s2, (.str s2 1194), .none⟩]⟩ 2), ⟨[]⟩⟩
noncomputable def k712 (P : Params) : Obj := ⟨(.type "type"), none, (.cls { name := s208, bases := [(.ref 235)], mro := [(.ref 712), (.ref 235), (.ref 208), (.type "object")], ns := 711, qualname := s208, hasDict := true, slotNames := [], subclasses := [], abstract := false, collection := none, hasDel := false }), ⟨[(some (.ref 468)), none, (some (.str s208 910)), (some (.str s208 918)), (some .none), (some (.bool true))]⟩⟩
noncomputable def k764 (P : Params) : Obj := ⟨(.type "tuple"), none, (.seq ⟨[.none, .none, (.bool false), (.bool false)]⟩ 0), ⟨[]⟩⟩
noncomputable def k770 (P : Params) : Obj := ⟨(.type "code"), none, (.fields ⟨[(.str s237 1271), (.str s276 1272), (.str s182 1273), (.int 608 0), (.int 5 0), (.int 0 0), (.int 0 0), (.int 3 0), (.ref 765), (.bool true), (.int 318 0), (.ref 766), .none, (.ref 767), (.ref 768), (.ref 769), (.int 1280 0), (.int 608 0), (.str s182 1281)]⟩), ⟨[]⟩⟩
noncomputable def k771 (P : Params) : Obj := ⟨(.type "function"), none, (.func { name := s237, qualname := s276, params := fnA (cS 43 0), body := .stmts (fnB (cS 43 0)), scope := fnS (cS 43 0), globals := 3, closure := [], defaults := (.ref 764), kwdefaults := .none, doc := .none, pyModule := (.str s277 1257), annotations := none, code := (.ref 770), closureTuple := .none, builtins := 0 }), ⟨[]⟩⟩
noncomputable def k777 (P : Params) : Obj := ⟨(.type "code"), none, (.fields ⟨[(.str s278 1283), (.str s279 1284), (.str s182 1285), (.int 649 0), (.int 1 0), (.int 0 0), (.int 0 0), (.int 3 0), (.ref 772), (.bool true), (.int 318 0), (.ref 773), .none, (.ref 774), (.ref 775), (.ref 776), (.int 1287 0), (.int 649 0), (.str s182 1288)]⟩), ⟨[]⟩⟩
noncomputable def k778 (P : Params) : Obj := ⟨(.type "function"), none, (.func { name := s278, qualname := s279, params := fnA (cS 43 1), body := .stmts (fnB (cS 43 1)), scope := fnS (cS 43 1), globals := 3, closure := [], defaults := .none, kwdefaults := .none, doc := .none, pyModule := (.str s277 1257), annotations := none, code := (.ref 777), closureTuple := .none, builtins := 0 }), ⟨[]⟩⟩
noncomputable def k779 (P : Params) : Obj := ⟨(.type "property"), none, (.fields ⟨[(.ref 778), .none, .none, .none, (.str s278 1290), (.bool false)]⟩), ⟨[]⟩⟩
noncomputable def k807 (P : Params) : Obj := ⟨(.type "code"), none, (.fields ⟨[(.str s280 1315), (.str s281 1316), (.str s182 1317), (.int 676 0), (.int 1 0), (.int 0 0), (.int 0 0), (.int 3 0), (.ref 802), (.bool true), (.int 318 0), (.ref 803), .none, (.ref 804), (.ref 805), (.ref 806), (.int 1324 0), (.int 676 0), (.str s182 1325)]⟩), ⟨[]⟩⟩
noncomputable def k808 (P : Params) : Obj := ⟨(.type "function"), none, (.func { name := s280, qualname := s281, params := fnA (cS 43 5), body := .stmts (fnB (cS 43 5)), scope := fnS (cS 43 5), globals := 3, closure := [], defaults := .none, kwdefaults := .none, doc := .none, pyModule := (.str s277 1257), annotations := none, code := (.ref 807), closureTuple := .none, builtins := 0 }), ⟨[]⟩⟩
noncomputable def k814 (P : Params) : Obj := ⟨(.type "code"), none, (.fields ⟨[(.str s282 1327), (.str s283 1328), (.str s182 1329), (.int 703 0), (.int 1 0), (.int 0 0), (.int 0 0), (.int 3 0), (.ref 809), (.bool true), (.int 318 0), (.ref 810), .none, (.ref 811), (.ref 812), (.ref 813), (.int 1335 0), (.int 703 0), (.str s182 1336)]⟩), ⟨[]⟩⟩
noncomputable def k815 (P : Params) : Obj := ⟨(.type "function"), none, (.func { name := s282, qualname := s283, params := fnA (cS 43 6), body := .stmts (fnB (cS 43 6)), scope := fnS (cS 43 6), globals := 3, closure := [], defaults := .none, kwdefaults := .none, doc := .none, pyModule := (.str s277 1257), annotations := none, code := (.ref 814), closureTuple := .none, builtins := 0 }), ⟨[]⟩⟩
noncomputable def k836 (P : Params) : Obj := ⟨(.type "code"), none, (.fields ⟨[(.str s271 1355), (.str s284 1356), (.str s182 1357), (.int 850 0), (.int 1 0), (.int 0 0), (.int 0 0), (.int 3 0), (.ref 831), (.bool true), (.int 318 0), (.ref 832), .none, (.ref 833), (.ref 834), (.ref 835), (.int 1359 0), (.int 850 0), (.str s182 1360)]⟩), ⟨[]⟩⟩
noncomputable def k837 (P : Params) : Obj := ⟨(.type "function"), none, (.func { name := s271, qualname := s284, params := fnA (cS 43 9), body := .stmts (fnB (cS 43 9)), scope := fnS (cS 43 9), globals := 3, closure := [], defaults := .none, kwdefaults := .none, doc := .none, pyModule := (.str s277 1257), annotations := none, code := (.ref 836), closureTuple := .none, builtins := 0 }), ⟨[]⟩⟩
noncomputable def k843 (P : Params) : Obj := ⟨(.type "code"), none, (.fields ⟨[(.str s272 1362), (.str s285 1363), (.str s182 1364), (.int 853 0), (.int 1 0), (.int 0 0), (.int 0 0), (.int 3 0), (.ref 838), (.bool true), (.int 318 0), (.ref 839), .none, (.ref 840), (.ref 841), (.ref 842), (.int 1367 0), (.int 853 0), (.str s182 1368)]⟩), ⟨[]⟩⟩
noncomputable def k844 (P : Params) : Obj := ⟨(.type "function"), none, (.func { name := s272, qualname := s285, params := fnA (cS 43 10), body := .stmts (fnB (cS 43 10)), scope := fnS (cS 43 10), globals := 3, closure := [], defaults := .none, kwdefaults := .none, doc := .none, pyModule := (.str s277 1257), annotations := none, code := (.ref 843), closureTuple := .none, builtins := 0 }), ⟨[]⟩⟩
noncomputable def k846 (P : Params) : Obj := ⟨(.type "dict"), none, (.dict ⟨[⟨PyData.keyHash P s230, (.str s230 1266), (.str s277 1257)⟩, ⟨PyData.keyHash P s231, (.str s231 1270), (.int 606 1269)⟩, ⟨PyData.keyHash P s237, (.str s237 1282), (.ref 771)⟩, ⟨PyData.keyHash P s278, (.str s278 1290), (.ref 779)⟩, ⟨PyData.keyHash P s286, (.str s286 1298), (.ref 786)⟩, ⟨PyData.keyHash P s287, (.str s287 1307), (.ref 794)⟩, ⟨PyData.keyHash P s288, (.str s288 1314), (.ref 801)⟩, ⟨PyData.keyHash P s280, (.str s280 1326), (.ref 808)⟩, ⟨PyData.keyHash P s282, (.str s282 1337), (.ref 815)⟩, ⟨PyData.keyHash P s289, (.str s289 1345), (.ref 822)⟩, ⟨PyData.keyHash P s290, (.str s290 1354), (.ref 830)⟩, ⟨PyData.keyHash P s271, (.str s271 1361), (.ref 837)⟩, ⟨PyData.keyHash P s272, (.str s272 1369), (.ref 844)⟩, ⟨PyData.keyHash P s232, (.str s232 1390), (.ref 845)⟩, ⟨PyData.keyHash P s233, (.str s233 1392), (.ref 848)⟩, ⟨PyData.keyHash P s234, (.str s234 1394), (.ref 849)⟩, ⟨PyData.keyHash P s2, (.str s2 1395), .none⟩]⟩ 4), ⟨[]⟩⟩
noncomputable def k847 (P : Params) : Obj := ⟨(.type "type"), none, (.cls { name := s215, bases := [(.type "object")], mro := [(.ref 847), (.type "object")], ns := 846, qualname := s215, hasDict := true, slotNames := [], subclasses := [], abstract := false, collection := none, hasDel := false }), ⟨[none, none, (some (.str s215 1259)), (some (.str s215 1267)), (some (.builtin "object.__new__")), (some (.bool true))]⟩⟩
noncomputable def k852 (P : Params) : Obj := ⟨(.type "tuple"), none, (.seq ⟨[(.bool false), (.bool true)]⟩ 0), ⟨[]⟩⟩
noncomputable def k858 (P : Params) : Obj := ⟨(.type "code"), none, (.fields ⟨[(.str s216 1398), (.str s216 1399), (.str s182 1400), (.int 858 0), (.int 3 0), (.int 0 0), (.int 0 0), (.int 3 0), (.ref 853), (.bool true), (.int 318 0), (.ref 854), .none, (.ref 855), (.ref 856), (.ref 857), (.int 1405 0), (.int 858 0), (.str s182 1406)]⟩), ⟨[]⟩⟩
noncomputable def k859 (P : Params) : Obj := ⟨(.type "function"), none, (.func { name := s216, qualname := s216, params := fnA (tS 44), body := .stmts (fnB (tS 44)), scope := fnS (tS 44), globals := 3, closure := [], defaults := (.ref 852), kwdefaults := .none, doc := .none, pyModule := (.str s277 1257), annotations := none, code := (.ref 858), closureTuple := .none, builtins := 0 }), ⟨[]⟩⟩
noncomputable def k860 (P : Params) : Obj := ⟨(.type "builtin_function_or_method"), none, (.fields ⟨[(.builtin "re.Pattern.search"), (.ref 164)]⟩), ⟨[]⟩⟩
noncomputable def k866 (P : Params) : Obj := ⟨(.type "code"), none, (.fields ⟨[(.str s218 1410), (.str s218 1411), (.str s182 1412), (.int 867 0), (.int 1 0), (.int 0 0), (.int 0 0), (.int 3 0), (.ref 861), (.bool true), (.int 318 0), (.ref 862), .none, (.ref 863), (.ref 864), (.ref 865), (.int 1414 0), (.int 867 0), (.str s182 1415)]⟩), ⟨[]⟩⟩
noncomputable def k867 (P : Params) : Obj := ⟨(.type "function"), none, (.func { name := s218, qualname := s218, params := fnA (tS 46), body := .stmts (fnB (tS 46)), scope := fnS (tS 46), globals := 3, closure := [], defaults := .none, kwdefaults := .none, doc := .none, pyModule := (.str s277 1257), annotations := none, code := (.ref 866), closureTuple := .none, builtins := 0 }), ⟨[]⟩⟩
noncomputable def k873 (P : Params) : Obj := ⟨(.type "code"), none, (.fields ⟨[(.str s219 1419), (.str s219 1420), (.str s182 1421), (.int 874 0), (.int 1 0), (.int 0 0), (.int 0 0), (.int 3 0), (.ref 868), (.bool true), (.int 318 0), (.ref 869), .none, (.ref 870), (.ref 871), (.ref 872), (.int 1424 0), (.int 874 0), (.str s182 1425)]⟩), ⟨[]⟩⟩
noncomputable def k874 (P : Params) : Obj := ⟨(.type "function"), none, (.func { name := s219, qualname := s219, params := fnA (tS 48), body := .stmts (fnB (tS 48)), scope := fnS (tS 48), globals := 3, closure := [], defaults := .none, kwdefaults := .none, doc := .none, pyModule := (.str s178 1417), annotations := none, code := (.ref 873), closureTuple := .none, builtins := 0 }), ⟨[]⟩⟩
noncomputable def k880 (P : Params) : Obj := ⟨(.type "code"), none, (.fields ⟨[(.str s220 1427), (.str s220 1428), (.str s182 1429), (.int 880 0), (.int 2 0), (.int 0 0), (.int 0 0), (.int 3 0), (.ref 875), (.bool true), (.int 318 0), (.ref 876), .none, (.ref 877), (.ref 878), (.ref 879), (.int 1435 0), (.int 880 0), (.str s182 1436)]⟩), ⟨[]⟩⟩
noncomputable def k881 (P : Params) : Obj := ⟨(.type "function"), none, (.func { name := s220, qualname := s220, params := fnA (tS 49), body := .stmts (fnB (tS 49)), scope := fnS (tS 49), globals := 3, closure := [], defaults := .none, kwdefaults := .none, doc := .none, pyModule := (.str s178 1417), annotations := none, code := (.ref 880), closureTuple := .none, builtins := 0 }), ⟨[]⟩⟩
noncomputable def k885 (P : Params) : Obj := ⟨(.type "code"), none, (.fields ⟨[(.str s221 1438), (.str s221 1439), (.str s182 1440), (.int 885 0), (.int 2 0), (.int 0 0), (.int 0 0), (.int 3 0), (.ref 882), (.bool true), (.int 318 0), (.ref 883), .none, .none, .none, (.ref 884), (.int 1441 0), (.int 885 0), (.str s182 1442)]⟩), ⟨[]⟩⟩
noncomputable def k886 (P : Params) : Obj := ⟨(.type "function"), none, (.func { name := s221, qualname := s221, params := fnA (tS 50), body := .stmts (fnB (tS 50)), scope := fnS (tS 50), globals := 3, closure := [], defaults := .none, kwdefaults := .none, doc := .none, pyModule := (.str s178 1417), annotations := none, code := (.ref 885), closureTuple := .none, builtins := 0 }), ⟨[]⟩⟩
noncomputable def k890 (P : Params) : Obj := ⟨(.type "code"), none, (.fields ⟨[(.str s222 1444), (.str s222 1445), (.str s182 1446), (.int 893 0), (.int 1 0), (.int 0 0), (.int 0 0), (.int 3 0), (.ref 887), (.bool true), (.int 318 0), (.ref 888), .none, .none, .none, (.ref 889), (.int 1447 0), (.int 893 0), (.str s182 1448)]⟩), ⟨[]⟩⟩
noncomputable def k891 (P : Params) : Obj := ⟨(.type "function"), none, (.func { name := s222, qualname := s222, params := fnA (tS 51), body := .stmts (fnB (tS 51)), scope := fnS (tS 51), globals := 3, closure := [], defaults := .none, kwdefaults := .none, doc := .none, pyModule := (.str s178 1417), annotations := none, code := (.ref 890), closureTuple := .none, builtins := 0 }), ⟨[]⟩⟩
noncomputable def i2 (P : Params) : Obj := ⟨.none, none, (.dict ⟨[⟨PyData.keyHash P s160, (.str s160 183), (.bool true)⟩, ⟨PyData.keyHash P s161, (.str s161 185), (.ref 14)⟩, ⟨PyData.keyHash P s162, (.str s162 206), (.ref 18)⟩, ⟨PyData.keyHash P s163, (.str s163 216), (.ref 22)⟩, ⟨PyData.keyHash P s164, (.str s164 245), (.int 4 0)⟩, ⟨PyData.keyHash P s165, (.str s165 270), (.bool true)⟩, ⟨PyData.keyHash P s166, (.str s166 272), (.ref 27)⟩, ⟨PyData.keyHash P s167, (.str s167 0), (.str s168 0)⟩, ⟨PyData.keyHash P s169, (.str s169 273), (.str s170 0)⟩, ⟨PyData.keyHash P s171, (.str s171 280), (.bool true)⟩, ⟨PyData.keyHash P s172, (.str s172 294), (.bool true)⟩, ⟨PyData.keyHash P s173, (.str s173 309), (.bool true)⟩, ⟨PyData.keyHash P s174, (.str s174 311), (.str s175 0)⟩]⟩ 13), ⟨[]⟩⟩
noncomputable def i3 (P : Params) : Obj := ⟨(.type "dict"), none, (.dict ⟨[⟨PyData.keyHash P s0, (.str s0 165), (.str s291 164)⟩, ⟨PyData.keyHash P s2, (.str s2 166), .none⟩, ⟨PyData.keyHash P s3, (.str s3 167), .none⟩, ⟨PyData.keyHash P s4, (.str s4 168), (.builtin "__main__.__loader__#opaque")⟩, ⟨PyData.keyHash P s5, (.str s5 169), .none⟩, ⟨PyData.keyHash P s179, (.str s179 170), (.ref 6)⟩, ⟨PyData.keyHash P s180, (.str s180 171), (.ref 4)⟩, ⟨PyData.keyHash P s181, (.str s181 173), (.str s182 172)⟩, ⟨PyData.keyHash P s183, (.str s183 174), .none⟩, ⟨PyData.keyHash P s184, (.str s184 275), (.ref 12)⟩, ⟨PyData.keyHash P s185, (.str s185 317), (.type "collections.deque")⟩]⟩ 11), ⟨[]⟩⟩
noncomputable def ktP (P : Params) : KT := (.node (some (k0 P)) (.node none (.node (some (k3 P)) (.node none (.node none (.node none .nil (.node none (.node (some (k159 P)) .nil .nil) .nil)) (.node none (.node none .nil (.node (some (k207 P)) (.node none .nil (.node (some (k847 P)) .nil .nil)) .nil)) (.node none (.node none (.node none .nil (.node (some (k815 P)) .nil .nil)) .nil) (.node none .nil (.node (some (k495 P)) .nil .nil))))) (.node none (.node none (.node none .nil (.node none .nil (.node none (.node (some (k711 P)) .nil .nil) .nil))) (.node none (.node none (.node none .nil (.node (some (k807 P)) .nil .nil)) .nil) .nil)) (.node none (.node none (.node (some (k151 P)) .nil .nil) .nil) .nil))) (.node none (.node none (.node none (.node none (.node (some (k131 P)) (.node none .nil (.node (some (k771 P)) .nil .nil)) .nil) .nil) (.node none (.node (some (k163 P)) .nil .nil) (.node none (.node none .nil (.node (some (k867 P)) .nil .nil)) .nil))) .nil) (.node none (.node none (.node none (.node none (.node none .nil (.node (some (k779 P)) .nil .nil)) (.node none (.node (some (k651 P)) .nil .nil) .nil)) (.node none (.node none .nil (.node (some (k843 P)) .nil .nil)) .nil)) (.node none .nil (.node (some (k235 P)) .nil .nil))) (.node none (.node none .nil (.node none (.node none .nil (.node (some (k859 P)) .nil .nil)) (.node (some (k475 P)) .nil .nil))) (.node none .nil (.node none (.node none .nil (.node (some (k891 P)) .nil .nil)) .nil)))))) (.node none (.node none (.node none (.node none .nil (.node none .nil (.node none .nil (.node (some (k481 P)) .nil .nil)))) (.node none (.node none (.node (some (k145 P)) .nil (.node none (.node (some (k657 P)) .nil .nil) .nil)) (.node (some (k209 P)) .nil (.node (some (k465 P)) .nil .nil))) (.node none (.node (some (k177 P)) .nil .nil) (.node none (.node none .nil (.node (some (k881 P)) .nil .nil)) .nil)))) (.node none (.node none (.node none (.node (some (k137 P)) (.node none .nil (.node (some (k777 P)) .nil .nil)) .nil) .nil) (.node none .nil (.node none (.node none .nil (.node (some (k873 P)) .nil .nil)) (.node (some (k489 P)) .nil .nil)))) .nil)) (.node none (.node none (.node none (.node none .nil (.node none (.node none .nil (.node (some (k837 P)) .nil .nil)) .nil)) .nil) (.node none .nil (.node (some (k117 P)) .nil (.node none (.node none .nil (.node (some (k885 P)) .nil .nil)) .nil)))) (.node none (.node none (.node none .nil (.node (some (k205 P)) .nil .nil)) .nil) .nil)))) (.node (some (k2 P)) (.node (some (k4 P)) (.node none (.node none .nil (.node none (.node none (.node (some (k144 P)) .nil .nil) (.node (some (k208 P)) .nil .nil)) (.node none .nil (.node none (.node none .nil (.node (some (k880 P)) .nil .nil)) (.node (some (k496 P)) .nil .nil))))) (.node none (.node none (.node none .nil (.node none .nil (.node none (.node (some (k712 P)) .nil .nil) .nil))) (.node none (.node none (.node none .nil (.node (some (k808 P)) .nil .nil)) .nil) (.node none .nil (.node (some (k488 P)) .nil .nil)))) (.node none (.node none (.node (some (k152 P)) .nil .nil) .nil) .nil))) (.node none (.node none (.node none (.node none .nil (.node none (.node none .nil (.node (some (k836 P)) .nil .nil)) .nil)) (.node none (.node (some (k164 P)) .nil .nil) .nil)) (.node none (.node none .nil (.node none (.node none .nil (.node (some (k852 P)) .nil .nil)) .nil)) (.node (some (k116 P)) .nil .nil))) (.node none (.node none (.node none .nil (.node (some (k204 P)) (.node none .nil (.node (some (k844 P)) .nil .nil)) .nil)) .nil) (.node none (.node none .nil (.node none (.node none .nil (.node (some (k860 P)) .nil .nil)) .nil)) (.node none .nil (.node none .nil (.node none (.node (some (k764 P)) .nil .nil) .nil))))))) (.node none (.node none (.node none (.node none (.node none (.node (some (k130 P)) (.node none .nil (.node (some (k770 P)) .nil .nil)) .nil) .nil) (.node none .nil (.node none (.node none .nil (.node (some (k866 P)) .nil .nil)) (.node (some (k482 P)) .nil .nil)))) (.node none (.node none (.node none .nil (.node none (.node (some (k658 P)) .nil .nil) .nil)) .nil) (.node none (.node (some (k178 P)) .nil .nil) .nil))) (.node none (.node none (.node none (.node (some (k138 P)) (.node none .nil (.node (some (k778 P)) .nil .nil)) .nil) .nil) (.node none .nil (.node (some (k234 P)) (.node none .nil (.node (some (k874 P)) .nil .nil)) .nil))) (.node none (.node none .nil (.node none (.node none .nil (.node (some (k858 P)) .nil .nil)) .nil)) (.node none .nil (.node none (.node none .nil (.node (some (k890 P)) .nil .nil)) .nil))))) (.node none (.node none .nil (.node none .nil (.node none .nil (.node none (.node none .nil (.node (some (k886 P)) .nil .nil)) .nil)))) (.node none (.node none (.node none .nil (.node none (.node none .nil (.node (some (k846 P)) .nil .nil)) .nil)) (.node none (.node none (.node none .nil (.node (some (k814 P)) .nil .nil)) .nil) .nil)) (.node none (.node none (.node (some (k158 P)) .nil .nil) .nil) .nil))))))
noncomputable def kAs : List Nat := [0, 2, 3, 4, 116, 117, 130, 131, 137, 138, 144, 145, 151, 152, 158, 159, 163, 164, 177, 178, 204, 205, 207, 208, 209, 234, 235, 465, 475, 481, 482, 488, 489, 495, 496, 651, 657, 658, 711, 712, 764, 770, 771, 777, 778, 779, 807, 808, 814, 815, 836, 837, 843, 844, 846, 847, 852, 858, 859, 860, 866, 867, 873, 874, 880, 881, 885, 886, 890, 891]
noncomputable def kFrag (P : Params) : Frag := [(0, k0 P), (2, k2 P), (3, k3 P), (4, k4 P), (116, k116 P), (117, k117 P), (130, k130 P), (131, k131 P), (137, k137 P), (138, k138 P), (144, k144 P), (145, k145 P), (151, k151 P), (152, k152 P), (158, k158 P), (159, k159 P), (163, k163 P), (164, k164 P), (177, k177 P), (178, k178 P), (204, k204 P), (205, k205 P), (207, k207 P), (208, k208 P), (209, k209 P), (234, k234 P), (235, k235 P), (465, k465 P), (475, k475 P), (481, k481 P), (482, k482 P), (488, k488 P), (489, k489 P), (495, k495 P), (496, k496 P), (651, k651 P), (657, k657 P), (658, k658 P), (711, k711 P), (712, k712 P), (764, k764 P), (770, k770 P), (771, k771 P), (777, k777 P), (778, k778 P), (779, k779 P), (807, k807 P), (808, k808 P), (814, k814 P), (815, k815 P), (836, k836 P), (837, k837 P), (843, k843 P), (844, k844 P), (846, k846 P), (847, k847 P), (852, k852 P), (858, k858 P), (859, k859 P), (860, k860 P), (866, k866 P), (867, k867 P), (873, k873 P), (874, k874 P), (880, k880 P), (881, k881 P), (885, k885 P), (886, k886 P), (890, k890 P), (891, k891 P)]

noncomputable abbrev denT : Code → Sem Fin := PySem.W.Fast.tw11892475500146522536 PySem.W.Fast.tw14364793385576792824
theorem denT_eq : denT = denote table := by
  rw [table_eq_tree]
  exact (congr PySem.W.Fast.te11892475500146522536 PySem.W.Fast.te14364793385576792824).symm
noncomputable abbrev entT : Code → Sem Fin := entTree PySem.W.Fast.tw9782568553167038054 @PySem.W.Fast.tw11113344188204177931 PySem.W.Fast.tw6609576154772507232
theorem entT_eq : entT = entTree bindArgs @newFunctionEnv field := by
  unfold entT
  rw [← PySem.W.Fast.te9782568553167038054, ← PySem.W.Fast.te11113344188204177931, ← PySem.W.Fast.te6609576154772507232]
noncomputable def WW (w : World) (a b : Bool) : World := (w.withFollow "special-get-raises" a).withFollow "comprehension-iter-twice" b
noncomputable def VU (w : World) (con : Nat → Option Con) (lvl : Nat) : UV := { den := denT, ent := entT, prog := PySem.Challenge.pw_pd0201_01, w := w, kt := ktP w.params, con := con, lvl := lvl }
end Mine
end

section
set_option maxRecDepth 100000
namespace Mine
open PySem PySem.Spec PySem.Calls PyProof.Rows PySem.W PySem.W.X
def AllIn' (h : Heap) (K : Frag) : Prop := ∀ p ∈ K, h.get? p.1 = some p.2
structure TopK (w : World) (hT : Heap) : Prop where
  size : hT.objs.size = 892
  frag : AllIn' hT (kFrag w.params)
  nolim : hT.NoLimit
theorem allIn_of {h : Heap} : ∀ {K : Frag}, AllIn' h K → AllIn h K
  | [], _ => trivial
  | p :: K, H => ⟨H p (List.mem_cons_self ..), allIn_of fun q hq => H q (List.mem_cons_of_mem _ hq)⟩
theorem kt_of (P : Params) : KT.of (kFrag P) = ktP P := by kernel_rfl
theorem holds_gen {hT : Heap} {K : Frag} {t : KT} (e : KT.of K = t) (h : AllIn' hT K) : KT.Holds hT 1 0 t := by
  subst e
  exact holds_of (allIn_of h)
theorem kt_holds {hT : Heap} {P : Params} (h : AllIn' hT (kFrag P)) : KT.Holds hT 1 0 (ktP P) := holds_gen (kt_of P) h
theorem uok {w : World} {hT : Heap} {con : Nat → Option Con} {lvl : Nat} (T : TopK w hT) : UOk (VU w con lvl) hT :=
  @UOk.mk (VU w con lvl) hT denT_eq entT_eq (kt_holds T.frag) T.size T.nolim (fun n con h => nomatch h)
/-- contracts, by their places in a list -/
noncomputable def conOf (l : List Con) : Nat → Option Con := fun n => l[n]?
def Cons (prog : Program) (w : World) (hT : Heap) : List Con → Prop
  | [] => True
  | c :: r => ConOk prog w hT c ∧ Cons prog w hT r
theorem conOf_ok {prog : Program} {w : World} {hT : Heap} : ∀ {l : List Con}, Cons prog w hT l → ∀ n con, conOf l n = some con → ConOk prog w hT con
  | [], _, n, con, h => by simp [conOf] at h
  | c :: r, H, 0, con, h => by
    have : c = con := by simpa [conOf] using h
    exact this ▸ H.1
  | c :: r, H, n + 1, con, h => conOf_ok H.2 n con (by simpa [conOf] using h)
abbrev pwT' : Program := PySem.Challenge.pw_pd0201_01
theorem RunIs.of {o : Outc} {ps : List Prop} {fin : Fini} (h : (o.eqs, o.ps, o.fin) = (dup (heads o.eqs), ps, fin)) : RunIs o ps fin := by
  injection h with h1 h2
  injection h2 with h2 h3
  exact ⟨h1, h2, h3⟩
section
variable {V : UV} {hT : Heap} {n : Nat} {c : Code} {hs k need : Nat} {T : Slots} {out : List Nat → Result × Slots} {ps : (Nat → Nat) → List Prop} {r : (Nat → Nat) → Result} {T' : (Nat → Nat) → Slots} {c' : (Nat → Nat) → Code}
theorem SegOk.of_run (O : UOk V hT) (OC : ∀ n con, V.con n = some con → ConOk V.prog V.w hT con) (h1 : 1 ≤ V.lvl)
    (H : ∀ f : Nat → Nat, RunIs (codeU V (simU V n) none c hs (mk f k) .base T [] []) (ps f) (.ret (r f) (T' f)))
    (ha : ∀ f, Alls (ps f)) (ho : ∀ f, ∃ ys : List Nat, ys.length = need ∧ out ys = (r f, T' f)) (hf : V.fr = none := by rfl) : SegOk V.prog V.w hT V.lvl need c T out :=
  SegOk.run O OC n (hf := hf) (hs := hs) (k := k) h1 fun f => by
    obtain ⟨ys, hy, e⟩ := ho f
    exact ⟨ys, hy, ps f, ha f, by rw [e]; exact H f⟩
theorem SegOk.of_runT {ps : (Nat → Nat) → Nat → List Prop} {r : (Nat → Nat) → Nat → Result} {T' : (Nat → Nat) → Nat → Slots} (O : UOk V hT) (OC : ∀ n con, V.con n = some con → ConOk V.prog V.w hT con) (h1 : 1 ≤ V.lvl)
    (H : ∀ (f : Nat → Nat) (tk : Nat), RunIs (codeU V (simU V n) (some (tk + 1)) c hs (mk f k) .base T [] []) (ps f tk) (.ret (r f tk) (T' f tk)))
    (ha : ∀ f tk, Alls (ps f tk)) (ho : ∀ f tk, ∃ ys : List Nat, ys.length = need ∧ out ys = (r f tk, T' f tk)) (hf : V.fr = none := by rfl) : SegOk V.prog V.w hT V.lvl need c T out :=
  SegOk.runT O OC n (hf := hf) (hs := hs) (k := k) h1 fun f tk => by
    obtain ⟨ys, hy, e⟩ := ho f tk
    exact ⟨ys, hy, ps f tk, ha f tk, by rw [e]; exact H f tk⟩
theorem SegOk.of_then (O : UOk V hT) (OC : ∀ n con, V.con n = some con → ConOk V.prog V.w hT con) (h1 : 1 ≤ V.lvl)
    (H : ∀ f : Nat → Nat, RunIs (codeU V (simU V n) none c hs (mk f k) .base T [] []) (ps f) (.stop (c' f) (T' f)))
    (ha : ∀ f, Alls (ps f)) (ho : ∀ f, SegOk V.prog V.w hT V.lvl need (c' f) (T' f) out) (hf : V.fr = none := by rfl) : SegOk V.prog V.w hT V.lvl need c T out :=
  SegOk.then O OC n (hf := hf) (hs := hs) (k := k) h1 fun f => ⟨c' f, T' f, ps f, ha f, H f, ho f⟩
end
/-- the program, in the world with the two rows told -/
noncomputable abbrev VW (w : World) (a b : Bool) (cs : List Con) (lvl : Nat) : UV := VU (WW w a b) (conOf cs) lvl
end Mine
end

section
set_option maxRecDepth 100000
namespace Mine
open PySem PyProof.Rows PySem.W PySem.W.X
noncomputable def forC (st : Stmt) (it : Value) (env : Env) : Code := match st with
  | .For t _ b o _ => .forLoop t it b o env
  | _ => .builtin "" {}
noncomputable def whileC (st : Stmt) (env : Env) : Code := match st with
  | .While t b o _ => .whileLoop t b o env
  | _ => .builtin "" {}
noncomputable def tryB (st : Stmt) : List Stmt := match st with
  | .Try b _ _ _ _ => b
  | _ => []
noncomputable def asgV (st : Stmt) : Expr := match st with
  | .Assign _ v _ => v
  | .Return (some v) _ => v
  | _ => default
noncomputable def frO (P : Params) (es : List (Str × Tok × Value)) (n : Nat) : Obj := ⟨.type "frame", none, .dict ⟨es.map fun e => ⟨PyData.keyHash P e.1, .str e.1 e.2.1, e.2.2⟩⟩ n, #[]⟩
noncomputable def dcO (P : Params) (es : List (Str × Tok × Value)) (n : Nat) : Obj := ⟨.type "dict", none, .dict ⟨es.map fun e => ⟨PyData.keyHash P e.1, .str e.1 e.2.1, e.2.2⟩⟩ n, #[]⟩
noncomputable def envO (sc : Scope) (fr : Nat) (q : Str) (fn code : Nat) : Env := { scope := sc, locals := fr + B, globals := 3, cells := [], qual := q ++ ".<locals>.", func := some fn, code := .ref code, frame := some (fr + B), builtins := 0 }
/-- the tokens and the values of a dict's entries -/
noncomputable def entD (o : Obj) : List (Tok × Value) × Nat := match o.data with
  | .dict es n => (es.toList.map fun e => (match e.key with | .str _ t => t | _ => 0, e.val), n)
  | _ => ([], 0)
end Mine
end

section
set_option maxRecDepth 100000
set_option linter.unusedVariables false
namespace Mine
open PySem PySem.Spec PySem.Calls PyProof.Rows PySem.W PySem.W.X
open PySem.Builtin PySem.Builtin.Str PySem.Builtin.Int

/-- a built-in's own code, answered: its tree is met -/
theorem code_builtin {prog : Program} {w : World} {A : Around} {id : String} {args : Args} {b : Builtin} {R : Result → Shared → Prop} {s : Shared} (hp : plainId id = true) (hb : entryFor table id = some b)
    (h : wpAny (model prog w) A.in1 (b args) (fun fin s' => match fin with | .done f => R (.ok f) s' | .again c' => c'.quiet = true ∧ codeAny (model prog w) A c' R s') (fun e s' => R (.error e) s') s) : codeAny (model prog w) A (.builtin id args) R s := by
  refine codeAny_of_tree ?_
  rw [Around.under_plainId hp]
  show wpAny _ A.in1 (match entryFor table id with | some b => b args | none => _) _ _ s
  rw [hb]
  exact h

noncomputable def yes (as : List Nat) : Bool := match as with
  | k :: _ => Nat.beq k 1
  | [] => false
/-- an int comparison, its answer chosen by the hint -/
noncomputable def cmpC (id : String) (f : Int → Int → Bool) : Con where
  need := 0
  lvl := 0
  run := fun c T as _ => match c with
    | .builtin n ⟨l, []⟩ => match l with
      | [.int a _, .int b _] => some ⟨[(.v (.builtin n), .v (.builtin id))], [f a b = yes as], .ok (.ret (.bool (yes as))), T⟩
      | _ => none
    | _ => none
theorem cmpC_ok {prog : Program} {w : World} {hT : Heap} {id : String} {f : Int → Int → Bool} {b : Builtin} (hp : plainId id = true) (hb : entryFor table id = some b)
    (he : ∀ a t c u, b ⟨[.int a t, .int c u], []⟩ = ret (.bool (f a c))) : ConOk prog w hT (cmpC id f) := by
  intro A h₀ U g d os c T as R h tk hh hr D H
  obtain ⟨o, ho, he', hps, hR⟩ := H [] rfl
  simp only [cmpC] at ho
  split at ho
  · split at ho
    · rename_i n _ x t y u
      cases ho
      have hn : n = id := by
        have := he' _ (List.mem_cons_self ..)
        cases this; rfl
      subst hn
      have hv := hps _ (List.mem_cons_self ..)
      refine code_builtin hp hb ?_
      rw [he, hv]
      exact wpAny_pure (hR h tk D)
    · cases ho
  · cases ho
theorem gt_ok {prog : Program} {w : World} {hT : Heap} : ConOk prog w hT (cmpC "int.__gt__" (fun a b => decide (a > b))) := cmpC_ok (b := Builtin.«int.__gt__») (by decide +kernel) PySem.F.entry_int_gt (fun a t c u => by kernel_rfl)
theorem lt_ok {prog : Program} {w : World} {hT : Heap} : ConOk prog w hT (cmpC "int.__lt__" (fun a b => decide (a < b))) := cmpC_ok (b := Builtin.«int.__lt__») (by decide +kernel) PySem.F.entry_int_lt (fun a t c u => by kernel_rfl)
theorem ge_ok {prog : Program} {w : World} {hT : Heap} : ConOk prog w hT (cmpC "int.__ge__" (fun a b => decide (a ≥ b))) := cmpC_ok (b := Builtin.«int.__ge__») (by decide +kernel) PySem.F.entry_int_ge (fun a t c u => by kernel_rfl)
theorem le_ok {prog : Program} {w : World} {hT : Heap} : ConOk prog w hT (cmpC "int.__le__" (fun a b => decide (a ≤ b))) := cmpC_ok (b := Builtin.«int.__le__») (by decide +kernel) PySem.F.entry_int_le (fun a t c u => by kernel_rfl)
theorem ieq_ok {prog : Program} {w : World} {hT : Heap} : ConOk prog w hT (cmpC "int.__eq__" (fun a b => a == b)) := cmpC_ok (b := Builtin.«int.__eq__») (by decide +kernel) PySem.F.entry_int_eq (fun a t c u => by kernel_rfl)
theorem code_gives {prog : Program} {w : World} {A : Around} {id : String} {args : Args} {b : Builtin} {m : Made} {R : Result → Shared → Prop} {s : Shared} (hp : plainId id = true) (hb : entryFor table id = some b)
    (g : Gives (b args) m) (h : m.post (fun v s' => R (.ok (.ret v)) s') s) : codeAny (model prog w) A (.builtin id args) R s := code_builtin hp hb (g prog w A R s h)
theorem code_meets {prog : Program} {w : World} {A : Around} {id : String} {args : Args} {b : Builtin} {S : PySem.Spec} {R : Result → Shared → Prop} {s : Shared} (hp : plainId id = true) (hb : entryFor table id = some b)
    (g : Meets (b args) S) (h : S A R s) : codeAny (model prog w) A (.builtin id args) R s := code_builtin hp hb (g prog w A R s h)

noncomputable def optI (v : Value) : Option (Option (Int × Tok)) := match v with
  | .none => some none
  | .int i t => some (some (i, t))
  | _ => none
theorem optI_part {v : Value} {p : Option (Int × Tok)} (h : optI v = some p) : v = partValue p := by
  unfold optI at h
  split at h <;> first | (cases h; rfl) | cases h
/-- a cut of a text: s[lo:hi] -/
noncomputable def sliceC : Con where
  need := 1
  lvl := 0
  run := fun c T as xs => match c with
    | .builtin n ⟨l, []⟩ => match l with
      | [.str s t, .ref a] => match as with
        | j :: _ => match T[j]? with
          | some q => match q.2 with
            | ⟨cl, _, .fields vs, _⟩ => match vs.toList with
              | [lo, hi, .none] => match optI lo, optI hi with
                | some l, some u => match xs with
                  | x :: _ => some ⟨[(.v (.builtin n), .v (.builtin "str.__getitem__")), (.n a, .n (q.1 + B)), (.v cl, .v (.type "slice"))], [s.length ≤ sizeLine], .ok (.ret (.str (Txt.slice s (l.map (·.1)) (u.map (·.1))) x)), T⟩
                  | [] => none
                | _, _ => none
              | _ => none
            | _ => none
          | none => none
        | [] => none
      | _ => none
    | _ => none
theorem sliceC_ok {prog : Program} {w : World} {hT : Heap} : ConOk prog w hT sliceC := by
  intro A h₀ U g d os c T as R h tk hh hr D H
  obtain ⟨o, ho, he', hps, hR⟩ := H [tk + 1] rfl
  have key : ∀ x, ∃ o, sliceC.run c T as [x] = some o ∧ ∀ h' t', RepU hT h₀ U o.T h' → R o.res ⟨h', g, d, t' + 1, os⟩ := fun x => by
    obtain ⟨o, ho, _, _, hR⟩ := H [x] rfl
    exact ⟨o, ho, hR⟩
  simp only [sliceC] at ho key
  split at ho <;> try (cases ho; done)
  split at ho <;> try (cases ho; done)
  split at ho <;> try (cases ho; done)
  split at ho <;> try (cases ho; done)
  split at ho <;> try (cases ho; done)
  split at ho <;> try (cases ho; done)
  split at ho <;> try (cases ho; done)
  cases ho
  rename_i n _ s t a _ j _ _ q hq _ cl dd vs sl hobj _ lo hi hvs _ _ l u hl hu
  have e1 := he' _ (List.mem_cons_self ..)
  have e2 := he' _ (List.mem_cons_of_mem _ (List.mem_cons_self ..))
  have e3 := he' _ (List.mem_cons_of_mem _ (List.mem_cons_of_mem _ (List.mem_cons_self ..)))
  have hn : n = "str.__getitem__" := by cases e1; rfl
  have ha : a = q.1 + B := by cases e2; rfl
  have hcl : cl = .type "slice" := by cases e3; rfl
  subst hn ha hcl
  have hsz : s.length ≤ sizeLine := hps _ (List.mem_cons_self ..)
  have hg := D.at' q (List.mem_of_getElem? hq)
  have hsl : h.IsSlice (q.1 + B) l u none := ⟨q.2, hg, by rw [hobj], by
    rw [hobj]
    show Data.fields vs = _
    have : vs = #[lo, hi, .none] := by apply Array.ext'; rw [hvs]
    rw [this, optI_part hl, optI_part hu]; rfl⟩
  refine code_meets (b := Builtin.«str.__getitem__») (by decide +kernel) PySem.F.entry_str_getitem (meets_str_getitem_slice s t (q.1 + B) l u none rfl) ⟨hsl, ?_⟩
  simp only [hq, hobj, hvs, hl, hu] at key
  have fin : ∀ (x : Nat) (h' : Heap) (t' : Nat), RepU hT h₀ U T h' → R (.ok (.ret (.str (Txt.slice s (l.map (·.1)) (u.map (·.1))) x))) ⟨h', g, d, t' + 1, os⟩ := fun x h' t' D' => by
    obtain ⟨o, ho, hR⟩ := key x
    cases ho
    exact hR h' t' D'
  unfold sliceMade
  have hp : slicePicked s l u none = strSliceIndices (l.map (·.1)) (u.map (·.1)) 1 s.length := rfl
  rw [hp]
  have le := Txt.slice_le s (l.map (·.1)) (u.map (·.1))
  by_cases hw : ((1 : Int) == 1 && (strSliceIndices (l.map (·.1)) (u.map (·.1)) 1 s.length).length == s.length) = true
  · rw [if_pos (show ((Option.map (fun x : Int × Tok => x.1) none).getD 1 == 1 && (strSliceIndices (l.map (·.1)) (u.map (·.1)) 1 s.length).length == s.length) = true from hw)]
    have e : Txt.slice s (l.map (·.1)) (u.map (·.1)) = s := by unfold Txt.slice; rw [if_pos hw]
    have := fin t h tk D
    rw [e] at this
    exact this
  · rw [if_neg (show ¬ ((Option.map (fun x : Int × Tok => x.1) none).getD 1 == 1 && (strSliceIndices (l.map (·.1)) (u.map (·.1)) 1 s.length).length == s.length) = true from hw)]
    have e : Txt.slice s (l.map (·.1)) (u.map (·.1)) = ⟨((strSliceIndices (l.map (·.1)) (u.map (·.1)) 1 s.length).filterMap (s.cps[·]?)).toArray⟩ := by unfold Txt.slice; rw [if_neg hw]
    rw [← e]
    exact ⟨Nat.le_trans le hsz, fin (tk + 1) h (tk + 1) D⟩
/-- a built-in that answers with a made value: no slot is looked at -/
noncomputable def madeVal (m : Made) (x : Nat) : Value := match m with
  | .val v => v
  | .int i => .int i x
  | .str s => .str s x
  | .bytes b => .bytes b x
  | _ => .none
noncomputable def madeFits (m : Made) : Prop := match m with
  | .val _ => True
  | .int _ => True
  | .str s => s.length ≤ sizeLine
  | .bytes b => b.size ≤ sizeLine
  | _ => False
noncomputable def madeC (id : String) (f : List Value → List Nat → Option (Made × List Prop)) : Con where
  need := 1
  lvl := 0
  run := fun c T as xs => match c with
    | .builtin n ⟨l, []⟩ => match f l as with
      | some (m, ps) => match xs with
        | x :: _ => some ⟨[(.v (.builtin n), .v (.builtin id))], madeFits m :: ps, .ok (.ret (madeVal m x)), T⟩
        | [] => none
      | none => none
    | _ => none
theorem madeC_ok {prog : Program} {w : World} {hT : Heap} {id : String} {f : List Value → List Nat → Option (Made × List Prop)} {b : Builtin} (hp : plainId id = true) (hb : entryFor table id = some b)
    (H : ∀ l as m ps, f l as = some (m, ps) → Alls ps → Gives (b ⟨l, []⟩) m) : ConOk prog w hT (madeC id f) := by
  intro A h₀ U g d os c T as R h tk hh hr D K
  have key : ∀ x : Nat, ∃ o, (madeC id f).run c T as [x] = some o ∧ (∀ q ∈ o.eqs, q.1 = q.2) ∧ (∀ q ∈ o.ps, q) ∧ ∀ h' t', RepU hT h₀ U o.T h' → R o.res ⟨h', g, d, t' + 1, os⟩ := fun x => K [x] rfl
  obtain ⟨o, ho, he', hps, _⟩ := key (tk + 1)
  simp only [madeC] at ho key
  split at ho <;> try (cases ho; done)
  split at ho <;> try (cases ho; done)
  rename_i n l _ m ps hf
  simp only [hf] at key
  cases ho
  have e1 := he' _ (List.mem_cons_self ..)
  have hn : n = id := by cases e1; rfl
  subst hn
  have fit : madeFits m := hps _ (List.mem_cons_self ..)
  have hps' : ∀ q ∈ ps, q := fun q hq => hps q (List.mem_cons_of_mem _ hq)
  have fin : ∀ (x t' : Nat), R (.ok (.ret (madeVal m x))) ⟨h, g, d, t' + 1, os⟩ := fun x t' => by
    obtain ⟨o, ho, _, _, hR⟩ := key x
    cases ho
    exact hR h t' D
  refine code_gives hp hb (H l as m ps hf (alls_of hps')) ?_
  cases m with
  | val v => exact fin tk tk
  | int i => exact fin (tk + 1) (tk + 1)
  | str s => exact ⟨fit, fin (tk + 1) (tk + 1)⟩
  | bytes s => exact ⟨fit, fin (tk + 1) (tk + 1)⟩
  | float => exact fit.elim
  | either => exact fit.elim
end Mine
end

section
set_option maxRecDepth 100000
set_option linter.unusedVariables false
namespace Mine
open PySem PySem.Spec PySem.Calls PyProof.Rows PySem.W PySem.W.X
open PySem.Builtin PySem.Builtin.Str PySem.Builtin.Int PySem.AutoIntG4 PySem.AutoIntG6

section
variable {prog : Program} {w : World} {hT : Heap}

noncomputable def floordivC : Con := madeC "int.__floordiv__" fun l _ => match l with
  | [.int a _, .int b _] => some (.int (a.fdiv b), [¬ ((b == 0) = true), b.natAbs < 1073741824])
  | _ => none
theorem floordiv_ok : ConOk prog w hT floordivC := madeC_ok (b := Builtin.«int.__floordiv__») (by decide +kernel) PySem.F.entry_int_floordiv fun l as m ps h ha => by
  split at h
  · cases h; exact int___floordiv___int_int_1 _ _ _ _ ha.1 (by rw [PyProof.noPylong_small ha.2.1]; decide)
  · cases h
noncomputable def iboolC : Con := madeC "int.__bool__" fun l as => match l with
  | [.int a _] => some (.val (.bool (yes as)), [(a != 0) = yes as])
  | _ => none
theorem ibool_ok : ConOk prog w hT iboolC := madeC_ok (b := Builtin.«int.__bool__») (by decide +kernel) PySem.F.entry_int_bool fun l as m ps h ha => by
  split at h
  · cases h; rw [← ha.1]; exact gives_int_bool _ _
  · cases h
noncomputable def seqC : Con := madeC "str.__eq__" fun l as => match l with
  | [.str x _, .str y _] => some (.val (.bool (yes as)), [(x.cps.toList == y.cps.toList) = yes as])
  | _ => none
theorem seq_ok : ConOk prog w hT seqC := madeC_ok (b := Builtin.«str.__eq__») (by decide +kernel) PySem.F.entry_str_eq fun l as m ps h ha => by
  split at h
  · cases h; rw [← ha.1]; exact gives_str_eq _ _ _ _
  · cases h
noncomputable def sneC : Con := madeC "str.__ne__" fun l as => match l with
  | [.str x _, .str y _] => some (.val (.bool (yes as)), [(x.cps.toList != y.cps.toList) = yes as])
  | _ => none
theorem sne_ok : ConOk prog w hT sneC := madeC_ok (b := Builtin.«str.__ne__») (by decide +kernel) PySem.F.entry_str_ne fun l as m ps h ha => by
  split at h
  · cases h; rw [← ha.1]; exact gives_str_ne _ _ _ _
  · cases h
noncomputable def startsC : Con := madeC "str.startswith" fun l as => match l with
  | [.str x _, .str y _] => some (.val (.bool (yes as)), [(decide (0 + y.length ≤ x.length) && subAt x y 0) = yes as])
  | _ => none
theorem starts_ok : ConOk prog w hT startsC := madeC_ok (b := Builtin.«str.startswith») (by decide +kernel) PySem.F.entry_str_startswith fun l as m ps h ha => by
  split at h
  · cases h; rw [← ha.1]; exact gives_str_startswith _ _ _ _
  · cases h
noncomputable def endsC : Con := madeC "str.endswith" fun l as => match l with
  | [.str x _, .str y _] => some (.val (.bool (yes as)), [(decide (0 + y.length ≤ x.length) && subAt x y (x.length - y.length)) = yes as])
  | _ => none
theorem ends_ok : ConOk prog w hT endsC := madeC_ok (b := Builtin.«str.endswith») (by decide +kernel) PySem.F.entry_str_endswith fun l as m ps h ha => by
  split at h
  · cases h; rw [← ha.1]; exact gives_str_endswith _ _ _ _
  · cases h
noncomputable def saddC : Con := madeC "str.__add__" fun l as => match l with
  | [.str x _, .str y _] => some (.str (x ++ y), [¬ ((x.length == 0) = true), ¬ ((y.length == 0) = true)])
  | _ => none
theorem sadd_ok : ConOk prog w hT saddC := madeC_ok (b := Builtin.«str.__add__») (by decide +kernel) PySem.F.entry_str_add fun l as m ps h ha => by
  split at h
  · rename_i x t y u
    cases h
    have := gives_str_add x y t u
    rw [if_neg ha.1, if_neg ha.2.1] at this
    exact this
  · cases h
/-- the length of a text that is not empty -/
noncomputable def slenC : Con := madeC "str.__len__" fun l as => match l with
  | [.str x _] => some (.int (Int.ofNat (x.length - 1 + 1)), [¬ ((x.length == 0) = true)])
  | _ => none
theorem slen_ok : ConOk prog w hT slenC := madeC_ok (b := Builtin.«str.__len__») (by decide +kernel) PySem.F.entry_str_len fun l as m ps h ha => by
  split at h
  · rename_i x t
    cases h
    have hx : x.length ≠ 0 := by simpa using ha.1
    have e : (Int.ofNat (x.length - 1 + 1)) = (x.length : Int) := by rw [Nat.sub_add_cancel (by omega)]; rfl
    rw [e]
    exact gives_str_len _ _
  · cases h

/-- the list that a slot holds -/
noncomputable def listO (items : Array Value) (n : Nat) : Obj := ⟨.type "list", none, .seq items n, #[]⟩
noncomputable def tupO (items : Array Value) (n : Nat) : Obj := ⟨.type "tuple", none, .seq items n, #[]⟩
noncomputable def at0 (ids : List Nat) : Addr := match ids with
  | a :: _ => a + B
  | [] => 0
noncomputable def at1 (ids : List Nat) : Addr := match ids with
  | _ :: a :: _ => a + B
  | _ => 0

theorem D_new {h₀ h : Heap} {U : Addr → Prop} {T : Slots} (D : RepU hT h₀ U T h) {o : Obj} (hf : o.isFreed = false) : RepU hT h₀ U ((h.objs.size - B, o) :: T) (h.push o) ∧ h.objs.size - B + B = h.objs.size := ⟨D.alloc hf, Nat.sub_add_cancel D.low⟩

noncomputable def laddJ : Job (Array Value × Nat × Array Value × Nat) where
  lvl := 0
  need := 1
  ext := fun _ os => match os with
    | [⟨_, _, .seq i n, _⟩, ⟨_, _, .seq j m, _⟩] => some (i, n, j, m)
    | _ => none
  code := fun ids d => .builtin "list.__add__" ⟨[.ref (at0 ids), .ref (at1 ids)], []⟩
  pre := fun _ d => [listO d.1 d.2.1, listO d.2.2.1 d.2.2.2]
  side := fun _ d => [d.1.size + d.2.2.1.size ≤ sizeLine]
  res := fun _ d xs => .ok (.ret (.ref (at0 xs)))
  new := fun _ d xs => match xs with
    | x :: _ => [(x, listO (d.1 ++ d.2.2.1) 0)]
    | [] => []
  post := fun _ d _ => [listO d.1 d.2.1, listO d.2.2.1 d.2.2.2]
theorem ladd_ok : ConOk prog w hT laddJ.con := Job.con_ok (fun ids d hl hs => by
  obtain ⟨i, n, j, m⟩ := d
  match ids, hl with
  | [a, b], _ =>
    intro A h₀ U g d os R h tk hh hr D K
    have h1 := D.at' (a, listO i n) (List.mem_cons_self ..)
    have h2 := D.at' (b, listO j m) (List.mem_cons_of_mem _ (List.mem_cons_self ..))
    refine code_meets (b := Builtin.«list.__add__») (by decide +kernel) PySem.F.entry_list_add (PySem.AutoSeq1.list___add___list_list_0 _ i n _ j m hs.1) ⟨h1, h2, ?_⟩
    obtain ⟨D', e⟩ := D_new D (o := { cls := Value.type "list", data := Data.seq (i ++ j) }) rfl
    have : R (.ok (.ret (.ref (h.objs.size - B + B)))) _ := K [h.objs.size - B] rfl _ tk D'
    rw [e] at this
    exact this) (fun _ _ _ => rfl)
end
end Mine
end

section
set_option maxRecDepth 100000
set_option linter.unusedVariables false
namespace Mine
open PySem PySem.Spec PySem.Calls PyProof.Rows PySem.W PySem.W.X

/-- an iterator over what a value holds, i of it drawn -/
noncomputable def itO (cls : String) (seq : Value) (i : Int) : Obj := ⟨.type cls, none, .fields #[seq, .int i 0], #[]⟩
noncomputable def seqO (cls : String) (items : Array Value) (n : Nat) : Obj := ⟨.type cls, none, .seq items n, #[]⟩
noncomputable def extIt (os : List Obj) : Option (Int × Array Value × Nat) := match os with
  | [⟨_, _, .fields vs, _⟩, ⟨_, _, .seq items n, _⟩] => match vs.toList with
    | [_, .int i _] => some (i, items, n)
    | _ => none
  | _ => none
/-- the next item of a list or a tuple, v -/
noncomputable def itemJ (cls id sq : String) (v : Value) : Job (Int × Array Value × Nat) where
  lvl := 0
  need := 0
  ext := fun _ os => extIt os
  code := fun ids _ => .builtin id ⟨[.ref (at0 ids)], []⟩
  pre := fun ids d => [itO cls (.ref (at1 ids)) d.1, seqO sq d.2.1 d.2.2]
  side := fun _ d => [d.2.1[d.1.toNat]? = some v]
  res := fun _ _ _ => .ok (.ret v)
  new := fun _ _ _ => []
  post := fun ids d _ => [itO cls (.ref (at1 ids)) (d.1 + 1), seqO sq d.2.1 d.2.2]
/-- there is no next item -/
noncomputable def stopO (t : Addr) : Obj := ⟨.type "StopIteration", none, .fields #[.ref t, .none, .none, .none, .bool false, .none], #[]⟩
noncomputable def endJ (cls id sq : String) : Job (Int × Array Value × Nat) where
  lvl := 0
  need := 2
  ext := fun _ os => extIt os
  code := fun ids _ => .builtin id ⟨[.ref (at0 ids)], []⟩
  pre := fun ids d => [itO cls (.ref (at1 ids)) d.1, seqO sq d.2.1 d.2.2]
  side := fun _ d => [d.2.1[d.1.toNat]? = none]
  res := fun _ _ xs => .error (.ref (at0 xs))
  new := fun _ _ xs => match xs with
    | [x, y] => [(x, stopO (y + B)), (y, seqO "tuple" #[] 0)]
    | _ => []
  post := fun ids d _ => [⟨.type cls, none, .fields #[.none, .int d.1 0], #[]⟩, seqO sq d.2.1 d.2.2]

section
variable {prog : Program} {w : World} {hT : Heap}
theorem item_gen {cls id sq : String} {v : Value} {b : Builtin} (hz : hT.objs.size = B) (hp : plainId id = true) (hb : entryFor table id = some b)
    (H : ∀ (A : Around) (R : Result → Shared → Prop) (s : Shared) (it l : Addr) (i : Int) (items : Array Value) (n : Nat), s.heap.get? it = some (itO cls (.ref l) i) → s.heap.get? l = some (seqO sq items n) → items[i.toNat]? = some v →
      R (.ok (.ret v)) { s with heap := s.heap.update it (Obj.mapFields (·.setIfInBounds 1 (.int (i + 1) 0))) } →
      wpAny (model prog w) A.in1 (b ⟨[.ref it], []⟩) (fun fin s' => match fin with | .done f => R (.ok f) s' | .again c' => c'.quiet = true ∧ codeAny (model prog w) A c' R s') (fun e s' => R (.error e) s') s) : ConOk prog w hT (itemJ cls id sq v).con := Job.con_ok (fun ids d hl hs => by
  obtain ⟨i, items, n⟩ := d
  match ids, hl with
  | [x, y], _ =>
    intro A h₀ U g d os R h tk hh hr D K
    have h1 := D.at' (x, itO cls (.ref (y + B)) i) (List.mem_cons_self ..)
    have h2 := D.at' (y, seqO sq items n) (List.mem_cons_of_mem _ (List.mem_cons_self ..))
    refine code_builtin hp hb (H A R _ _ _ i items n h1 h2 hs.1 ?_)
    have D' := D.update hz (j := 0) (q := (x, itO cls (.ref (y + B)) i)) (f := Obj.mapFields (·.setIfInBounds 1 (.int (i + 1) 0))) rfl rfl
    exact K [] rfl _ tk D') (fun _ _ _ => rfl)
theorem end_gen {cls id sq : String} {b : Builtin} (hz : hT.objs.size = B) (hp : plainId id = true) (hb : entryFor table id = some b)
    (H : ∀ (A : Around) (R : Result → Shared → Prop) (s : Shared) (it l : Addr) (i : Int) (items : Array Value) (n : Nat), A.handled = none → s.heap.get? it = some (itO cls (.ref l) i) → s.heap.get? l = some (seqO sq items n) → items[i.toNat]? = none →
      (∀ h : Heap, h = s.heap.update it (Obj.mapFields (·.setIfInBounds 0 .none)) → R (.error (.ref (h.objs.size + 1))) { s with heap := (h.push (seqO "tuple" #[] 0)).push (stopO h.objs.size) }) →
      wpAny (model prog w) A.in1 (b ⟨[.ref it], []⟩) (fun fin s' => match fin with | .done f => R (.ok f) s' | .again c' => c'.quiet = true ∧ codeAny (model prog w) A c' R s') (fun e s' => R (.error e) s') s) : ConOk prog w hT (endJ cls id sq).con := Job.con_ok (fun ids d hl hs => by
  obtain ⟨i, items, n⟩ := d
  match ids, hl with
  | [x, y], _ =>
    intro A h₀ U g d os R h tk hh hr D K
    have h1 := D.at' (x, itO cls (.ref (y + B)) i) (List.mem_cons_self ..)
    have h2 := D.at' (y, seqO sq items n) (List.mem_cons_of_mem _ (List.mem_cons_self ..))
    refine code_builtin hp hb (H A R _ _ _ i items n hh h1 h2 hs.1 fun h' e => ?_)
    have D1 := D.update hz (j := 0) (q := (x, itO cls (.ref (y + B)) i)) (f := Obj.mapFields (·.setIfInBounds 0 .none)) rfl rfl
    change RepU hT h₀ U _ (h.update (x + B) _) at D1
    have e' : h' = h.update (x + B) (Obj.mapFields (·.setIfInBounds 0 .none)) := e
    rw [← e'] at D1
    obtain ⟨D2, e2⟩ := D_new D1 (o := seqO "tuple" #[] 0) rfl
    obtain ⟨D3, e3⟩ := D_new D2 (o := stopO (h'.objs.size - B + B)) rfl
    have := K [(h'.push (seqO "tuple" #[] 0)).objs.size - B, h'.objs.size - B] rfl _ tk D3
    rw [e2] at this
    have e4 : (h'.push (seqO "tuple" #[] 0)).objs.size = h'.objs.size + 1 := Heap.size_push ..
    change R (.error (.ref ((h'.push (seqO "tuple" #[] 0)).objs.size - B + B))) _ at this
    rw [e3, e4] at this
    exact this) (fun _ _ _ => rfl)
theorem lnext_ok {v : Value} (hz : hT.objs.size = B) : ConOk prog w hT (itemJ "list_iterator" "list_iterator.__next__" "list" v).con :=
  item_gen (b := Builtin.«list_iterator.__next__») hz (by decide +kernel) entry_listiter_next fun A R s it l i items n ho hl hx h => by
    show wpAny _ _ (field (.ref it) 0 >>= _) _ _ s
    refine wpAny_bind (wpAny_field ho rfl (x := .ref l) rfl ?_)
    show wpAny _ _ (if (Value.ref l == Value.none) = true then _ else _) _ _ s
    rw [if_neg (show ¬ ((Value.ref l == Value.none) = true) from Bool.false_ne_true)]
    show wpAny _ _ (field (.ref it) 1 >>= _) _ _ s
    refine wpAny_bind (wpAny_field ho rfl (x := .int i 0) rfl ?_)
    show wpAny _ _ (seqItems? (.ref l) >>= _) _ _ s
    refine wpAny_bind (wpAny_seqItems hl rfl ?_)
    simp only [hx]
    exact wpAny_bind (wpAny_setField ho rfl (by simp) (wpAny_pure h))
theorem tnext_ok {v : Value} (hz : hT.objs.size = B) : ConOk prog w hT (itemJ "tuple_iterator" "tuple_iterator.__next__" "tuple" v).con :=
  item_gen (b := Builtin.«tuple_iterator.__next__») hz (by decide +kernel) (entryFor_of_fast (by kernel_rfl)) fun A R s it l i items n ho hl hx h => by
    show wpAny _ _ (field (.ref it) 0 >>= _) _ _ s
    refine wpAny_bind (wpAny_field ho rfl (x := .ref l) rfl ?_)
    show wpAny _ _ (if (Value.ref l == Value.none) = true then _ else _) _ _ s
    rw [if_neg (show ¬ ((Value.ref l == Value.none) = true) from Bool.false_ne_true)]
    show wpAny _ _ (field (.ref it) 1 >>= _) _ _ s
    refine wpAny_bind (wpAny_field ho rfl (x := .int i 0) rfl ?_)
    show wpAny _ _ (seqItems? (.ref l) >>= _) _ _ s
    refine wpAny_bind (wpAny_seqItems hl rfl ?_)
    simp only [hx]
    exact wpAny_bind (wpAny_setField ho rfl (by simp) (wpAny_pure h))
theorem lend_ok (hz : hT.objs.size = B) : ConOk prog w hT (endJ "list_iterator" "list_iterator.__next__" "list").con :=
  end_gen (b := Builtin.«list_iterator.__next__») hz (by decide +kernel) entry_listiter_next fun A R s it l i items n hh ho hl hx h => by
    show wpAny _ _ (field (.ref it) 0 >>= _) _ _ s
    refine wpAny_bind (wpAny_field ho rfl (x := .ref l) rfl ?_)
    show wpAny _ _ (if (Value.ref l == Value.none) = true then _ else _) _ _ s
    rw [if_neg (show ¬ ((Value.ref l == Value.none) = true) from Bool.false_ne_true)]
    show wpAny _ _ (field (.ref it) 1 >>= _) _ _ s
    refine wpAny_bind (wpAny_field ho rfl (x := .int i 0) rfl ?_)
    show wpAny _ _ (seqItems? (.ref l) >>= _) _ _ s
    refine wpAny_bind (wpAny_seqItems hl rfl ?_)
    simp only [hx]
    refine wpAny_bind (wpAny_rule (wpAny_bind (wpAny_setField ho rfl (by simp) ?_)))
    show wpAny _ _ (newExc (.type "StopIteration") [] >>= _) _ _ _
    refine wpAny_bind ?_
    simp only [newExc, newTuple]
    refine wpAny_bind (wpAny_newObj_type ?_ (by size_fits))
    refine wpAny_bind (m := firstArgMember _ _) (wpAny_of_eq (a := Value.none) (by first | rfl | (simp only [firstArgMember]; rfl)) ?_)
    refine wpAny_newObj_type ?_ (by size_fits)
    refine wpAny_raiseNew_none hh ?_
    have := h _ rfl
    rw [← Heap.size_push (o := seqO "tuple" #[] 0)] at this
    exact this
theorem tend_ok (hz : hT.objs.size = B) : ConOk prog w hT (endJ "tuple_iterator" "tuple_iterator.__next__" "tuple").con :=
  end_gen (b := Builtin.«tuple_iterator.__next__») hz (by decide +kernel) (entryFor_of_fast (by kernel_rfl)) fun A R s it l i items n hh ho hl hx h => by
    show wpAny _ _ (field (.ref it) 0 >>= _) _ _ s
    refine wpAny_bind (wpAny_field ho rfl (x := .ref l) rfl ?_)
    show wpAny _ _ (if (Value.ref l == Value.none) = true then _ else _) _ _ s
    rw [if_neg (show ¬ ((Value.ref l == Value.none) = true) from Bool.false_ne_true)]
    show wpAny _ _ (field (.ref it) 1 >>= _) _ _ s
    refine wpAny_bind (wpAny_field ho rfl (x := .int i 0) rfl ?_)
    show wpAny _ _ (seqItems? (.ref l) >>= _) _ _ s
    refine wpAny_bind (wpAny_seqItems hl rfl ?_)
    simp only [hx]
    refine wpAny_bind (wpAny_rule (wpAny_bind (wpAny_setField ho rfl (by simp) ?_)))
    show wpAny _ _ (newExc (.type "StopIteration") [] >>= _) _ _ _
    refine wpAny_bind ?_
    simp only [newExc, newTuple]
    refine wpAny_bind (wpAny_newObj_type ?_ (by size_fits))
    refine wpAny_bind (m := firstArgMember _ _) (wpAny_of_eq (a := Value.none) (by first | rfl | (simp only [firstArgMember]; rfl)) ?_)
    refine wpAny_newObj_type ?_ (by size_fits)
    refine wpAny_raiseNew_none hh ?_
    have := h _ rfl
    rw [← Heap.size_push (o := seqO "tuple" #[] 0)] at this
    exact this
end
end Mine
end

section
set_option maxRecDepth 100000
set_option linter.unusedVariables false
namespace Mine
open PySem PySem.Spec PySem.Calls PyProof.Rows PySem.W PySem.W.X
open PySem.Builtin PySem.Builtin.Str PySem.Builtin.Int

theorem lshift_gives (a : Int) (t u : Tok) (ha : ¬ (a == 0) = true) (h2 : ¬ (((intBits a : Nat) : Int) + 29) / 30 + 6 / 30 + (if ((6 : Int) % 30 == 0) = true then 0 else 1) > maxDigits) (h3 : ¬ intTooBig (((intBits a : Nat) : Int) + 6) = true) :
    Gives (Builtin.«int.__lshift__» ⟨[.int a t, .int 6 u], []⟩) (.int (a * 64)) :=
  .of_wp fun M A E s Q h => by
    obtain ⟨hp, g, d, tk, os⟩ := s
    have h0 : ¬ (6 : Int) < 0 := by decide
    wp_walk
    rw [if_neg h2]
    dsimp only
    rw [if_neg h3]
    exact wpAny_bind (wpAny_mkInt (wpAny_pure ⟨_, rfl, h⟩))
theorem intBits_le {a : Int} (h0 : 0 ≤ a) (h : a < 4096) : intBits a ≤ 12 := by
  unfold intBits
  split
  · omega
  · rename_i hz
    have hz' : a ≠ 0 := by simpa using hz
    have : a.natAbs ≠ 0 := by omega
    have : a.natAbs.log2 < 12 := (Nat.log2_lt this).mpr (by omega)
    omega
theorem lshift_gives' (a : Int) (t u : Tok) (h0 : 0 ≤ a) (h : a < 4096) : Gives (Builtin.«int.__lshift__» ⟨[.int a t, .int 6 u], []⟩) (.int (a * 64)) := by
  by_cases hz : (a == 0) = true
  · have := PySem.AutoIntG6.int___lshift___int_int_1 a t 6 u (by decide) hz
    have e : a = 0 := by simpa using hz
    subst e
    exact this
  · have hb := intBits_le h0 h
    refine lshift_gives a t u hz ?_ ?_
    · have e : (if ((6 : Int) % 30 == 0) = true then (0 : Int) else 1) = 1 := by decide
      rw [e]
      have : (maxDigits : Int) ≥ 100 := by decide +kernel
      omega
    · unfold intTooBig
      have : (bitsLine : Int) ≥ 100 := by decide +kernel
      simp only [decide_eq_true_eq]
      omega
section
variable {prog : Program} {w : World} {hT : Heap}
noncomputable def shl6C : Con := madeC "int.__lshift__" fun l _ => match l with
  | [.int a _, .int 6 _] => some (.int (a * 64), [0 ≤ a, a < 4096])
  | _ => none
theorem shl6_ok : ConOk prog w hT shl6C := madeC_ok (b := Builtin.«int.__lshift__») (by decide +kernel) PySem.F.entry_int_lshift fun l as m ps h ha => by
  split at h
  · cases h; exact lshift_gives' _ _ _ ha.1 ha.2.1
  · cases h
noncomputable def tk0 (xs : List Nat) : Nat := match xs with
  | x :: _ => x
  | [] => 0
/-- the truth of a text: its length, empty or not -/
noncomputable def lenC : Con where
  need := 1
  lvl := 0
  run := fun c T as xs => match c with
    | .builtin n ⟨[.str x t], []⟩ => match xs with
      | y :: _ => match yes as with
        | true => some ⟨[(.v (.builtin n), .v (.builtin "len"))], [x.length ≠ 0, x.length < 2 ^ 62], .ok (.ret (.int (Int.ofNat (x.length - 1 + 1)) y)), T⟩
        | false => some ⟨[(.v (.builtin n), .v (.builtin "len"))], [x.length = 0], .ok (.ret (.int (Int.ofNat 0) y)), T⟩
      | [] => none
    | _ => none
theorem len_ok : ConOk prog w hT lenC := by
  intro A h₀ U g d os c T as R h tk hh hr D K
  have key : ∀ x : Nat, ∃ o, lenC.run c T as [x] = some o ∧ (∀ q ∈ o.eqs, q.1 = q.2) ∧ (∀ q ∈ o.ps, q) ∧ ∀ h' t', RepU hT h₀ U o.T h' → R o.res ⟨h', g, d, t' + 1, os⟩ := fun x => K [x] rfl
  obtain ⟨o, ho, he', hps, _⟩ := key (tk + 1 + 1)
  simp only [lenC] at ho key
  split at ho <;> try (cases ho; done)
  rename_i n x t
  have go : (x.length : Int) < 2 ^ 62 → (∀ t', R (.ok (.ret (.int (x.length : Int) (tk + 1 + 1)))) ⟨h, g, d, t' + 1, os⟩) → codeAny (model prog w) A (.builtin "len" ⟨[.str x t], []⟩) R ⟨h, g, d, tk + 1, os⟩ := fun hf H => by
    refine code_builtin plain_len entry_len ?_
    exact wpAny_mono (wpAny_len_body (Q := fun r s' => R (.ok (.ret r)) s') (s := ⟨h, g, d, tk + 1, os⟩) (typeIs_str _ x t) F.slot_str_len F.entry_str_len (F.args_str_len_1 _) (gives_str_len x t) (by omega) (by omega) (H (tk + 1 + 1)))
      (fun fin s' h' => by obtain ⟨r, rfl, hq⟩ := h'; exact hq) fun _ _ e => e
  cases hy : yes as with
  | true =>
    simp only [hy] at ho key
    cases ho
    have e1 := he' _ (List.mem_cons_self ..)
    have hn : n = "len" := by cases e1; rfl
    subst hn
    have h1 : x.length ≠ 0 := hps _ (List.mem_cons_self ..)
    have h2 : x.length < 2 ^ 62 := hps _ (List.mem_cons_of_mem _ (List.mem_cons_self ..))
    refine go (by omega) fun t' => ?_
    obtain ⟨o, ho, _, _, hR⟩ := key (tk + 1 + 1)
    cases ho
    have := hR h t' D
    have e : (Int.ofNat (x.length - 1 + 1)) = (x.length : Int) := by rw [Nat.sub_add_cancel (by omega)]; rfl
    rw [e] at this
    exact this
  | false =>
    simp only [hy] at ho key
    cases ho
    have e1 := he' _ (List.mem_cons_self ..)
    have hn : n = "len" := by cases e1; rfl
    subst hn
    have h1 : x.length = 0 := hps _ (List.mem_cons_self ..)
    refine go (by omega) fun t' => ?_
    obtain ⟨o, ho, _, _, hR⟩ := key (tk + 1 + 1)
    cases ho
    have := hR h t' D
    rw [h1]
    exact this
noncomputable def replC : Con := madeC "str.replace" fun l _ => match l with
  | [.str x _, .str y u, .str z v] => some (.str (glued z (partsBetween x (occurrences x y 0 x.length (x.length + 1)) y.length)), [(u == 0 || v == 0) = false, (u == v) = false, (y == z) = false, tooLong (x.length + (occurrences x y 0 x.length (x.length + 1)).length * z.length) = false, ((occurrences x y 0 x.length (x.length + 1)).isEmpty || (y.length == 0 && z.length == 0)) = false])
  | _ => none
theorem repl_ok : ConOk prog w hT replC := madeC_ok (b := Builtin.«str.replace») (by decide +kernel) PySem.F.entry_str_replace fun l as m ps h ha => by
  split at h
  · rename_i x t y u z v
    cases h
    have := gives_str_replace x y z t u v (fun _ => ⟨ha.1, ha.2.1, ha.2.2.1, ha.2.2.2.1⟩)
    rw [if_neg (by rw [ha.2.2.2.2.1]; decide)] at this
    exact this
  · cases h
/-- the next octet of a bytes' iterator, k -/
noncomputable def bnextJ (k : Int) : Job (Int × Array UInt8 × Nat) where
  lvl := 0
  need := 1
  ext := fun _ os => match os with
    | [⟨_, _, .fields vs, _⟩] => match vs.toList with
      | [.bytes b t, .int i _] => some (i, b, t)
      | _ => none
    | _ => none
  code := fun ids _ => .builtin "bytes_iterator.__next__" ⟨[.ref (at0 ids)], []⟩
  pre := fun ids d => [itO "bytes_iterator" (.bytes d.2.1 d.2.2) d.1]
  side := fun _ d => [∃ u, d.2.1[d.1.toNat]? = some u ∧ k = (u.toNat : Int)]
  res := fun _ _ xs => .ok (.ret (.int k (tk0 xs)))
  new := fun _ _ _ => []
  post := fun ids d _ => [itO "bytes_iterator" (.bytes d.2.1 d.2.2) (d.1 + 1)]
theorem bnext_ok {k : Int} (hz : hT.objs.size = B) : ConOk prog w hT (bnextJ k).con := Job.con_ok (fun ids d hl hs => by
  obtain ⟨i, b, t⟩ := d
  match ids, hl with
  | [x], _ =>
    intro A h₀ U g d os R h tk hh hr D K
    have ho := D.at' (x, itO "bytes_iterator" (.bytes b t) i) (List.mem_cons_self ..)
    obtain ⟨u, hu, hk⟩ := hs.1
    subst hk
    refine code_builtin (b := Builtin.«bytes_iterator.__next__») (by decide +kernel) (entryFor_of_fast (by kernel_rfl)) ?_
    show wpAny _ _ (field (.ref (x + B)) 0 >>= _) _ _ _
    refine wpAny_bind (wpAny_field ho rfl (x := .bytes b t) rfl ?_)
    show wpAny _ _ (if (Value.bytes b t == Value.none) = true then _ else _) _ _ _
    rw [if_neg (show ¬ ((Value.bytes b t == Value.none) = true) from Bool.false_ne_true)]
    show wpAny _ _ (field (.ref (x + B)) 1 >>= _) _ _ _
    refine wpAny_bind (wpAny_field ho rfl (x := .int i 0) rfl ?_)
    show wpAny _ _ (match b[i.toNat]? with | some _ => _ | none => _) _ _ _
    rw [hu]
    refine wpAny_bind (wpAny_setField ho rfl (by simp) ?_)
    have D' := D.update hz (j := 0) (q := (x, itO "bytes_iterator" (.bytes b t) i)) (f := Obj.mapFields (·.setIfInBounds 1 (.int (i + 1) 0))) rfl rfl
    have := K [tk + 1] rfl _ (tk + 1) D'
    refine wpAny_bind (wpAny_mkInt (wpAny_pure ?_))
    exact this) (fun _ _ _ => rfl)
end
end Mine
end

section
set_option maxRecDepth 100000
set_option linter.unusedVariables false
namespace Mine
open PySem PySem.Spec PySem.Calls PyProof.Rows PySem.W PySem.W.X

/-- the octets of a move -/
noncomputable def octL (m : Int) : List Int := if m ≤ 63 then [128 + m.fmod 64] else if m.fdiv 64 ≤ 63 then [128 + (64 + (m.fdiv 64).fmod 64), m.fmod 64]
  else [128 + (64 + ((m.fdiv 64).fdiv 64).fmod 64), 64 + (m.fdiv 64).fmod 64, m.fmod 64]
noncomputable def intVals : List Int → List Nat → List Value
  | i :: r, x :: xs => .int i x :: intVals r xs
  | i :: r, [] => .int i 0 :: intVals r []
  | [], _ => []
noncomputable def octJ : Job (Int × Nat) where
  lvl := 1
  need := 4
  ext := fun c _ => match c with
    | .call _ ⟨[.int m t], []⟩ => some (m, t)
    | _ => none
  code := fun _ d => .call (.ref 874) ⟨[.int d.1 d.2], []⟩
  pre := fun _ _ => []
  side := fun _ d => [0 ≤ d.1, d.1 < 262144]
  res := fun _ _ xs => .ok (.ret (.ref (at0 xs)))
  new := fun _ d xs => match xs with
    | x :: xs => [(x, listO ⟨intVals (octL d.1) xs⟩ 0)]
    | [] => []
  post := fun _ _ _ => []
noncomputable abbrev octCs : List Con := [cmpC "int.__gt__" (fun a b => decide (a > b)), floordivC]
theorem run_oct1 (w : World) (a b : Bool) (m : Int) (t : Nat) (f : Nat → Nat) : RunIs (codeU (VW w a b octCs 1) (simU (VW w a b octCs 1) 103) none (.call (.ref 874) ⟨[.int m t], []⟩) 305180068188857657344868206606682101476876491659015680051596327687649286160540087684794770417855764157693954 (mk f 15) .base [] [] [])
    [decide (m > 63) = false] (.ret (.ok (.ret (.ref (f 14 + B)))) [(f 14, listO ⟨[.int (128 + m.fmod 64) (f 9)]⟩ 0)]) := RunIs.of (by cases a <;> kernel_rfl)
noncomputable abbrev fdOk : List Prop := [True, ¬ (((64 : Int) == 0) = true), (64 : Int).natAbs < 1073741824]
theorem run_oct2 (w : World) (a b : Bool) (m : Int) (t : Nat) (f : Nat → Nat) : RunIs (codeU (VW w a b octCs 1) (simU (VW w a b octCs 1) 163) none (.call (.ref 874) ⟨[.int m t], []⟩) 8227638362248997988480642856597487748304132580733767663134483028473837488075043724734102404154281866819791143743930062579742284867876894256479112795008598864354746131034406914 (mk f 26) .base [] [] [])
    ([decide (m.fdiv 64 > 63) = false] ++ fdOk ++ [decide (m > 63) = true]) (.ret (.ok (.ret (.ref (f 25 + B)))) [(f 25, listO ⟨[.int (128 + (64 + (m.fdiv 64).fmod 64)) (f 20), .int (m.fmod 64) (f 3)]⟩ 0)]) := RunIs.of (by cases a <;> kernel_rfl)
theorem run_oct3 (w : World) (a b : Bool) (m : Int) (t : Nat) (f : Nat → Nat) : RunIs (codeU (VW w a b octCs 1) (simU (VW w a b octCs 1) 223) none (.call (.ref 874) ⟨[.int m t], []⟩) 221816691442835621697112057127595504185813751677834126812867231237916481965865744119286362463381110676051081673252133596460368815093320711614252199773663100126998362623500822799253020344044194526682065987348718587724028501817217904272941776898 (mk f 37) .base [] [] [])
    ([decide ((m.fdiv 64).fdiv 64 > 63) = false] ++ fdOk ++ [decide (m.fdiv 64 > 63) = true] ++ fdOk ++ [decide (m > 63) = true]) (.ret (.ok (.ret (.ref (f 36 + B)))) [(f 36, listO ⟨[.int (128 + (64 + ((m.fdiv 64).fdiv 64).fmod 64)) (f 31), .int (64 + (m.fdiv 64).fmod 64) (f 13), .int (m.fmod 64) (f 3)]⟩ 0)]) := RunIs.of (by cases a <;> kernel_rfl)
section
variable {w : World} {a b : Bool} {hT : Heap}
theorem octCs_ok : Cons pwT' (WW w a b) hT octCs := ⟨gt_ok, floordiv_ok, trivial⟩
theorem fdOk_ok (r : List Prop) (h : Alls r) : Alls (fdOk ++ r) := ⟨trivial, by decide, by decide, h⟩
theorem oct_ok (TK : TopK (WW w a b) hT) : ConOk pwT' (WW w a b) hT octJ.con := Job.con_ok (fun ids d hl hs => by
  obtain ⟨m, t⟩ := d
  have hs1 : 0 ≤ m := hs.1
  have hs2 : m < 262144 := hs.2.1
  have e0 : octJ.into ids (m, t) = [] := by cases ids <;> rfl
  have e1 : ∀ xs, octJ.out ids (m, t) xs = (.ok (.ret (.ref (at0 xs))), (match xs with | x :: xs => [(x, listO ⟨intVals (octL m) xs⟩ 0)] | [] => [])) := fun xs => by
    cases ids <;> (show (_, _ ++ []) = _; rw [List.append_nil]; rfl)
  rw [e0]
  have f1 : m.fdiv 64 = m / 64 := Int.fdiv_eq_ediv_of_nonneg _ (by decide)
  have f2 : (m.fdiv 64).fdiv 64 = m / 64 / 64 := by rw [f1]; exact Int.fdiv_eq_ediv_of_nonneg _ (by decide)
  have ho : ∀ xs : List Nat, octJ.out ids (m, t) xs = (.ok (.ret (.ref (at0 xs))), (match xs with | x :: xs => [(x, listO ⟨intVals (octL m) xs⟩ 0)] | [] => [])) := e1
  by_cases c1 : m ≤ 63
  · refine SegOk.of_run (V := VW w a b octCs 1) (uok TK) (conOf_ok octCs_ok) (Nat.le_refl _) (run_oct1 w a b m t) (fun f => ⟨by simp; omega, trivial⟩) (fun f => ⟨[f 14, f 9, 0, 0], rfl, ?_⟩)
    rw [e1, show octL m = _ from if_pos c1]; rfl
  · by_cases c2 : m.fdiv 64 ≤ 63
    · refine SegOk.of_run (V := VW w a b octCs 1) (uok TK) (conOf_ok octCs_ok) (Nat.le_refl _) (run_oct2 w a b m t) (fun f => ⟨by simp; omega, fdOk_ok _ ⟨by simp; omega, trivial⟩⟩) (fun f => ⟨[f 25, f 20, f 3, 0], rfl, ?_⟩)
      rw [e1, show octL m = _ from (if_neg c1).trans (if_pos c2)]; rfl
    · refine SegOk.of_run (V := VW w a b octCs 1) (uok TK) (conOf_ok octCs_ok) (Nat.le_refl _) (run_oct3 w a b m t) (fun f => ⟨by simp; omega, fdOk_ok _ ⟨by simp; omega, fdOk_ok _ ⟨by simp; omega, trivial⟩⟩⟩) (fun f => ⟨[f 36, f 31, f 13, f 3], rfl, ?_⟩)
      rw [e1, show octL m = _ from (if_neg c1).trans (if_neg c2)]; rfl) (fun _ _ _ => rfl)
end
end Mine
end

section
set_option maxRecDepth 100000
set_option linter.unusedVariables false
namespace Mine
open PySem PySem.Spec PySem.Calls PyProof.Rows PySem.W PySem.W.X
open PySem.Builtin PySem.Builtin.Str

/-- a job at one list's slot: what its code says is kept as a value -/
noncomputable def extL (os : List Obj) : Option (Array Value × Nat) := match os with
  | [⟨_, _, .seq items n, _⟩] => some (items, n)
  | _ => none
noncomputable def tailV (c : Code) : Value := match c with
  | .builtin _ ⟨[_, v], []⟩ => v
  | _ => .none
/-- a list's length, written as a function g of it -/
noncomputable def llenJ (g : Nat → Int) (p : Nat → Prop) : Job (Array Value × Nat) where
  lvl := 0
  need := 1
  ext := fun _ os => extL os
  code := fun ids _ => .builtin "len" ⟨[.ref (at0 ids)], []⟩
  pre := fun _ d => [listO d.1 d.2]
  side := fun _ d => [p d.1.size, d.1.size < 2 ^ 62]
  res := fun _ d xs => .ok (.ret (.int (g d.1.size) (tk0 xs)))
  new := fun _ _ _ => []
  post := fun _ d _ => [listO d.1 d.2]
/-- an item of a list, v -/
noncomputable def lgetJ (v : Value) : Job (Array Value × Nat × Int × Nat) where
  lvl := 0
  need := 0
  ext := fun c os => match extL os, tailV c with
    | some (items, n), .int k u => some (items, n, k, u)
    | _, _ => none
  code := fun ids d => .builtin "list.__getitem__" ⟨[.ref (at0 ids), .int d.2.2.1 d.2.2.2], []⟩
  pre := fun _ d => [listO d.1 d.2.1]
  side := fun _ d => [-(d.1.size : Int) ≤ d.2.2.1 ∧ -(2 ^ 63) ≤ d.2.2.1 ∧ d.2.2.1 < 2 ^ 63 ∧ d.1[(if 0 ≤ d.2.2.1 then d.2.2.1 else d.2.2.1 + d.1.size).toNat]? = some v]
  res := fun _ d xs => .ok (.ret v)
  new := fun _ _ _ => []
  post := fun _ d _ => [listO d.1 d.2.1]
noncomputable def lappJ : Job (Array Value × Nat × Value) where
  lvl := 0
  need := 0
  ext := fun c os => match extL os with
    | some (items, n) => some (items, n, tailV c)
    | _ => none
  code := fun ids d => .builtin "list.append" ⟨[.ref (at0 ids), d.2.2], []⟩
  pre := fun _ d => [listO d.1 d.2.1]
  side := fun _ d => [d.1.size ≤ sizeLine]
  res := fun _ d xs => .ok (.ret .none)
  new := fun _ _ _ => []
  post := fun _ d _ => [listO (d.1.push d.2.2) (d.2.1 + 1)]
noncomputable def lpopJ (v : Value) : Job (Array Value × Nat) where
  lvl := 0
  need := 0
  ext := fun _ os => extL os
  code := fun ids d => .builtin "list.pop" ⟨[.ref (at0 ids)], []⟩
  pre := fun _ d => [listO d.1 d.2]
  side := fun _ d => [d.1[d.1.size - 1]? = some v, d.1.size ≤ sizeLine]
  res := fun _ d xs => .ok (.ret v)
  new := fun _ _ _ => []
  post := fun _ d _ => [listO d.1.pop (d.2 + 1)]
/-- a text's parts, the separator is there -/
noncomputable def splitJ : Job (Str × Nat × Str × Nat) where
  lvl := 0
  need := 2
  ext := fun c _ => match c with
    | .builtin _ ⟨[.str x t, .str y u], []⟩ => some (x, t, y, u)
    | _ => none
  code := fun _ d => .builtin "str.split" ⟨[.str d.1 d.2.1, .str d.2.2.1 d.2.2.2], []⟩
  pre := fun _ _ => []
  side := fun _ d => [(decide (d.1.length < d.2.2.1.length) || decide (strKind d.1 < strKind d.2.2.1)) = false, (d.2.2.1.length == 0) = false, (occurrences d.1 d.2.2.1 0 d.1.length (d.1.length + 1)).isEmpty = false, d.1.length ≤ sizeLine,
    (partsBetween d.1 (occurrences d.1 d.2.2.1 0 d.1.length (d.1.length + 1)) d.2.2.1.length).length ≤ sizeLine]
  res := fun _ _ xs => .ok (.ret (.ref (at0 xs)))
  new := fun _ d xs => match xs with
    | [x, t] => [(x, listO (strsFrom t (partsBetween d.1 (occurrences d.1 d.2.2.1 0 d.1.length (d.1.length + 1)) d.2.2.1.length)).toArray 0)]
    | _ => []
  post := fun _ _ _ => []
noncomputable def joinedT (items : List Value) (x : Nat) : Nat := match items with
  | [.str _ t] => t
  | _ => x
noncomputable def unV (v : Value) : Str × Tok := match v with
  | .str s t => (s, t)
  | _ => (⟨#[]⟩, 0)
/-- a list's texts, joined -/
noncomputable def sjoinJ : Job (Str × Nat × Array Value × Nat) where
  lvl := 0
  need := 1
  ext := fun c os => match c, extL os with
    | .builtin _ ⟨[.str s t, _], []⟩, some (items, n) => some (s, t, items, n)
    | _, _ => none
  code := fun ids d => .builtin "str.join" ⟨[.str d.1 d.2.1, .ref (at0 ids)], []⟩
  pre := fun _ d => [listO d.2.2.1 d.2.2.2]
  side := fun _ d => [∃ l, d.2.2.1.toList = strValues l ∧ tooLong ((l.map (·.1)).toArray.foldl (· + ·.length + d.1.length) 0) = false ∧ (glued d.1 (l.map (·.1))).length ≤ sizeLine]
  res := fun _ d xs => .ok (.ret (.str (glued d.1 (d.2.2.1.toList.map fun v => (unV v).1)) (joinedT d.2.2.1.toList (tk0 xs))))
  new := fun _ _ _ => []
  post := fun _ d _ => [listO d.2.2.1 d.2.2.2]

theorem push_obj (items : Array Value) (n : Nat) (v : Value) : Obj.mapSeq (fun x => x.push v) (listO items n) = listO (items.push v) (n + 1) := by
  unfold Obj.mapSeq listO
  have : ((items.push v).size == items.size) = false := by simp
  simp only [this]
  rfl
theorem pop_obj (items : Array Value) (n : Nat) (h : items.size ≠ 0) : Obj.mapSeq (fun x => x.eraseIdxIfInBounds (items.size - 1)) (listO items n) = listO items.pop (n + 1) := by
  have e : items.eraseIdxIfInBounds (items.size - 1) = items.pop := by
    unfold Array.eraseIdxIfInBounds
    rw [dif_pos (by omega)]
    apply Array.ext'
    rw [Array.toList_eraseIdx, Array.toList_pop, List.eraseIdx_eq_take_drop_succ, List.dropLast_eq_take, Array.length_toList, Nat.sub_add_cancel (by omega), List.drop_eq_nil_of_le (by rw [Array.length_toList]; exact Nat.le_refl _), List.append_nil]
  unfold Obj.mapSeq listO
  have : (items.pop.size == items.size) = false := by simp; omega
  simp only [e, this]
  rfl
theorem glued_one (sep s : Str) : glued sep [s] = s := by
  unfold glued; simp
theorem strValues_un : ∀ (l : List (Str × Tok)), (strValues l).map (fun v => (unV v).1) = l.map (·.1)
  | [] => rfl
  | p :: r => by
    show (unV (.str p.1 p.2)).1 :: (strValues r).map _ = _
    rw [strValues_un r]; rfl

section
variable {prog : Program} {w : World} {hT : Heap}
theorem llen_ok {g : Nat → Int} {p : Nat → Prop} (hg : ∀ n, p n → g n = n) : ConOk prog w hT (llenJ g p).con := Job.con_ok (fun ids d hl hs => by
  obtain ⟨items, n⟩ := d
  match ids, hl with
  | [x], _ =>
    intro A h₀ U g' d os R h tk hh hr D K
    have h1 := D.at' (x, listO items n) (List.mem_cons_self ..)
    have hsz : items.size < 2 ^ 62 := hs.2.1
    have hgg : g items.size = items.size := hg _ hs.1
    refine code_builtin plain_len entry_len ?_
    have := K [tk + 1 + 1] rfl _ (tk + 1 + 1) D
    refine wpAny_mono (wpAny_len_body_list (Q := fun r s' => R (.ok (.ret r)) s') (s := ⟨h, g', d, tk + 1, os⟩) (items := items) (l := x + B) ⟨_, h1, rfl, n, rfl⟩ (by omega) ?_) (fun fin s' h' => by obtain ⟨r, rfl, hq⟩ := h'; exact hq) fun _ _ e => e
    have e : ((llenJ g p).out [x] (items, n) [tk + 1 + 1]).1 = .ok (.ret (.int (items.size : Int) (tk + 1 + 1))) := by
      show Except.ok (Flow.ret (.int (g items.size) _)) = _
      rw [hgg]; rfl
    rw [e] at this
    exact this) (fun _ _ _ => rfl)
theorem lget_ok {v : Value} : ConOk prog w hT (lgetJ v).con := Job.con_ok (fun ids d hl hs => by
  obtain ⟨items, n, k, t⟩ := d
  match ids, hl with
  | [x], _ =>
    intro A h₀ U g' d os R h tk hh hr D K
    have ho := D.at' (x, listO items n) (List.mem_cons_self ..)
    obtain ⟨⟨b1, b2, b3, hx⟩, _⟩ := hs
    have b1' : -(items.size : Int) ≤ k := b1
    have b2' : -(2 ^ 63) ≤ k := b2
    have b3' : k < 2 ^ 63 := b3
    have hx' : items[(if 0 ≤ k then k else k + items.size).toNat]? = some v := hx
    have fin := K [] rfl _ tk D
    refine code_builtin (b := Builtin.«list.__getitem__») (by decide +kernel) PySem.F.entry_list_getitem ?_
    show wpAny _ _ (Builtin.List.listSubscript? (.int k t) >>= _) _ _ _
    by_cases h0 : 0 ≤ k
    · rw [if_pos h0] at hx'
      refine wpAny_bind (wpAny_listSubscript_int (fitsIndex_of h0 b3') ?_)
      clear b1 b1' b2 b2' b3 b3' hx
      obtain ⟨j, rfl⟩ := Int.eq_ofNat_of_zero_le h0
      have hx2 : items[j]? = some v := hx'
      show wpAny _ _ ((seqItemAt (x + B) j >>= fun r => pure (r.map (j, ·))) >>= _) _ _ _
      refine wpAny_bind (wpAny_bind (wpAny_seqItemAt ho rfl (wpAny_pure ?_)))
      rw [hx2]
      first
        | exact wpAny_bind (wpAny_pure (wpAny_pure fin))
        | exact wpAny_pure fin
    · rw [if_neg h0] at hx'
      have hlt : k < 0 := by omega
      refine wpAny_bind (wpAny_listSubscript_int (fitsIndex_neg hlt b2') ?_)
      have hidx := seqIndex_neg hlt b1'
      clear b1 b1' b2 b2' b3 b3' hx
      obtain ⟨j, rfl⟩ : ∃ j : Nat, k = Int.negSucc j := by
        cases k with
        | ofNat n => exact absurd hlt (Int.not_lt.mpr (Int.ofNat_nonneg n))
        | negSucc n => exact ⟨n, rfl⟩
      show wpAny _ _ ((Builtin.List.listItems (.ref (x + B)) >>= fun xs => pure ((seqIndex? (Int.negSucc j) xs.size).bind fun i => xs[i]?.map (i, ·))) >>= _) _ _ _
      refine wpAny_bind (wpAny_bind ?_)
      show wpAny _ _ (seqItems? (.ref (x + B)) >>= _) _ _ _
      refine wpAny_bind (wpAny_seqItems ho rfl (wpAny_pure (wpAny_pure ?_)))
      rw [hidx]
      simp only [Option.bind_some, hx', Option.map_some]
      first
        | exact wpAny_bind (wpAny_pure (wpAny_pure fin))
        | exact wpAny_pure fin) (fun _ _ _ => rfl)
theorem lapp_ok (hz : hT.objs.size = B) : ConOk prog w hT lappJ.con := Job.con_ok (fun ids d hl hs => by
  obtain ⟨items, n, v⟩ := d
  match ids, hl with
  | [x], _ =>
    intro A h₀ U g' d os R h tk hh hr D K
    have ho := D.at' (x, listO items n) (List.mem_cons_self ..)
    refine code_meets (b := Builtin.«list.append») (by decide +kernel) entry_list_append (PySem.AutoListH.list_append_list_val_0 (x + B) items n v hs.1) ⟨ho, ?_⟩
    have D' := D.update hz (j := 0) (q := (x, listO items n)) (f := Obj.mapSeq (fun x => x.push v)) rfl (by rw [push_obj]; rfl)
    have e : setAt (lappJ.into [x] (items, n, v)) 0 (Obj.mapSeq (fun x => x.push v)) = [(x, listO (items.push v) (n + 1))] := by
      rw [← push_obj]; rfl
    rw [e] at D'
    exact K [] rfl _ tk D') (fun _ _ _ => rfl)
theorem lpop_ok {v : Value} (hz : hT.objs.size = B) : ConOk prog w hT (lpopJ v).con := Job.con_ok (fun ids d hl hs => by
  obtain ⟨items, n⟩ := d
  match ids, hl with
  | [x], _ =>
    intro A h₀ U g' d os R h tk hh hr D K
    have ho := D.at' (x, listO items n) (List.mem_cons_self ..)
    have hv : items[items.size - 1]? = some v := hs.1
    have h0 : items.size ≠ 0 := by
      intro e
      rw [Array.getElem?_eq_none (by omega)] at hv
      cases hv
    refine code_meets (b := Builtin.«list.pop») (by decide +kernel) PySem.F.entry_list_pop (PySem.MeetsSeq.list_pop_last (x + B) items n v hv hs.2.1) ⟨ho, ?_⟩
    have D' := D.update hz (j := 0) (q := (x, listO items n)) (f := Obj.mapSeq (fun x => x.eraseIdxIfInBounds (items.size - 1))) rfl (by rw [pop_obj items n h0]; rfl)
    have e : setAt ((lpopJ v).into [x] (items, n)) 0 (Obj.mapSeq (fun x => x.eraseIdxIfInBounds (items.size - 1))) = [(x, listO items.pop (n + 1))] := by
      rw [← pop_obj items n h0]; rfl
    rw [e] at D'
    exact K [] rfl _ tk D') (fun _ _ _ => rfl)
theorem split_ok : ConOk prog w hT splitJ.con := Job.con_ok (fun ids d hl hs => by
  obtain ⟨x, t, y, u⟩ := d
  match ids, hl with
  | [], _ =>
    intro A h₀ U g' d os R h tk hh hr D K
    refine code_meets (b := Builtin.«str.split») (by decide +kernel) PySem.F.entry_str_split (meets_str_split_sep x y t u hs.1 hs.2.1 hs.2.2.1 hs.2.2.2.1 hs.2.2.2.2.1) ?_
    generalize hP : partsBetween x (occurrences x y 0 x.length (x.length + 1)) y.length = ps
    obtain ⟨D', e⟩ := D_new D (o := listO (strsFrom (tk + 1) ps).toArray 0) rfl
    have k := K [h.objs.size - B, tk + 1] rfl (h.push (listO (strsFrom (tk + 1) ps).toArray 0)) (tk + ps.length) (by rw [← hP] at D' ⊢; exact D')
    have k' : R (.ok (.ret (.ref (h.objs.size - B + B)))) _ := k
    rw [e] at k'
    have e2 : tk + 1 + ps.length = tk + ps.length + 1 := by omega
    show R _ { heap := _, gens := g', drawn := d, toks := tk + 1 + ps.length, os := os }
    rw [e2]
    exact k') (fun _ _ _ => rfl)
theorem sjoin_ok : ConOk prog w hT sjoinJ.con := Job.con_ok (fun ids d hl hs => by
  obtain ⟨sep, t, items, n⟩ := d
  match ids, hl with
  | [x], _ =>
    intro A h₀ U g' d os R h tk hh hr D K
    have ho := D.at' (x, listO items n) (List.mem_cons_self ..)
    obtain ⟨⟨l, hi, hl1, hl2⟩, _⟩ := hs
    have hi' : items.toList = strValues l := hi
    have hi2 : items = (strValues l).toArray := by apply Array.ext'; rw [hi']
    have hl2' : (glued sep (l.map (·.1))).length ≤ sizeLine := hl2
    refine code_meets (b := Builtin.«str.join») (by decide +kernel) PySem.F.entry_str_join (meets_str_join_list sep t (x + B) l hl1) ⟨⟨_, ho, rfl, n, by rw [← hi2]; rfl⟩, ?_⟩
    have r1 : ∀ xs, (sjoinJ.out [x] (sep, t, items, n) xs).1 = .ok (.ret (.str (glued sep (l.map (·.1))) (joinedT (strValues l) (tk0 xs)))) := fun xs => by
      show Except.ok (Flow.ret (.str (glued sep (items.toList.map _)) (joinedT items.toList _))) = _
      rw [hi', strValues_un]
    cases l with
    | nil =>
      have := K [tk + 1] rfl _ (tk + 1) D
      rw [r1] at this
      exact ⟨hl2', this⟩
    | cons p r =>
      cases r with
      | nil =>
        have := K [0] rfl _ tk D
        rw [r1] at this
        have e : glued sep (List.map (fun x => x.1) [p]) = p.1 := glued_one _ _
        rw [e] at this
        exact this
      | cons p2 r =>
        have := K [tk + 1] rfl _ (tk + 1) D
        rw [r1] at this
        exact ⟨hl2', this⟩) (fun _ _ _ => rfl)
end
end Mine
end

section
set_option maxRecDepth 100000
set_option linter.unusedVariables false
namespace Mine
open PySem PySem.Spec PySem.Calls PyProof.Rows PySem.W PySem.W.X
open PySem.Builtin PySem.Builtin.Str
/-- a list of one item, so many times -/
noncomputable def lmulJ : Job (Value × Nat × Int × Nat) where
  lvl := 0
  need := 1
  ext := fun c os => match extL os, tailV c with
    | some (items, n), .int k u => match items.toList with
      | [v] => some (v, n, k, u)
      | _ => none
    | _, _ => none
  code := fun ids d => .builtin "list.__mul__" ⟨[.ref (at0 ids), .int d.2.2.1 d.2.2.2], []⟩
  pre := fun _ d => [listO #[d.1] d.2.1]
  side := fun _ d => [0 ≤ d.2.2.1, d.2.2.1 ≤ 1000]
  res := fun _ _ xs => .ok (.ret (.ref (at0 xs)))
  new := fun _ d xs => match xs with
    | x :: _ => [(x, listO ⟨List.replicate d.2.2.1.toNat d.1⟩ 0)]
    | [] => []
  post := fun _ d _ => [listO #[d.1] d.2.1]
theorem fold_rep (v : Value) : ∀ (k : Nat) (acc : Array Value), (List.foldl (fun x1 x2 => x1 ++ x2) acc (List.replicate k #[v])).toList = acc.toList ++ List.replicate k v
  | 0, acc => by simp
  | k + 1, acc => by
    rw [List.replicate_succ, List.foldl_cons, fold_rep v k, Array.toList_append, List.replicate_succ]
    simp
section
variable {prog : Program} {w : World} {hT : Heap}
theorem lmul_ok : ConOk prog w hT lmulJ.con := Job.con_ok (fun ids d hl hs => by
  obtain ⟨v, n, k, u⟩ := d
  match ids, hl with
  | [x], _ =>
    intro A h₀ U g' d os R h tk hh hr D K
    have ho := D.at' (x, listO #[v] n) (List.mem_cons_self ..)
    have h0 : 0 ≤ k := hs.1
    have h1 : k ≤ 1000 := hs.2.1
    have kk : k.toNat ≤ 1000 := by omega
    have e1 : (#[v] : Array Value).size * k.toNat = k.toNat := by simp
    have eR : (List.foldl (fun x1 x2 => x1 ++ x2) #[] (List.replicate (if (#[v] : Array Value).isEmpty = true then 0 else k.toNat) #[v])) = (⟨List.replicate k.toNat v⟩ : Array Value) := by
      apply Array.ext'
      rw [fold_rep]
      simp
    refine code_meets (b := Builtin.«list.__mul__») (by decide +kernel) PySem.F.entry_list_mul (PySem.AutoListH.list___mul___list_int_3 (x + B) #[v] n k u ?_ ?_ ?_) ⟨ho, ?_⟩
    · rw [fitsIndex_of h0 (by omega)]; decide
    · rw [e1]
      have : (1000 : Nat) ≤ (2 ^ 63 - 1) / 8 := by decide
      omega
    · rw [e1]
      unfold Builtin.List.listTooLong
      have : sizeLine = 16777216 := by decide
      simp only [decide_eq_true_eq]
      omega
    rw [eR]
    obtain ⟨D', e⟩ := D_new D (o := listO ⟨List.replicate k.toNat v⟩ 0) rfl
    have : R (.ok (.ret (.ref (h.objs.size - B + B)))) _ := K [h.objs.size - B] rfl _ tk D'
    rw [e] at this
    exact this) (fun _ _ _ => rfl)
end
end Mine
end

section
set_option maxRecDepth 100000
set_option linter.unusedVariables false
namespace Mine
open PySem PyProof.Rows PySem.W PySem.W.X
noncomputable def cellO (v : Value) : Obj := ⟨.type "cell", none, .cell (some v), #[]⟩
noncomputable def envC (sc : Scope) (fr : Nat) (q : Str) (fn code : Nat) (cells : List (Str × Addr)) : Env := { scope := sc, locals := fr + B, globals := 3, cells := cells, qual := q ++ ".<locals>.", func := some fn, code := .ref code, frame := some (fr + B), builtins := 0 }
noncomputable abbrev plCells (wc hc lc : Nat) : List (Str × Addr) := [((⟨⟨[119, 104, 111, 108, 101]⟩⟩ : Str), wc + B), ((⟨⟨[104, 101, 105, 103, 104, 116]⟩⟩ : Str), hc + B), ((⟨⟨[108, 111, 119, 115]⟩⟩ : Str), lc + B)]
noncomputable def plLoop (it fr wc hc lc : Nat) : Code := forC (stN (fnB (tS 50)) 1) (.ref (it + B)) (envC (fnS (tS 50)) fr (⟨⟨[95, 108, 97, 119, 95, 112, 108, 97, 99, 101]⟩⟩ : Str) 886 885 (plCells wc hc lc))
noncomputable abbrev plCs (u : Int) (tu : Nat) : List Con := [(itemJ "list_iterator" "list_iterator.__next__" "list" (.int u tu)).con, (endJ "list_iterator" "list_iterator.__next__" "list").con, lappJ.con]
noncomputable abbrev frP2 (P : Params) (t1 up t2 : Nat) (v2 : Value) (n : Nat) : Obj := frO P [((⟨⟨[117, 112, 115]⟩⟩ : Str), t1, .ref (up + B)), ((⟨⟨[110, 97, 109, 101, 115]⟩⟩ : Str), t2, v2)] n
noncomputable abbrev frP3 (P : Params) (t1 up t2 : Nat) (v2 : Value) (t3 : Nat) (v3 : Value) (n : Nat) : Obj := frO P [((⟨⟨[117, 112, 115]⟩⟩ : Str), t1, .ref (up + B)), ((⟨⟨[110, 97, 109, 101, 115]⟩⟩ : Str), t2, v2), ((⟨⟨[117, 112]⟩⟩ : Str), t3, v3)] n
noncomputable abbrev plT (it lw hc lc fr up : Nat) (i : Int) (arr : Array Value) (k : Nat) (h : Int) (th : Nat) (fo : Obj) (items : Array Value) (m : Nat) : Slots :=
  [(it, itO "list_iterator" (.ref (up + B)) i), (lw, listO arr k), (hc, cellO (.int h th)), (lc, cellO (.ref (lw + B))), (fr, fo), (up, seqO "list" items m)]
section
variable (w : World) (a b : Bool) (it lw wc hc lc fr up : Nat) (i h u : Int) (t1 t2 t3 th tu n k m : Nat) (v2 v3 : Value) (arr items : Array Value) (f : Nat → Nat)
theorem run_pl2 : RunIs (codeU (VW w a b (plCs u tu) 1) (simU (VW w a b (plCs u tu) 1) 94) none (plLoop it fr wc hc lc) 341036262045711853244329650900782523330030726402262576337220766367083414529 (mk f 5) .base (plT it lw hc lc fr up i arr k h th (frP2 (WW w a b).params t1 up t2 v2 n) items m) [] [])
    [arr.size ≤ sizeLine, items[i.toNat]? = some (.int u tu)] (.stop (plLoop it fr wc hc lc) (plT it lw hc lc fr up (i + 1) (arr.push (.int (h - u) (f 1))) (k + 1) (h - u + 1) (f 4) (frP3 (WW w a b).params t1 up t2 v2 (f 0) (.int u tu) (n + 1)) items m)) := RunIs.of (by cases a <;> kernel_rfl)
theorem run_pl3 : RunIs (codeU (VW w a b (plCs u tu) 1) (simU (VW w a b (plCs u tu) 1) 94) none (plLoop it fr wc hc lc) 341036262045711853244329650900782523330030726402262576337220766367083414529 (mk f 5) .base (plT it lw hc lc fr up i arr k h th (frP3 (WW w a b).params t1 up t2 v2 t3 v3 n) items m) [] [])
    [arr.size ≤ sizeLine, items[i.toNat]? = some (.int u tu)] (.stop (plLoop it fr wc hc lc) (plT it lw hc lc fr up (i + 1) (arr.push (.int (h - u) (f 1))) (k + 1) (h - u + 1) (f 4) (frP3 (WW w a b).params t1 up t2 v2 t3 (.int u tu) n) items m)) := RunIs.of (by cases a <;> kernel_rfl)
theorem run_plEnd : RunIs (codeU (VW w a b (plCs u tu) 1) (simU (VW w a b (plCs u tu) 1) 46) none (plLoop it fr wc hc lc) 5068573869200678457316492289 (mk f 2) .base (plT it lw hc lc fr up i arr k h th (frP3 (WW w a b).params t1 up t2 v2 t3 v3 n) items m) [] [])
    [items[i.toNat]? = none] (.ret (.ok .next) [(it, ⟨.type "list_iterator", none, .fields #[.none, .int i 0], #[]⟩), (lw, listO arr k), (hc, cellO (.int h th)), (lc, cellO (.ref (lw + B))), (fr, frP3 (WW w a b).params t1 up t2 v2 t3 v3 n), (up, seqO "list" items m)]) := RunIs.of (by cases a <;> kernel_rfl)
end
end Mine
end

section
set_option maxRecDepth 100000
namespace Mine
open PySem PyProof.Rows PySem.W PySem.W.X
/-! comprehensions -/
noncomputable def compS (e : Expr) : Scope := match e with
  | .ListComp _ _ sc _ => sc
  | _ => default
noncomputable def cellSc (sc : Scope) : Scope := { sc with names := sc.names.map fun (n, k) => match k with
  | .free => (n, .cell)
  | k => (n, k) }
noncomputable def envP (sc : Scope) (lo fr : Nat) (q : Str) (code : Nat) (cells : List (Str × Addr)) : Env := { scope := cellSc sc, locals := lo + B, globals := 3, cells := cells, qual := q ++ ".<locals>.", func := none, code := .ref code, frame := some (fr + B), builtins := 0 }
end Mine
end

section
set_option maxRecDepth 100000
set_option linter.unusedVariables false
namespace Mine
open PySem PyProof.Rows PySem.W PySem.W.X
/-! the loop of min over a list of ints -/
noncomputable abbrev minCs (u : Int) (tu : Nat) : List Con := [(itemJ "list_iterator" "list_iterator.__next__" "list" (.int u tu)).con, (endJ "list_iterator" "list_iterator.__next__" "list").con, cmpC "int.__lt__" (fun a b => decide (a < b))]
noncomputable abbrev minLoop (it bx : Nat) : Code := .builtin "min.loop" ⟨[.ref (it + B), .none, .ref (bx + B)], []⟩
noncomputable abbrev minT (bx it l : Nat) (best : Array Value) (k : Nat) (i : Int) (items : Array Value) (m : Nat) : Slots := [(bx, listO best k), (it, itO "list_iterator" (.ref (l + B)) i), (l, seqO "list" items m)]
section
variable (w : World) (a b : Bool) (bx it l : Nat) (i c u : Int) (tc tu k m : Nat) (items : Array Value) (f : Nat → Nat)
theorem run_min0 : RunIs (codeU (VW w a b (minCs u tu) 1) (simU (VW w a b (minCs u tu) 1) 60) none (minLoop it bx) 960797431379438273897699623937 (mk f 0) .base (minT bx it l #[] 0 i items m) [] [])
    [items[i.toNat]? = some (.int u tu)] (.stop (minLoop it bx) (minT bx it l #[.int u tu, .int u tu] 1 (i + 1) items m)) := RunIs.of (by cases a <;> kernel_rfl)
theorem run_minK : RunIs (codeU (VW w a b (minCs u tu) 1) (simU (VW w a b (minCs u tu) 1) 60) none (minLoop it bx) 15739152367453947341315626890314753 (mk f 0) .base (minT bx it l #[.int c tc, .int c tc] k i items m) [] [])
    [decide (u < c) = false, items[i.toNat]? = some (.int u tu)] (.stop (minLoop it bx) (minT bx it l #[.int c tc, .int c tc] k (i + 1) items m)) := RunIs.of (by cases a <;> kernel_rfl)
theorem run_minR : RunIs (codeU (VW w a b (minCs u tu) 1) (simU (VW w a b (minCs u tu) 1) 60) none (minLoop it bx) 33012748366527020226794856859183360394241 (mk f 0) .base (minT bx it l #[.int c tc, .int c tc] k i items m) [] [])
    [decide (u < c) = true, items[i.toNat]? = some (.int u tu)] (.stop (minLoop it bx) (minT bx it l #[.int u tu, .int u tu] k (i + 1) items m)) := RunIs.of (by cases a <;> kernel_rfl)
theorem run_minIn : RunIs (codeU (VW w a b (minCs u tu) 1) (simU (VW w a b (minCs u tu) 1) 60) none (.call (.builtin "min") ⟨[.ref (l + B)], []⟩) 27962854759553171585 (mk f 2) .base [(l, seqO "list" items m)] [] [])
    [] (.stop (minLoop (f 0) (f 1)) (minT (f 1) (f 0) l #[] 0 0 items m)) := RunIs.of (by cases a <;> kernel_rfl)
theorem run_minEnd : RunIs (codeU (VW w a b (minCs u tu) 1) (simU (VW w a b (minCs u tu) 1) 60) none (minLoop it bx) 20811361770346436515084013590955009 (mk f 2) .base (minT bx it l #[.int c tc, .int c tc] k i items m) [] [])
    [items[i.toNat]? = none] (.ret (.ok (.ret (.int c tc))) [(l, seqO "list" items m)]) := RunIs.of (by cases a <;> kernel_rfl)
end
end Mine
end

section
set_option maxRecDepth 100000
set_option linter.unusedVariables false
namespace Mine
open PySem PySem.Spec PySem.Calls PyProof.Rows PySem.W PySem.W.X
open PySem.Builtin PySem.Builtin.Str
/-- an empty list takes another list's items -/
noncomputable def liaddJ : Job (Array Value × Nat) where
  lvl := 0
  need := 0
  ext := fun c os => match os with
    | [_, ⟨_, _, .seq items n, _⟩] => some (items, n)
    | _ => none
  code := fun ids d => .builtin "list.__iadd__" ⟨[.ref (at0 ids), .ref (at1 ids)], []⟩
  pre := fun _ d => [listO #[] 0, listO d.1 d.2]
  side := fun _ d => [d.1.size ≤ 1000]
  res := fun ids _ _ => .ok (.ret (.ref (at0 ids)))
  new := fun _ _ _ => []
  post := fun _ d _ => [listO d.1 (if d.1.size == 0 then 0 else 1), listO d.1 d.2]
theorem iadd_obj (items : Array Value) : Obj.mapSeq (fun x => x ++ items) (listO #[] 0) = listO items (if items.size == 0 then 0 else 1) := by
  unfold Obj.mapSeq listO
  have e : (#[] ++ items : Array Value) = items := by simp
  simp only [e]
  rfl
section
variable {prog : Program} {w : World} {hT : Heap}
theorem liadd_ok (hz : hT.objs.size = B) : ConOk prog w hT liaddJ.con := Job.con_ok (fun ids d hl hs => by
  obtain ⟨items, n⟩ := d
  match ids, hl with
  | [x, y], _ =>
    intro A h₀ U g' d os R h tk hh hr D K
    have h1 := D.at' (x, listO #[] 0) (List.mem_cons_self ..)
    have h2 := D.at' (y, listO items n) (List.mem_cons_of_mem _ (List.mem_cons_self ..))
    have hsz : items.size ≤ 1000 := hs.1
    have sz : sizeLine = 16777216 := by decide
    refine code_meets (b := Builtin.«list.__iadd__») PySem.F.plain_list_iadd PySem.F.entry_list_iadd (PySem.AutoSeq1.list___iadd___list_list_0 (x + B) #[] 0 (y + B) items n (by simp) (by decide) (by simp; omega)) ⟨h1, h2, ?_⟩
    have D' := D.update hz (j := 0) (q := (x, listO #[] 0)) (f := Obj.mapSeq (fun x => x ++ items)) rfl (by rw [iadd_obj]; rfl)
    have e : setAt (liaddJ.into [x, y] (items, n)) 0 (Obj.mapSeq (fun x => x ++ items)) = [(x, listO items (if items.size == 0 then 0 else 1)), (y, listO items n)] := by
      rw [← iadd_obj]; rfl
    rw [e] at D'
    exact K [] rfl _ tk D') (fun _ _ _ => rfl)
end
end Mine
end

section
set_option maxRecDepth 100000
set_option linter.unusedVariables false
namespace Mine
open PySem PySem.Spec PySem.Calls PyProof.Rows PySem.W PySem.W.X
open PySem.Builtin
noncomputable def baO (b : Array UInt8) : Obj := ⟨.type "bytearray", none, .bytearray b 0, #[]⟩
noncomputable def bytesOfInts : List (Int × Nat) → List UInt8
  | [] => []
  | k :: r => k.1.toNat.toUInt8 :: bytesOfInts r
section
variable {prog : Program} {w : World} {hT : Heap}
theorem bytes_turn {A : Around} {R : Result → Shared → Prop} {s : Shared} {it l sf : Addr} {i : Nat} {items : Array Value} {n : Nat} {k : Int} {t : Nat} {bs : Array UInt8}
    (h1 : s.heap.get? it = some (itO "list_iterator" (.ref l) i)) (h2 : s.heap.get? l = some (seqO "list" items n)) (h3 : s.heap.get? sf = some (baO bs)) (hne : sf ≠ it) (hx : items[i]? = some (.int k t)) (k0 : 0 ≤ k) (k1 : k < 256) (hb : bs.size ≤ 1000)
    (K : codeAny (model prog w) A (.builtin "bytes.__new__.loop" ⟨[.type "bytes", .ref it, .ref sf], []⟩) R { s with heap := (s.heap.update it (Obj.mapFields (·.setIfInBounds 1 (.int (i + 1) 0)))).update sf (Obj.mapBytearray (·.push k.toNat.toUInt8)) }) :
    codeAny (model prog w) A (.builtin "bytes.__new__.loop" ⟨[.type "bytes", .ref it, .ref sf], []⟩) R s := by
  refine code_builtin (b := Builtin.«bytes.__new__.loop») (by decide +kernel) (entryFor_of_fast (by kernel_rfl)) ?_
  have hit : s.heap.IsListIter it l i := ⟨_, h1, rfl, rfl⟩
  show wpAny _ _ (pyNext (.ref it) >>= _) _ _ s
  refine wpAny_bind (m := pyNext (.ref it)) ?_
  unfold pyNext
  refine wpAny_bind (wpAny_attempt (wpAny_callSpecial?_slot (name := Str.ofString "__next__") hit.typeIs slot_listiter_next
    (wpAny_call_entry slot_listiter_next hit.typeIs entry_listiter_next ?_ (args_listiter_next _))))
  show wpAny _ _ (field (.ref it) 0 >>= _) _ _ s
  refine wpAny_bind (wpAny_field h1 rfl (x := .ref l) rfl ?_)
  show wpAny _ _ (if (Value.ref l == Value.none) = true then _ else _) _ _ s
  rw [if_neg (show ¬ ((Value.ref l == Value.none) = true) from Bool.false_ne_true)]
  show wpAny _ _ (field (.ref it) 1 >>= _) _ _ s
  refine wpAny_bind (wpAny_field h1 rfl (x := .int i 0) rfl ?_)
  show wpAny _ _ (seqItems? (.ref l) >>= _) _ _ s
  refine wpAny_bind (wpAny_seqItems h2 rfl ?_)
  simp only [Int.toNat_natCast, hx]
  refine wpAny_bind (wpAny_setField h1 rfl (by simp) (wpAny_pure ⟨_, rfl, wpAny_pure ?_⟩))
  refine wpAny_bind (m := holding _ (asIndex (.int k t))) (wpAny_holding (wpAny_of_eq (a := k) rfl ?_))
  refine wpAny_bind (wpAny_letGo ?_)
  have c1 : ¬ ((decide (k < 0) || decide (k ≥ 256)) = true) := by simp; omega
  show wpAny _ _ (if (decide (k < 0) || decide (k ≥ 256)) = true then _ else _) _ _ _
  rw [if_neg c1]
  have hsf : (s.heap.update it (Obj.mapFields (·.setIfInBounds 1 (rawInt (i + 1))))).get? sf = some (baO bs) := (Heap.get?_update_other _ _ (Ne.symm hne)).trans h3
  refine wpAny_bind (m := Bytes.write (.ref sf) _) ?_
  show wpAny _ _ (updateBytearray sf _) _ _ _
  unfold updateBytearray
  refine wpAny_bind (wpAny_load hsf ?_)
  show wpAny _ _ (update sf _ >>= _) _ _ _
  refine wpAny_bind (wpAny_update hsf ?_)
  refine wpAny_lookBehind (o := Obj.mapBytearray (·.push k.toNat.toUInt8) (baO bs)) (Heap.get?_update_self _ hsf rfl) ?_ ?_
  · show (if (bs.push k.toNat.toUInt8).size > _ then _ else _) = none
    rw [if_neg (by rw [Array.size_push]; have : sizeLine = 16777216 := by decide
                   omega)]
  · exact wpAny_pure ⟨plainId_quiet (by decide +kernel) _, K⟩
theorem bytes_end {A : Around} {R : Result → Shared → Prop} {s : Shared} {it l sf : Addr} {i : Nat} {items : Array Value} {n : Nat} {bs : Array UInt8} (hh : A.handled = none)
    (h1 : s.heap.get? it = some (itO "list_iterator" (.ref l) i)) (h2 : s.heap.get? l = some (seqO "list" items n)) (h3 : s.heap.get? sf = some (baO bs)) (hne : sf ≠ it) (hx : items[i]? = none) (hb : bs.size ≤ 1000)
    (K : ∀ h : Heap, h = s.heap.update it (Obj.mapFields (·.setIfInBounds 0 .none)) → R (.ok (.ret (.bytes bs s.toks))) { s with heap := (h.push (seqO "tuple" #[] 0)).push (stopO h.objs.size), toks := s.toks + 1 }) :
    codeAny (model prog w) A (.builtin "bytes.__new__.loop" ⟨[.type "bytes", .ref it, .ref sf], []⟩) R s := by
  refine code_builtin (b := Builtin.«bytes.__new__.loop») (by decide +kernel) (entryFor_of_fast (by kernel_rfl)) ?_
  have hit : s.heap.IsListIter it l i := ⟨_, h1, rfl, rfl⟩
  show wpAny _ _ (pyNext (.ref it) >>= _) _ _ s
  refine wpAny_bind (m := pyNext (.ref it)) ?_
  unfold pyNext
  refine wpAny_bind (wpAny_attempt (wpAny_callSpecial?_slot (name := Str.ofString "__next__") hit.typeIs slot_listiter_next
    (wpAny_call_entry slot_listiter_next hit.typeIs entry_listiter_next ?_ (args_listiter_next _))))
  show wpAny _ _ (field (.ref it) 0 >>= _) _ _ s
  refine wpAny_bind (wpAny_field h1 rfl (x := .ref l) rfl ?_)
  show wpAny _ _ (if (Value.ref l == Value.none) = true then _ else _) _ _ s
  rw [if_neg (show ¬ ((Value.ref l == Value.none) = true) from Bool.false_ne_true)]
  show wpAny _ _ (field (.ref it) 1 >>= _) _ _ s
  refine wpAny_bind (wpAny_field h1 rfl (x := .int i 0) rfl ?_)
  show wpAny _ _ (seqItems? (.ref l) >>= _) _ _ s
  refine wpAny_bind (wpAny_seqItems h2 rfl ?_)
  simp only [Int.toNat_natCast, hx]
  refine wpAny_bind (wpAny_rule (wpAny_bind (wpAny_setField h1 rfl (by simp) ?_)))
  show wpAny _ _ (newExc (.type "StopIteration") [] >>= _) _ _ _
  refine wpAny_bind ?_
  simp only [newExc, newTuple]
  refine wpAny_bind (wpAny_newObj_type ?_ (by size_fits))
  refine wpAny_bind (m := firstArgMember _ _) (wpAny_of_eq (a := Value.none) (by first | rfl | (simp only [firstArgMember]; rfl)) ?_)
  refine wpAny_newObj_type ?_ (by size_fits)
  simp only [raiseNew]
  refine wpAny_bind (wpAny_handled ?_)
  have hh2 : A.in1.in1.handled = none := hh
  first | rw [hh2] | rw [show A.in1.handled = none from hh]
  refine wpAny_bind (wpAny_pure (wpAny_throw ?_))
  refine wpAny_bind (wpAny_isInstance (T := "StopIteration") (b := true) ⟨_, Heap.get?_push_size _ rfl, rfl⟩ isSubtype_stop ?_)
  refine wpAny_pure ?_
  generalize hH : s.heap.update it (Obj.mapFields (·.setIfInBounds 0 Value.none)) = H
  have hsf : H.get? sf = some (baO bs) := by rw [← hH]; exact (Heap.get?_update_other _ _ (Ne.symm hne)).trans h3
  have hsf2 := Heap.get?_push_of_some (stopO H.objs.size) (Heap.get?_push_of_some (seqO "tuple" #[] 0) hsf)
  have key := K H hH.symm
  refine wpAny_bind (m := Bytes.payload (.ref sf)) ?_
  show wpAny _ _ (Bytes.payload? (.ref sf) >>= _) _ _ _
  refine wpAny_bind (m := Bytes.payload? (.ref sf)) ?_
  show wpAny _ _ (load sf >>= _) _ _ _
  refine wpAny_bind (wpAny_load hsf2 ?_)
  refine wpAny_pure (wpAny_pure ?_)
  refine wpAny_bind (wpAny_mkBytes ?_ (by have : sizeLine = 16777216 := by decide
                                          omega))
  exact wpAny_pure key
end
end Mine
end

section
set_option maxRecDepth 100000
set_option linter.unusedVariables false
namespace Mine
open PySem PySem.Spec PySem.Calls PyProof.Rows PySem.W PySem.W.X
open PySem.Builtin
noncomputable def intV (k : Int × Nat) : Value := .int k.1 k.2
noncomputable def unI (v : Value) : Int × Nat := match v with
  | .int k t => (k, t)
  | _ => (0, 0)
theorem unI_map : ∀ (l : List (Int × Nat)), (l.map intV).map unI = l
  | [] => rfl
  | (k, t) :: r => by rw [List.map_cons, List.map_cons, unI_map r]; rfl
noncomputable def at2 (ids : List Nat) : Addr := match ids with
  | _ :: _ :: a :: _ => a + B
  | _ => 0
noncomputable def pushAll (bs : Array UInt8) : List (Int × Nat) → Array UInt8
  | [] => bs
  | k :: r => pushAll (bs.push k.1.toNat.toUInt8) r
theorem pushAll_list : ∀ (ks : List (Int × Nat)) (bs : Array UInt8), (pushAll bs ks).toList = bs.toList ++ bytesOfInts ks
  | [], bs => by simp [pushAll, bytesOfInts]
  | k :: r, bs => by
    show (pushAll (bs.push _) r).toList = _
    rw [pushAll_list r, Array.toList_push]
    show _ = bs.toList ++ (k.1.toNat.toUInt8 :: bytesOfInts r)
    simp
/-- the octets of a list of ints -/
noncomputable def bytesLJ : Job (Array Value × Nat) where
  lvl := 0
  need := 1
  ext := fun _ os => match os with
    | [_, ⟨_, _, .seq items n, _⟩, _] => some (items, n)
    | _ => none
  code := fun ids _ => .builtin "bytes.__new__.loop" ⟨[.type "bytes", .ref (at0 ids), .ref (at2 ids)], []⟩
  pre := fun ids d => [itO "list_iterator" (.ref (at1 ids)) 0, seqO "list" d.1 d.2, baO #[]]
  side := fun _ d => [∃ ks : List (Int × Nat), d.1.toList = ks.map intV ∧ (∀ k ∈ ks, 0 ≤ k.1 ∧ k.1 < 256) ∧ ks.length ≤ 500]
  res := fun _ d xs => .ok (.ret (.bytes ⟨bytesOfInts (d.1.toList.map unI)⟩ (tk0 xs)))
  new := fun _ _ _ => []
  post := fun ids d _ => [⟨.type "list_iterator", none, .fields #[.none, .int d.1.size 0], #[]⟩, seqO "list" d.1 d.2, baO ⟨bytesOfInts (d.1.toList.map unI)⟩]
section
variable {prog : Program} {w : World} {hT : Heap}
theorem bytes_loop (hz : hT.objs.size = B) (it l sf n : Nat) (items : Array Value) : ∀ (rest : List (Int × Nat)) (i : Nat) (bs : Array UInt8),
    items.toList.drop i = rest.map intV → i + rest.length = items.size → (∀ k ∈ rest, 0 ≤ k.1 ∧ k.1 < 256) → bs.size + rest.length ≤ 500 →
    SegOk prog w hT 0 1 (.builtin "bytes.__new__.loop" ⟨[.type "bytes", .ref (it + B), .ref (sf + B)], []⟩) [(it, itO "list_iterator" (.ref (l + B)) i), (l, seqO "list" items n), (sf, baO bs)]
      (fun xs => (.ok (.ret (.bytes (pushAll bs rest) (tk0 xs))), [(it, ⟨.type "list_iterator", none, .fields #[.none, .int items.size 0], #[]⟩), (l, seqO "list" items n), (sf, baO (pushAll bs rest))]))
  | [], i, bs, hd, hi, _, hs => by
    have e : i = items.size := by simpa using hi
    subst e
    intro A h₀ U g d os R h tk hh hr D K
    have h1 := D.at' (it, _) (List.mem_cons_self ..)
    have h2 := D.at' (l, _) (List.mem_cons_of_mem _ (List.mem_cons_self ..))
    have h3 := D.at' (sf, _) (List.mem_cons_of_mem _ (List.mem_cons_of_mem _ (List.mem_cons_self ..)))
    have hne : sf + B ≠ it + B := fun e => by
      have nd := D.nd
      have e' := Nat.add_right_cancel e
      simp [e'] at nd
    have hs' : bs.size ≤ 500 := by simpa using hs
    refine bytes_end hh h1 h2 h3 hne (by simp) (by omega) fun H eH => ?_
    have D1 := D.update hz (j := 0) (q := (it, itO "list_iterator" (.ref (l + B)) (items.size : Int))) (f := Obj.mapFields (·.setIfInBounds 0 .none)) rfl rfl
    change RepU hT h₀ U _ (h.update (it + B) _) at D1
    have eH' : H = h.update (it + B) (Obj.mapFields (·.setIfInBounds 0 .none)) := eH
    rw [← eH'] at D1
    obtain ⟨D2, _⟩ := D_new D1 (o := seqO "tuple" #[] 0) rfl
    obtain ⟨D3, _⟩ := D_new D2 (o := stopO H.objs.size) rfl
    exact K [tk + 1] rfl _ (tk + 1) (D3.sub (((List.Sublist.refl _).cons _).cons _))
  | k :: rest, i, bs, hd, hi, hc, hs => by
    intro A h₀ U g d os R h tk hh hr D K
    have h1 := D.at' (it, _) (List.mem_cons_self ..)
    have h2 := D.at' (l, _) (List.mem_cons_of_mem _ (List.mem_cons_self ..))
    have h3 := D.at' (sf, _) (List.mem_cons_of_mem _ (List.mem_cons_of_mem _ (List.mem_cons_self ..)))
    have hne : sf + B ≠ it + B := fun e => by
      have nd := D.nd
      have e' := Nat.add_right_cancel e
      simp [e'] at nd
    have hget : items[i]? = some (.int k.1 k.2) := by
      have q : (items.toList.drop i)[0]? = some (intV k) := by rw [hd]; rfl
      rw [List.getElem?_drop, Nat.add_zero] at q
      rw [← Array.getElem?_toList]; exact q
    obtain ⟨c0, c1⟩ := hc k (List.mem_cons_self ..)
    have hs' : bs.size + (rest.length + 1) ≤ 500 := hs
    refine bytes_turn h1 h2 h3 hne hget c0 c1 (by omega) ?_
    have D1 := D.update hz (j := 0) (q := (it, itO "list_iterator" (.ref (l + B)) (i : Int))) (f := Obj.mapFields (·.setIfInBounds 1 (.int ((i : Int) + 1) 0))) rfl rfl
    have D2 := D1.update hz (j := 2) (q := (sf, baO bs)) (f := Obj.mapBytearray (·.push k.1.toNat.toUInt8)) rfl rfl
    exact bytes_loop hz it l sf n items rest (i + 1) (bs.push k.1.toNat.toUInt8) (by rw [← List.drop_drop, hd]; rfl) (by simp at hi; omega) (fun x hx => hc x (List.mem_cons_of_mem _ hx)) (by rw [Array.size_push]; omega) A h₀ U g d os R _ tk hh hr D2 K
theorem bytesL_ok (hz : hT.objs.size = B) : ConOk prog w hT bytesLJ.con := Job.con_ok (fun ids d hl hs => by
  obtain ⟨items, n⟩ := d
  match ids, hl with
  | [it, l, sf], _ =>
    obtain ⟨⟨ks, hi, hc, hn⟩, _⟩ := hs
    have hi' : items.toList = ks.map intV := hi
    have hsz : ks.length = items.size := by rw [← Array.length_toList, hi', List.length_map]
    have S := bytes_loop (prog := prog) (w := w) hz it l sf n items ks 0 #[] (by rw [hi']; rfl) (by omega) hc (by simpa using hn)
    have e : pushAll #[] ks = (⟨bytesOfInts (items.toList.map unI)⟩ : Array UInt8) := by
      apply Array.ext'
      rw [pushAll_list, hi', unI_map]; rfl
    rw [e] at S
    exact S) (fun _ _ _ => rfl)
end
end Mine
end

section
set_option maxRecDepth 100000
set_option linter.unusedVariables false
namespace Mine
open PySem PyProof.Rows PySem.W PySem.W.X
noncomputable def minI : Int × Nat → List (Int × Nat) → Int × Nat
  | c, [] => c
  | c, u :: r => match decide (u.1 < c.1) with
    | true => minI u r
    | false => minI c r
noncomputable def minHd : List (Int × Nat) → Int × Nat
  | [] => (0, 0)
  | k :: r => minI k r
noncomputable def minJ : Job (Array Value × Nat) where
  lvl := 1
  need := 0
  ext := fun _ os => match os with
    | [⟨_, _, .seq items m, _⟩] => some (items, m)
    | _ => none
  code := fun ids _ => .call (.builtin "min") ⟨[.ref (at0 ids)], []⟩
  pre := fun _ d => [seqO "list" d.1 d.2]
  side := fun _ d => [∃ ks : List (Int × Nat), d.1.toList = ks.map intV ∧ ks ≠ []]
  res := fun _ d _ => .ok (.ret (.int (minHd (d.1.toList.map unI)).1 (minHd (d.1.toList.map unI)).2))
  new := fun _ _ _ => []
  post := fun _ d _ => [seqO "list" d.1 d.2]
section
variable {w : World} {a b : Bool} {hT : Heap}
theorem min_cs (hz : hT.objs.size = B) (u : Int) (tu : Nat) : Cons pwT' (WW w a b) hT (minCs u tu) := ⟨lnext_ok hz, lend_ok hz, lt_ok, trivial⟩
theorem min_loop (TK : TopK (WW w a b) hT) (bx it l m : Nat) (items : Array Value) : ∀ (rest : List (Int × Nat)) (i : Nat) (c : Int × Nat) (k : Nat), items.toList.drop i = rest.map intV → i + rest.length = items.size →
    SegOk pwT' (WW w a b) hT 1 0 (minLoop it bx) (minT bx it l #[.int c.1 c.2, .int c.1 c.2] k i items m) (fun _ => (.ok (.ret (.int (minI c rest).1 (minI c rest).2)), [(l, seqO "list" items m)]))
  | [], i, c, k, hd, hi => by
    have e : i = items.size := by simpa using hi
    subst e
    exact SegOk.of_run (V := VW w a b (minCs 0 0) 1) (uok TK) (conOf_ok (min_cs TK.size _ _)) (Nat.le_refl _) (run_minEnd w a b bx it l (items.size : Int) c.1 0 c.2 0 k m items) (fun f => ⟨by simp, trivial⟩) (fun f => ⟨[], rfl, rfl⟩)
  | u :: rest, i, c, k, hd, hi => by
    have hget : items[(i : Int).toNat]? = some (.int u.1 u.2) := by
      have h1 : (items.toList.drop i)[0]? = some (intV u) := by rw [hd]; rfl
      rw [List.getElem?_drop, Nat.add_zero] at h1
      rw [Int.toNat_natCast, ← Array.getElem?_toList]; exact h1
    have hdrop : items.toList.drop (i + 1) = rest.map intV := by rw [← List.drop_drop, hd]; rfl
    cases hlt : decide (u.1 < c.1) with
    | true =>
      have e : minI c (u :: rest) = minI u rest := by show (match decide (u.1 < c.1) with | true => _ | false => _) = _; rw [hlt]
      rw [e]
      exact SegOk.of_then (V := VW w a b (minCs u.1 u.2) 1) (uok TK) (conOf_ok (min_cs TK.size _ _)) (Nat.le_refl _) (run_minR w a b bx it l i c.1 u.1 c.2 u.2 k m items) (fun f => ⟨hlt, hget, trivial⟩) (fun f => min_loop TK bx it l m items rest (i + 1) u k hdrop (by simp at hi; omega))
    | false =>
      have e : minI c (u :: rest) = minI c rest := by show (match decide (u.1 < c.1) with | true => _ | false => _) = _; rw [hlt]
      rw [e]
      exact SegOk.of_then (V := VW w a b (minCs u.1 u.2) 1) (uok TK) (conOf_ok (min_cs TK.size _ _)) (Nat.le_refl _) (run_minK w a b bx it l i c.1 u.1 c.2 u.2 k m items) (fun f => ⟨hlt, hget, trivial⟩) (fun f => min_loop TK bx it l m items rest (i + 1) c k hdrop (by simp at hi; omega))
theorem min_ok (TK : TopK (WW w a b) hT) : ConOk pwT' (WW w a b) hT minJ.con := Job.con_ok (fun ids d hl hs => by
  obtain ⟨items, m⟩ := d
  match ids, hl with
  | [l], _ =>
    obtain ⟨⟨ks, hi, hne⟩, _⟩ := hs
    have hi' : items.toList = ks.map intV := hi
    cases ks with
    | nil => exact absurd rfl hne
    | cons c r =>
      have hsz : r.length + 1 = items.size := by rw [← Array.length_toList, hi', List.length_map]; rfl
      have hget : items[(0 : Int).toNat]? = some (.int c.1 c.2) := by
        show items[0]? = _
        rw [← Array.getElem?_toList, hi']; rfl
      have eo : ∀ xs, minJ.out [l] (items, m) xs = (.ok (.ret (.int (minI c r).1 (minI c r).2)), [(l, seqO "list" items m)]) := fun xs => by
        show (Except.ok (Flow.ret (.int (minHd (items.toList.map unI)).1 (minHd (items.toList.map unI)).2)), _) = _
        rw [hi', unI_map]; rfl
      have e : minJ.out [l] (items, m) = fun _ => (.ok (.ret (.int (minI c r).1 (minI c r).2)), [(l, seqO "list" items m)]) := funext eo
      rw [e]
      refine SegOk.of_then (V := VW w a b (minCs c.1 c.2) 1) (uok TK) (conOf_ok (min_cs TK.size _ _)) (Nat.le_refl _) (run_minIn w a b l c.1 c.2 m items) (fun f => trivial) (fun f => ?_)
      exact SegOk.of_then (V := VW w a b (minCs c.1 c.2) 1) (uok TK) (conOf_ok (min_cs TK.size _ _)) (Nat.le_refl _) (run_min0 w a b (f 1) (f 0) l 0 c.1 c.2 m items) (fun f => ⟨hget, trivial⟩) (fun g => min_loop TK (f 1) (f 0) l m items r 1 c 1 (by rw [hi']; rfl) (by omega))) (fun _ _ _ => rfl)
end
end Mine
end

section
set_option maxRecDepth 100000
set_option linter.unusedVariables false
namespace Mine
open PySem PyProof.Rows PySem.W PySem.W.X
open PySem.Builtin PySem.Builtin.Str

noncomputable abbrev sl : Str := ⟨⟨[47]⟩⟩
/-! the loop of join -/
noncomputable abbrev joinCs (c : Str) (uc : Nat) : List Con := [(itemJ "tuple_iterator" "tuple_iterator.__next__" "tuple" (.str c uc)).con, (endJ "tuple_iterator" "tuple_iterator.__next__" "tuple").con, startsC, endsC, saddC, lenC]
noncomputable def joinLoop (it fr : Nat) : Code := forC (stN (tryB (stN (fnB (tS 17)) 3)) 0) (.ref (it + B)) (envO (fnS (tS 17)) fr (⟨⟨[106, 111, 105, 110]⟩⟩ : Str) 138 137)
noncomputable abbrev frJ4 (P : Params) (p : Nat) (ta tp ts us tq uq : Nat) (va : Value) (q : Str) (n : Nat) : Obj := frO P [((⟨⟨[97]⟩⟩ : Str), ta, va), ((⟨⟨[112]⟩⟩ : Str), tp, .ref (p + B)), ((⟨⟨[115, 101, 112]⟩⟩ : Str), ts, .str sl us), ((⟨⟨[112, 97, 116, 104]⟩⟩ : Str), tq, .str q uq)] n
noncomputable abbrev frJ5 (P : Params) (p : Nat) (ta tp ts us tq uq : Nat) (va : Value) (q : Str) (tb : Nat) (vb : Value) (n : Nat) : Obj := frO P [((⟨⟨[97]⟩⟩ : Str), ta, va), ((⟨⟨[112]⟩⟩ : Str), tp, .ref (p + B)), ((⟨⟨[115, 101, 112]⟩⟩ : Str), ts, .str sl us), ((⟨⟨[112, 97, 116, 104]⟩⟩ : Str), tq, .str q uq), ((⟨⟨[98]⟩⟩ : Str), tb, vb)] n
noncomputable abbrev joinPs (items : Array Value) (i : Int) (q c : Str) (uc : Nat) : List Prop :=
  [(q ++ (sl ++ c)).length ≤ sizeLine, ¬ ((q.length == 0) = true), ¬ (((sl ++ c).length == 0) = true), (sl ++ c).length ≤ sizeLine, ¬ ((sl.length == 0) = true), ¬ ((c.length == 0) = true), True,
   (decide (0 + sl.length ≤ q.length) && subAt q sl (q.length - sl.length)) = false, q.length ≠ 0, q.length < 2 ^ 62, True, (decide (0 + sl.length ≤ c.length) && subAt c sl 0) = false, items[i.toNat]? = some (.str c uc)]
section
variable (w : World) (a b : Bool) (it fr p : Nat) (i : Int) (ta tp ts us tq uq n m tb uc : Nat) (va vb : Value) (q c : Str) (items : Array Value) (f : Nat → Nat)
theorem run_join4 : RunIs (codeU (VW w a b (joinCs c uc) 1) (simU (VW w a b (joinCs c uc) 1) 142) none (joinLoop it fr) 125129825016081658296520789142049140823152860189354563203943414139366953810978849367810928908893024608341978036012471571382600578490011488270482334744849250832567437315032065 (mk f 12) .base [(it, itO "tuple_iterator" (.ref (p + B)) i), (fr, frJ4 (WW w a b).params p ta tp ts us tq uq va q n), (p, seqO "tuple" items m)] [] [])
    (joinPs items i q c uc) (.stop (joinLoop it fr) [(it, itO "tuple_iterator" (.ref (p + B)) (i + 1)), (fr, frJ5 (WW w a b).params p ta tp ts us tq (f 10) va (q ++ (sl ++ c)) (f 0) (.str c uc) (n + 1)), (p, seqO "tuple" items m)]) := RunIs.of (by cases a <;> kernel_rfl)
theorem run_join5 : RunIs (codeU (VW w a b (joinCs c uc) 1) (simU (VW w a b (joinCs c uc) 1) 142) none (joinLoop it fr) 125129825016081658296520789142049140823152860189354563203943414139366953810978849367810928908893024608341978036012471571382600578490011488270482334744849250832567437315032065 (mk f 12) .base [(it, itO "tuple_iterator" (.ref (p + B)) i), (fr, frJ5 (WW w a b).params p ta tp ts us tq uq va q tb vb n), (p, seqO "tuple" items m)] [] [])
    (joinPs items i q c uc) (.stop (joinLoop it fr) [(it, itO "tuple_iterator" (.ref (p + B)) (i + 1)), (fr, frJ5 (WW w a b).params p ta tp ts us tq (f 10) va (q ++ (sl ++ c)) tb (.str c uc) n), (p, seqO "tuple" items m)]) := RunIs.of (by cases a <;> kernel_rfl)
theorem run_join_end : RunIs (codeU (VW w a b (joinCs c uc) 1) (simU (VW w a b (joinCs c uc) 1) 16) none (joinLoop it fr) 5010545429643003474816812033 (mk f 2) .base [(it, itO "tuple_iterator" (.ref (p + B)) i), (fr, frJ5 (WW w a b).params p ta tp ts us tq uq va q tb vb n), (p, seqO "tuple" items m)] [] [])
    [items[i.toNat]? = none] (.ret (.ok .next) [(it, ⟨.type "tuple_iterator", none, .fields #[.none, .int i 0], #[]⟩), (fr, frJ5 (WW w a b).params p ta tp ts us tq uq va q tb vb n), (p, seqO "tuple" items m)]) := RunIs.of (by cases a <;> kernel_rfl)
end
end Mine
end

section
set_option maxRecDepth 100000
set_option linter.unusedVariables false
namespace Mine
open PySem PyProof.Rows PySem.W PySem.W.X
open PySem.Builtin PySem.Builtin.Str

/-- a part of a path: some code points, no slash -/
def NoSl (c : Str) : Prop := c.cps.toList ≠ [] ∧ ∀ x ∈ c.cps.toList, x ≠ 47
/-- a path that does not end in a slash -/
def EndsOk (q : Str) : Prop := q.cps.toList ≠ [] ∧ q.cps.toList.getLast? ≠ some 47
theorem NoSl.ends {c : Str} (h : NoSl c) : EndsOk c := ⟨h.1, fun e => h.2 47 (List.mem_of_getLast? e) rfl⟩
theorem app_list (x y : Str) : (x ++ y).cps.toList = x.cps.toList ++ y.cps.toList := by
  show (x.cps ++ y.cps).toList = _
  exact Array.toList_append
theorem last_app (l l' : List Nat) (h : l' ≠ []) : (l ++ l').getLast? = l'.getLast? := by
  rw [List.getLast?_append]
  cases e : l'.getLast? with
  | none => exact absurd (List.getLast?_eq_none_iff.mp e) h
  | some x => rfl
theorem EndsOk.app {q c : Str} (h : NoSl c) : EndsOk (q ++ (sl ++ c)) := by
  have e := h.ends
  constructor
  · rw [app_list, app_list]; intro z; exact h.1 (List.append_eq_nil_iff.mp (List.append_eq_nil_iff.mp z).2).2
  · rw [app_list, app_list]
    cases hc : c.cps.toList with
    | nil => exact absurd hc h.1
    | cons x r =>
      have := e.2
      rw [hc] at this
      rw [last_app _ _ (by simp), last_app _ _ (by simp)]
      exact this
theorem len_list (x : Str) : x.length = x.cps.toList.length := by
  show x.cps.size = _
  exact (Array.length_toList).symm
theorem starts_no {c : Str} (h : NoSl c) : (decide (0 + sl.length ≤ c.length) && subAt c sl 0) = false := by
  cases e : (decide (0 + sl.length ≤ c.length) && subAt c sl 0) with
  | false => rfl
  | true =>
    simp only [Bool.and_eq_true, decide_eq_true_eq] at e
    have := (PySem.StrLaws.subAt_one c 47 0).mp ⟨e.1, e.2⟩
    exact absurd rfl (h.2 47 (List.mem_of_getElem? this))
theorem ends_no {q : Str} (h : EndsOk q) : (decide (0 + sl.length ≤ q.length) && subAt q sl (q.length - sl.length)) = false := by
  cases e : (decide (0 + sl.length ≤ q.length) && subAt q sl (q.length - sl.length)) with
  | false => rfl
  | true =>
    simp only [Bool.and_eq_true, decide_eq_true_eq] at e
    have l1 : sl.length = 1 := rfl
    have h1 : 1 ≤ q.length := by have := e.1; omega
    have := (PySem.StrLaws.subAt_one q 47 (q.length - 1)).mp ⟨by rw [show (⟨#[47]⟩ : Str).length = 1 from rfl]; omega, e.2⟩
    refine absurd ?_ h.2
    rw [List.getLast?_eq_getElem?, ← len_list]
    exact this
theorem EndsOk.pos {q : Str} (h : EndsOk q) : q.length ≠ 0 := by
  rw [len_list]; intro e; exact h.1 (List.eq_nil_of_length_eq_zero e)
theorem len_app (x y : Str) : (x ++ y).length = x.length + y.length := Str.length_append x y

/-- the parts behind a path -/
noncomputable def glueUp (q : Str) : List (Str × Tok) → Str
  | [] => q
  | c :: r => glueUp (q ++ (sl ++ c.1)) r
def sumLen : List (Str × Tok) → Nat
  | [] => 0
  | c :: r => c.1.length + 1 + sumLen r
noncomputable def strV (c : Str × Tok) : Value := .str c.1 c.2
noncomputable def lastV (v : Value) : List (Str × Tok) → Value
  | [] => v
  | c :: r => lastV (strV c) r
noncomputable def lastT (u x : Nat) : List (Str × Tok) → Nat
  | [] => u
  | _ :: _ => x
theorem joinPs_ok {items : Array Value} {i : Int} {q c : Str} {uc : Nat} (hq : EndsOk q) (hc : NoSl c) (hi : items[i.toNat]? = some (.str c uc)) (hs : q.length + (c.length + 1) ≤ 1000000) : Alls (joinPs items i q c uc) := by
  have l1 : sl.length = 1 := rfl
  have l2 := hq.pos
  have l3 := hc.ends.pos
  have sz : sizeLine = 16777216 := by decide
  refine ⟨?_, ?_, ?_, ?_, by decide, ?_, trivial, ends_no hq, l2, ?_, trivial, starts_no hc, hi, trivial⟩
  · rw [len_app, len_app, sz]; omega
  · simpa using l2
  · rw [len_app]; simp [l1]
  · rw [len_app, sz]; omega
  · simpa using l3
  · have : (2 : Nat) ^ 62 > 1000000 := by decide
    omega

section
variable {w : World} {a b : Bool} {hT : Heap}
noncomputable def joinOut (P : Params) (it fr p : Nat) (ta tp ts us tq uq tb : Nat) (va vb : Value) (q : Str) (n m : Nat) (items : Array Value) (rest : List (Str × Tok)) (xs : List Nat) : Result × Slots :=
  (.ok .next, [(it, ⟨.type "tuple_iterator", none, .fields #[.none, .int items.size 0], #[]⟩), (fr, frJ5 P p ta tp ts us tq (lastT uq (tk0 xs) rest) va (glueUp q rest) tb (lastV vb rest) n), (p, seqO "tuple" items m)])
theorem join_cs (hz : hT.objs.size = B) (c : Str) (uc : Nat) : Cons pwT' (WW w a b) hT (joinCs c uc) := ⟨tnext_ok hz, tend_ok hz, starts_ok, ends_ok, sadd_ok, len_ok, trivial⟩
theorem join_loop (TK : TopK (WW w a b) hT) (it fr p ta tp ts us tq n m tb : Nat) (va : Value) (items : Array Value) : ∀ (rest : List (Str × Tok)) (i : Nat) (q : Str) (uq : Nat) (vb : Value),
    items.toList.drop i = rest.map strV → i + rest.length = items.size → (∀ c ∈ rest, NoSl c.1) → EndsOk q → q.length + sumLen rest ≤ 1000000 →
    SegOk pwT' (WW w a b) hT 1 1 (joinLoop it fr) [(it, itO "tuple_iterator" (.ref (p + B)) i), (fr, frJ5 (WW w a b).params p ta tp ts us tq uq va q tb vb n), (p, seqO "tuple" items m)]
      (joinOut (WW w a b).params it fr p ta tp ts us tq uq tb va vb q n m items rest)
  | [], i, q, uq, vb, hd, hi, _, _, _ => by
    have e : i = items.size := by simpa using hi
    subst e
    refine SegOk.of_run (V := VW w a b (joinCs sl 0) 1) (uok TK) (conOf_ok (join_cs TK.size _ _)) (Nat.le_refl _) (run_join_end w a b it fr p (items.size : Int) ta tp ts us tq uq n m tb 0 va vb q sl items) (fun f => ⟨by simp, trivial⟩) (fun f => ⟨[0], rfl, rfl⟩)
  | c :: rest, i, q, uq, vb, hd, hi, hc, hq, hs => by
    have hlen : i < items.size := by simp at hi; omega
    have hget : items[i]? = some (strV c) := by
      have h1 : (items.toList.drop i)[0]? = some (strV c) := by rw [hd]; rfl
      rw [List.getElem?_drop, Nat.add_zero] at h1
      rw [← Array.getElem?_toList]; exact h1
    have hdrop : items.toList.drop (i + 1) = rest.map strV := by
      rw [← List.drop_drop, hd]; rfl
    have hc1 := hc c (List.mem_cons_self ..)
    have hs' : q.length + (c.1.length + 1 + sumLen rest) ≤ 1000000 := hs
    refine SegOk.of_then (V := VW w a b (joinCs c.1 c.2) 1) (uok TK) (conOf_ok (join_cs TK.size _ _)) (Nat.le_refl _) (run_join5 w a b it fr p i ta tp ts us tq uq n m tb c.2 va vb q c.1 items) (fun f => joinPs_ok hq hc1 (by rw [Int.toNat_natCast]; exact hget) (by omega)) (fun f => ?_)
    have ih := join_loop TK it fr p ta tp ts us tq n m tb va items rest (i + 1) (q ++ (sl ++ c.1)) (f 10) (.str c.1 c.2) hdrop (by simp at hi; omega) (fun x hx => hc x (List.mem_cons_of_mem _ hx)) (EndsOk.app hc1) (by rw [len_app, len_app, show sl.length = 1 from rfl]; omega)
    refine SegOk.mono ih (Nat.le_refl _) fun xs hx => ?_
    cases rest with
    | nil => exact ⟨[f 10], rfl, rfl, rfl⟩
    | cons d r => exact ⟨xs, hx, rfl, rfl⟩
end
end Mine
end

section
set_option maxRecDepth 100000
set_option linter.unusedVariables false
namespace Mine
open PySem PyProof.Rows PySem.W PySem.W.X
open PySem.Builtin PySem.Builtin.Str

/-- the k-th of the slots' keys -/
noncomputable def ky : List Nat → Nat → Nat
  | x :: _, 0 => x
  | _ :: r, n + 1 => ky r n
  | [], _ => 0
structure JoinD where
  ta : Nat
  va : Value
  tp : Nat
  ts : Nat
  us : Nat
  tq : Nat
  q : Str
  uq : Nat
  n : Nat
  m : Nat
  items : Array Value
noncomputable def joinExt (os : List Obj) : Option JoinD := match os with
  | [_, fr, ⟨_, _, .seq items m, _⟩] => match entD fr with
    | ([(ta, va), (tp, _), (ts, .str _ us), (tq, .str q uq)], n) => some ⟨ta, va, tp, ts, us, tq, q, uq, n, m, items⟩
    | _ => none
  | _ => none
noncomputable def joinLJ (P : Params) : Job JoinD where
  lvl := 1
  need := 2
  ext := fun _ os => joinExt os
  code := fun ids _ => joinLoop (ky ids 0) (ky ids 1)
  pre := fun ids d => [itO "tuple_iterator" (.ref (ky ids 2 + B)) 0, frJ4 P (ky ids 2) d.ta d.tp d.ts d.us d.tq d.uq d.va d.q d.n, seqO "tuple" d.items d.m]
  side := fun _ d => [∃ rest, d.items.toList = rest.map strV ∧ rest ≠ [] ∧ (∀ c ∈ rest, NoSl c.1) ∧ EndsOk d.q ∧ d.q.length + sumLen rest ≤ 1000000]
  res := fun _ _ _ => .ok .next
  new := fun _ _ _ => []
  post := fun ids d xs => [⟨.type "tuple_iterator", none, .fields #[.none, .int d.items.size 0], #[]⟩, frJ5 P (ky ids 2) d.ta d.tp d.ts d.us d.tq (ky xs 1) d.va (glueUp d.q (d.items.toList.map unV)) (ky xs 0) (lastV .none (d.items.toList.map unV)) (d.n + 1), seqO "tuple" d.items d.m]
theorem unV_map : ∀ (l : List (Str × Tok)), (l.map strV).map unV = l
  | [] => rfl
  | (s, t) :: r => by rw [List.map_cons, List.map_cons, unV_map r]; rfl
theorem lastV_ne (v v' : Value) : ∀ {l : List (Str × Tok)}, l ≠ [] → lastV v l = lastV v' l
  | [], h => absurd rfl h
  | _ :: _, _ => rfl
section
variable {w : World} {a b : Bool} {hT : Heap}
theorem joinL_ok (TK : TopK (WW w a b) hT) : ConOk pwT' (WW w a b) hT (joinLJ (WW w a b).params).con := Job.con_ok (fun ids d hl hs => by
  obtain ⟨ta, va, tp, ts, us, tq, q, uq, n, m, items⟩ := d
  match ids, hl with
  | [it, fr, p], _ =>
    obtain ⟨⟨rest, hi, hne, hc, hq, hz⟩, _⟩ := hs
    have hi' : items.toList = rest.map strV := hi
    have hsz : rest.length = items.size := by rw [← Array.length_toList, hi', List.length_map]
    cases rest with
    | nil => exact absurd rfl hne
    | cons c rest =>
      have hget : items[0]? = some (strV c) := by rw [← Array.getElem?_toList, hi']; rfl
      have hc1 := hc c (List.mem_cons_self ..)
      have hq' : EndsOk q := hq
      have hz' : q.length + (c.1.length + 1 + sumLen rest) ≤ 1000000 := hz
      show SegOk pwT' (WW w a b) hT 1 2 (joinLoop it fr) [(it, itO "tuple_iterator" (.ref (p + B)) 0), (fr, frJ4 (WW w a b).params p ta tp ts us tq uq va q n), (p, seqO "tuple" items m)] _
      refine SegOk.of_then (V := VW w a b (joinCs c.1 c.2) 1) (uok TK) (conOf_ok (join_cs TK.size _ _)) (Nat.le_refl _) (run_join4 w a b it fr p 0 ta tp ts us tq uq n m c.2 va q c.1 items) (fun f => joinPs_ok hq' hc1 hget (by omega)) (fun f => ?_)
      have ih := join_loop TK it fr p ta tp ts us tq (n + 1) m (f 0) va items rest 1 (q ++ (sl ++ c.1)) (f 10) (.str c.1 c.2) (by rw [hi']; rfl) (by simp at hsz; omega) (fun x hx => hc x (List.mem_cons_of_mem _ hx)) (EndsOk.app hc1) (by rw [len_app, len_app, show sl.length = 1 from rfl]; omega)
      refine SegOk.mono ih (Nat.le_refl _) fun xs hx => ⟨[f 0, lastT (f 10) (tk0 xs) rest], rfl, rfl, ?_⟩
      show [] ++ zipS [it, fr, p] ((joinLJ (WW w a b).params).post [it, fr, p] _ _) = _
      rw [List.nil_append]
      unfold joinLJ
      simp only [hi', unV_map]
      rfl) (fun _ _ _ => rfl)
end
end Mine
end

section
set_option maxRecDepth 100000
set_option linter.unusedVariables false
namespace Mine
open PySem PyProof.Rows PySem.W PySem.W.X
open PySem.Builtin PySem.Builtin.Str

noncomputable def funcC (st : Stmt) (env : Env) : Code := .func (fnB st) env
noncomputable def mkv (g : Nat → Value) : Nat → List Value := fun k => Nat.rec (motive := fun _ => Nat → List Value) (fun _ => []) (fun _ ih i => g i :: ih (i + 1)) k 0
theorem mkv_of (xs : List Value) : xs = mkv (fun i => xs.getD i .none) xs.length := by
  have : ∀ (ys : List Value) (f : Nat → Value) i, (∀ j, j < ys.length → f (i + j) = ys.getD j .none) → ys = (Nat.rec (motive := fun _ => Nat → List Value) (fun _ => []) (fun _ ih i => f i :: ih (i + 1)) ys.length i) := by
    intro ys
    induction ys with
    | nil => intro f i h; rfl
    | cons y r ih =>
      intro f i h
      show y :: r = f i :: _
      have h0 := h 0 (by simp)
      rw [Nat.add_zero] at h0
      rw [h0]
      congr 1
      refine ih f (i + 1) fun j hj => ?_
      have := h (j + 1) (by simp; omega)
      rw [show i + 1 + j = i + (j + 1) by omega, this]
      simp
  exact this xs _ 0 (fun j _ => by rw [Nat.zero_add])

noncomputable abbrev joinFCs (w : World) (a b : Bool) : List Con := [(joinLJ (WW w a b).params).con]
noncomputable def joinFn (fr : Nat) : Code := funcC (tS 17) (envO (fnS (tS 17)) fr (⟨⟨[106, 111, 105, 110]⟩⟩ : Str) 138 137)
noncomputable abbrev joinT (P : Params) (fr p ta tp n m : Nat) (q : Str) (uq : Nat) (items : Array Value) : Slots := [(fr, frO P [((⟨⟨[97]⟩⟩ : Str), ta, .str q uq), ((⟨⟨[112]⟩⟩ : Str), tp, .ref (p + B))] n), (p, seqO "tuple" items m)]
section
variable (w : World) (a b : Bool) (q : Str) (uq : Nat)
theorem run_join_in (g : Nat → Value) (f : Nat → Nat) : ∀ L, L ≤ 28 → RunIs (codeU (VW w a b (joinFCs w a b) 2) (simU (VW w a b (joinFCs w a b) 2) 24) none (.call (.ref 138) ⟨.str q uq :: mkv g L, []⟩) 146402449303797762 (mk f 4) .base [] [] [])
    [] (.stop (joinFn (f 1)) (joinT (WW w a b).params (f 1) (f 0) (f 2) (f 3) 2 0 q uq ⟨mkv g L⟩))
  | 0, _ => RunIs.of (by kernel_rfl)
  | 1, _ => RunIs.of (by kernel_rfl)
  | 2, _ => RunIs.of (by kernel_rfl)
  | 3, _ => RunIs.of (by kernel_rfl)
  | 4, _ => RunIs.of (by kernel_rfl)
  | 5, _ => RunIs.of (by kernel_rfl)
  | 6, _ => RunIs.of (by kernel_rfl)
  | 7, _ => RunIs.of (by kernel_rfl)
  | 8, _ => RunIs.of (by kernel_rfl)
  | 9, _ => RunIs.of (by kernel_rfl)
  | 10, _ => RunIs.of (by kernel_rfl)
  | 11, _ => RunIs.of (by kernel_rfl)
  | 12, _ => RunIs.of (by kernel_rfl)
  | 13, _ => RunIs.of (by kernel_rfl)
  | 14, _ => RunIs.of (by kernel_rfl)
  | 15, _ => RunIs.of (by kernel_rfl)
  | 16, _ => RunIs.of (by kernel_rfl)
  | 17, _ => RunIs.of (by kernel_rfl)
  | 18, _ => RunIs.of (by kernel_rfl)
  | 19, _ => RunIs.of (by kernel_rfl)
  | 20, _ => RunIs.of (by kernel_rfl)
  | 21, _ => RunIs.of (by kernel_rfl)
  | 22, _ => RunIs.of (by kernel_rfl)
  | 23, _ => RunIs.of (by kernel_rfl)
  | 24, _ => RunIs.of (by kernel_rfl)
  | 25, _ => RunIs.of (by kernel_rfl)
  | 26, _ => RunIs.of (by kernel_rfl)
  | 27, _ => RunIs.of (by kernel_rfl)
  | 28, _ => RunIs.of (by kernel_rfl)
  | L + 29, h => by omega
theorem run_join_body (fr p ta tp n m : Nat) (items : Array Value) (f : Nat → Nat) : RunIs (codeU (VW w a b (joinFCs w a b) 2) (simU (VW w a b (joinFCs w a b) 2) 171) none (joinFn fr) 9167089472750535683254410666678500693177695195088024544442048493666274533121283370230543489643306773052713110211644890706650620229588601944324391507077386832314369 (mk f 14) .base (joinT (WW w a b).params fr p ta tp n m q uq items) [] [])
    [∃ rest, items.toList = rest.map strV ∧ rest ≠ [] ∧ (∀ c ∈ rest, NoSl c.1) ∧ EndsOk q ∧ q.length + sumLen rest ≤ 1000000] (.ret (.ok (.ret (.str (glueUp q (items.toList.map unV)) (f 13)))) []) := RunIs.of (by cases a <;> kernel_rfl)
end
/-- join: the parts, one at least behind the first -/
noncomputable def joinJ : Job (Str × Tok × List Value) where
  lvl := 2
  need := 1
  ext := fun c _ => match c with
    | .call _ ⟨.str q uq :: vs, []⟩ => some (q, uq, vs)
    | _ => none
  code := fun _ d => .call (.ref 138) ⟨.str d.1 d.2.1 :: d.2.2, []⟩
  pre := fun _ _ => []
  side := fun _ d => [d.2.2.length ≤ 28 ∧ ∃ rest, d.2.2 = rest.map strV ∧ rest ≠ [] ∧ (∀ c ∈ rest, NoSl c.1) ∧ EndsOk d.1 ∧ d.1.length + sumLen rest ≤ 1000000]
  res := fun _ d xs => .ok (.ret (.str (glueUp d.1 (d.2.2.map unV)) (tk0 xs)))
  new := fun _ _ _ => []
  post := fun _ _ _ => []
section
variable {w : World} {a b : Bool} {hT : Heap}
theorem join_ok (TK : TopK (WW w a b) hT) : ConOk pwT' (WW w a b) hT joinJ.con := Job.con_ok (fun ids d hl hs => by
  obtain ⟨q, uq, vs⟩ := d
  obtain ⟨⟨hL, hs⟩, _⟩ := hs
  have hL' : vs.length ≤ 28 := hL
  have e0 : joinJ.into ids (q, uq, vs) = [] := by cases ids <;> rfl
  have e1 : ∀ xs, joinJ.out ids (q, uq, vs) xs = (.ok (.ret (.str (glueUp q (vs.map unV)) (tk0 xs))), []) := fun xs => by cases ids <;> rfl
  have ec : joinJ.code ids (q, uq, vs) = .call (.ref 138) ⟨.str q uq :: vs, []⟩ := rfl
  rw [e0, ec]
  have C : Cons pwT' (WW w a b) hT (joinFCs w a b) := ⟨joinL_ok TK, trivial⟩
  have em := mkv_of vs
  have main : ∀ g, vs = mkv g vs.length → SegOk pwT' (WW w a b) hT 2 1 (.call (.ref 138) ⟨.str q uq :: vs, []⟩) [] (joinJ.out ids (q, uq, vs)) := fun g eg => by
    have r1 := fun f => run_join_in w a b q uq g f vs.length hL'
    rw [← eg] at r1
    refine SegOk.of_then (V := VW w a b (joinFCs w a b) 2) (uok TK) (conOf_ok C) (show 1 ≤ 2 by decide) r1 (fun f => trivial) (fun f => ?_)
    exact SegOk.of_run (V := VW w a b (joinFCs w a b) 2) (uok TK) (conOf_ok C) (show 1 ≤ 2 by decide) (run_join_body w a b q uq (f 1) (f 0) (f 2) (f 3) 2 0 ⟨vs⟩) (fun f => ⟨hs, trivial⟩) (fun f => ⟨[f 13], rfl, by rw [e1]; rfl⟩)
  exact main _ em) (fun _ _ _ => rfl)
end
end Mine
end

section
set_option maxRecDepth 100000
set_option linter.unusedVariables false
namespace Mine
open PySem PyProof.Rows PySem.W PySem.W.X
open PySem.Builtin PySem.Builtin.Str
noncomputable abbrev dd : Str := ⟨⟨[46, 46]⟩⟩
noncomputable abbrev llenPos : Con := (llenJ (fun n => Int.ofNat (n - 1 + 1)) (fun n => n ≠ 0)).con
noncomputable abbrev llenZero : Con := (llenJ (fun n => 0) (fun n => n = 0)).con
noncomputable abbrev npCs (c : Str) (uc : Nat) (l : Str) (ul : Nat) : List Con := [(itemJ "list_iterator" "list_iterator.__next__" "list" (.str c uc)).con, (endJ "list_iterator" "list_iterator.__next__" "list").con, lenC, seqC, sneC, llenPos, llenZero, (lgetJ (.str l ul)).con, lappJ.con, (lpopJ (.str l ul)).con]
noncomputable def npLoop (it fr : Nat) : Code := forC (stN (fnB (tS 20)) 6) (.ref (it + B)) (envO (fnS (tS 20)) fr (⟨⟨[110, 111, 114, 109, 112, 97, 116, 104]⟩⟩ : Str) 152 151)
/-- the frame of normpath at its loop -/
structure NpF where
  t1 : Nat
  v1 : Value
  t2 : Nat
  u2 : Nat
  t3 : Nat
  u3 : Nat
  t4 : Nat
  u4 : Nat
  t5 : Nat
  v5 : Value
  t6 : Nat
  u6 : Nat
  t7 : Nat
  t8 : Nat
noncomputable abbrev npEs (F : NpF) (cm nc : Nat) : List (Str × Tok × Value) := [((⟨⟨[112, 97, 116, 104]⟩⟩ : Str), F.t1, F.v1), ((⟨⟨[115, 101, 112]⟩⟩ : Str), F.t2, .str (⟨⟨[47]⟩⟩ : Str) F.u2), ((⟨⟨[100, 111, 116]⟩⟩ : Str), F.t3, .str (⟨⟨[46]⟩⟩ : Str) F.u3), ((⟨⟨[100, 111, 116, 100, 111, 116]⟩⟩ : Str), F.t4, .str dd F.u4), ((⟨⟨[95]⟩⟩ : Str), F.t5, F.v5), ((⟨⟨[105, 110, 105, 116, 105, 97, 108, 95, 115, 108, 97, 115, 104, 101, 115]⟩⟩ : Str), F.t6, .str ⟨⟨[]⟩⟩ F.u6), ((⟨⟨[99, 111, 109, 112, 115]⟩⟩ : Str), F.t7, .ref (cm + B)), ((⟨⟨[110, 101, 119, 95, 99, 111, 109, 112, 115]⟩⟩ : Str), F.t8, .ref (nc + B))]
noncomputable abbrev frN8 (P : Params) (F : NpF) (cm nc n : Nat) : Obj := frO P (npEs F cm nc) n
noncomputable abbrev frN9 (P : Params) (F : NpF) (cm nc tc : Nat) (vc : Value) (n : Nat) : Obj := frO P (npEs F cm nc ++ [((⟨⟨[99, 111, 109, 112]⟩⟩ : Str), tc, vc)]) n
section
variable (w : World) (a b : Bool) (it nc cm fr : Nat) (i : Int) (F : NpF) (tc uc ul n k m : Nat) (vc : Value) (c l : Str) (st items : Array Value) (f : Nat → Nat)
theorem run_np8 : RunIs (codeU (VW w a b (npCs c uc l ul) 1) (simU (VW w a b (npCs c uc l ul) 1) 85) none (npLoop it fr) 16423853285264755145202133466084851891162295874082300713699192660194658773457148662784214017 (mk f 4) .base [(it, itO "list_iterator" (.ref (cm + B)) i), (nc, listO st k), (cm, seqO "list" items m), (fr, frN8 (WW w a b).params F cm nc n)] [] [])
    [st.size ≤ sizeLine, True, (c.cps.toList != dd.cps.toList) = true, True, (c.cps.toList == ((⟨⟨[46]⟩⟩ : Str)).cps.toList) = false, c.length ≠ 0, c.length < 2 ^ 62, items[i.toNat]? = some (.str c uc)] (.stop (npLoop it fr) [(it, itO "list_iterator" (.ref (cm + B)) (i + 1)), (nc, listO (st.push (.str c uc)) (k + 1)), (cm, seqO "list" items m), (fr, frN9 (WW w a b).params F cm nc (f 0) (.str c uc) (n + 1))]) := RunIs.of (by cases a <;> kernel_rfl)
theorem run_npA : RunIs (codeU (VW w a b (npCs c uc l ul) 1) (simU (VW w a b (npCs c uc l ul) 1) 85) none (npLoop it fr) 16423853285264755145202133466084851891162295874082300713699192660194658773457148662784214017 (mk f 4) .base [(it, itO "list_iterator" (.ref (cm + B)) i), (nc, listO st k), (cm, seqO "list" items m), (fr, frN9 (WW w a b).params F cm nc tc vc n)] [] [])
    [st.size ≤ sizeLine, True, (c.cps.toList != dd.cps.toList) = true, True, (c.cps.toList == ((⟨⟨[46]⟩⟩ : Str)).cps.toList) = false, c.length ≠ 0, c.length < 2 ^ 62, items[i.toNat]? = some (.str c uc)] (.stop (npLoop it fr) [(it, itO "list_iterator" (.ref (cm + B)) (i + 1)), (nc, listO (st.push (.str c uc)) (k + 1)), (cm, seqO "list" items m), (fr, frN9 (WW w a b).params F cm nc tc (.str c uc) n)]) := RunIs.of (by cases a <;> kernel_rfl)
theorem run_npE : RunIs (codeU (VW w a b (npCs dd uc l ul) 1) (simU (VW w a b (npCs dd uc l ul) 1) 93) none (npLoop it fr) 317683524705905826175448751437070420453322920500121320598635898564480785263825970013384391185792595290204582356993025 (mk f 6) .base [(it, itO "list_iterator" (.ref (cm + B)) i), (nc, listO st k), (cm, seqO "list" items m), (fr, frN9 (WW w a b).params F cm nc tc vc n)] [] [])
    [st.size ≤ sizeLine, st.size = 0, st.size < 2 ^ 62, (⟨⟨[]⟩⟩ : Str).length = 0, True, (dd.cps.toList != dd.cps.toList) = false, True, (dd.cps.toList == ((⟨⟨[46]⟩⟩ : Str)).cps.toList) = false, dd.length ≠ 0, dd.length < 2 ^ 62, items[i.toNat]? = some (.str dd uc)] (.stop (npLoop it fr) [(it, itO "list_iterator" (.ref (cm + B)) (i + 1)), (nc, listO (st.push (.str dd uc)) (k + 1)), (cm, seqO "list" items m), (fr, frN9 (WW w a b).params F cm nc tc (.str dd uc) n)]) := RunIs.of (by cases a <;> kernel_rfl)
theorem run_npD : RunIs (codeU (VW w a b (npCs dd uc l ul) 1) (simU (VW w a b (npCs dd uc l ul) 1) 117) none (npLoop it fr) 15214018281823722337523218669108685020055591653879352922855494158214437232412995422334533154779933547270649131265203587405778129098489194314868146928205671099416876958721 (mk f 10) .base [(it, itO "list_iterator" (.ref (cm + B)) i), (nc, listO st k), (cm, seqO "list" items m), (fr, frN9 (WW w a b).params F cm nc tc vc n)] [] [])
    [st.size ≤ sizeLine, True, (l.cps.toList == dd.cps.toList) = true, (-(st.size : Int) ≤ -1 ∧ -(2 ^ 63) ≤ (-1 : Int) ∧ (-1 : Int) < 2 ^ 63 ∧ st[(if 0 ≤ (-1 : Int) then (-1 : Int) else -1 + st.size).toNat]? = some (.str l ul)), st.size ≠ 0, st.size < 2 ^ 62, st.size ≠ 0, st.size < 2 ^ 62, (⟨⟨[]⟩⟩ : Str).length = 0, True, (dd.cps.toList != dd.cps.toList) = false, True, (dd.cps.toList == ((⟨⟨[46]⟩⟩ : Str)).cps.toList) = false, dd.length ≠ 0, dd.length < 2 ^ 62, items[i.toNat]? = some (.str dd uc)] (.stop (npLoop it fr) [(it, itO "list_iterator" (.ref (cm + B)) (i + 1)), (nc, listO (st.push (.str dd uc)) (k + 1)), (cm, seqO "list" items m), (fr, frN9 (WW w a b).params F cm nc tc (.str dd uc) n)]) := RunIs.of (by cases a <;> kernel_rfl)
theorem run_npP : RunIs (codeU (VW w a b (npCs dd uc l ul) 1) (simU (VW w a b (npCs dd uc l ul) 1) 121) none (npLoop it fr) 66911960086079894552473785975330263258601601560641223578406146817845560372188543513610348454384953169784949122035972959105102084293813196084744772502039582123412336981341145973933057 (mk f 11) .base [(it, itO "list_iterator" (.ref (cm + B)) i), (nc, listO st k), (cm, seqO "list" items m), (fr, frN9 (WW w a b).params F cm nc tc vc n)] [] [])
    [st[st.size - 1]? = some (.str l ul), st.size ≤ sizeLine, st.size ≠ 0, st.size < 2 ^ 62, True, (l.cps.toList == dd.cps.toList) = false, (-(st.size : Int) ≤ -1 ∧ -(2 ^ 63) ≤ (-1 : Int) ∧ (-1 : Int) < 2 ^ 63 ∧ st[(if 0 ≤ (-1 : Int) then (-1 : Int) else -1 + st.size).toNat]? = some (.str l ul)), st.size ≠ 0, st.size < 2 ^ 62, st.size ≠ 0, st.size < 2 ^ 62, (⟨⟨[]⟩⟩ : Str).length = 0, True, (dd.cps.toList != dd.cps.toList) = false, True, (dd.cps.toList == ((⟨⟨[46]⟩⟩ : Str)).cps.toList) = false, dd.length ≠ 0, dd.length < 2 ^ 62, items[i.toNat]? = some (.str dd uc)] (.stop (npLoop it fr) [(it, itO "list_iterator" (.ref (cm + B)) (i + 1)), (nc, listO st.pop (k + 1)), (cm, seqO "list" items m), (fr, frN9 (WW w a b).params F cm nc tc (.str dd uc) n)]) := RunIs.of (by cases a <;> kernel_rfl)
theorem run_npEnd : RunIs (codeU (VW w a b (npCs c uc l ul) 1) (simU (VW w a b (npCs c uc l ul) 1) 46) none (npLoop it fr) 5029888242756837541612110849 (mk f 2) .base [(it, itO "list_iterator" (.ref (cm + B)) i), (nc, listO st k), (cm, seqO "list" items m), (fr, frN9 (WW w a b).params F cm nc tc vc n)] [] [])
    [items[i.toNat]? = none] (.ret (.ok .next) [(it, ⟨.type "list_iterator", none, .fields #[.none, .int i 0], #[]⟩), (nc, listO st k), (cm, seqO "list" items m), (fr, frN9 (WW w a b).params F cm nc tc vc n)]) := RunIs.of (by cases a <;> kernel_rfl)
end
end Mine
end

section
set_option maxRecDepth 100000
set_option linter.unusedVariables false
namespace Mine
open PySem PyProof.Rows PySem.W PySem.W.X
open PySem.Builtin PySem.Builtin.Str

noncomputable def isDD (c : Str × Tok) : Bool := c.1.cps.toList == dd.cps.toList
/-- one part comes onto normpath's stack -/
noncomputable def npStep (st : List (Str × Tok)) (c : Str × Tok) : List (Str × Tok) := match isDD c with
  | false => st ++ [c]
  | true => match st.getLast? with
    | none => st ++ [c]
    | some l => match isDD l with
      | true => st ++ [c]
      | false => st.dropLast
noncomputable def npRun : List (Str × Tok) → List (Str × Tok) → List (Str × Tok)
  | st, [] => st
  | st, c :: r => npRun (npStep st c) r
def OkC (c : Str × Tok) : Prop := c.1.length ≠ 0 ∧ c.1.length < 2 ^ 62 ∧ (c.1.cps.toList == (⟨⟨[46]⟩⟩ : Str).cps.toList) = false
noncomputable def arrV (st : List (Str × Tok)) : Array Value := ⟨st.map strV⟩
theorem arr_push (st : List (Str × Tok)) (c : Str × Tok) : (arrV st).push (strV c) = arrV (st ++ [c]) := by
  apply Array.ext'
  rw [Array.toList_push]
  show st.map strV ++ [strV c] = (st ++ [c]).map strV
  rw [List.map_append]; rfl
theorem arr_pop (st : List (Str × Tok)) : (arrV st).pop = arrV st.dropLast := by
  apply Array.ext'
  rw [Array.toList_pop]
  show (st.map strV).dropLast = st.dropLast.map strV
  rw [List.map_dropLast]
theorem arr_size (st : List (Str × Tok)) : (arrV st).size = st.length := by
  show (st.map strV).length = _
  rw [List.length_map]
theorem arr_last {st : List (Str × Tok)} {l : Str × Tok} (h : st.getLast? = some l) : (arrV st)[(arrV st).size - 1]? = some (strV l) := by
  rw [arr_size, ← Array.getElem?_toList]
  show (st.map strV)[st.length - 1]? = _
  rw [List.getElem?_map, ← List.getLast?_eq_getElem?, h]; rfl
theorem npStep_len (st : List (Str × Tok)) (c : Str × Tok) : (npStep st c).length ≤ st.length + 1 := by
  unfold npStep
  repeat' split
  all_goals simp
  all_goals omega
section
variable {w : World} {a b : Bool} {hT : Heap}
theorem np_cs (hz : hT.objs.size = B) (c : Str) (uc : Nat) (l : Str) (ul : Nat) : Cons pwT' (WW w a b) hT (npCs c uc l ul) :=
  ⟨lnext_ok hz, lend_ok hz, len_ok, seq_ok, sne_ok, llen_ok (fun n h => by show ((n - 1 + 1 : Nat) : Int) = n; rw [Nat.sub_add_cancel (by omega)]), llen_ok (fun n h => by rw [h]; rfl), lget_ok, lapp_ok hz, lpop_ok hz, trivial⟩
noncomputable abbrev npT (P : Params) (it nc cm fr : Nat) (i : Int) (F : NpF) (tc n k m : Nat) (vc : Value) (sa : Array Value) (items : Array Value) : Slots :=
  [(it, itO "list_iterator" (.ref (cm + B)) i), (nc, listO sa k), (cm, seqO "list" items m), (fr, frN9 P F cm nc tc vc n)]
noncomputable def npOut (P : Params) (it nc cm fr : Nat) (F : NpF) (tc n k m : Nat) (vc : Value) (st : List (Str × Tok)) (items : Array Value) (rest : List (Str × Tok)) : List Nat → Result × Slots := fun _ =>
  (.ok .next, [(it, ⟨.type "list_iterator", none, .fields #[.none, .int items.size 0], #[]⟩), (nc, listO (arrV (npRun st rest)) (k + rest.length)), (cm, seqO "list" items m), (fr, frN9 P F cm nc tc (lastV vc rest) n)])
theorem np_loop (TK : TopK (WW w a b) hT) (it nc cm fr : Nat) (F : NpF) (tc n m : Nat) (items : Array Value) : ∀ (rest : List (Str × Tok)) (i k : Nat) (st : List (Str × Tok)) (vc : Value),
    items.toList.drop i = rest.map strV → i + rest.length = items.size → (∀ c ∈ rest, OkC c) → st.length + rest.length ≤ 1000 →
    SegOk pwT' (WW w a b) hT 1 0 (npLoop it fr) (npT (WW w a b).params it nc cm fr i F tc n k m vc (arrV st) items) (npOut (WW w a b).params it nc cm fr F tc n k m vc st items rest)
  | [], i, k, st, vc, hd, hi, _, _ => by
    have e : i = items.size := by simpa using hi
    subst e
    exact SegOk.of_run (V := VW w a b (npCs dd 0 dd 0) 1) (uok TK) (conOf_ok (np_cs TK.size _ _ _ _)) (Nat.le_refl _) (run_npEnd w a b it nc cm fr (items.size : Int) F tc 0 0 n k m vc dd dd (arrV st) items) (fun f => ⟨by simp, trivial⟩) (fun f => ⟨[], rfl, rfl⟩)
  | c :: rest, i, k, st, vc, hd, hi, hc, hs => by
    have hlen : i < items.size := by simp at hi; omega
    have hget : items[(i : Int).toNat]? = some (strV c) := by
      have h1 : (items.toList.drop i)[0]? = some (strV c) := by rw [hd]; rfl
      rw [List.getElem?_drop, Nat.add_zero] at h1
      rw [Int.toNat_natCast, ← Array.getElem?_toList]; exact h1
    have hdrop : items.toList.drop (i + 1) = rest.map strV := by rw [← List.drop_drop, hd]; rfl
    have hs' : st.length + (rest.length + 1) ≤ 1000 := hs
    have hi' : i + 1 + rest.length = items.size := by simp at hi; omega
    obtain ⟨c1, c2, c3⟩ := hc c (List.mem_cons_self ..)
    have hsz : (arrV st).size = st.length := arr_size st
    have hsl : (arrV st).size ≤ sizeLine := by rw [hsz]; show _ ≤ 16777216; omega
    have hs62 : (arrV st).size < 2 ^ 62 := by rw [hsz]; have : (1000 : Nat) < 2 ^ 62 := by decide
                                              omega
    have ih := fun st' (e : st'.length ≤ st.length + 1) => np_loop TK it nc cm fr F tc n m items rest (i + 1) (k + 1) st' (strV c) hdrop hi' (fun x hx => hc x (List.mem_cons_of_mem _ hx)) (by omega)
    have ih2 := ih _ (npStep_len st c)
    have ek : k + 1 + rest.length = k + (c :: rest).length := by simp; omega
    have fin : SegOk pwT' (WW w a b) hT 1 0 (npLoop it fr) (npT (WW w a b).params it nc cm fr ((i : Int) + 1) F tc n (k + 1) m (strV c) (arrV (npStep st c)) items) (npOut (WW w a b).params it nc cm fr F tc n k m vc st items (c :: rest)) := by
      refine SegOk.mono ih2 (Nat.le_refl _) fun xs hx => ⟨xs, hx, rfl, ?_⟩
      unfold npOut
      rw [ek]; rfl
    cases hdd : isDD c with
    | false =>
      have e1 : npStep st c = st ++ [c] := by unfold npStep; rw [hdd]
      rw [e1, ← arr_push] at fin
      refine SegOk.of_then (V := VW w a b (npCs c.1 c.2 dd 0) 1) (uok TK) (conOf_ok (np_cs TK.size _ _ _ _)) (Nat.le_refl _) (run_npA w a b it nc cm fr i F tc c.2 0 n k m vc c.1 dd (arrV st) items)
        (fun f => ⟨hsl, trivial, by show (!(isDD c)) = true; rw [hdd]; rfl, trivial, c3, c1, c2, hget, trivial⟩) (fun f => fin)
    | true =>
      have ec : c.1 = dd := by
        have : c.1.cps.toList = dd.cps.toList := by simpa [isDD] using hdd
        cases h : c.1 with
        | mk x => rw [h] at this; exact congrArg Str.mk (show x = dd.cps from Array.ext' this)
      obtain ⟨cs, cu⟩ := c
      have ec' : cs = dd := ec
      subst ec'
      have com : Alls [True, (dd.cps.toList != dd.cps.toList) = false, True, (dd.cps.toList == (⟨⟨[46]⟩⟩ : Str).cps.toList) = false, dd.length ≠ 0, dd.length < 2 ^ 62, items[(i : Int).toNat]? = some (.str dd cu)] :=
        ⟨trivial, by decide, trivial, by decide, by decide, by decide, hget, trivial⟩
      cases hl : st.getLast? with
      | none =>
        have e0 : st = [] := List.getLast?_eq_none_iff.mp hl
        have e1 : npStep st (dd, cu) = st ++ [(dd, cu)] := by unfold npStep; rw [hdd, hl]
        rw [e1, ← arr_push] at fin
        refine SegOk.of_then (V := VW w a b (npCs dd cu dd 0) 1) (uok TK) (conOf_ok (np_cs TK.size _ _ _ _)) (Nat.le_refl _) (run_npE w a b it nc cm fr i F tc cu 0 n k m vc dd (arrV st) items)
          (fun f => ⟨hsl, by rw [hsz, e0]; rfl, hs62, rfl, com⟩) (fun f => fin)
      | some l =>
        have hne : (arrV st).size ≠ 0 := by
          rw [hsz]; intro e; rw [List.eq_nil_of_length_eq_zero e] at hl; cases hl
        have hlast := arr_last hl
        have lg : (-((arrV st).size : Int) ≤ -1 ∧ -(2 ^ 63) ≤ (-1 : Int) ∧ (-1 : Int) < 2 ^ 63 ∧ (arrV st)[(if 0 ≤ (-1 : Int) then (-1 : Int) else -1 + (arrV st).size).toNat]? = some (.str l.1 l.2)) := by
          refine ⟨by omega, by decide, by decide, ?_⟩
          rw [if_neg (by decide)]
          have : (-1 + ((arrV st).size : Int)).toNat = (arrV st).size - 1 := by omega
          rw [this]; exact hlast
        cases hld : isDD l with
        | true =>
          have e1 : npStep st (dd, cu) = st ++ [(dd, cu)] := by unfold npStep; rw [hdd, hl]; dsimp only; rw [hld]
          rw [e1, ← arr_push] at fin
          refine SegOk.of_then (V := VW w a b (npCs dd cu l.1 l.2) 1) (uok TK) (conOf_ok (np_cs TK.size _ _ _ _)) (Nat.le_refl _) (run_npD w a b it nc cm fr i F tc cu l.2 n k m vc l.1 (arrV st) items)
            (fun f => ⟨hsl, trivial, hld, lg, hne, hs62, hne, hs62, rfl, com⟩) (fun f => fin)
        | false =>
          have e1 : npStep st (dd, cu) = st.dropLast := by unfold npStep; rw [hdd, hl]; dsimp only; rw [hld]
          rw [e1, ← arr_pop] at fin
          refine SegOk.of_then (V := VW w a b (npCs dd cu l.1 l.2) 1) (uok TK) (conOf_ok (np_cs TK.size _ _ _ _)) (Nat.le_refl _) (run_npP w a b it nc cm fr i F tc cu l.2 n k m vc l.1 (arrV st) items)
            (fun f => ⟨hlast, hsl, hne, hs62, trivial, hld, lg, hne, hs62, hne, hs62, rfl, com⟩) (fun f => fin)
end
end Mine
end

section
set_option maxRecDepth 100000
set_option linter.unusedVariables false
namespace Mine
open PySem PyProof.Rows PySem.W PySem.W.X
open PySem.Builtin PySem.Builtin.Str

structure NpD where
  F : NpF
  n : Nat
  k : Nat
  m : Nat
  items : Array Value
noncomputable def npExt (os : List Obj) : Option NpD := match os with
  | [_, fr, ⟨_, _, .seq items m, _⟩, ⟨_, _, .seq _ k, _⟩] => match entD fr with
    | ([(t1, v1), (t2, .str _ u2), (t3, .str _ u3), (t4, .str _ u4), (t5, v5), (t6, .str _ u6), (t7, _), (t8, _)], n) => some ⟨⟨t1, v1, t2, u2, t3, u3, t4, u4, t5, v5, t6, u6, t7, t8⟩, n, k, m, items⟩
    | _ => none
  | _ => none
noncomputable def unA (items : Array Value) : List (Str × Tok) := items.toList.map unV
noncomputable def npLJ (P : Params) : Job NpD where
  lvl := 1
  need := 1
  ext := fun _ os => npExt os
  code := fun ids _ => npLoop (ky ids 0) (ky ids 1)
  pre := fun ids d => [itO "list_iterator" (.ref (ky ids 2 + B)) 0, frN8 P d.F (ky ids 2) (ky ids 3) d.n, seqO "list" d.items d.m, listO #[] d.k]
  side := fun _ d => [∃ rest, d.items.toList = rest.map strV ∧ (∀ c ∈ rest, OkC c) ∧ rest.length ≤ 900 ∧ ∃ c r, rest = c :: r ∧ isDD c = false]
  res := fun _ _ _ => .ok .next
  new := fun _ _ _ => []
  post := fun ids d xs => [⟨.type "list_iterator", none, .fields #[.none, .int d.items.size 0], #[]⟩, frN9 P d.F (ky ids 2) (ky ids 3) (tk0 xs) (lastV .none (unA d.items)) (d.n + 1), seqO "list" d.items d.m,
    listO (arrV (npRun [] (unA d.items))) (d.k + (unA d.items).length)]
section
variable {w : World} {a b : Bool} {hT : Heap}
theorem npL_ok (TK : TopK (WW w a b) hT) : ConOk pwT' (WW w a b) hT (npLJ (WW w a b).params).con := Job.con_ok (fun ids d hl hs => by
  obtain ⟨F, n, k, m, items⟩ := d
  match ids, hl with
  | [it, fr, cm, nc], _ =>
    obtain ⟨⟨rest, hi, hc, hz, c, r, e, hdd⟩, _⟩ := hs
    have hi' : items.toList = rest.map strV := hi
    subst e
    have hsz : r.length + 1 = items.size := by rw [← Array.length_toList, hi', List.length_map]; rfl
    have hz' : r.length + 1 ≤ 900 := hz
    have hget : items[(0 : Int).toNat]? = some (strV c) := by
      show items[0]? = _
      rw [← Array.getElem?_toList, hi']; rfl
    obtain ⟨c1, c2, c3⟩ := hc c (List.mem_cons_self ..)
    have e1 : npStep [] c = [c] := by unfold npStep; rw [hdd]; rfl
    have ih := np_loop TK it nc cm fr F 0 (n + 1) m items r 1 (k + 1) [c] (strV c) (by rw [hi']; rfl) (by omega) (fun x hx => hc x (List.mem_cons_of_mem _ hx)) (by simp; omega)
    have into : (npLJ (WW w a b).params).into [it, fr, cm, nc] ⟨F, n, k, m, items⟩ = [(it, itO "list_iterator" (.ref (cm + B)) 0), (fr, frN8 (WW w a b).params F cm nc n), (cm, seqO "list" items m), (nc, listO #[] k)] := rfl
    have perm : ∀ (p1 p2 p3 p4 : Nat × Obj), [p1, p4, p3, p2].Perm [p1, p2, p3, p4] := fun p1 p2 p3 p4 => by
      refine List.Perm.cons _ ?_
      exact (List.Perm.swap p3 p4 [p2]).trans ((List.Perm.cons _ (List.Perm.swap p2 p4 [])).trans (List.Perm.swap p2 p3 [p4]))
    have main : SegOk pwT' (WW w a b) hT 1 1 (npLoop it fr) [(it, itO "list_iterator" (.ref (cm + B)) 0), (nc, listO #[] k), (cm, seqO "list" items m), (fr, frN8 (WW w a b).params F cm nc n)]
        (fun xs => (.ok .next, [(it, ⟨.type "list_iterator", none, .fields #[.none, .int items.size 0], #[]⟩), (nc, listO (arrV (npRun [] (c :: r))) (k + (c :: r).length)), (cm, seqO "list" items m), (fr, frN9 (WW w a b).params F cm nc (tk0 xs) (lastV .none (c :: r)) (n + 1))])) := by
      refine SegOk.of_then (V := VW w a b (npCs c.1 c.2 dd 0) 1) (uok TK) (conOf_ok (np_cs TK.size _ _ _ _)) (Nat.le_refl _) (run_np8 w a b it nc cm fr 0 F c.2 0 n k m c.1 dd #[] items)
        (fun f => ⟨by decide, trivial, by show (!(isDD c)) = true; rw [hdd]; rfl, trivial, c3, c1, c2, hget, trivial⟩) (fun f => ?_)
      have ih := np_loop TK it nc cm fr F (f 0) (n + 1) m items r 1 (k + 1) [c] (strV c) (by rw [hi']; rfl) (by omega) (fun x hx => hc x (List.mem_cons_of_mem _ hx)) (by simp; omega)
      refine SegOk.mono ih (Nat.le_refl _) fun xs hx => ⟨[f 0], rfl, rfl, ?_⟩
      unfold npOut
      have ek : k + 1 + r.length = k + (c :: r).length := by simp; omega
      rw [ek]
      show [_, (nc, listO (arrV (npRun (npStep [] c) r)) _), _, _] = _
      rw [e1]; rfl
    rw [into]
    intro A h₀ U g d os R h tk hh hr D K
    refine main A h₀ U g d os R h tk hh hr (D.perm (perm _ _ _ _)) fun xs hx h' t' D' => ?_
    have eo : (npLJ (WW w a b).params).out [it, fr, cm, nc] ⟨F, n, k, m, items⟩ xs = (.ok .next, [(it, ⟨.type "list_iterator", none, .fields #[.none, .int items.size 0], #[]⟩), (fr, frN9 (WW w a b).params F cm nc (tk0 xs) (lastV .none (c :: r)) (n + 1)), (cm, seqO "list" items m), (nc, listO (arrV (npRun [] (c :: r))) (k + (c :: r).length))]) := by
      have eu : unA items = c :: r := by unfold unA; rw [hi', unV_map]
      show (_, [] ++ zipS _ ((npLJ (WW w a b).params).post [it, fr, cm, nc] _ _)) = _
      rw [List.nil_append]
      unfold npLJ
      simp only [eu]
      rfl
    have := K xs hx h' t' (by rw [eo]; exact D'.perm (perm _ _ _ _))
    rw [eo] at this
    exact this) (fun _ _ _ => rfl)
end
end Mine
end

section
set_option maxRecDepth 100000
set_option linter.unusedVariables false
namespace Mine
open PySem PyProof.Rows PySem.W PySem.W.X
open PySem.Builtin PySem.Builtin.Str

/-- the parts, a slash between two -/
def jn : List (List Nat) → List Nat
  | [] => []
  | [p] => p
  | p :: r => p ++ 47 :: jn r
theorem jn_cons (p q : List Nat) (r : List (List Nat)) : jn (p :: q :: r) = p ++ 47 :: jn (q :: r) := rfl
theorem join_jn : ∀ (ps : List Str), (PySem.Str.join sl ps).cps.toList = jn (ps.map (·.cps.toList))
  | [] => rfl
  | [p] => rfl
  | p :: q :: r => by
    show (p ++ sl ++ PySem.Str.join sl (q :: r)).cps.toList = p.cps.toList ++ 47 :: jn ((q :: r).map (·.cps.toList))
    rw [app_list, app_list, join_jn (q :: r)]
    show (p.cps.toList ++ [47]) ++ _ = _
    rw [List.append_assoc]; rfl
theorem cut_inj : ∀ (p q r s : List Nat), 47 ∉ p → 47 ∉ q → p ++ 47 :: r = q ++ 47 :: s → p = q ∧ r = s
  | [], [], r, s, _, _, h => ⟨rfl, by simpa using h⟩
  | [], y :: q, r, s, _, hq, h => by
    have : 47 = y := (List.cons.inj h).1
    exact absurd (this ▸ List.mem_cons_self ..) hq
  | x :: p, [], r, s, hp, _, h => by
    have : x = 47 := (List.cons.inj h).1
    exact absurd (this ▸ List.mem_cons_self ..) hp
  | x :: p, y :: q, r, s, hp, hq, h => by
    have h' := List.cons.inj h
    have ih := cut_inj p q r s (fun m => hp (List.mem_cons_of_mem _ m)) (fun m => hq (List.mem_cons_of_mem _ m)) h'.2
    exact ⟨by rw [h'.1, ih.1], ih.2⟩
theorem jn_inj : ∀ (ps qs : List (List Nat)), ps ≠ [] → qs ≠ [] → (∀ p ∈ ps, 47 ∉ p) → (∀ q ∈ qs, 47 ∉ q) → jn ps = jn qs → ps = qs
  | [], _, h, _, _, _, _ => absurd rfl h
  | _, [], _, h, _, _, _ => absurd rfl h
  | [p], [q], _, _, _, _, h => by rw [show p = q from h]
  | [p], q :: q2 :: r, _, _, hp, _, h => by
    have h' : p = q ++ 47 :: jn (q2 :: r) := h
    exact absurd (by rw [h']; exact List.mem_append_right _ (List.mem_cons_self ..)) (hp p (List.mem_cons_self ..))
  | p :: p2 :: r, [q], _, _, _, hq, h => by
    have h' : p ++ 47 :: jn (p2 :: r) = q := h
    exact absurd (by rw [← h']; exact List.mem_append_right _ (List.mem_cons_self ..)) (hq q (List.mem_cons_self ..))
  | p :: p2 :: r, q :: q2 :: s, _, _, hp, hq, h => by
    have e := cut_inj p q _ _ (hp p (List.mem_cons_self ..)) (hq q (List.mem_cons_self ..)) h
    have ih := jn_inj (p2 :: r) (q2 :: s) (by simp) (by simp) (fun x hx => hp x (List.mem_cons_of_mem _ hx)) (fun x hx => hq x (List.mem_cons_of_mem _ hx)) e.2
    rw [e.1, ih]
theorem str_ext {x y : Str} (h : x.cps.toList = y.cps.toList) : x = y := by
  cases x; cases y; exact congrArg PySem.Str.mk (Array.ext' h)
theorem map_inj_str : ∀ {ps qs : List Str}, ps.map (·.cps.toList) = qs.map (·.cps.toList) → ps = qs
  | [], [], _ => rfl
  | [], _ :: _, h => by cases h
  | _ :: _, [], h => by cases h
  | p :: r, q :: s, h => by
    have h' := List.cons.inj h
    rw [str_ext h'.1, map_inj_str h'.2]
theorem kind_pos (q : Str) : ¬ strKind q < strKind sl := by
  have : PySem.Builtin.Str.strKind sl = 1 := by decide +kernel
  rw [this]
  unfold PySem.Builtin.Str.strKind
  repeat' split
  all_goals omega

noncomputable abbrev cuts (q : Str) : List Str := partsBetween q (occurrences q sl 0 q.length (q.length + 1)) sl.length
theorem split_cuts {q : Str} (h : q.length ≠ 0) : Txt.split q sl = cuts q := by
  have h1 : (decide (q.length < sl.length) || decide (strKind q < strKind sl)) = false := by
    rw [Bool.or_eq_false_iff, decide_eq_false_iff_not, decide_eq_false_iff_not]
    exact ⟨by rw [show sl.length = 1 from rfl]; omega, kind_pos q⟩
  unfold Txt.split
  rw [h1]
  show (if (occurrences q sl 0 q.length (q.length + 1)).isEmpty = true then [q] else _) = _
  split
  · rename_i e
    have : occurrences q sl 0 q.length (q.length + 1) = [] := List.isEmpty_iff.mp e
    unfold cuts
    rw [this, PySem.StrLaws.partsBetween_eq]
    show [q] = [strSub q 0 q.length]
    rw [PySem.StrLaws.sub_whole]
  · rfl
/-- the parts of a path, made of parts without a slash, are these -/
theorem cuts_join {ps : List Str} (hne : ps ≠ []) (h : ∀ p ∈ ps, 47 ∉ p.cps.toList) (h0 : (PySem.Str.join sl ps).length ≠ 0) : cuts (PySem.Str.join sl ps) = ps := by
  generalize hq : PySem.Str.join sl ps = q at h0 ⊢
  rw [← split_cuts h0]
  have h1 := PySem.StrLaws.join_split q sl
  have h2 := PySem.StrLaws.split_free q 47
  have hn : Txt.split q sl ≠ [] := by
    rw [split_cuts h0]; intro e
    have := PySem.length_partsBetween q (occurrences q sl 0 q.length (q.length + 1)) sl.length
    unfold cuts at e
    rw [e] at this; simp at this
  have e : jn ((Txt.split q sl).map (·.cps.toList)) = jn (ps.map (·.cps.toList)) := by
    rw [← join_jn, ← join_jn, h1, hq]
  refine map_inj_str (jn_inj _ _ ?_ ?_ ?_ ?_ e)
  · intro z; exact hn (List.map_eq_nil_iff.mp z)
  · intro z; exact hne (List.map_eq_nil_iff.mp z)
  · intro p hp; obtain ⟨x, hx, rfl⟩ := List.mem_map.mp hp; exact h2 x hx
  · intro p hp; obtain ⟨x, hx, rfl⟩ := List.mem_map.mp hp; exact h x hx

/-! normpath's stack on texts alone -/
noncomputable def isD (c : Str) : Bool := c.cps.toList == dd.cps.toList
noncomputable def nStep (st : List Str) (c : Str) : List Str := match isD c with
  | false => st ++ [c]
  | true => match st.getLast? with
    | none => st ++ [c]
    | some l => match isD l with
      | true => st ++ [c]
      | false => st.dropLast
noncomputable def nRun : List Str → List Str → List Str
  | st, [] => st
  | st, c :: r => nRun (nStep st c) r
theorem nStep_map (st : List (Str × Tok)) (c : Str × Tok) : (npStep st c).map (·.1) = nStep (st.map (·.1)) c.1 := by
  unfold npStep nStep
  show (match isDD c with | false => _ | true => _ : List (Str × Tok)).map _ = match isDD c with | false => _ | true => _
  cases isDD c with
  | false => simp
  | true =>
    rw [List.getLast?_map]
    cases h : st.getLast? with
    | none => simp
    | some l =>
      show (match isDD l with | true => _ | false => _ : List (Str × Tok)).map _ = match isDD l with | true => _ | false => _
      cases isDD l with
      | true => simp
      | false => simp
theorem nRun_map : ∀ (cs st : List (Str × Tok)), (npRun st cs).map (·.1) = nRun (st.map (·.1)) (cs.map (·.1))
  | [], st => rfl
  | c :: r, st => by
    show (npRun (npStep st c) r).map _ = nRun (nStep _ c.1) (r.map _)
    rw [nRun_map r, nStep_map]
theorem nStep_mem {st : List Str} {c x : Str} (h : x ∈ nStep st c) : x ∈ st ∨ x = c := by
  unfold nStep at h
  repeat' split at h
  all_goals first
    | (rcases List.mem_append.mp h with h | h
       · exact .inl h
       · exact .inr (List.mem_singleton.mp h))
    | exact .inl (List.dropLast_subset _ h)
theorem nRun_mem : ∀ (cs : List Str) (st : List Str) (x : Str), x ∈ nRun st cs → x ∈ st ∨ x ∈ cs
  | [], st, x, h => .inl h
  | c :: r, st, x, h => by
    rcases nRun_mem r _ x h with h | h
    · rcases nStep_mem h with h | h
      · exact .inl h
      · exact .inr (by rw [h]; exact List.mem_cons_self ..)
    · exact .inr (List.mem_cons_of_mem _ h)
theorem nStep_len (st : List Str) (c : Str) : (nStep st c).length ≤ st.length + 1 := by
  unfold nStep
  repeat' split
  all_goals simp
  all_goals omega
theorem nRun_len : ∀ (cs st : List Str), (nRun st cs).length ≤ st.length + cs.length
  | [], st => Nat.le_refl _
  | c :: r, st => by
    have := nRun_len r (nStep st c)
    have := nStep_len st c
    show (nRun (nStep st c) r).length ≤ _
    simp only [List.length_cons]
    omega
/-- texts with tokens that follow one another -/
noncomputable def withT : Nat → List Str → List (Str × Tok)
  | _, [] => []
  | t, x :: r => (x, t) :: withT (t + 1) r
theorem withT_str : ∀ (ps : List Str) (t : Nat), strsFrom t ps = (withT t ps).map strV
  | [], _ => rfl
  | p :: r, t => by show .str p t :: strsFrom (t + 1) r = strV (p, t) :: _; rw [withT_str r]; rfl
theorem withT_fst : ∀ (ps : List Str) (t : Nat), (withT t ps).map (·.1) = ps
  | [], _ => rfl
  | p :: r, t => by show p :: (withT (t + 1) r).map _ = _; rw [withT_fst r]
theorem withT_len : ∀ (ps : List Str) (t : Nat), (withT t ps).length = ps.length
  | [], _ => rfl
  | p :: r, t => by show (withT (t + 1) r).length + 1 = _; rw [withT_len r]; rfl
end Mine
end

section
set_option maxRecDepth 100000
set_option linter.unusedVariables false
namespace Mine
open PySem PyProof.Rows PySem.W PySem.W.X
open PySem.Builtin PySem.Builtin.Str

noncomputable abbrev npFCs (w : World) (a b : Bool) : List Con := [lenC, sliceC, sneC, splitJ.con, (npLJ (WW w a b).params).con, sjoinJ.con]
noncomputable abbrev cutA (q : Str) (t : Nat) : Array Value := (strsFrom t (cuts q)).toArray
noncomputable abbrev npVs (q : Str) (t : Nat) : Array Value := arrV (npRun [] (unA (cutA q t)))
noncomputable abbrev npTxt (q : Str) (t : Nat) : Str := glued sl ((npVs q t).toList.map fun v => (unV v).1)
theorem run_normpath (w : World) (a b : Bool) (q : Str) (uq : Nat) (f : Nat → Nat) : RunIs (codeU (VW w a b (npFCs w a b) 2) (simU (VW w a b (npFCs w a b) 2) 504) none (.call (.ref 152) ⟨[.str q uq], []⟩) 7834228263231671207425750220269833538208333047661078407790113659978125720098758053176861600262790421448559456002167919851149106874661451383639925621826136615971165561689933433547258316851041323142519872219667065387849674307709340330084750954230761163234717559951469221992434573456141970160712765367287499625796668430537513166224837277955995616822427064638726407845830613883885423880198771404853413023635403353197592449838270091264958913109874472729969599633691130738112152986487979230948484972546 (mk f 49) .base [] [] [])
    [(npTxt q (f 39)).length ≠ 0, (npTxt q (f 39)).length < 2 ^ 62,
     ∃ l, (npVs q (f 39)).toList = strValues l ∧ tooLong ((l.map (·.1)).toArray.foldl (· + ·.length + sl.length) 0) = false ∧ (glued sl (l.map (·.1))).length ≤ sizeLine,
     ∃ rest, (cutA q (f 39)).toList = rest.map strV ∧ (∀ c ∈ rest, OkC c) ∧ rest.length ≤ 900 ∧ ∃ c r, rest = c :: r ∧ isDD c = false,
     (decide (q.length < sl.length) || decide (strKind q < strKind sl)) = false, (sl.length == 0) = false, (occurrences q sl 0 q.length (q.length + 1)).isEmpty = false, q.length ≤ sizeLine, (cuts q).length ≤ sizeLine,
     True, ((Txt.slice q none (some 1)).cps.toList != sl.cps.toList) = true, q.length ≤ sizeLine, q.length ≠ 0, q.length < 2 ^ 62]
    (.ret (.ok (.ret (.str (npTxt q (f 39)) (joinedT (npVs q (f 39)).toList (f 46))))) []) := RunIs.of (by cases a <;> kernel_rfl)



theorem npTxt_eq (q : Str) (t : Nat) : npTxt q t = glued sl (nRun [] (cuts q)) := by
  have e1 : (npVs q t).toList.map (fun v => (unV v).1) = (npRun [] (unA (cutA q t))).map (·.1) := by
    show ((npRun [] (unA (cutA q t))).map strV).map (fun v => (unV v).1) = _
    rw [List.map_map]; rfl
  have e2 : unA (cutA q t) = withT t (cuts q) := by
    show (strsFrom t (cuts q)).map unV = _
    rw [withT_str, unV_map]
  show glued sl ((npVs q t).toList.map fun v => (unV v).1) = _
  rw [e1, e2, nRun_map, withT_fst]; rfl
theorem slice1 {q : Str} (h : q.length ≠ 0) : (Txt.slice q none (some 1)).cps.toList = q.cps.toList.take 1 := by
  have hl : 1 ≤ q.cps.toList.length := by rw [← len_list]; omega
  have e : Txt.slice q none (some 1) = PySem.StrLaws.sliceText q none (some 1) := rfl
  rw [e, PySem.StrLaws.sliceText_to (x := q) (j := 1) ⟨by decide, by exact_mod_cast hl⟩]
  rfl
/-- a path made of parts, fit for normpath -/
structure FitP (ps : List Str) : Prop where
  two : 2 ≤ ps.length
  few : ps.length ≤ 100
  ok : ∀ p ∈ ps, NoSl p ∧ p.length ≤ 1000 ∧ (p.cps.toList == (⟨⟨[46]⟩⟩ : Str).cps.toList) = false
  fst : ∃ c r, ps = c :: r ∧ isD c = false
  lst : (glued sl (nRun [] ps)).length ≠ 0
noncomputable def normJ : Job (Str × Nat) where
  lvl := 2
  need := 1
  ext := fun c _ => match c with
    | .call _ ⟨[.str q uq], []⟩ => some (q, uq)
    | _ => none
  code := fun _ d => .call (.ref 152) ⟨[.str d.1 d.2], []⟩
  pre := fun _ _ => []
  side := fun _ d => [∃ ps, d.1 = PySem.Str.join sl ps ∧ FitP ps]
  res := fun _ d xs => .ok (.ret (.str (glued sl (nRun [] (cuts d.1))) (tk0 xs)))
  new := fun _ _ _ => []
  post := fun _ _ _ => []
theorem join_len : ∀ (ps : List Str), (∀ p ∈ ps, p.length ≤ 1000) → (PySem.Str.join sl ps).length ≤ 1001 * ps.length
  | [], _ => by decide
  | [p], h => by
    have := h p (List.mem_cons_self ..)
    show p.length ≤ _
    simp; omega
  | p :: q :: r, h => by
    have h1 := h p (List.mem_cons_self ..)
    have ih := join_len (q :: r) fun x hx => h x (List.mem_cons_of_mem _ hx)
    show (p ++ sl ++ PySem.Str.join sl (q :: r)).length ≤ _
    rw [len_app, len_app, show sl.length = 1 from rfl]
    simp only [List.length_cons] at ih ⊢
    omega
section
variable {w : World} {a b : Bool} {hT : Heap}
theorem norm_ok (TK : TopK (WW w a b) hT) : ConOk pwT' (WW w a b) hT normJ.con := Job.con_ok (fun ids d hl hs => by
  obtain ⟨q, uq⟩ := d
  obtain ⟨⟨ps, hq, FP⟩, _⟩ := hs
  have hq' : q = PySem.Str.join sl ps := hq
  have e0 : normJ.into ids (q, uq) = [] := by cases ids <;> rfl
  have e1 : ∀ xs, normJ.out ids (q, uq) xs = (.ok (.ret (.str (glued sl (nRun [] (cuts q))) (tk0 xs))), []) := fun xs => by cases ids <;> rfl
  have ec : normJ.code ids (q, uq) = .call (.ref 152) ⟨[.str q uq], []⟩ := rfl
  rw [e0, ec]
  obtain ⟨c, r, hcr, hc0⟩ := FP.fst
  have hokc := FP.ok c (by rw [hcr]; exact List.mem_cons_self ..)
  have hpsne : ps ≠ [] := by rw [hcr]; simp
  have hqhead : ∃ x t, q.cps.toList = x :: t ∧ x ≠ 47 := by
    rw [hq', join_jn, hcr]
    cases hx : c.cps.toList with
    | nil => exact absurd hx hokc.1.1
    | cons x t =>
      have : x ≠ 47 := hokc.1.2 x (by rw [hx]; exact List.mem_cons_self ..)
      cases r with
      | nil => exact ⟨x, t, by show c.cps.toList = _; exact hx, this⟩
      | cons d r => exact ⟨x, t ++ 47 :: jn ((d :: r).map (·.cps.toList)), by show c.cps.toList ++ _ = _; rw [hx]; rfl, this⟩
  obtain ⟨x, t, hxt, hx47⟩ := hqhead
  have hqn : q.length ≠ 0 := by rw [len_list, hxt]; simp
  have hcuts : cuts q = ps := by
    rw [hq']; exact cuts_join hpsne (fun p hp => fun m => (FP.ok p hp).1.2 47 m rfl) (by rw [← hq']; exact hqn)
  have hqlen : q.length ≤ 100100 := by
    have h1 := join_len ps fun p hp => (FP.ok p hp).2.1
    have h2 := FP.few
    rw [hq']; omega
  have sz : sizeLine = 16777216 := by decide
  have p62 : (16777216 : Nat) < 2 ^ 62 := by decide
  have hR : ∀ y ∈ nRun [] ps, y.length ≤ 1000 := fun y hy => by
    rcases nRun_mem ps [] y hy with h | h
    · cases h
    · exact (FP.ok y h).2.1
  have hRl : (nRun [] ps).length ≤ 100 := by have := nRun_len ps []; have := FP.few; simp at *; omega
  have hglen : (glued sl (nRun [] ps)).length ≤ 100100 := by
    rw [PySem.StrLaws.glued_eq_join]
    have := join_len (nRun [] ps) hR
    omega
  have C : Cons pwT' (WW w a b) hT (npFCs w a b) := ⟨len_ok, sliceC_ok, sne_ok, split_ok, npL_ok TK, sjoin_ok, trivial⟩
  have hT' : ∀ k, npTxt q k = glued sl (nRun [] ps) := fun k => by rw [npTxt_eq, hcuts]
  refine SegOk.of_run (V := VW w a b (npFCs w a b) 2) (uok TK) (conOf_ok C) (show 1 ≤ 2 by decide) (run_normpath w a b q uq) (fun f => ?_) (fun f => ⟨[joinedT (npVs q (f 39)).toList (f 46)], rfl, ?_⟩)
  · refine ⟨by rw [hT']; exact FP.lst, by rw [hT']; omega, ⟨npRun [] (unA (cutA q (f 39))), rfl, ?_, ?_⟩, ⟨withT (f 39) (cuts q), withT_str _ _, ?_, ?_, ?_⟩, ?_, rfl, ?_, by rw [sz]; omega, by rw [hcuts, sz]; have := FP.few; omega, trivial, ?_, by rw [sz]; omega, hqn, by omega, trivial⟩
    · have e2 : (npRun [] (unA (cutA q (f 39)))).map (·.1) = nRun [] ps := by
        have e3 : unA (cutA q (f 39)) = withT (f 39) (cuts q) := by
          show (strsFrom (f 39) (cuts q)).map unV = _
          rw [withT_str, unV_map]
        rw [e3, nRun_map, withT_fst, hcuts]; rfl
      rw [e2]
      exact PySem.StrLaws.joinFits hR (by rw [show sl.length = 1 from rfl]; omega)
    · have e2 : (npRun [] (unA (cutA q (f 39)))).map (·.1) = nRun [] ps := by
        have e3 : unA (cutA q (f 39)) = withT (f 39) (cuts q) := by
          show (strsFrom (f 39) (cuts q)).map unV = _
          rw [withT_str, unV_map]
        rw [e3, nRun_map, withT_fst, hcuts]; rfl
      rw [e2, sz]; omega
    · intro z hz
      have : z.1 ∈ ps := by rw [← hcuts, ← withT_fst (cuts q) (f 39)]; exact List.mem_map_of_mem hz
      have hz' := FP.ok z.1 this
      exact ⟨hz'.1.ends.pos, by omega, hz'.2.2⟩
    · rw [withT_len, hcuts]; have := FP.few; omega
    · rw [hcuts, hcr]; exact ⟨(c, f 39), withT (f 39 + 1) r, rfl, hc0⟩
    · rw [Bool.or_eq_false_iff, decide_eq_false_iff_not, decide_eq_false_iff_not]
      exact ⟨by rw [show sl.length = 1 from rfl]; omega, kind_pos q⟩
    · have hl := PySem.length_partsBetween q (occurrences q sl 0 q.length (q.length + 1)) sl.length
      have hcl : (cuts q).length = ps.length := by rw [hcuts]
      have h2 := FP.two
      cases ho : occurrences q sl 0 q.length (q.length + 1) with
      | nil => rw [ho] at hl; unfold cuts at hcl; rw [ho, hl] at hcl; simp at hcl; omega
      | cons => rfl
    · rw [slice1 hqn, hxt]
      show ([x] != [47]) = true
      simp [hx47]
  · rw [e1, hT', hcuts]; rfl) (fun _ _ _ => rfl)
end
end Mine
end

section
set_option maxRecDepth 100000
set_option linter.unusedVariables false
namespace Mine
open PySem PyProof.Rows PySem.W PySem.W.X
open PySem.Builtin

def AtB (arr : Array UInt8) (i k : Int) : Prop := ∃ u, arr[i.toNat]? = some u ∧ k = (u.toNat : Int)
noncomputable abbrev varCs (k0 k1 k2 : Int) : List Con := [iboolC, shl6C, (bnextJ k0).con, (bnextJ k1).con, (bnextJ k2).con]
theorem run_var1 (w : World) (a b : Bool) (k0 k1 k2 i : Int) (arr : Array UInt8) (t x : Nat) (f : Nat → Nat) : RunIs (codeU (VW w a b (varCs k0 k1 k2) 1) (simU (VW w a b (varCs k0 k1 k2) 1) 75) none (.call (.ref 159) ⟨[.ref (x + B)], []⟩) 119534073437097064960195567943660580745517870983642819183181546393283782764396546 (mk f 10) .base [(x, itO "bytes_iterator" (.bytes arr t) i)] [] [])
    [True, (bitAnd k0 64 != 0) = false, AtB arr i k0] (.ret (.ok (.ret (.int (bitAnd k0 63) (f 5)))) [(x, itO "bytes_iterator" (.bytes arr t) (i + 1))]) := RunIs.of (by cases a <;> kernel_rfl)
theorem run_var2 (w : World) (a b : Bool) (k0 k1 k2 i : Int) (arr : Array UInt8) (t x : Nat) (f : Nat → Nat) : RunIs (codeU (VW w a b (varCs k0 k1 k2) 1) (simU (VW w a b (varCs k0 k1 k2) 1) 142) none (.call (.ref 159) ⟨[.ref (x + B)], []⟩) 232215126027274302222849799146472156864716010592463591315003005789555913037420723641091444347583868319030069495827044534912438551087202683148302773342188457831694338 (mk f 22) .base [(x, itO "bytes_iterator" (.bytes arr t) i)] [] [])
    [True, (bitAnd k1 64 != 0) = false, AtB arr (i + 1) k1, True, 0 ≤ bitAnd k0 63, bitAnd k0 63 < 4096, True, (bitAnd k0 64 != 0) = true, AtB arr i k0] (.ret (.ok (.ret (.int (bitOr (bitAnd k0 63 * 64) (bitAnd k1 63)) (f 17)))) [(x, itO "bytes_iterator" (.bytes arr t) (i + 1 + 1))]) := RunIs.of (by cases a <;> kernel_rfl)
theorem run_var3 (w : World) (a b : Bool) (k0 k1 k2 i : Int) (arr : Array UInt8) (t x : Nat) (f : Nat → Nat) : RunIs (codeU (VW w a b (varCs k0 k1 k2) 1) (simU (VW w a b (varCs k0 k1 k2) 1) 209) none (.call (.ref 159) ⟨[.ref (x + B)], []⟩) 451117101637463035130919141836263813194699157636970573816871282787001759556510749747422077257224747228567427336810064022952454247315873083895971042336308578228808924643832682066608180175143670567460352744528748843064949788594037481652705805757054978 (mk f 34) .base [(x, itO "bytes_iterator" (.bytes arr t) i)] [] [])
    [True, (bitAnd k2 64 != 0) = false, AtB arr (i + 1 + 1) k2, True, 0 ≤ bitOr (bitAnd k0 63 * 64) (bitAnd k1 63), bitOr (bitAnd k0 63 * 64) (bitAnd k1 63) < 4096, True, (bitAnd k1 64 != 0) = true, AtB arr (i + 1) k1, True, 0 ≤ bitAnd k0 63, bitAnd k0 63 < 4096, True, (bitAnd k0 64 != 0) = true, AtB arr i k0] (.ret (.ok (.ret (.int (bitOr (bitOr (bitAnd k0 63 * 64) (bitAnd k1 63) * 64) (bitAnd k2 63)) (f 29)))) [(x, itO "bytes_iterator" (.bytes arr t) (i + 1 + 1 + 1))]) := RunIs.of (by cases a <;> kernel_rfl)

theorem and63 {k : Int} (h0 : 0 ≤ k) (h : k < 256) : bitAnd k 63 = k % 64 := by
  obtain ⟨m, rfl⟩ := Int.eq_ofNat_of_zero_le h0
  have : m < 256 := by omega
  exact (by decide +kernel : ∀ m : Nat, m < 256 → bitAnd (m : Int) 63 = (m : Int) % 64) m this
theorem and64 {k : Int} (h0 : 0 ≤ k) (h : k < 256) : (bitAnd k 64 != 0) = decide (64 ≤ k % 128) := by
  obtain ⟨m, rfl⟩ := Int.eq_ofNat_of_zero_le h0
  have : m < 256 := by omega
  exact (by decide +kernel : ∀ m : Nat, m < 256 → (bitAnd (m : Int) 64 != 0) = decide (64 ≤ (m : Int) % 128)) m this
theorem or_nn {a b : Int} (ha : 0 ≤ a) (hb : 0 ≤ b) : bitOr a b = ((a.toNat ||| b.toNat : Nat) : Int) := by
  unfold bitOr bitAnd
  have h1 : decide (0 ≤ bitNot a) = false := by unfold bitNot; simp; omega
  have h2 : decide (0 ≤ bitNot b) = false := by unfold bitNot; simp; omega
  rw [h1, h2]
  have e : ∀ x : Int, bitNot (bitNot x) = x := fun x => by unfold bitNot; omega
  show bitNot (bitNot _) = _
  rw [e, e, e]
theorem or64 {v d : Int} (hv : 0 ≤ v) (hd : 0 ≤ d) (h : d < 64) : bitOr (v * 64) d = v * 64 + d := by
  rw [or_nn (by omega) hd]
  obtain ⟨m, rfl⟩ := Int.eq_ofNat_of_zero_le hv
  obtain ⟨e, rfl⟩ := Int.eq_ofNat_of_zero_le hd
  have e1 : ((m : Int) * 64).toNat = 2 ^ 6 * m := by omega
  rw [e1, Int.toNat_natCast, ← Nat.two_pow_add_eq_or_of_lt (by omega) m]
  omega

/-- the octets of n stand in arr from i on -/
def VarAt (arr : Array UInt8) (i : Int) : List Int → Prop
  | [] => True
  | k :: r => AtB arr i k ∧ VarAt arr (i + 1) r
noncomputable def varJ (n : Int) : Job (Int × Array UInt8 × Nat) where
  lvl := 1
  need := 1
  ext := fun _ os => match os with
    | [⟨_, _, .fields vs, _⟩] => match vs.toList with
      | [.bytes b t, .int i _] => some (i, b, t)
      | _ => none
    | _ => none
  code := fun ids _ => .call (.ref 159) ⟨[.ref (at0 ids)], []⟩
  pre := fun ids d => [itO "bytes_iterator" (.bytes d.2.1 d.2.2) d.1]
  side := fun _ d => [0 ≤ n, n < 262144, VarAt d.2.1 d.1 (octL n)]
  res := fun _ _ xs => .ok (.ret (.int n (tk0 xs)))
  new := fun _ _ _ => []
  post := fun ids d _ => [itO "bytes_iterator" (.bytes d.2.1 d.2.2) (d.1 + (octL n).length)]
section
variable {w : World} {a b : Bool} {hT : Heap}
theorem varCs_ok (hz : hT.objs.size = B) (k0 k1 k2 : Int) : Cons pwT' (WW w a b) hT (varCs k0 k1 k2) := ⟨ibool_ok, shl6_ok, bnext_ok hz, bnext_ok hz, bnext_ok hz, trivial⟩
theorem var_ok (TK : TopK (WW w a b) hT) (n : Int) : ConOk pwT' (WW w a b) hT (varJ n).con := Job.con_ok (fun ids d hl hs => by
  obtain ⟨i, arr, t⟩ := d
  match ids, hl with
  | [x], _ =>
    have h0 : 0 ≤ n := hs.1
    have hn : n < 262144 := hs.2.1
    have hv : VarAt arr i (octL n) := hs.2.2.1
    have e0 : (varJ n).into [x] (i, arr, t) = [(x, itO "bytes_iterator" (.bytes arr t) i)] := rfl
    have e1 : ∀ xs, (varJ n).out [x] (i, arr, t) xs = (.ok (.ret (.int n (tk0 xs))), [(x, itO "bytes_iterator" (.bytes arr t) (i + (octL n).length))]) := fun _ => rfl
    have ec : (varJ n).code [x] (i, arr, t) = .call (.ref 159) ⟨[.ref (x + B)], []⟩ := rfl
    rw [e0, ec]
    have f1 : n.fdiv 64 = n / 64 := Int.fdiv_eq_ediv_of_nonneg _ (by decide)
    have f2 : (n.fdiv 64).fdiv 64 = n / 64 / 64 := by rw [f1]; exact Int.fdiv_eq_ediv_of_nonneg _ (by decide)
    have f3 : ∀ z : Int, z.fmod 64 = z % 64 := fun z => Int.fmod_eq_emod_of_nonneg _ (by decide)
    by_cases c1 : n ≤ 63
    · have eo : octL n = [128 + n.fmod 64] := if_pos c1
      rw [eo] at hv
      rw [f3] at hv
      have k1 := and63 (k := 128 + n % 64) (by omega) (by omega)
      have k2 := and64 (k := 128 + n % 64) (by omega) (by omega)
      refine SegOk.of_run (V := VW w a b (varCs (128 + n % 64) 0 0) 1) (uok TK) (conOf_ok (varCs_ok TK.size _ _ _)) (Nat.le_refl _) (run_var1 w a b (128 + n % 64) 0 0 i arr t x) (fun f => ⟨trivial, by rw [k2]; simp; omega, hv.1, trivial⟩) (fun f => ⟨[f 5], rfl, ?_⟩)
      rw [e1, eo, k1]
      have : (128 + n % 64) % 64 = n := by omega
      rw [this]
      rfl
    · by_cases c2 : n.fdiv 64 ≤ 63
      · have eo : octL n = [128 + (64 + (n.fdiv 64).fmod 64), n.fmod 64] := (if_neg c1).trans (if_pos c2)
        rw [eo, f3, f3, f1] at hv
        rw [f1] at c2
        have k1 := and63 (k := 128 + (64 + n / 64 % 64)) (by omega) (by omega)
        have k2 := and64 (k := 128 + (64 + n / 64 % 64)) (by omega) (by omega)
        have k3 := and63 (k := n % 64) (by omega) (by omega)
        have k4 := and64 (k := n % 64) (by omega) (by omega)
        refine SegOk.of_run (V := VW w a b (varCs (128 + (64 + n / 64 % 64)) (n % 64) 0) 1) (uok TK) (conOf_ok (varCs_ok TK.size _ _ _)) (Nat.le_refl _) (run_var2 w a b (128 + (64 + n / 64 % 64)) (n % 64) 0 i arr t x)
          (fun f => ⟨trivial, by rw [k4]; simp; omega, hv.2.1, trivial, by rw [k1]; omega, by rw [k1]; omega, trivial, by rw [k2]; simp; omega, hv.1, trivial⟩) (fun f => ⟨[f 17], rfl, ?_⟩)
        rw [e1, eo, k1, k3, or64 (by omega) (by omega) (by omega)]
        have : (128 + (64 + n / 64 % 64)) % 64 * 64 + n % 64 % 64 = n := by omega
        rw [this]
        have : i + (([128 + (64 + (n.fdiv 64).fmod 64), n.fmod 64] : List Int).length : Int) = i + 1 + 1 := by simp; omega
        rw [this]; rfl
      · have eo : octL n = [128 + (64 + ((n.fdiv 64).fdiv 64).fmod 64), 64 + (n.fdiv 64).fmod 64, n.fmod 64] := (if_neg c1).trans (if_neg c2)
        rw [eo, f3, f3, f3, f2, f1] at hv
        rw [f1] at c2
        have k1 := and63 (k := 128 + (64 + n / 64 / 64 % 64)) (by omega) (by omega)
        have k2 := and64 (k := 128 + (64 + n / 64 / 64 % 64)) (by omega) (by omega)
        have k3 := and63 (k := 64 + n / 64 % 64) (by omega) (by omega)
        have k4 := and64 (k := 64 + n / 64 % 64) (by omega) (by omega)
        have k5 := and63 (k := n % 64) (by omega) (by omega)
        have k6 := and64 (k := n % 64) (by omega) (by omega)
        have k7 := or64 (v := (128 + (64 + n / 64 / 64 % 64)) % 64) (d := (64 + n / 64 % 64) % 64) (by omega) (by omega) (by omega)
        refine SegOk.of_run (V := VW w a b (varCs (128 + (64 + n / 64 / 64 % 64)) (64 + n / 64 % 64) (n % 64)) 1) (uok TK) (conOf_ok (varCs_ok TK.size _ _ _)) (Nat.le_refl _) (run_var3 w a b (128 + (64 + n / 64 / 64 % 64)) (64 + n / 64 % 64) (n % 64) i arr t x)
          (fun f => ⟨trivial, by rw [k6]; simp; omega, hv.2.2.1, trivial, by rw [k1, k3, k7]; omega, by rw [k1, k3, k7]; omega, trivial, by rw [k4]; simp; omega, hv.2.1, trivial, by rw [k1]; omega, by rw [k1]; omega, trivial, by rw [k2]; simp; omega, hv.1, trivial⟩) (fun f => ⟨[f 29], rfl, ?_⟩)
        rw [e1, eo, k1, k3, k5, k7, or64 (by omega) (by omega) (by omega)]
        have : ((128 + (64 + n / 64 / 64 % 64)) % 64 * 64 + (64 + n / 64 % 64) % 64) * 64 + n % 64 % 64 = n := by omega
        rw [this]
        have : i + (([128 + (64 + ((n.fdiv 64).fdiv 64).fmod 64), 64 + (n.fdiv 64).fmod 64, n.fmod 64] : List Int).length : Int) = i + 1 + 1 + 1 := by simp; omega
        rw [this]; rfl) (fun _ _ _ => rfl)
end
end Mine
end

section
set_option maxRecDepth 100000
set_option linter.unusedVariables false
namespace Mine
open PySem PyProof.Rows PySem.W PySem.W.X
open PySem.Builtin PySem.Builtin.Str
noncomputable abbrev lrCs (c : Str) (uc : Nat) (nn : Int) : List Con := [(itemJ "list_iterator" "list_iterator.__next__" "list" (.str c uc)).con, (endJ "list_iterator" "list_iterator.__next__" "list").con, (varJ nn).con, floordivC, lmulJ.con, laddJ.con]
noncomputable def lrLoop (it fr : Nat) : Code := forC (stN (fnB (tS 49)) 1) (.ref (it + B)) (envO (fnS (tS 49)) fr (⟨⟨[95, 108, 97, 119, 95, 114, 111, 117, 110, 100]⟩⟩ : Str) 881 880)
noncomputable abbrev lrEs (t1 : Nat) (v1 : Value) (t2 nm t3 pa t4 fl : Nat) : List (Str × Tok × Value) := [((⟨⟨[111, 99, 116, 101, 116, 115]⟩⟩ : Str), t1, v1), ((⟨⟨[110, 97, 109, 101, 115]⟩⟩ : Str), t2, .ref (nm + B)), ((⟨⟨[112, 97, 114, 116, 115]⟩⟩ : Str), t3, .ref (pa + B)), ((⟨⟨[102, 108, 111, 119]⟩⟩ : Str), t4, .ref (fl + B))]
noncomputable abbrev frR4 (P : Params) (t1 : Nat) (v1 : Value) (t2 nm t3 pa t4 fl n : Nat) : Obj := frO P (lrEs t1 v1 t2 nm t3 pa t4 fl) n
noncomputable abbrev frR5 (P : Params) (t1 : Nat) (v1 : Value) (t2 nm t3 pa t4 fl t5 : Nat) (v5 : Value) (n : Nat) : Obj := frO P (lrEs t1 v1 t2 nm t3 pa t4 fl ++ [((⟨⟨[110, 97, 109, 101]⟩⟩ : Str), t5, v5)]) n
noncomputable abbrev lrT (pa it fl fr nm : Nat) (arr : Array Value) (i : Int) (bs : Array UInt8) (tb : Nat) (j : Int) (fo : Obj) (items : Array Value) (m : Nat) : Slots :=
  [(pa, listO arr 0), (it, itO "list_iterator" (.ref (nm + B)) i), (fl, itO "bytes_iterator" (.bytes bs tb) j), (fr, fo), (nm, seqO "list" items m)]
/-- the steps up of a move -/
noncomputable def upsI (n : Int) : Int := (n.fmod 5).fdiv 2
noncomputable abbrev lrAdd (arr : Array Value) (nn : Int) (td : Nat) (c : Str) (uc : Nat) : Array Value := arr ++ (⟨List.replicate (upsI nn).toNat (.str dd td)⟩ : Array Value) ++ #[.str c uc]
noncomputable abbrev lrPs (arr : Array Value) (nn : Int) (td : Nat) (c : Str) (uc : Nat) (bs : Array UInt8) (j i : Int) (items : Array Value) : List Prop :=
  [(arr ++ (⟨List.replicate (upsI nn).toNat (.str dd td)⟩ : Array Value)).size + (#[.str c uc] : Array Value).size ≤ sizeLine, arr.size + (⟨List.replicate (upsI nn).toNat (.str dd td)⟩ : Array Value).size ≤ sizeLine, 0 ≤ upsI nn, upsI nn ≤ 1000,
   True, ¬ (((2 : Int) == 0) = true), (2 : Int).natAbs < 1073741824, 0 ≤ nn, nn < 262144, VarAt bs j (octL nn), items[i.toNat]? = some (.str c uc)]
section
variable (w : World) (a b : Bool) (pa it fl fr nm : Nat) (i j : Int) (t1 t2 t3 t4 t5 uc tb n m : Nat) (v1 v5 : Value) (nn : Int) (c : Str) (arr items : Array Value) (bs : Array UInt8) (f : Nat → Nat)
theorem run_lr4 : RunIs (codeU (VW w a b (lrCs c uc nn) 2) (simU (VW w a b (lrCs c uc nn) 2) 111) none (lrLoop it fr) 22715800808354188743627035841279279730952425725089808426549797475870114633379856821453302341466875962940930053205971857463234791490689 (mk f 13) .base (lrT pa it fl fr nm arr i bs tb j (frR4 (WW w a b).params t1 v1 t2 nm t3 pa t4 fl n) items m) [] [])
    (lrPs arr nn (f 1) c uc bs j i items) (.stop (lrLoop it fr) ((f 11, listO (lrAdd arr nn (f 1) c uc) 0) :: (pa, listO arr 0) :: (lrT (f 11) it fl fr nm (lrAdd arr nn (f 1) c uc) (i + 1) bs tb (j + (octL nn).length) (frR5 (WW w a b).params t1 v1 t2 nm t3 (f 11) t4 fl (f 0) (.str c uc) (n + 1)) items m).tail)) := RunIs.of (by cases a <;> kernel_rfl)
theorem run_lr5 : RunIs (codeU (VW w a b (lrCs c uc nn) 2) (simU (VW w a b (lrCs c uc nn) 2) 111) none (lrLoop it fr) 28393881758201852474186180788631297270127319300825058795427043347021282244102302394236289928367390801437125079353556197122495244944513 (mk f 13) .base (lrT pa it fl fr nm arr i bs tb j (frR5 (WW w a b).params t1 v1 t2 nm t3 pa t4 fl t5 v5 n) items m) [] [])
    (lrPs arr nn (f 1) c uc bs j i items) (.stop (lrLoop it fr) (lrT (f 11) it fl fr nm (lrAdd arr nn (f 1) c uc) (i + 1) bs tb (j + (octL nn).length) (frR5 (WW w a b).params t1 v1 t2 nm t3 (f 11) t4 fl t5 (.str c uc) n) items m)) := RunIs.of (by cases a <;> kernel_rfl)
theorem run_lrEnd : RunIs (codeU (VW w a b (lrCs c uc nn) 2) (simU (VW w a b (lrCs c uc nn) 2) 46) none (lrLoop it fr) 5049231056015349746438784129 (mk f 2) .base (lrT pa it fl fr nm arr i bs tb j (frR5 (WW w a b).params t1 v1 t2 nm t3 pa t4 fl t5 v5 n) items m) [] [])
    [items[i.toNat]? = none] (.ret (.ok .next) [(pa, listO arr 0), (it, ⟨.type "list_iterator", none, .fields #[.none, .int i 0], #[]⟩), (fl, itO "bytes_iterator" (.bytes bs tb) j), (fr, frR5 (WW w a b).params t1 v1 t2 nm t3 pa t4 fl t5 v5 n), (nm, seqO "list" items m)]) := RunIs.of (by cases a <;> kernel_rfl)
end
end Mine
end

section
set_option maxRecDepth 100000
set_option linter.unusedVariables false
namespace Mine
open PySem PyProof.Rows PySem.W PySem.W.X
open PySem.Builtin PySem.Builtin.Str

/-! one number for many -/
def gP : Nat → Nat × Nat
  | 0 => (0, 0)
  | n + 1 => match gP n with
    | (0, b) => (b + 1, 0)
    | (a + 1, b) => (a, b + 1)
theorem gP_sur : ∀ (s b a : Nat), a + b = s → ∃ n, gP n = (a, b)
  | s, b + 1, a, h => by
    obtain ⟨n, e⟩ := gP_sur s b (a + 1) (by omega)
    exact ⟨n + 1, by show (match gP n with | (0, b) => (b + 1, 0) | (a + 1, b) => (a, b + 1)) = _; rw [e]⟩
  | 0, 0, a, h => by
    have : a = 0 := by omega
    subst this
    exact ⟨0, rfl⟩
  | s + 1, 0, a, h => by
    have : a = s + 1 := by omega
    subst this
    obtain ⟨n, e⟩ := gP_sur s s 0 (by omega)
    exact ⟨n + 1, by show (match gP n with | (0, b) => (b + 1, 0) | (a + 1, b) => (a, b + 1)) = _; rw [e]⟩
noncomputable def decK : Nat → Nat → List Nat
  | 0, _ => []
  | k + 1, n => (gP n).1 :: decK k (gP n).2
theorem decK_sur : ∀ (l : List Nat), ∃ n, decK l.length n = l
  | [] => ⟨0, rfl⟩
  | x :: r => by
    obtain ⟨m, e⟩ := decK_sur r
    obtain ⟨n, h⟩ := gP_sur _ m x rfl
    exact ⟨n, by show (gP n).1 :: decK r.length (gP n).2 = _; rw [h]; show x :: decK r.length m = _; rw [e]⟩

/-- what the rounds put behind the first part -/
noncomputable def lrTail : List ((Str × Tok) × Int) → List Nat → List Value
  | (c, n) :: r, t :: ts => List.replicate (upsI n).toNat (.str dd t) ++ strV c :: lrTail r ts
  | (c, n) :: r, [] => List.replicate (upsI n).toNat (.str dd 0) ++ strV c :: lrTail r []
  | [], _ => []
def VarsAt (bs : Array UInt8) (j : Int) : List Int → Prop
  | [] => True
  | n :: r => (0 ≤ n ∧ n < 262144) ∧ VarAt bs j (octL n) ∧ VarsAt bs (j + (octL n).length) r
noncomputable def octLen (j : Int) : List Int → Int
  | [] => j
  | n :: r => octLen (j + (octL n).length) r
theorem ups_small {n : Int} (h : 0 ≤ n) : 0 ≤ upsI n ∧ upsI n ≤ 2 := by
  unfold upsI
  rw [Int.fmod_eq_emod_of_nonneg _ (by decide), Int.fdiv_eq_ediv_of_nonneg _ (by decide)]
  omega
section
variable {w : World} {a b : Bool} {hT : Heap}
theorem lr_cs (TK : TopK (WW w a b) hT) (c : Str) (uc : Nat) (nn : Int) : Cons pwT' (WW w a b) hT (lrCs c uc nn) := ⟨lnext_ok TK.size, lend_ok TK.size, var_ok TK nn, floordiv_ok, lmul_ok, ladd_ok, trivial⟩
noncomputable def lrOut (P : Params) (it fl fr nm : Nat) (hd : List Value) (pa : Nat) (bs : Array UInt8) (tb : Nat) (j : Int) (t1 : Nat) (v1 : Value) (t2 t3 t4 t5 : Nat) (v5 : Value) (n : Nat) (items : Array Value) (m : Nat) (rest : List ((Str × Tok) × Int)) (xs : List Nat) : Result × Slots :=
  let pa' := match rest with | [] => pa | _ :: _ => ky xs 0
  (.ok .next, [(pa', listO ⟨hd ++ lrTail rest (xs.drop 1)⟩ 0), (it, ⟨.type "list_iterator", none, .fields #[.none, .int items.size 0], #[]⟩), (fl, itO "bytes_iterator" (.bytes bs tb) (octLen j (rest.map (·.2)))), (fr, frR5 P t1 v1 t2 nm t3 pa' t4 fl t5 (lastV v5 (rest.map (·.1))) n), (nm, seqO "list" items m)])
theorem add_arr (hd : List Value) (nn : Int) (td : Nat) (c : Str) (uc : Nat) : lrAdd ⟨hd⟩ nn td c uc = ⟨hd ++ (List.replicate (upsI nn).toNat (.str dd td) ++ [.str c uc])⟩ := by
  apply Array.ext'
  simp
theorem lr_loop (TK : TopK (WW w a b) hT) (it fl fr nm t1 t2 t3 t4 t5 tb n m : Nat) (v1 : Value) (bs : Array UInt8) (items : Array Value) : ∀ (rest : List ((Str × Tok) × Int)) (i : Nat) (j : Int) (pa : Nat) (hd : List Value) (v5 : Value),
    items.toList.drop i = rest.map (fun x => strV x.1) → i + rest.length = items.size → VarsAt bs j (rest.map (·.2)) → hd.length + 3 * rest.length ≤ 1000 →
    SegOk pwT' (WW w a b) hT 2 (rest.length + 1) (lrLoop it fr) (lrT pa it fl fr nm ⟨hd⟩ i bs tb j (frR5 (WW w a b).params t1 v1 t2 nm t3 pa t4 fl t5 v5 n) items m)
      (lrOut (WW w a b).params it fl fr nm hd pa bs tb j t1 v1 t2 t3 t4 t5 v5 n items m rest)
  | [], i, j, pa, hd, v5, hdr, hi, _, _ => by
    have e : i = items.size := by simpa using hi
    subst e
    refine SegOk.of_run (V := VW w a b (lrCs dd 0 0) 2) (uok TK) (conOf_ok (lr_cs TK _ _ _)) (show 1 ≤ 2 by decide) (run_lrEnd w a b pa it fl fr nm (items.size : Int) j t1 t2 t3 t4 t5 0 tb n m v1 v5 0 dd ⟨hd⟩ items bs) (fun f => ⟨by simp, trivial⟩) (fun f => ⟨[0], rfl, ?_⟩)
    unfold lrOut
    simp [lrTail, octLen, lastV]
  | ((c, uc), nn) :: rest, i, j, pa, hd, v5, hdr, hi, hv, hs => by
    have hget : items[(i : Int).toNat]? = some (.str c uc) := by
      have h1 : (items.toList.drop i)[0]? = some (strV (c, uc)) := by rw [hdr]; rfl
      rw [List.getElem?_drop, Nat.add_zero] at h1
      rw [Int.toNat_natCast, ← Array.getElem?_toList]; exact h1
    have hdrop : items.toList.drop (i + 1) = rest.map (fun x => strV x.1) := by rw [← List.drop_drop, hdr]; rfl
    obtain ⟨⟨n0, n1⟩, hv1, hv2⟩ := hv
    have hu := ups_small (n := nn) n0
    have hs' : hd.length + 3 * (rest.length + 1) ≤ 1000 := hs
    have sz : sizeLine = 16777216 := by decide
    have hk : (upsI nn).toNat ≤ 2 := by omega
    refine SegOk.of_then (V := VW w a b (lrCs c uc nn) 2) (uok TK) (conOf_ok (lr_cs TK _ _ _)) (show 1 ≤ 2 by decide) (run_lr5 w a b pa it fl fr nm i j t1 t2 t3 t4 t5 uc tb n m v1 v5 nn c ⟨hd⟩ items bs)
      (fun f => ⟨by rw [sz]; simp; omega, by rw [sz]; simp; omega, hu.1, by omega, trivial, by decide, by decide, n0, n1, hv1, hget, trivial⟩) (fun f => ?_)
    have ih := lr_loop TK it fl fr nm t1 t2 t3 t4 t5 tb n m v1 bs items rest (i + 1) (j + (octL nn).length) (f 11) (hd ++ (List.replicate (upsI nn).toNat (.str dd (f 1)) ++ [.str c uc])) (.str c uc) hdrop (by simp at hi; omega) hv2 (by simp; omega)
    rw [add_arr]
    refine SegOk.mono ih (Nat.le_refl _) fun xs hx => ?_
    match xs, hx with
    | x0 :: ts, hx =>
      refine ⟨(match rest with | [] => f 11 | _ :: _ => x0) :: f 1 :: ts, by simp at hx ⊢; omega, rfl, ?_⟩
      unfold lrOut
      have e1 : hd ++ lrTail (((c, uc), nn) :: rest) (f 1 :: ts) = hd ++ (List.replicate (upsI nn).toNat (.str dd (f 1)) ++ [.str c uc]) ++ lrTail rest ts := by
        show hd ++ (List.replicate _ _ ++ strV (c, uc) :: lrTail rest ts) = _
        simp [strV]
      cases rest with
      | nil => simp only [List.drop_succ_cons, List.drop_zero]; rw [e1]; rfl
      | cons y r => simp only [List.drop_succ_cons, List.drop_zero]; rw [e1]; rfl
end
end Mine
end

section
set_option maxRecDepth 100000
namespace Mine
open PySem PySem.Spec PySem.Calls PyProof.Rows PySem.W PySem.W.X
/-- what is not touched stays -/
theorem RepU.frame {hT h₀ h h' : Heap} {U : Addr → Prop} {T X N : Slots} (D : RepU hT h₀ U (T ++ X) h) (D' : RepU hT h (fun b => ∃ p ∈ T, b = p.1 + B) N h') : RepU hT h₀ U (N ++ X) h' := by
  have nd := D.nd
  rw [List.map_append] at nd
  have nd3 := List.nodup_append.mp nd
  have notT : ∀ p ∈ X, ¬ ∃ q ∈ T, p.1 + B = q.1 + B := fun p hp ⟨q, hq, e⟩ => nd3.2.2 q.1 (List.mem_map_of_mem hq) p.1 (List.mem_map_of_mem hp) (Nat.add_right_cancel e).symm
  refine ⟨D'.top, D'.low, Nat.le_trans D.big D'.big, fun p hp => ?_, ?_, fun p hp => ?_, fun b o hb hn => ?_⟩
  · rcases List.mem_append.mp hp with hp | hp
    · exact D'.at' p hp
    · exact D'.keep _ _ (D.at' p (List.mem_append_right _ hp)) (notT p hp)
  · rw [List.map_append]
    refine List.nodup_append.mpr ⟨D'.nd, nd3.2.1, fun x hx y hy e => ?_⟩
    subst e
    obtain ⟨p, hp, rfl⟩ := List.mem_map.mp hx
    obtain ⟨q, hq, e⟩ := List.mem_map.mp hy
    have e' : q.1 = p.1 := e
    rcases D'.own p hp with ⟨z, hz, ez⟩ | e2
    · exact notT q hq ⟨z, hz, by rw [e', ez]⟩
    · have := D.at' q (List.mem_append_right _ hq)
      rw [e', e2] at this
      cases this
  · rcases List.mem_append.mp hp with hp | hp
    · rcases D'.own p hp with ⟨z, hz, ez⟩ | e2
      · rw [ez]; exact D.own z (List.mem_append_left _ hz)
      · cases e : h₀.get? (p.1 + B) with
        | none => exact .inr rfl
        | some o =>
          by_cases hU : U (p.1 + B)
          · exact .inl hU
          · have := D.keep _ _ e hU; rw [e2] at this; cases this
    · exact D.own p (List.mem_append_right _ hp)
  · refine D'.keep _ _ (D.keep _ _ hb hn) ?_
    rintro ⟨q, hq, rfl⟩
    rcases D.own q (List.mem_append_left _ hq) with h | h
    · exact hn h
    · rw [hb] at h; cases h
theorem SegOk.frame {prog : Program} {w : World} {hT : Heap} {lvl need : Nat} {c : Code} {T : Slots} {out : List Nat → Result × Slots} (S : SegOk prog w hT lvl need c T out) (X : Slots) :
    SegOk prog w hT lvl need c (T ++ X) (fun xs => ((out xs).1, (out xs).2 ++ X)) := by
  intro A h₀ U g d os R h tk hh hr D K
  have nd := D.nd
  rw [List.map_append] at nd
  have Din : RepU hT h (fun b => ∃ p ∈ T, b = p.1 + B) T h := ⟨D.top, D.low, Nat.le_refl _, fun p hp => D.at' p (List.mem_append_left _ hp), (List.nodup_append.mp nd).1, fun p hp => .inl ⟨p, hp, rfl⟩, fun _ _ e _ => e⟩
  exact S A h _ g d os R h tk hh hr Din fun xs hx h' t' D' => K xs hx h' t' (D.frame D')
/-- the slots in another order -/
theorem SegOk.perm {prog : Program} {w : World} {hT : Heap} {lvl need : Nat} {c : Code} {T T' : Slots} {out out' : List Nat → Result × Slots} (S : SegOk prog w hT lvl need c T out) (p : T.Perm T') (q : ∀ xs, (out' xs).1 = (out xs).1 ∧ (out' xs).2.Perm (out xs).2) :
    SegOk prog w hT lvl need c T' out' := by
  intro A h₀ U g d os R h tk hh hr D K
  refine S A h₀ U g d os R h tk hh hr (D.perm p) fun xs hx h' t' D' => ?_
  have := K xs hx h' t' (D'.perm (q xs).2)
  rw [(q xs).1] at this
  exact this
end Mine
end

section
set_option maxRecDepth 100000
set_option linter.unusedVariables false
namespace Mine
open PySem PyProof.Rows PySem.W PySem.W.X
open PySem.Builtin PySem.Builtin.Str

structure LrD where
  t1 : Nat
  v1 : Value
  t2 : Nat
  t3 : Nat
  t4 : Nat
  n : Nat
  m : Nat
  items : Array Value
  h0 : Value
  bs : Array UInt8
  tb : Nat
noncomputable def lrExt (os : List Obj) : Option LrD := match os with
  | [_, fr, ⟨_, _, .seq items m, _⟩, ⟨_, _, .seq hd _, _⟩, ⟨_, _, .fields vs, _⟩] => match entD fr, hd.toList, vs.toList with
    | ([(t1, v1), (t2, _), (t3, _), (t4, _)], n), [h0], [.bytes bs tb, _] => some ⟨t1, v1, t2, t3, t4, n, m, items, h0, bs, tb⟩
    | _, _, _ => none
  | _ => none
noncomputable def lrLJ (P : Params) (ns : List Int) : Job LrD where
  lvl := 2
  need := 3
  ext := fun _ os => lrExt os
  code := fun ids _ => lrLoop (ky ids 0) (ky ids 1)
  pre := fun ids d => [itO "list_iterator" (.ref (ky ids 2 + B)) 0, frR4 P d.t1 d.v1 d.t2 (ky ids 2) d.t3 (ky ids 3) d.t4 (ky ids 4) d.n, seqO "list" d.items d.m, listO #[d.h0] 0, itO "bytes_iterator" (.bytes d.bs d.tb) 0]
  side := fun _ d => [∃ cs : List (Str × Tok), d.items.toList = cs.map strV ∧ cs.length = ns.length ∧ ns ≠ [] ∧ VarsAt d.bs 0 ns ∧ ns.length ≤ 100]
  res := fun _ _ _ => .ok .next
  new := fun _ d xs => [(ky xs 0, listO ⟨d.h0 :: lrTail ((unA d.items).zip ns) (decK ns.length (ky xs 1))⟩ 0)]
  post := fun ids d xs => [⟨.type "list_iterator", none, .fields #[.none, .int d.items.size 0], #[]⟩, frR5 P d.t1 d.v1 d.t2 (ky ids 2) d.t3 (ky xs 0) d.t4 (ky ids 4) (ky xs 2) (lastV .none (unA d.items)) (d.n + 1), seqO "list" d.items d.m, listO #[d.h0] 0, itO "bytes_iterator" (.bytes d.bs d.tb) (octLen 0 ns)]
theorem zip_fst : ∀ (cs : List (Str × Tok)) (ns : List Int), cs.length = ns.length → (cs.zip ns).map (fun x => strV x.1) = cs.map strV ∧ (cs.zip ns).map (·.2) = ns ∧ (cs.zip ns).map (·.1) = cs ∧ (cs.zip ns).length = ns.length
  | [], [], _ => ⟨rfl, rfl, rfl, rfl⟩
  | c :: r, n :: s, h => by
    obtain ⟨h1, h2, h3, h4⟩ := zip_fst r s (by simpa using h)
    simp only [List.zip_cons_cons, List.map_cons, List.length_cons, h1, h2, h3, h4, and_self]
section
variable {w : World} {a b : Bool} {hT : Heap}
theorem lrL_ok (TK : TopK (WW w a b) hT) (ns : List Int) : ConOk pwT' (WW w a b) hT (lrLJ (WW w a b).params ns).con := Job.con_ok (fun ids d hl hs => by
  obtain ⟨t1, v1, t2, t3, t4, n, m, items, h0, bs, tb⟩ := d
  match ids, hl with
  | [it, fr, nm, pa, fl], _ =>
    obtain ⟨⟨cs, hi, hlen, hne, hv, hz⟩, _⟩ := hs
    have hi' : items.toList = cs.map strV := hi
    have hv' : VarsAt bs 0 ns := hv
    have hz' : ns.length ≤ 100 := hz
    have eu : unA items = cs := by unfold unA; rw [hi', unV_map]
    cases ns with
    | nil => exact absurd rfl hne
    | cons nn ns =>
      cases cs with
      | nil => simp at hlen
      | cons c cs =>
        obtain ⟨cc, uc⟩ := c
        have hlen' : cs.length = ns.length := by simpa using hlen
        obtain ⟨z1, z2, z3, z4⟩ := zip_fst cs ns hlen'
        have hsz : ns.length + 1 = items.size := by rw [← Array.length_toList, hi', List.length_map]; simp; omega
        have hget : items[(0 : Int).toNat]? = some (.str cc uc) := by
          show items[0]? = _
          rw [← Array.getElem?_toList, hi']; rfl
        obtain ⟨⟨n0, n1⟩, hv1, hv2⟩ := hv'
        have hu := ups_small (n := nn) n0
        have sz : sizeLine = 16777216 := by decide
        have hk : (upsI nn).toNat ≤ 2 := by omega
        have hz2 : ns.length + 1 ≤ 100 := hz'
        have main : SegOk pwT' (WW w a b) hT 2 3 (lrLoop it fr) (lrT pa it fl fr nm ⟨[h0]⟩ 0 bs tb 0 (frR4 (WW w a b).params t1 v1 t2 nm t3 pa t4 fl n) items m)
            (fun xs => (.ok .next, [(ky xs 0, listO ⟨h0 :: lrTail (((cc, uc), nn) :: cs.zip ns) (decK (ns.length + 1) (ky xs 1))⟩ 0), (it, ⟨.type "list_iterator", none, .fields #[.none, .int items.size 0], #[]⟩), (fl, itO "bytes_iterator" (.bytes bs tb) (octLen 0 (nn :: ns))), (fr, frR5 (WW w a b).params t1 v1 t2 nm t3 (ky xs 0) t4 fl (ky xs 2) (lastV .none ((cc, uc) :: cs)) (n + 1)), (nm, seqO "list" items m), (pa, listO ⟨[h0]⟩ 0)])) := by
          refine SegOk.of_then (V := VW w a b (lrCs cc uc nn) 2) (uok TK) (conOf_ok (lr_cs TK _ _ _)) (show 1 ≤ 2 by decide) (run_lr4 w a b pa it fl fr nm 0 0 t1 t2 t3 t4 uc tb n m v1 nn cc ⟨[h0]⟩ items bs)
            (fun f => ⟨by rw [sz]; simp; omega, by rw [sz]; simp; omega, hu.1, by omega, trivial, by decide, by decide, n0, n1, hv1, hget, trivial⟩) (fun f => ?_)
          have ih := lr_loop TK it fl fr nm t1 t2 t3 t4 (f 0) tb (n + 1) m v1 bs items (cs.zip ns) 1 (0 + (octL nn).length) (f 11) ([h0] ++ (List.replicate (upsI nn).toNat (.str dd (f 1)) ++ [.str cc uc])) (.str cc uc) (by rw [hi', z1]; rfl) (by rw [z4]; omega) (by rw [z2]; exact hv2) (by rw [z4]; simp; omega)
          have ihf := ih.frame [(pa, listO ⟨[h0]⟩ 0)]
          rw [add_arr]
          refine SegOk.mono (SegOk.perm (out' := fun xs => (((lrOut (WW w a b).params it fl fr nm ([h0] ++ (List.replicate (upsI nn).toNat (.str dd (f 1)) ++ [.str cc uc])) (f 11) bs tb (0 + (octL nn).length) t1 v1 t2 t3 t4 (f 0) (.str cc uc) (n + 1) items m (cs.zip ns) xs)).1, ((lrOut (WW w a b).params it fl fr nm ([h0] ++ (List.replicate (upsI nn).toNat (.str dd (f 1)) ++ [.str cc uc])) (f 11) bs tb (0 + (octL nn).length) t1 v1 t2 t3 t4 (f 0) (.str cc uc) (n + 1) items m (cs.zip ns) xs)).2 ++ [(pa, listO ⟨[h0]⟩ 0)])) ihf ?_ (fun xs => ⟨rfl, List.Perm.refl _⟩)) (Nat.le_refl _) (fun xs hx => ?_)
          · refine (List.Perm.cons _ ?_)
            exact List.perm_append_comm (l₁ := [_, _, _, _]) (l₂ := [_])
          · rw [z4] at hx
            obtain ⟨code, hcode⟩ := decK_sur (f 1 :: xs.drop 1)
            have hcl : (f 1 :: xs.drop 1).length = ns.length + 1 := by simp [hx]
            rw [hcl] at hcode
            refine ⟨[(match cs.zip ns with | [] => f 11 | _ :: _ => ky xs 0), code, f 0], rfl, rfl, ?_⟩
            unfold lrOut
            have e1 : h0 :: lrTail (((cc, uc), nn) :: cs.zip ns) (decK (ns.length + 1) code) = ([h0] ++ (List.replicate (upsI nn).toNat (.str dd (f 1)) ++ [.str cc uc])) ++ lrTail (cs.zip ns) (xs.drop 1) := by
              rw [hcode]
              show h0 :: (List.replicate _ _ ++ strV (cc, uc) :: lrTail (cs.zip ns) (xs.drop 1)) = _
              simp [strV]
            have ez : ky [(match cs.zip ns with | [] => f 11 | _ :: _ => ky xs 0), code, f 0] 1 = code := rfl
            simp only [ez]
            rw [e1, z2, z3]
            rfl
        have perm1 : ∀ (p1 p2 p3 p4 p5 : Nat × Obj), [p4, p1, p5, p2, p3].Perm [p1, p2, p3, p4, p5] := fun p1 p2 p3 p4 p5 => by
          have h1 : [p4, p1, p5, p2, p3].Perm [p1, p4, p5, p2, p3] := List.Perm.swap _ _ _
          refine h1.trans (List.Perm.cons _ ?_)
          exact List.perm_append_comm (l₁ := [p4, p5]) (l₂ := [p2, p3])
        refine SegOk.perm main (perm1 _ _ _ _ _) (fun xs => ⟨rfl, ?_⟩)
        show ([(ky xs 0, listO ⟨h0 :: lrTail ((unA items).zip (nn :: ns)) _⟩ 0)] ++ zipS _ ((lrLJ (WW w a b).params (nn :: ns)).post [it, fr, nm, pa, fl] _ _)).Perm _
        unfold lrLJ
        simp only [eu]
        refine List.Perm.cons _ (List.Perm.cons _ ?_)
        show [_, _, _, _].Perm [_, _, _, _]
        have perm2 : ∀ (p2 p3 p4 p5 : Nat × Obj), [p2, p3, p4, p5].Perm [p5, p2, p3, p4] := fun p2 p3 p4 p5 => List.perm_append_comm (l₁ := [p2, p3, p4]) (l₂ := [p5])
        exact perm2 _ _ _ _) (fun _ _ _ => rfl)
end
end Mine
end

section
set_option maxRecDepth 100000
set_option linter.unusedVariables false
namespace Mine
open PySem PyProof.Rows PySem.W PySem.W.X

/-- ints with their tokens -/
noncomputable def withI : List Int → List Nat → List (Int × Nat)
  | i :: r, t :: ts => (i, t) :: withI r ts
  | i :: r, [] => (i, 0) :: withI r []
  | [], _ => []
theorem withI_fst : ∀ (l : List Int) (ts : List Nat), (withI l ts).map (·.1) = l
  | [], _ => by simp [withI]
  | i :: r, t :: ts => by simp [withI, withI_fst r ts]
  | i :: r, [] => by simp [withI, withI_fst r []]
theorem withI_len (l : List Int) (ts : List Nat) : (withI l ts).length = l.length := by
  rw [← List.length_map (f := (·.1)), withI_fst]
def lowsOf : Int → List Int → List Int
  | _, [] => []
  | h, u :: r => (h - u) :: lowsOf (h - u + 1) r
def highOf : Int → List Int → Int
  | h, [] => h
  | h, u :: r => highOf (h - u + 1) r
theorem lowsOf_len : ∀ (us : List Int) (h : Int), (lowsOf h us).length = us.length
  | [], _ => rfl
  | u :: r, h => by simp [lowsOf, lowsOf_len r]
noncomputable def selT {α : Type} : List α → Nat → Nat → Nat
  | [], x, _ => x
  | _ :: _, _, y => y
noncomputable def lastI (v : Value) : List (Int × Nat) → Value
  | [] => v
  | c :: r => lastI (intV c) r
section
variable {w : World} {a b : Bool} {hT : Heap}
theorem pl_cs (TK : TopK (WW w a b) hT) (u : Int) (tu : Nat) : Cons pwT' (WW w a b) hT (plCs u tu) := ⟨lnext_ok TK.size, lend_ok TK.size, lapp_ok TK.size, trivial⟩
noncomputable def plOut (P : Params) (it lw hc lc fr up : Nat) (hd : List Value) (k : Nat) (h : Int) (th : Nat) (t1 t2 t3 : Nat) (v2 v3 : Value) (n : Nat) (items : Array Value) (m : Nat) (rest : List (Int × Nat)) (xs : List Nat) : Result × Slots :=
  (.ok .next, [(it, ⟨.type "list_iterator", none, .fields #[.none, .int items.size 0], #[]⟩), (lw, listO ⟨hd ++ (withI (lowsOf h (rest.map (·.1))) (xs.drop 1)).map intV⟩ (k + rest.length)), (hc, cellO (.int (highOf h (rest.map (·.1))) (selT rest th (ky xs 0)))), (lc, cellO (.ref (lw + B))), (fr, frP3 P t1 up t2 v2 t3 (lastI v3 rest) n), (up, seqO "list" items m)])
theorem pl_loop (TK : TopK (WW w a b) hT) (it lw wc hc lc fr up t1 t2 t3 n m : Nat) (v2 : Value) (items : Array Value) : ∀ (rest : List (Int × Nat)) (i : Nat) (hd : List Value) (k : Nat) (h : Int) (th : Nat) (v3 : Value),
    items.toList.drop i = rest.map intV → i + rest.length = items.size → hd.length + rest.length ≤ 1000 →
    SegOk pwT' (WW w a b) hT 1 (rest.length + 1) (plLoop it fr wc hc lc) (plT it lw hc lc fr up i ⟨hd⟩ k h th (frP3 (WW w a b).params t1 up t2 v2 t3 v3 n) items m)
      (plOut (WW w a b).params it lw hc lc fr up hd k h th t1 t2 t3 v2 v3 n items m rest)
  | [], i, hd, k, h, th, v3, hdr, hi, _ => by
    have e : i = items.size := by simpa using hi
    subst e
    refine SegOk.of_run (V := VW w a b (plCs 0 0) 1) (uok TK) (conOf_ok (pl_cs TK _ _)) (show 1 ≤ 1 by decide) (run_plEnd w a b it lw wc hc lc fr up (items.size : Int) h 0 t1 t2 t3 th 0 n k m v2 v3 ⟨hd⟩ items) (fun f => ⟨by simp, trivial⟩) (fun f => ⟨[0], rfl, ?_⟩)
    unfold plOut
    simp [lowsOf, highOf, withI, lastI, selT]
  | (u, tu) :: rest, i, hd, k, h, th, v3, hdr, hi, hs => by
    have hget : items[(i : Int).toNat]? = some (.int u tu) := by
      have h1 : (items.toList.drop i)[0]? = some (intV (u, tu)) := by rw [hdr]; rfl
      rw [List.getElem?_drop, Nat.add_zero] at h1
      rw [Int.toNat_natCast, ← Array.getElem?_toList]; exact h1
    have hdrop : items.toList.drop (i + 1) = rest.map intV := by rw [← List.drop_drop, hdr]; rfl
    have hs' : hd.length + (rest.length + 1) ≤ 1000 := hs
    have sz : sizeLine = 16777216 := by decide
    refine SegOk.of_then (V := VW w a b (plCs u tu) 1) (uok TK) (conOf_ok (pl_cs TK _ _)) (show 1 ≤ 1 by decide) (run_pl3 w a b it lw wc hc lc fr up i h u t1 t2 t3 th tu n k m v2 v3 ⟨hd⟩ items)
      (fun f => ⟨by rw [sz]; show hd.length ≤ _; omega, hget, trivial⟩) (fun f => ?_)
    have ih := pl_loop TK it lw wc hc lc fr up t1 t2 t3 n m v2 items rest (i + 1) (hd ++ [.int (h - u) (f 1)]) (k + 1) (h - u + 1) (f 4) (.int u tu) hdrop (by simp at hi; omega) (by simp; omega)
    have ea : (⟨hd⟩ : Array Value).push (.int (h - u) (f 1)) = ⟨hd ++ [.int (h - u) (f 1)]⟩ := by apply Array.ext'; simp
    rw [ea]
    refine SegOk.mono ih (Nat.le_refl _) fun xs hx => ?_
    match xs, hx with
    | x0 :: ts, hx =>
      refine ⟨(selT rest (f 4) x0) :: f 1 :: ts, by simp at hx ⊢; omega, rfl, ?_⟩
      unfold plOut
      have e1 : hd ++ (withI (lowsOf h (((u, tu) :: rest).map (·.1))) (f 1 :: ts)).map intV = hd ++ [.int (h - u) (f 1)] ++ (withI (lowsOf (h - u + 1) (rest.map (·.1))) ts).map intV := by
        show hd ++ (intV (h - u, f 1) :: (withI (lowsOf (h - u + 1) (rest.map (·.1))) ts).map intV) = _
        simp [intV]
      have e2 : k + ((u, tu) :: rest).length = k + 1 + rest.length := by simp; omega
      cases rest with
      | nil => simp only [List.drop_succ_cons, List.drop_zero]; rw [e1, e2]; rfl
      | cons y r => simp only [List.drop_succ_cons, List.drop_zero]; rw [e1, e2]; rfl
end
structure PlD where
  t1 : Nat
  t2 : Nat
  v2 : Value
  n : Nat
  m : Nat
  items : Array Value
  h0 : Value
  th : Nat
noncomputable def plExt (os : List Obj) : Option PlD := match os with
  | [_, fr, ⟨_, _, .seq items m, _⟩, ⟨_, _, .seq hd _, _⟩, ⟨_, _, .cell (some (.int _ th)), _⟩, _, _] => match entD fr, hd.toList with
    | ([(t1, _), (t2, v2)], n), [h0] => some ⟨t1, t2, v2, n, m, items, h0, th⟩
    | _, _ => none
  | _ => none
noncomputable def unIs (items : Array Value) : List (Int × Nat) := items.toList.map unI
noncomputable def cell0 : Obj := ⟨.type "cell", none, .cell none, #[]⟩
/-- _law_place's first loop: ids are it, fr, up, lw, hc, lc, wc -/
noncomputable def plLJ (P : Params) : Job PlD where
  lvl := 1
  need := 3
  ext := fun _ os => plExt os
  code := fun ids _ => plLoop (ky ids 0) (ky ids 1) (ky ids 6) (ky ids 4) (ky ids 5)
  pre := fun ids d => [itO "list_iterator" (.ref (ky ids 2 + B)) 0, frP2 P d.t1 (ky ids 2) d.t2 d.v2 d.n, seqO "list" d.items d.m, listO #[d.h0] 0, cellO (.int 1 d.th), cellO (.ref (ky ids 3 + B)), cell0]
  side := fun _ d => [∃ us : List (Int × Nat), d.items.toList = us.map intV ∧ us ≠ [] ∧ us.length ≤ 100]
  res := fun _ _ _ => .ok .next
  new := fun _ _ _ => []
  post := fun ids d xs => [⟨.type "list_iterator", none, .fields #[.none, .int d.items.size 0], #[]⟩, frP3 P d.t1 (ky ids 2) d.t2 d.v2 (ky xs 0) (lastI .none (unIs d.items)) (d.n + 1), seqO "list" d.items d.m,
    listO ⟨d.h0 :: (withI (lowsOf 1 ((unIs d.items).map (·.1))) (decK (unIs d.items).length (ky xs 2))).map intV⟩ (unIs d.items).length, cellO (.int (highOf 1 ((unIs d.items).map (·.1))) (ky xs 1)), cellO (.ref (ky ids 3 + B)), cell0]
section
variable {w : World} {a b : Bool} {hT : Heap}
theorem plL_ok (TK : TopK (WW w a b) hT) : ConOk pwT' (WW w a b) hT (plLJ (WW w a b).params).con := Job.con_ok (fun ids d hl hs => by
  obtain ⟨t1, t2, v2, n, m, items, h0, th⟩ := d
  match ids, hl with
  | [it, fr, up, lw, hc, lc, wc], _ =>
    obtain ⟨⟨us, hi, hne, hz⟩, _⟩ := hs
    have hi' : items.toList = us.map intV := hi
    have eu : unIs items = us := by unfold unIs; rw [hi', unI_map]
    cases us with
    | nil => exact absurd rfl hne
    | cons c us =>
      obtain ⟨u, tu⟩ := c
      have hz' : us.length + 1 ≤ 100 := hz
      have hsz : us.length + 1 = items.size := by rw [← Array.length_toList, hi', List.length_map]; rfl
      have hget : items[(0 : Int).toNat]? = some (.int u tu) := by
        show items[0]? = _
        rw [← Array.getElem?_toList, hi']; rfl
      have main : SegOk pwT' (WW w a b) hT 1 3 (plLoop it fr wc hc lc) (plT it lw hc lc fr up 0 ⟨[h0]⟩ 0 1 th (frP2 (WW w a b).params t1 up t2 v2 n) items m)
          (fun xs => (.ok .next, [(it, ⟨.type "list_iterator", none, .fields #[.none, .int items.size 0], #[]⟩), (lw, listO ⟨h0 :: (withI (lowsOf 1 (((u, tu) :: us).map (·.1))) (decK (us.length + 1) (ky xs 2))).map intV⟩ (us.length + 1)), (hc, cellO (.int (highOf 1 (((u, tu) :: us).map (·.1))) (ky xs 1))), (lc, cellO (.ref (lw + B))), (fr, frP3 (WW w a b).params t1 up t2 v2 (ky xs 0) (lastI .none ((u, tu) :: us)) (n + 1)), (up, seqO "list" items m)])) := by
        refine SegOk.of_then (V := VW w a b (plCs u tu) 1) (uok TK) (conOf_ok (pl_cs TK _ _)) (show 1 ≤ 1 by decide) (run_pl2 w a b it lw wc hc lc fr up 0 1 u t1 t2 th tu n 0 m v2 ⟨[h0]⟩ items)
          (fun f => ⟨(show 1 ≤ sizeLine by decide), hget, trivial⟩) (fun f => ?_)
        have ih := pl_loop TK it lw wc hc lc fr up t1 t2 (f 0) (n + 1) m v2 items us 1 ([h0] ++ [.int (1 - u) (f 1)]) (0 + 1) (1 - u + 1) (f 4) (.int u tu) (by rw [hi']; rfl) (by omega) (by simp; omega)
        have ea : (⟨[h0]⟩ : Array Value).push (.int (1 - u) (f 1)) = ⟨[h0] ++ [.int (1 - u) (f 1)]⟩ := by apply Array.ext'; simp
        rw [ea]
        refine SegOk.mono ih (Nat.le_refl _) fun xs hx => ?_
        obtain ⟨code, hcode⟩ := decK_sur (f 1 :: xs.drop 1)
        have hcl : (f 1 :: xs.drop 1).length = us.length + 1 := by simp [hx]
        rw [hcl] at hcode
        refine ⟨[f 0, selT us (f 4) (ky xs 0), code], rfl, rfl, ?_⟩
        have ez : ky [f 0, selT us (f 4) (ky xs 0), code] 2 = code := rfl
        unfold plOut
        simp only [ez, hcode]
        have e1 : h0 :: (withI (lowsOf 1 (((u, tu) :: us).map (·.1))) (f 1 :: xs.drop 1)).map intV = [h0] ++ [.int (1 - u) (f 1)] ++ (withI (lowsOf (1 - u + 1) (us.map (·.1))) (xs.drop 1)).map intV := by
          show h0 :: (intV (1 - u, f 1) :: (withI (lowsOf (1 - u + 1) (us.map (·.1))) (xs.drop 1)).map intV) = _
          simp [intV]
        rw [e1, show us.length + 1 = 0 + 1 + us.length by omega]
        rfl
      have mainF := main.frame [(wc, cell0)]
      refine SegOk.perm mainF ?_ (fun xs => ⟨rfl, ?_⟩)
      · show [(it, _), (lw, _), (hc, _), (lc, _), (fr, _), (up, _), (wc, _)].Perm [(it, _), (fr, _), (up, _), (lw, _), (hc, _), (lc, _), (wc, _)]
        refine List.Perm.cons _ ?_
        exact (List.perm_append_comm (l₁ := [_, _, _]) (l₂ := [_, _])).append_right [_]
      · show (zipS _ ((plLJ (WW w a b).params).post [it, fr, up, lw, hc, lc, wc] _ _)).Perm _
        unfold plLJ
        simp only [eu]
        show [(it, _), (fr, _), (up, _), (lw, _), (hc, _), (lc, _), (wc, _)].Perm [(it, _), (lw, _), (hc, _), (lc, _), (fr, _), (up, _), (wc, _)]
        refine List.Perm.cons _ ?_
        exact (List.perm_append_comm (l₁ := [_, _]) (l₂ := [_, _, _])).append_right [_]) (fun _ _ _ => rfl)
end
end Mine
end

section
set_option maxRecDepth 100000
set_option linter.unusedVariables false
namespace Mine
open PySem PySem.Spec PySem.Calls PyProof.Rows PySem.W PySem.W.X
open PySem.Builtin

noncomputable def sliceO (lo hi : Value) : Obj := ⟨.type "slice", none, .fields #[lo, hi, .none], #[]⟩
noncomputable def partOf (v : Value) : Option Int := match v with
  | .int i _ => some i
  | _ => none
/-- a list's stretch -/
noncomputable def lsliceJ : Job (Array Value × Nat × Value × Value) where
  lvl := 0
  need := 1
  ext := fun _ os => match os with
    | [⟨_, _, .seq items n, _⟩, ⟨_, _, .fields vs, _⟩] => match vs.toList with
      | [lo, hi, _] => some (items, n, lo, hi)
      | _ => none
    | _ => none
  code := fun ids _ => .builtin "list.__getitem__" ⟨[.ref (at0 ids), .ref (at1 ids)], []⟩
  pre := fun _ d => [listO d.1 d.2.1, sliceO d.2.2.1 d.2.2.2]
  side := fun _ d => [d.1.size ≤ 1000, IsPart d.2.2.1 (partOf d.2.2.1), IsPart d.2.2.2 (partOf d.2.2.2)]
  res := fun _ _ xs => .ok (.ret (.ref (at0 xs)))
  new := fun _ d xs => match xs with
    | x :: _ => [(x, listO (slicePick d.1 (partOf d.2.2.1) (partOf d.2.2.2) none) 0)]
    | [] => []
  post := fun _ d _ => [listO d.1 d.2.1, sliceO d.2.2.1 d.2.2.2]
noncomputable def rIt (x left : Int) : Obj := ⟨.type "range_iterator", none, .fields #[.int x 0, .int left 0, .int 1 0], #[]⟩
noncomputable def extR (os : List Obj) : Option (Int × Int) := match os with
  | [⟨_, _, .fields vs, _⟩] => match vs.toList with
    | [.int x _, .int l _, _] => some (x, l)
    | _ => none
  | _ => none
noncomputable def rnextJ : Job (Int × Int) where
  lvl := 0
  need := 1
  ext := fun _ os => extR os
  code := fun ids _ => .builtin "range_iterator.__next__" ⟨[.ref (at0 ids)], []⟩
  pre := fun _ d => [rIt d.1 d.2]
  side := fun _ d => [0 < d.2]
  res := fun _ d xs => .ok (.ret (.int d.1 (tk0 xs)))
  new := fun _ _ _ => []
  post := fun _ d _ => [rIt (d.1 + 1) (d.2 - 1)]
noncomputable def rendJ : Job (Int × Int) where
  lvl := 0
  need := 2
  ext := fun _ os => extR os
  code := fun ids _ => .builtin "range_iterator.__next__" ⟨[.ref (at0 ids)], []⟩
  pre := fun _ d => [rIt d.1 d.2]
  side := fun _ d => [d.2 ≤ 0]
  res := fun _ _ xs => .error (.ref (at0 xs))
  new := fun _ _ xs => match xs with
    | [x, y] => [(x, stopO (y + B)), (y, seqO "tuple" #[] 0)]
    | _ => []
  post := fun _ d _ => [rIt d.1 d.2]
noncomputable def rangeO (a b c : Int) (t u v : Nat) : Obj := ⟨.type "range", none, .fields #[.int a t, .int b u, .int c v], #[]⟩
/-- a range from 0 up is gone through -/
noncomputable def riterJ : Job (Int × Nat × Nat × Nat) where
  lvl := 0
  need := 1
  ext := fun _ os => match os with
    | [⟨_, _, .fields vs, _⟩] => match vs.toList with
      | [.int _ t, .int b u, .int _ v] => some (b, t, u, v)
      | _ => none
    | _ => none
  code := fun ids _ => .builtin "range.__iter__" ⟨[.ref (at0 ids)], []⟩
  pre := fun _ d => [rangeO 0 d.1 1 d.2.1 d.2.2.1 d.2.2.2]
  side := fun _ d => [0 ≤ d.1, d.1 ≤ 1000]
  res := fun _ _ xs => .ok (.ret (.ref (at0 xs)))
  new := fun _ d xs => match xs with
    | x :: _ => [(x, rIt 0 d.1)]
    | [] => []
  post := fun _ d _ => [rangeO 0 d.1 1 d.2.1 d.2.2.1 d.2.2.2]
section
variable {prog : Program} {w : World} {hT : Heap}
theorem lslice_ok : ConOk prog w hT lsliceJ.con := Job.con_ok (fun ids d hl hs => by
  obtain ⟨items, n, lo, hi⟩ := d
  match ids, hl with
  | [l, sl], _ =>
    obtain ⟨h1, pl, pu, _⟩ := hs
    have h1' : items.size ≤ 1000 := h1
    intro A h₀ U g d os R h tk hh hr D K
    have ho := D.at' (l, listO items n) (List.mem_cons_self ..)
    have hos := D.at' (sl, sliceO lo hi) (List.mem_cons_of_mem _ (List.mem_cons_self ..))
    obtain ⟨D', e⟩ := D_new D (o := listO (slicePick items (partOf lo) (partOf hi) none) 0) rfl
    have fin : R (.ok (.ret (.ref (h.objs.size - B + B)))) _ := K [h.objs.size - B] rfl _ tk D'
    rw [e] at fin
    refine code_builtin (b := Builtin.«list.__getitem__») (by decide +kernel) PySem.F.entry_list_getitem ?_
    have hTs : (⟨h, g, d, tk + 1, os⟩ : Shared).TypeIs (.ref (sl + B)) "slice" := ⟨_, hos, rfl⟩
    show wpAny _ _ (Builtin.List.listSubscript? (.ref (sl + B)) >>= _) _ _ _
    refine wpAny_bind ?_
    unfold Builtin.List.listSubscript?
    refine wpAny_bind (wpAny_specialOf hTs slice_no_index ?_)
    simp only [Option.isNone_none, if_true]
    refine wpAny_pure ?_
    show wpAny _ _ (typeOf (.ref (sl + B)) >>= _) _ _ _
    refine wpAny_bind (wpAny_typeOf hTs ?_)
    rw [if_neg (by decide)]
    rw [listSliceParts_eq]
    have hstep : ¬ ((rawPart none == rawInt 0) = true) := Bool.false_ne_true
    refine wpAny_bind (wpAny_bind (wpAny_field hos rfl (x := .none) rfl (wpAny_bind (wpAny_listPart (k := none) .none ?_))))
    rw [if_neg hstep]
    refine wpAny_bind (wpAny_field hos rfl (x := lo) rfl (wpAny_bind (wpAny_listPart pl ?_)))
    refine wpAny_bind (wpAny_field hos rfl (x := hi) rfl (wpAny_bind (wpAny_listPart pu (wpAny_pure ?_))))
    refine wpAny_bind (m := Builtin.List.listItems (.ref (l + B))) ?_
    unfold Builtin.List.listItems
    refine wpAny_bind (wpAny_seqItems ho rfl (wpAny_pure ?_))
    refine wpAny_bind (wpAny_of_eq (sliceIndices_raw (partOf lo) (partOf hi) none items.size (by simp)) ?_)
    refine wpAny_bind (wpAny_newObj_type (wpAny_pure fin) (Nat.le_trans (slicePick_size_le items _ _ none) (by have : sizeLine = 16777216 := by decide
                                                                                                               omega)))) (fun _ _ _ => rfl)
theorem rnext_ok (hz : hT.objs.size = B) : ConOk prog w hT rnextJ.con := Job.con_ok (fun ids d hl hs => by
  obtain ⟨x, left⟩ := d
  match ids, hl with
  | [it], _ =>
    have h0 : 0 < left := hs.1
    intro A h₀ U g d os R h tk hh hr D K
    have ho := D.at' (it, rIt x left) (List.mem_cons_self ..)
    refine code_meets (b := Builtin.«range_iterator.__next__») (by decide +kernel) PySem.F.entry_range_iterator_next (AutoRange.range_iterator___next___range_iterator_1 (it + B) x left 1 (by omega)) ⟨ho, ?_⟩
    have D1 := D.update hz (j := 0) (q := (it, rIt x left)) (f := Obj.mapFields fun x_1 => x_1.setIfInBounds 0 (rawInt (x + 1))) rfl rfl
    have D2 := D1.update hz (j := 0) (q := (it, (Obj.mapFields fun x_1 => x_1.setIfInBounds 0 (rawInt (x + 1))) (rIt x left))) (f := Obj.mapFields fun x => x.setIfInBounds 1 (rawInt (left - 1))) rfl rfl
    exact K [tk + 1] rfl _ (tk + 1) D2) (fun _ _ _ => rfl)
theorem rend_ok : ConOk prog w hT rendJ.con := Job.con_ok (fun ids d hl hs => by
  obtain ⟨x, left⟩ := d
  match ids, hl with
  | [it], _ =>
    have h0 : left ≤ 0 := hs.1
    intro A h₀ U g d os R h tk hh hr D K
    have ho := D.at' (it, rIt x left) (List.mem_cons_self ..)
    obtain ⟨D2, e2⟩ := D_new D (o := seqO "tuple" #[] 0) rfl
    obtain ⟨D3, e3⟩ := D_new D2 (o := stopO (h.objs.size - B + B)) rfl
    have fin := K [(h.push (seqO "tuple" #[] 0)).objs.size - B, h.objs.size - B] rfl _ tk D3
    rw [e2] at fin
    change R (.error (.ref ((h.push (seqO "tuple" #[] 0)).objs.size - B + B))) _ at fin
    rw [e3] at fin
    refine code_builtin (b := Builtin.«range_iterator.__next__») (by decide +kernel) PySem.F.entry_range_iterator_next ?_
    show wpAny _ _ (field (.ref (it + B)) 0 >>= _) _ _ _
    refine wpAny_bind (wpAny_field ho rfl (x := rawInt x) rfl ?_)
    show wpAny _ _ (field (.ref (it + B)) 1 >>= _) _ _ _
    refine wpAny_bind (wpAny_field ho rfl (x := rawInt left) rfl ?_)
    show wpAny _ _ (field (.ref (it + B)) 2 >>= _) _ _ _
    refine wpAny_bind (wpAny_field ho rfl (x := rawInt 1) rfl ?_)
    show wpAny _ _ (if left ≤ 0 then _ else _) _ _ _
    rw [if_pos h0]
    refine wpAny_bind (wpAny_rule ?_)
    refine wpAny_bind ?_
    show wpAny _ _ (newExc (.type "StopIteration") [] >>= _) _ _ _
    refine wpAny_bind ?_
    simp only [newExc, newTuple]
    refine wpAny_bind (wpAny_newObj_type ?_ (by size_fits))
    refine wpAny_bind (m := firstArgMember _ _) (wpAny_of_eq (a := Value.none) (by first | rfl | (simp only [firstArgMember]; rfl)) ?_)
    refine wpAny_newObj_type ?_ (by size_fits)
    exact wpAny_raiseNew_none hh fin) (fun _ _ _ => rfl)
theorem riter_ok : ConOk prog w hT riterJ.con := Job.con_ok (fun ids d hl hs => by
  obtain ⟨b, t, u, v⟩ := d
  match ids, hl with
  | [r], _ =>
    obtain ⟨h0, h1, _⟩ := hs
    have h0' : 0 ≤ b := h0
    have h1' : b ≤ 1000 := h1
    have fits : ∀ i : Int, 0 ≤ i → i ≤ 1000 → Builtin.Range.rangeFitsLong i = true := fun i a c => by
      unfold Builtin.Range.rangeFitsLong
      simp
      omega
    have hsz : Builtin.Range.rangeSize 0 b 1 = b := by
      unfold Builtin.Range.rangeSize
      simp only [show (1 : Int) > 0 by decide, if_true]
      by_cases hb : (0 : Int) < b
      · simp [hb] <;> omega
      · have : b = 0 := by omega
        subst this; simp
    have hsm : (Builtin.Range.rangeFitsLong 0 && Builtin.Range.rangeFitsLong b && Builtin.Range.rangeFitsLong 1 && Builtin.Range.rangeFitsLong (Builtin.Range.rangeSize 0 b 1) && (Builtin.Range.rangeSize 0 b 1 == 0 || if (1 : Int) > 0 then Builtin.Range.rangeFitsLong (b + (1 - 1)) else Builtin.Range.rangeFitsLong (b + (1 + 1)))) = true := by
      rw [hsz, fits 0 (by omega) (by omega), fits b h0' h1', fits 1 (by omega) (by omega)]
      simp only [show (1 : Int) > 0 by decide, if_true, show b + (1 - 1) = b by omega, fits b h0' h1']
      simp
    intro A h₀ U g d os R h tk hh hr D K
    have ho := D.at' (r, rangeO 0 b 1 t u v) (List.mem_cons_self ..)
    refine code_meets (b := Builtin.«range.__iter__») (by decide +kernel) PySem.F.entry_range_iter (AutoRange.range___iter___range_1 (r + B) 0 b 1 t u v (by rw [hsm]; decide)) ⟨ho, ?_⟩
    obtain ⟨D', e⟩ := D_new D (o := rIt 0 b) rfl
    have fin : R (.ok (.ret (.ref (h.objs.size - B + B)))) _ := K [h.objs.size - B] rfl _ tk D'
    rw [e] at fin
    rw [hsm, hsz]
    exact fin) (fun _ _ _ => rfl)
end
end Mine
end

section
set_option maxRecDepth 100000
set_option linter.unusedVariables false
namespace Mine
open PySem PyProof.Rows PySem.W PySem.W.X
noncomputable abbrev kpE : Expr := asgV (stN (fnB (tS 50)) 3)
noncomputable abbrev kpCells (wc hc lc : Nat) : List (Str × Addr) := [((⟨⟨[119, 104, 111, 108, 101]⟩⟩ : Str), wc + B), ((⟨⟨[108, 111, 119, 115]⟩⟩ : Str), lc + B), ((⟨⟨[104, 101, 105, 103, 104, 116]⟩⟩ : Str), hc + B)]
noncomputable def kpLoop (it ac dk fr wc hc lc : Nat) : Code := .compLoop kpE 0 (.ref (it + B)) (.ref (ac + B)) (envP (compS kpE) dk fr (⟨⟨[95, 108, 97, 119, 95, 112, 108, 97, 99, 101]⟩⟩ : Str) 885 (kpCells wc hc lc))
noncomputable def kpStart (it ac dk fr wc hc lc : Nat) : Code := .compStart kpE 0 (.ref (it + B)) (.ref (ac + B)) (envP (compS kpE) dk fr (⟨⟨[95, 108, 97, 119, 95, 112, 108, 97, 99, 101]⟩⟩ : Str) 885 (kpCells wc hc lc))
noncomputable abbrev kpCs (c : Str) (uc : Nat) (lo : Int) (tl : Nat) : List Con := [rnextJ.con, rendJ.con, lsliceJ.con, laddJ.con, minJ.con, (lgetJ (.int lo tl)).con, (lgetJ (.str c uc)).con, cmpC "int.__gt__" (fun a b => decide (a > b)), lappJ.con]
noncomputable abbrev kD1 (P : Params) (tk : Nat) (v : Value) (n : Nat) : Obj := dcO P [((⟨⟨[107]⟩⟩ : Str), tk, v)] n
noncomputable abbrev kpT (dk ac it wl lw wc hc lc : Nat) (d : Obj) (arr : Array Value) (ep : Nat) (x left : Int) (whole : Array Value) (n : Nat) (lows : Array Value) (m : Nat) (h : Int) (th : Nat) : Slots :=
  [(dk, d), (ac, listO arr ep), (it, rIt x left), (wl, listO whole n), (lw, listO lows m), (wc, cellO (.ref (wl + B))), (hc, cellO (.int h th)), (lc, cellO (.ref (lw + B)))]
def LgetP (items : Array Value) (k : Int) (v : Value) : Prop := -(items.size : Int) ≤ k ∧ -(2 ^ 63) ≤ k ∧ k < 2 ^ 63 ∧ items[(if 0 ≤ k then k else k + items.size).toNat]? = some v
theorem LgetP.of {items : Array Value} {i : Nat} {v : Value} (h : items[i]? = some v) (hs : items.size ≤ 1000) : LgetP items i v := by
  have : i < items.size := by
    rcases Nat.lt_or_ge i items.size with q | q
    · exact q
    · rw [Array.getElem?_eq_none q] at h; cases h
  refine ⟨by omega, by omega, by omega, ?_⟩
  rw [if_pos (by omega), Int.toNat_natCast]; exact h
noncomputable abbrev kpMin (lows : Array Value) (x h : Int) (th : Nat) : Array Value := slicePick lows (some (x + 1)) none none ++ #[.int h th]
noncomputable abbrev kpPs (lows : Array Value) (x left h lo : Int) (tl th t3 : Nat) (y : Bool) : List Prop :=
  [decide ((minHd ((kpMin lows x h th).toList.map unI)).1 > lo) = y, LgetP lows x (.int lo tl), ∃ ks, (kpMin lows x h th).toList = ks.map intV ∧ ks ≠ [], (slicePick lows (some (x + 1)) none none).size + (#[.int h th] : Array Value).size ≤ sizeLine,
   lows.size ≤ 1000, IsPart (.int (x + 1) t3) (some (x + 1)), IsPart .none none, 0 < left]
section
variable (w : World) (a b : Bool) (dk ac it wl lw wc hc lc fr : Nat) (x left lo h : Int) (tk tl th n m ep uc e : Nat) (v : Value) (c : Str) (arr whole lows : Array Value) (f : Nat → Nat)
theorem run_kp0K : RunIs (codeU (VW w a b (kpCs c uc lo tl) 2) (simU (VW w a b (kpCs c uc lo tl) 2) 111) none (kpLoop it ac dk fr wc hc lc) 57118582506294118203421662303999005656203489710076962677582219333492486602023921527329915339988846656585868161069151758494345658521363391485208174395580664005889 (mk f 8) .base (kpT dk ac it wl lw wc hc lc (dcO (WW w a b).params [] e) arr ep x left whole n lows m h th) [] [])
    ((arr.size ≤ sizeLine) :: (LgetP whole x (.str c uc)) :: kpPs lows x left h lo tl th (f 3) true) (.stop (kpLoop it ac dk fr wc hc lc) (kpT dk ac it wl lw wc hc lc (kD1 (WW w a b).params (f 1) (.int x (f 0)) (e + 1)) (arr.push (.str c uc)) (ep + 1) (x + 1) (left - 1) whole n lows m h th)) := RunIs.of (by cases a <;> kernel_rfl)
theorem run_kp0N : RunIs (codeU (VW w a b (kpCs c uc lo tl) 2) (simU (VW w a b (kpCs c uc lo tl) 2) 111) none (kpLoop it ac dk fr wc hc lc) 85942440525616567874683901922964859717879751851543215495636911978522106645707946092726845193981137400101073145429996358092033 (mk f 8) .base (kpT dk ac it wl lw wc hc lc (dcO (WW w a b).params [] e) arr ep x left whole n lows m h th) [] [])
    (kpPs lows x left h lo tl th (f 3) false) (.stop (kpLoop it ac dk fr wc hc lc) (kpT dk ac it wl lw wc hc lc (kD1 (WW w a b).params (f 1) (.int x (f 0)) (e + 1)) arr ep (x + 1) (left - 1) whole n lows m h th)) := RunIs.of (by cases a <;> kernel_rfl)
theorem run_kp1K : RunIs (codeU (VW w a b (kpCs c uc lo tl) 2) (simU (VW w a b (kpCs c uc lo tl) 2) 111) none (kpLoop it ac dk fr wc hc lc) 57118582506294118203421662303999005656203489710076962677582219333492486602023921527329915339988846656585868161069151758494345658521363391485208174395580664005889 (mk f 8) .base (kpT dk ac it wl lw wc hc lc (kD1 (WW w a b).params tk v e) arr ep x left whole n lows m h th) [] [])
    ((arr.size ≤ sizeLine) :: (LgetP whole x (.str c uc)) :: kpPs lows x left h lo tl th (f 3) true) (.stop (kpLoop it ac dk fr wc hc lc) (kpT dk ac it wl lw wc hc lc (kD1 (WW w a b).params tk (.int x (f 0)) e) (arr.push (.str c uc)) (ep + 1) (x + 1) (left - 1) whole n lows m h th)) := RunIs.of (by cases a <;> kernel_rfl)
theorem run_kp1N : RunIs (codeU (VW w a b (kpCs c uc lo tl) 2) (simU (VW w a b (kpCs c uc lo tl) 2) 111) none (kpLoop it ac dk fr wc hc lc) 85942440525616567874683901922964859717879751851543215495636911978522106645707946092726845193981137400101073145429996358092033 (mk f 8) .base (kpT dk ac it wl lw wc hc lc (kD1 (WW w a b).params tk v e) arr ep x left whole n lows m h th) [] [])
    (kpPs lows x left h lo tl th (f 3) false) (.stop (kpLoop it ac dk fr wc hc lc) (kpT dk ac it wl lw wc hc lc (kD1 (WW w a b).params tk (.int x (f 0)) e) arr ep (x + 1) (left - 1) whole n lows m h th)) := RunIs.of (by cases a <;> kernel_rfl)
theorem run_kpEnd : RunIs (codeU (VW w a b (kpCs c uc lo tl) 2) (simU (VW w a b (kpCs c uc lo tl) 2) 45) none (kpLoop it ac dk fr wc hc lc) 311722882320666300794113 (mk f 2) .base (kpT dk ac it wl lw wc hc lc (kD1 (WW w a b).params tk v e) arr ep x left whole n lows m h th) [] [])
    [left ≤ 0] (.ret (.ok .next) (kpT dk ac it wl lw wc hc lc (kD1 (WW w a b).params tk v e) arr ep x left whole n lows m h th)) := RunIs.of (by cases a <;> kernel_rfl)
theorem run_kpS : RunIs (codeU (VW w a b (kpCs c uc lo tl) 2) (simU (VW w a b (kpCs c uc lo tl) 2) 51) none (kpStart it ac dk fr wc hc lc) (match b with | true => 131585 | false => 578756569628574977) (mk f 0) .base (kpT dk ac it wl lw wc hc lc (dcO (WW w a b).params [] e) arr ep x left whole n lows m h th) [] [])
    [] (.stop (kpLoop it ac dk fr wc hc lc) (kpT dk ac it wl lw wc hc lc (dcO (WW w a b).params [] e) arr ep x left whole n lows m h th)) := RunIs.of (by cases a <;> cases b <;> kernel_rfl)
end
end Mine
end

section
set_option maxRecDepth 100000
set_option linter.unusedVariables false
namespace Mine
open PySem PyProof.Rows PySem.W PySem.W.X

def mnI : Int → List Int → Int
  | c, [] => c
  | c, u :: r => match decide (u < c) with
    | true => mnI u r
    | false => mnI c r
def mnHd : List Int → Int
  | [] => 0
  | k :: r => mnI k r
theorem minI_fst : ∀ (r : List (Int × Nat)) (c : Int × Nat), (minI c r).1 = mnI c.1 (r.map (·.1))
  | [], c => rfl
  | u :: r, c => by
    show (match decide (u.1 < c.1) with | true => minI u r | false => minI c r).1 = (match decide (u.1 < c.1) with | true => mnI u.1 (r.map (·.1)) | false => mnI c.1 (r.map (·.1)))
    cases decide (u.1 < c.1) with
    | true => exact minI_fst r u
    | false => exact minI_fst r c
theorem minHd_fst (l : List (Int × Nat)) : (minHd l).1 = mnHd (l.map (·.1)) := by
  cases l with
  | nil => rfl
  | cons c r => exact minI_fst r c
/-- what is kept: those whose low lies under all that come later -/
def keptZ (h : Int) : List ((Str × Tok) × (Int × Nat)) → List (Str × Tok)
  | [] => []
  | (c, l) :: r => match decide (mnHd (r.map (·.2.1) ++ [h]) > l.1) with
    | true => c :: keptZ h r
    | false => keptZ h r
theorem keptZ_len (h : Int) : ∀ r, (keptZ h r).length ≤ r.length
  | [] => Nat.le_refl _
  | (c, l) :: r => by
    have ih := keptZ_len h r
    unfold keptZ
    split <;> simp only [List.length_cons] <;> omega
theorem kpMin_eq {lows : Array Value} {i : Nat} {x h : Int} {th : Nat} {r : List ((Str × Tok) × (Int × Nat))} (hx : x = i) (hd : lows.toList.drop (i + 1) = r.map fun z => intV z.2) (hi : i + 1 ≤ lows.size) :
    (kpMin lows x h th).toList = (r.map (·.2) ++ [(h, th)]).map intV := by
  subst hx
  show (slicePick lows (some ((i : Int) + 1)) none none ++ #[Value.int h th]).toList = _
  have e : ((i : Int) + 1) = ((i + 1 : Nat) : Int) := by omega
  rw [e, slicePick_from lows (i + 1) hi, Array.toList_append, hd]
  simp [intV]
theorem drop_tail {α : Type} {l : List α} {i : Nat} {y : α} {r : List α} (h : l.drop i = y :: r) : l[i]? = some y ∧ l.drop (i + 1) = r := by
  constructor
  · have : (l.drop i)[0]? = some y := by rw [h]; rfl
    rwa [List.getElem?_drop, Nat.add_zero] at this
  · rw [← List.drop_drop, h]; rfl
theorem arr_get {l : Array Value} {i : Nat} {y : Value} (h : l.toList[i]? = some y) : l[i]? = some y := by rwa [← Array.getElem?_toList]
theorem push_list (hd : List Value) (v : Value) : (⟨hd⟩ : Array Value).push v = ⟨hd ++ [v]⟩ := by apply Array.ext'; simp
section
variable {w : World} {a b : Bool} {hT : Heap}
theorem kp_cs (TK : TopK (WW w a b) hT) (c : Str) (uc : Nat) (lo : Int) (tl : Nat) : Cons pwT' (WW w a b) hT (kpCs c uc lo tl) := ⟨rnext_ok TK.size, rend_ok, lslice_ok, ladd_ok, min_ok TK, lget_ok, lget_ok, gt_ok, lapp_ok TK.size, trivial⟩
/-- what a turn needs -/
theorem kp_facts {whole lows : Array Value} {i : Nat} {x left h : Int} {th : Nat} {c : Str × Tok} {l : Int × Nat} {r : List ((Str × Tok) × (Int × Nat))} (hx : x = i) (hl : left = ((r.length + 1 : Nat) : Int)) (hw : whole.toList.drop i = (((c, l) :: r).map fun z => strV z.1)) (hlo : lows.toList.drop i = (((c, l) :: r).map fun z => intV z.2))
    (hs : whole.size ≤ 100) (hsz : lows.size = whole.size) (t3 : Nat) : LgetP whole x (.str c.1 c.2) ∧ Alls (kpPs lows x left h l.1 l.2 th t3 (decide (mnHd (r.map (·.2.1) ++ [h]) > l.1))) := by
  obtain ⟨w1, w2⟩ := drop_tail hw
  obtain ⟨l1, l2⟩ := drop_tail hlo
  have g2 := arr_get l1
  have hi : i < lows.size := by
    rcases Nat.lt_or_ge i lows.size with q | q
    · exact q
    · rw [Array.getElem?_eq_none q] at g2; cases g2
  have em := kpMin_eq (th := th) (h := h) hx l2 (by omega)
  have sz : sizeLine = 16777216 := by decide
  subst hx
  have hsl := slicePick_size_le lows (some ((i : Int) + 1)) none none
  refine ⟨LgetP.of (arr_get w1) (by omega), ?_, LgetP.of g2 (by omega), ⟨_, em, by simp⟩, ?_, by omega, .int _ _, .none, by omega, trivial⟩
  · rw [em, unI_map, minHd_fst, List.map_append, List.map_map]; rfl
  · show _ + 1 ≤ _
    rw [sz]; omega
noncomputable def kpOut (P : Params) (dk ac it wl lw wc hc lc tk e : Nat) (K : List Value) (E : Nat) (whole : Array Value) (n : Nat) (lows : Array Value) (m : Nat) (h : Int) (th : Nat) (u : Nat) : Result × Slots :=
  (.ok .next, kpT dk ac it wl lw wc hc lc (kD1 P tk (.int ((whole.size : Int) - 1) u) e) ⟨K⟩ E whole.size 0 whole n lows m h th)
theorem kp_loop (TK : TopK (WW w a b) hT) (dk ac it wl lw wc hc lc fr tk e n m th : Nat) (h : Int) (whole lows : Array Value) (K : List Value) (E : Nat) (hs : whole.size ≤ 100) (hsz : lows.size = whole.size) :
    ∀ (rest : List ((Str × Tok) × (Int × Nat))) (i : Nat) (x left : Int) (hd : List Value) (ep u : Nat) (v : Value), x = i → left = (rest.length : Int) → whole.toList.drop i = (rest.map fun z => strV z.1) → lows.toList.drop i = (rest.map fun z => intV z.2) → i + rest.length = whole.size →
    hd.length + rest.length ≤ 200 → v = .int (x - 1) u → K = hd ++ (keptZ h rest).map strV → E = ep + (keptZ h rest).length →
    SegOk pwT' (WW w a b) hT 2 1 (kpLoop it ac dk fr wc hc lc) (kpT dk ac it wl lw wc hc lc (kD1 (WW w a b).params tk v e) ⟨hd⟩ ep x left whole n lows m h th) (fun xs => kpOut (WW w a b).params dk ac it wl lw wc hc lc tk e K E whole n lows m h th (ky xs 0))
  | [], i, x, left, hd, ep, u, v, hx, hl, hw, hlo, hi, hlen, hv, hK, hE => by
    have e1 : x = (whole.size : Int) := by rw [hx]; simp at hi; omega
    have e2 : left = 0 := hl
    have e3 : K = hd := by rw [hK]; exact List.append_nil _
    have e4 : E = ep := hE
    subst e1 e2 e3 e4 hv
    exact SegOk.of_run (V := VW w a b (kpCs sl 0 0 0) 2) (uok TK) (conOf_ok (kp_cs TK _ _ _ _)) (show 1 ≤ 2 by decide) (run_kpEnd w a b dk ac it wl lw wc hc lc fr (whole.size : Int) 0 0 h tk 0 th n m _ 0 e _ sl ⟨_⟩ whole lows) (fun f => ⟨show (0 : Int) ≤ 0 by decide, trivial⟩) (fun f => ⟨[u], rfl, rfl⟩)
  | (c, l) :: rest, i, x, left, hd, ep, u, v, hx, hl, hw, hlo, hi, hlen, hv, hK, hE => by
    have F := fun t3 => kp_facts (th := th) (h := h) hx hl hw hlo hs hsz t3
    have hlen' : hd.length + (rest.length + 1) ≤ 200 := hlen
    have hl' : left = ((rest.length + 1 : Nat) : Int) := hl
    have sz : sizeLine = 16777216 := by decide
    have go := fun K' E' => kp_loop TK dk ac it wl lw wc hc lc fr tk e n m th h whole lows K' E' hs hsz rest (i + 1) (x + 1) (left - 1)
    have a1 : x + 1 = ((i + 1 : Nat) : Int) := by omega
    have a2 : left - 1 = (rest.length : Int) := by omega
    have a3 : i + 1 + rest.length = whole.size := by simp at hi; omega
    have a4 : ∀ q, Value.int x q = .int (x + 1 - 1) q := fun q => by rw [show x + 1 - 1 = x by omega]
    cases hk : decide (mnHd (rest.map (·.2.1) ++ [h]) > l.1) with
    | true =>
      have ez : keptZ h ((c, l) :: rest) = c :: keptZ h rest := by show (match decide _ with | true => _ | false => _) = _; rw [hk]
      rw [ez] at hK hE
      refine SegOk.of_then (V := VW w a b (kpCs c.1 c.2 l.1 l.2) 2) (uok TK) (conOf_ok (kp_cs TK _ _ _ _)) (show 1 ≤ 2 by decide) (run_kp1K w a b dk ac it wl lw wc hc lc fr x left l.1 h tk l.2 th n m ep c.2 e v c.1 ⟨hd⟩ whole lows) (fun f => ⟨?_, (F (f 3)).1, ?_⟩) (fun f => ?_)
      · rw [sz]; show hd.length ≤ _; omega
      · have := (F (f 3)).2; rw [hk] at this; exact this
      · rw [push_list]
        exact go K E (hd ++ [.str c.1 c.2]) (ep + 1) (f 0) _ a1 a2 (drop_tail hw).2 (drop_tail hlo).2 a3 (by simp; omega) (a4 _) (by rw [hK]; simp [strV]) (by rw [hE]; simp; omega)
    | false =>
      have ez : keptZ h ((c, l) :: rest) = keptZ h rest := by show (match decide _ with | true => _ | false => _) = _; rw [hk]
      rw [ez] at hK hE
      refine SegOk.of_then (V := VW w a b (kpCs c.1 c.2 l.1 l.2) 2) (uok TK) (conOf_ok (kp_cs TK _ _ _ _)) (show 1 ≤ 2 by decide) (run_kp1N w a b dk ac it wl lw wc hc lc fr x left l.1 h tk l.2 th n m ep c.2 e v c.1 ⟨hd⟩ whole lows) (fun f => ?_) (fun f => ?_)
      · have := (F (f 3)).2; rw [hk] at this; exact this
      · exact go K E hd ep (f 0) _ a1 a2 (drop_tail hw).2 (drop_tail hlo).2 a3 (by omega) (a4 _) hK hE
end
theorem ids_fn : ∀ {n : Nat} {ids : List Nat}, ids.length = n → ids = (List.range n).map (ky ids)
  | 0, [], _ => rfl
  | n + 1, x :: r, h => by
    have ih := ids_fn (n := n) (ids := r) (by simpa using h)
    rw [List.range_succ_eq_map, List.map_cons, List.map_map]
    exact congrArg (x :: ·) ih
theorem ids7 {ids : List Nat} (h : ids.length = 7) : ∃ a b c d e f g, ids = [a, b, c, d, e, f, g] := ⟨_, _, _, _, _, _, _, ids_fn h⟩
theorem ids9 {ids : List Nat} (h : ids.length = 9) : ∃ a b c d e f g i j, ids = [a, b, c, d, e, f, g, i, j] := ⟨_, _, _, _, _, _, _, _, _, ids_fn h⟩
structure KpD where
  whole : Array Value
  n : Nat
  lows : Array Value
  m : Nat
  h : Int
  th : Nat
  fo : Obj
noncomputable def kpExt (os : List Obj) : Option KpD := match os with
  | [_, _, _, ⟨_, _, .seq whole n, _⟩, ⟨_, _, .seq lows m, _⟩, _, ⟨_, _, .cell (some (.int h th)), _⟩, _, fo] => some ⟨whole, n, lows, m, h, th, fo⟩
  | _ => none
noncomputable def zipWL (whole lows : Array Value) : List ((Str × Tok) × (Int × Nat)) := (unA whole).zip (unIs lows)
noncomputable def kpO (P : Params) (wl lw : Nat) (d : Obj) (arr : Array Value) (ep : Nat) (x left : Int) (D : KpD) : List Obj := [d, listO arr ep, rIt x left, listO D.whole D.n, listO D.lows D.m, cellO (.ref (wl + B)), cellO (.int D.h D.th), cellO (.ref (lw + B)), D.fo]
/-- the comprehension of what is kept; ids: dk, ac, it, wl, lw, wc, hc, lc, fr -/
noncomputable def kpLJ (P : Params) : Job KpD where
  lvl := 2
  need := 2
  ext := fun _ os => kpExt os
  code := fun ids _ => kpStart (ky ids 2) (ky ids 1) (ky ids 0) (ky ids 8) (ky ids 5) (ky ids 6) (ky ids 7)
  pre := fun ids d => kpO P (ky ids 3) (ky ids 4) (dcO P [] 0) #[] 0 0 d.whole.size d
  side := fun _ d => [∃ (ws : List (Str × Tok)) (ls : List (Int × Nat)), d.whole.toList = ws.map strV ∧ d.lows.toList = ls.map intV ∧ ws.length = ls.length ∧ ws ≠ [] ∧ ws.length ≤ 100]
  res := fun _ _ _ => .ok .next
  new := fun _ _ _ => []
  post := fun ids d xs => kpO P (ky ids 3) (ky ids 4) (kD1 P (ky xs 1) (.int ((d.whole.size : Int) - 1) (ky xs 0)) 1) ⟨(keptZ d.h (zipWL d.whole d.lows)).map strV⟩ (keptZ d.h (zipWL d.whole d.lows)).length d.whole.size 0 d
theorem zip_maps {α β : Type} : ∀ (xs : List α) (ys : List β), xs.length = ys.length → (xs.zip ys).map (·.1) = xs ∧ (xs.zip ys).map (·.2) = ys ∧ (xs.zip ys).length = xs.length
  | [], [], _ => ⟨rfl, rfl, rfl⟩
  | x :: r, y :: s, h => by
    obtain ⟨h1, h2, h3⟩ := zip_maps r s (by simpa using h)
    simp only [List.zip_cons_cons, List.map_cons, List.length_cons, h1, h2, h3, and_self]
section
variable {w : World} {a b : Bool} {hT : Heap}
theorem kpL_ok (TK : TopK (WW w a b) hT) : ConOk pwT' (WW w a b) hT (kpLJ (WW w a b).params).con := Job.con_ok (fun ids d hl hs => by
  obtain ⟨whole, n, lows, m, h, th, fo⟩ := d
  obtain ⟨dk, ac, it, wl, lw, wc, hc, lc, fr, rfl⟩ := ids9 hl
  · skip
    obtain ⟨⟨ws, ls, hw, hlo, hlen, hne, hz⟩, _⟩ := hs
    have hw' : whole.toList = ws.map strV := hw
    have hlo' : lows.toList = ls.map intV := hlo
    have s1 : whole.size = ws.length := by rw [← Array.length_toList, hw', List.length_map]
    have s2 : lows.size = ls.length := by rw [← Array.length_toList, hlo', List.length_map]
    have ez : zipWL whole lows = ws.zip ls := by unfold zipWL unA unIs; rw [hw', hlo', unV_map, unI_map]
    obtain ⟨z1, z2, z3⟩ := zip_maps ws ls hlen
    have main : SegOk pwT' (WW w a b) hT 2 2 (kpLoop it ac dk fr wc hc lc) (kpT dk ac it wl lw wc hc lc (dcO (WW w a b).params [] 0) #[] 0 0 whole.size whole n lows m h th)
        (fun xs => kpOut (WW w a b).params dk ac it wl lw wc hc lc (ky xs 1) 1 ((keptZ h (ws.zip ls)).map strV) (keptZ h (ws.zip ls)).length whole n lows m h th (ky xs 0)) := by
      cases hzz : ws.zip ls with
      | nil => rw [hzz] at z3; exact absurd (List.eq_nil_of_length_eq_zero z3.symm) hne
      | cons y rest =>
        obtain ⟨c, l⟩ := y
        rw [hzz] at z1 z2 z3
        have z3' : rest.length + 1 = ws.length := z3
        have d1 : whole.toList.drop 0 = (((c, l) :: rest).map fun z => strV z.1) := by rw [List.drop_zero, hw', ← z1, List.map_map]; rfl
        have d2 : lows.toList.drop 0 = (((c, l) :: rest).map fun z => intV z.2) := by rw [List.drop_zero, hlo', ← z2, List.map_map]; rfl
        have hl0 : (whole.size : Int) = ((rest.length + 1 : Nat) : Int) := by omega
        have F := fun t3 => kp_facts (x := 0) (th := th) (h := h) (i := 0) rfl hl0 d1 d2 (by omega) (by omega) t3
        have go := fun tk K E => kp_loop TK dk ac it wl lw wc hc lc fr tk 1 n m th h whole lows K E (by omega) (by omega) rest 1 1 ((whole.size : Int) - 1)
        have a2 : (whole.size : Int) - 1 = (rest.length : Int) := by omega
        cases hk : decide (mnHd (rest.map (·.2.1) ++ [h]) > l.1) with
        | true =>
          have ek : keptZ h ((c, l) :: rest) = c :: keptZ h rest := by show (match decide _ with | true => _ | false => _) = _; rw [hk]
          refine SegOk.of_then (V := VW w a b (kpCs c.1 c.2 l.1 l.2) 2) (uok TK) (conOf_ok (kp_cs TK _ _ _ _)) (show 1 ≤ 2 by decide) (run_kp0K w a b dk ac it wl lw wc hc lc fr 0 whole.size l.1 h l.2 th n m 0 c.2 0 c.1 #[] whole lows) (fun f => ⟨show 0 ≤ sizeLine by decide, (F (f 3)).1, ?_⟩) (fun f => ?_)
          · have := (F (f 3)).2; rw [hk] at this; exact this
          · refine SegOk.mono (go (f 1) ((keptZ h ((c, l) :: rest)).map strV) (keptZ h ((c, l) :: rest)).length [.str c.1 c.2] 1 (f 0) _ rfl a2 (drop_tail d1).2 (drop_tail d2).2 (by omega) (by simp; omega) rfl (by rw [ek]; rfl) (by rw [ek]; simp; omega)) (Nat.le_refl _) (fun xs _ => ⟨[ky xs 0, f 1], rfl, rfl, rfl⟩)
        | false =>
          have ek : keptZ h ((c, l) :: rest) = keptZ h rest := by show (match decide _ with | true => _ | false => _) = _; rw [hk]
          refine SegOk.of_then (V := VW w a b (kpCs c.1 c.2 l.1 l.2) 2) (uok TK) (conOf_ok (kp_cs TK _ _ _ _)) (show 1 ≤ 2 by decide) (run_kp0N w a b dk ac it wl lw wc hc lc fr 0 whole.size l.1 h l.2 th n m 0 c.2 0 c.1 #[] whole lows) (fun f => ?_) (fun f => ?_)
          · have := (F (f 3)).2; rw [hk] at this; exact this
          · refine SegOk.mono (go (f 1) ((keptZ h ((c, l) :: rest)).map strV) (keptZ h ((c, l) :: rest)).length [] 0 (f 0) _ rfl a2 (drop_tail d1).2 (drop_tail d2).2 (by omega) (by simp; omega) rfl (by rw [ek]; rfl) (by rw [ek]; omega)) (Nat.le_refl _) (fun xs _ => ⟨[ky xs 0, f 1], rfl, rfl, rfl⟩)
    have main0 : SegOk pwT' (WW w a b) hT 2 2 (kpStart it ac dk fr wc hc lc) _ _ := SegOk.of_then (V := VW w a b (kpCs sl 0 0 0) 2) (uok TK) (conOf_ok (kp_cs TK _ _ _ _)) (show 1 ≤ 2 by decide) (run_kpS w a b dk ac it wl lw wc hc lc fr 0 whole.size 0 h 0 th n m 0 0 0 sl #[] whole lows) (fun f => trivial) (fun f => main)
    have mF := main0.frame [(fr, fo)]
    rw [← ez] at mF
    exact mF) (fun _ _ _ => rfl)
end
end Mine
end

section
set_option maxRecDepth 100000
set_option linter.unusedVariables false
namespace Mine
open PySem PyProof.Rows PySem.W PySem.W.X
open PySem.Builtin PySem.Builtin.Str
noncomputable abbrev hereS : Str := ⟨⟨[104, 101, 114, 101]⟩⟩
noncomputable abbrev roCs (w : World) (a b : Bool) (ns : List Int) : List Con := [bytesLJ.con, (lrLJ (WW w a b).params ns).con, liaddJ.con, joinJ.con, normJ.con]
noncomputable abbrev roVs (names : Array Value) (ns : List Int) (x : Nat) : List Value := lrTail ((unA names).zip ns) (decK ns.length x)
noncomputable abbrev roQ (names : Array Value) (ns : List Int) (x : Nat) : Str := glueUp hereS ((roVs names ns x).map unV)
noncomputable abbrev roBs (octs : Array Value) : Array UInt8 := ⟨bytesOfInts (octs.toList.map unI)⟩
theorem run_round (w : World) (a b : Bool) (oc nm m no : Nat) (octs names : Array Value) (ns : List Int) (f : Nat → Nat) : RunIs (codeU (VW w a b (roCs w a b ns) 3) (simU (VW w a b (roCs w a b ns) 3) 196) none (.call (.ref 881) ⟨[.ref (oc + B), .ref (nm + B)], []⟩) 5376922972258696880042651759262005445742153367147322379761088696298903329877811042998764316186789175915234593533913977075012531976267884503985559651536701833331605300611505754093908164257995084250596933989491722660475611359415419759233558508017287170 (mk f 22) .base [(nm, seqO "list" names m), (oc, seqO "list" octs no)] [] [])
    [∃ ps, roQ names ns (f 17) = PySem.Str.join sl ps ∧ FitP ps,
     (roVs names ns (f 17)).length ≤ 28 ∧ ∃ rest, roVs names ns (f 17) = rest.map strV ∧ rest ≠ [] ∧ (∀ c ∈ rest, NoSl c.1) ∧ EndsOk hereS ∧ hereS.length + sumLen rest ≤ 1000000,
     (⟨.str hereS (f 13) :: roVs names ns (f 17)⟩ : Array Value).size ≤ 1000,
     ∃ cs : List (Str × Tok), names.toList = cs.map strV ∧ cs.length = ns.length ∧ ns ≠ [] ∧ VarsAt (roBs octs) 0 ns ∧ ns.length ≤ 100,
     ∃ ks : List (Int × Nat), octs.toList = ks.map intV ∧ (∀ k ∈ ks, 0 ≤ k.1 ∧ k.1 < 256) ∧ ks.length ≤ 500]
    (.ret (.ok (.ret (.str (glued sl (nRun [] (cuts (roQ names ns (f 17))))) (f 21)))) [(nm, seqO "list" names m), (oc, seqO "list" octs no)]) := RunIs.of (by cases a <;> kernel_rfl)
end Mine
end

section
set_option maxRecDepth 100000
set_option linter.unusedVariables false
namespace Mine
open PySem PyProof.Rows PySem.W PySem.W.X
open PySem.Builtin PySem.Builtin.Str
noncomputable abbrev paCs (w : World) (a b : Bool) : List Con := [(plLJ (WW w a b).params).con, (kpLJ (WW w a b).params).con, riterJ.con, (llenJ (fun n => (n : Int)) (fun _ => True)).con, laddJ.con, minJ.con, lmulJ.con, sjoinJ.con]
noncomputable abbrev paW (names : Array Value) (t : Nat) : Array Value := #[.str hereS t] ++ names
noncomputable abbrev paL (ups : Array Value) (t x : Nat) : Array Value := ⟨.int 0 t :: (withI (lowsOf 1 ((unIs ups).map (·.1))) (decK (unIs ups).length x)).map intV⟩
noncomputable abbrev paH (ups : Array Value) : Int := highOf 1 ((unIs ups).map (·.1))
noncomputable abbrev paK (ups names : Array Value) (t6 t16 t17 : Nat) : Array Value := ⟨(keptZ (paH ups) (zipWL (paW names t17) (paL ups t6 t16))).map strV⟩
noncomputable abbrev paM (ups : Array Value) (t6 t16 : Nat) : Int := (minHd ((paL ups t6 t16).toList.map unI)).1
noncomputable abbrev paR (ups : Array Value) (t6 t16 t31 : Nat) : Array Value := ⟨List.replicate (-(paM ups t6 t16)).toNat (.str dd t31)⟩
noncomputable abbrev paI (ups names : Array Value) (t6 t16 t17 t31 : Nat) : Array Value := paR ups t6 t16 t31 ++ paK ups names t6 t16 t17
theorem run_place (w : World) (a b : Bool) (up nm m1 m2 : Nat) (ups names : Array Value) (f : Nat → Nat) : RunIs (codeU (VW w a b (paCs w a b) 3) (simU (VW w a b (paCs w a b) 3) 250) none (.call (.ref 886) ⟨[.ref (up + B), .ref (nm + B)], []⟩) 34667513028812185690055671244434852291059318730663939879944868176179371405402335898885436003128291096452214198211026426963539322327402554145885534744931962139402251042368969526713231152166045945540031043567790828219907523921385414009923093387947687347159243271687147941780414106938807036337998801732660539043959549822076136247553554498191362 (mk f 37) .base [(nm, seqO "list" names m1), (up, seqO "list" ups m2)] [] [])
    [∃ l, (paI ups names (f 6) (f 16) (f 17) (f 31)).toList = strValues l ∧ tooLong ((l.map (·.1)).toArray.foldl (· + ·.length + sl.length) 0) = false ∧ (glued sl (l.map (·.1))).length ≤ sizeLine,
     (paR ups (f 6) (f 16) (f 31)).size + (paK ups names (f 6) (f 16) (f 17)).size ≤ sizeLine,
     0 ≤ -(paM ups (f 6) (f 16)), -(paM ups (f 6) (f 16)) ≤ 1000,
     ∃ ks, (paL ups (f 6) (f 16)).toList = ks.map intV ∧ ks ≠ [],
     ∃ (ws : List (Str × Tok)) (ls : List (Int × Nat)), (paW names (f 17)).toList = ws.map strV ∧ (paL ups (f 6) (f 16)).toList = ls.map intV ∧ ws.length = ls.length ∧ ws ≠ [] ∧ ws.length ≤ 100,
     (0 : Int) ≤ (paW names (f 17)).size, ((paW names (f 17)).size : Int) ≤ 1000, True, (paW names (f 17)).size < 2 ^ 62, (#[.str hereS (f 17)] : Array Value).size + names.size ≤ sizeLine,
     ∃ us : List (Int × Nat), ups.toList = us.map intV ∧ us ≠ [] ∧ us.length ≤ 100]
    (.ret (.ok (.ret (.str (glued sl ((paI ups names (f 6) (f 16) (f 17) (f 31)).toList.map fun v => (unV v).1)) (joinedT (paI ups names (f 6) (f 16) (f 17) (f 31)).toList (f 36))))) [(nm, seqO "list" names m1), (up, seqO "list" ups m2)]) := RunIs.of (by cases a <;> kernel_rfl)
end Mine
end

section
set_option maxRecDepth 100000
set_option linter.unusedVariables false
namespace Mine
open PySem PyProof.Rows PySem.W PySem.W.X
open PySem.Builtin PySem.Builtin.Str

def keptS (h : Int) : List (Str × Int) → List Str
  | [] => []
  | (c, l) :: r => match decide (mnHd (r.map (·.2) ++ [h]) > l) with
    | true => c :: keptS h r
    | false => keptS h r
theorem keptZ_map (h : Int) : ∀ r, (keptZ h r).map (·.1) = keptS h (r.map fun z => (z.1.1, z.2.1))
  | [] => rfl
  | (c, l) :: r => by
    have ih := keptZ_map h r
    have e : (r.map fun z => (z.1.1, z.2.1)).map (·.2) = r.map (·.2.1) := by rw [List.map_map]; rfl
    rw [List.map_cons]
    unfold keptZ keptS
    rw [e]
    cases decide (mnHd (r.map (·.2.1) ++ [h]) > l.1) with
    | true => exact congrArg (c.1 :: ·) ih
    | false => exact ih
theorem keptS_mem (h : Int) : ∀ (r : List (Str × Int)) (c : Str), c ∈ keptS h r → c ∈ r.map (·.1)
  | (d, l) :: r, c, hc => by
    unfold keptS at hc
    split at hc
    · rcases List.mem_cons.mp hc with rfl | hc
      · exact List.mem_cons_self ..
      · exact List.mem_cons_of_mem _ (keptS_mem h r c hc)
    · exact List.mem_cons_of_mem _ (keptS_mem h r c hc)
theorem keptS_len (h : Int) : ∀ (r : List (Str × Int)), (keptS h r).length ≤ r.length
  | [] => Nat.le_refl _
  | (d, l) :: r => by
    have := keptS_len h r
    unfold keptS
    split <;> simp only [List.length_cons] <;> omega
theorem zip_map2 : ∀ (xs : List (Str × Tok)) (ys : List (Int × Nat)), (xs.zip ys).map (fun z => (z.1.1, z.2.1)) = (xs.map (·.1)).zip (ys.map (·.1))
  | [], _ => by simp
  | _ :: _, [] => by simp
  | x :: r, y :: s => by simp only [List.zip_cons_cons, List.map_cons, zip_map2 r s]
theorem mnI_le : ∀ (r : List Int) (c : Int), mnI c r ≤ c
  | [], c => Int.le_refl _
  | u :: r, c => by
    unfold mnI
    cases h : decide (u < c) with
    | true => have := mnI_le r u; have := of_decide_eq_true h; show mnI u r ≤ c; omega
    | false => exact mnI_le r c
theorem mnI_ge (b : Int) : ∀ (r : List Int) (c : Int), b ≤ c → (∀ x ∈ r, b ≤ x) → b ≤ mnI c r
  | [], c, h, _ => h
  | u :: r, c, h, H => by
    unfold mnI
    cases decide (u < c) with
    | true => exact mnI_ge b r u (H u (List.mem_cons_self ..)) fun x hx => H x (List.mem_cons_of_mem _ hx)
    | false => exact mnI_ge b r c h fun x hx => H x (List.mem_cons_of_mem _ hx)
theorem lowsOf_ge : ∀ (us : List Int) (h : Int), (∀ u ∈ us, 0 ≤ u ∧ u ≤ 2) → ∀ x ∈ lowsOf h us, h - 2 * us.length ≤ x
  | u :: r, h, H, x, hx => by
    have hu := H u (List.mem_cons_self ..)
    rcases List.mem_cons.mp hx with rfl | hx
    · simp only [List.length_cons]; omega
    · have := lowsOf_ge r (h - u + 1) (fun y hy => H y (List.mem_cons_of_mem _ hy)) x hx
      simp only [List.length_cons]; omega

/-- the place that the law says -/
noncomputable def placeS (cs : List Str) (us : List Int) : List Str := List.replicate (-(mnHd (0 :: lowsOf 1 us))).toNat dd ++ keptS (highOf 1 us) ((hereS :: cs).zip (0 :: lowsOf 1 us))
noncomputable def placeT (cs : List Str) (us : List Int) : Str := glued sl (placeS cs us)
noncomputable def placeJ : Job (Array Value × Nat × Array Value × Nat) where
  lvl := 3
  need := 1
  ext := fun _ os => match os with
    | [⟨_, _, .seq ups m, _⟩, ⟨_, _, .seq names n, _⟩] => some (ups, m, names, n)
    | _ => none
  code := fun ids _ => .call (.ref 886) ⟨[.ref (at0 ids), .ref (at1 ids)], []⟩
  pre := fun _ d => [seqO "list" d.1 d.2.1, seqO "list" d.2.2.1 d.2.2.2]
  side := fun _ d => [∃ (us : List (Int × Nat)) (cs : List (Str × Tok)), d.1.toList = us.map intV ∧ d.2.2.1.toList = cs.map strV ∧ cs.length = us.length ∧ us ≠ [] ∧ us.length ≤ 20 ∧ (∀ u ∈ us, 0 ≤ u.1 ∧ u.1 ≤ 2) ∧ (∀ c ∈ cs, c.1.length ≤ 1000)]
  res := fun _ d xs => .ok (.ret (.str (placeT ((unA d.2.2.1).map (·.1)) ((unIs d.1).map (·.1))) (tk0 xs)))
  new := fun _ _ _ => []
  post := fun _ d _ => [seqO "list" d.1 d.2.1, seqO "list" d.2.2.1 d.2.2.2]
section
variable {w : World} {a b : Bool} {hT : Heap}
theorem place_ok (TK : TopK (WW w a b) hT) : ConOk pwT' (WW w a b) hT placeJ.con := Job.con_ok (fun ids d hl hs => by
  obtain ⟨ups, m, names, n⟩ := d
  match ids, hl with
  | [up, nm], _ =>
    obtain ⟨⟨us, cs, hu, hc, hlen, hne, hz, hu2, hc2⟩, _⟩ := hs
    have hu' : ups.toList = us.map intV := hu
    have hc' : names.toList = cs.map strV := hc
    have eu : unIs ups = us := by unfold unIs; rw [hu', unI_map]
    have ec : unA names = cs := by unfold unA; rw [hc', unV_map]
    have sz : sizeLine = 16777216 := by decide
    have C : Cons pwT' (WW w a b) hT (paCs w a b) := ⟨plL_ok TK, kpL_ok TK, riter_ok, llen_ok (fun n _ => rfl), ladd_ok, min_ok TK, lmul_ok, sjoin_ok, trivial⟩
    have nsz : names.size = us.length := by rw [← Array.length_toList, hc', List.length_map, hlen]
    have hWs : ∀ t, (paW names t).size = us.length + 1 := fun t => by simp [nsz]; omega
    have hL : ∀ t x, ∃ ls : List (Int × Nat), (paL ups t x).toList = ls.map intV ∧ ls.map (·.1) = 0 :: lowsOf 1 (us.map (·.1)) := fun t x => by
      refine ⟨(0, t) :: withI (lowsOf 1 (us.map (·.1))) (decK us.length x), ?_, ?_⟩
      · show Value.int 0 t :: (withI (lowsOf 1 ((unIs ups).map (·.1))) (decK (unIs ups).length x)).map intV = _
        rw [eu]; rfl
      · rw [List.map_cons, withI_fst]
    have hM : ∀ t x, paM ups t x = mnHd (0 :: lowsOf 1 (us.map (·.1))) := fun t x => by
      obtain ⟨ls, e1, e2⟩ := hL t x
      show (minHd ((paL ups t x).toList.map unI)).1 = _
      rw [e1, unI_map, minHd_fst, e2]
    have m0 : mnHd (0 :: lowsOf 1 (us.map (·.1))) ≤ 0 := mnI_le _ _
    have m1 : -1000 ≤ mnHd (0 :: lowsOf 1 (us.map (·.1))) := mnI_ge _ _ _ (by decide) fun x hx => by
      have := lowsOf_ge (us.map (·.1)) 1 (fun u hu => by obtain ⟨y, hy, rfl⟩ := List.mem_map.mp hu; exact hu2 y hy) x hx
      rw [List.length_map] at this
      omega
    have hK : ∀ t6 t16 t17, ∃ l : List (Str × Tok), paK ups names t6 t16 t17 = ⟨l.map strV⟩ ∧ l.map (·.1) = keptS (highOf 1 (us.map (·.1))) ((hereS :: cs.map (·.1)).zip (0 :: lowsOf 1 (us.map (·.1)))) := fun t6 t16 t17 => by
      obtain ⟨ls, e1, e2⟩ := hL t6 t16
      refine ⟨_, rfl, ?_⟩
      have ew : unA (paW names t17) = (hereS, t17) :: cs := by
        show ((#[.str hereS t17] : Array Value) ++ names).toList.map unV = _
        rw [Array.toList_append, hc', List.map_append, unV_map]; rfl
      have el : unIs (paL ups t6 t16) = ls := by unfold unIs; rw [e1, unI_map]
      show (keptZ (paH ups) ((unA (paW names t17)).zip (unIs (paL ups t6 t16)))).map (·.1) = _
      rw [keptZ_map, zip_map2, ew, el, e2]
      show keptS (highOf 1 ((unIs ups).map (·.1))) _ = _
      rw [eu]; rfl
    have hI : ∀ t6 t16 t17 t31, ∃ l : List (Str × Tok), (paI ups names t6 t16 t17 t31).toList = strValues l ∧ l.map (·.1) = placeS (cs.map (·.1)) (us.map (·.1)) := fun t6 t16 t17 t31 => by
      obtain ⟨l, e1, e2⟩ := hK t6 t16 t17
      refine ⟨List.replicate (-(paM ups t6 t16)).toNat (dd, t31) ++ l, ?_, ?_⟩
      · show (paR ups t6 t16 t31 ++ paK ups names t6 t16 t17).toList = (_ : List (Str × Tok)).map _
        rw [e1, Array.toList_append, List.map_append, List.map_replicate]; rfl
      · rw [List.map_append, e2, List.map_replicate, hM]; rfl
    have hP : ∀ y ∈ placeS (cs.map (·.1)) (us.map (·.1)), y.length ≤ 1000 := fun y hy => by
      rcases List.mem_append.mp hy with h | h
      · rw [(List.mem_replicate.mp h).2]; decide
      · have := keptS_mem _ _ _ h
        obtain ⟨z, hz, rfl⟩ := List.mem_map.mp this
        rcases List.mem_cons.mp (List.of_mem_zip hz).1 with e | e
        · rw [e]; decide
        · obtain ⟨q, hq, e⟩ := List.mem_map.mp e; rw [← e]; exact hc2 q hq
    have hPl : (placeS (cs.map (·.1)) (us.map (·.1))).length ≤ 1100 := by
      unfold placeS
      rw [List.length_append, List.length_replicate]
      have := keptS_len (highOf 1 (us.map (·.1))) ((hereS :: cs.map (·.1)).zip (0 :: lowsOf 1 (us.map (·.1))))
      rw [List.length_zip, List.length_cons, List.length_map] at this
      omega
    have eo : ∀ xs, placeJ.out [up, nm] (ups, m, names, n) xs = (.ok (.ret (.str (placeT (cs.map (·.1)) (us.map (·.1))) (tk0 xs))), [(up, seqO "list" ups m), (nm, seqO "list" names n)]) := fun xs => by
      show (Except.ok (Flow.ret (.str (placeT ((unA names).map (·.1)) ((unIs ups).map (·.1))) _)), _) = _
      rw [eu, ec]; rfl
    have S : SegOk pwT' (WW w a b) hT 3 1 (.call (.ref 886) ⟨[.ref (up + B), .ref (nm + B)], []⟩) [(nm, seqO "list" names n), (up, seqO "list" ups m)]
        (fun xs => (.ok (.ret (.str (placeT (cs.map (·.1)) (us.map (·.1))) (tk0 xs))), [(nm, seqO "list" names n), (up, seqO "list" ups m)])) := by
      refine SegOk.of_run (V := VW w a b (paCs w a b) 3) (uok TK) (conOf_ok C) (show 1 ≤ 3 by decide) (run_place w a b up nm n m ups names) (fun f => ?_) (fun f => ?_)
      · obtain ⟨ls, e1, e2⟩ := hL (f 6) (f 16)
        obtain ⟨l, e3, e4⟩ := hI (f 6) (f 16) (f 17) (f 31)
        obtain ⟨k, e5, e6⟩ := hK (f 6) (f 16) (f 17)
        have hk : (paK ups names (f 6) (f 16) (f 17)).size ≤ 1100 := by
          rw [e5]
          show (k.map strV).length ≤ _
          rw [List.length_map, ← List.length_map (f := (·.1)), e6]
          have := keptS_len (highOf 1 (us.map (·.1))) ((hereS :: cs.map (·.1)).zip (0 :: lowsOf 1 (us.map (·.1))))
          rw [List.length_zip, List.length_cons, List.length_map] at this
          omega
        have e7 : ls.length = us.length + 1 := by rw [← List.length_map (f := (·.1)), e2, List.length_cons, lowsOf_len, List.length_map]
        refine ⟨⟨l, e3, ?_, ?_⟩, ?_, ?_, ?_, ⟨ls, e1, ?_⟩, ⟨(hereS, f 17) :: cs, ls, ?_, e1, ?_, by simp, ?_⟩, ?_, ?_, trivial, ?_, ?_, ⟨us, hu', hne, by omega⟩, trivial⟩
        · rw [e4]; exact PySem.StrLaws.joinFits hP (by rw [show sl.length = 1 from rfl]; omega)
        · rw [e4, PySem.StrLaws.glued_eq_join]
          have := join_len _ hP
          rw [sz]; omega
        · show (List.replicate _ _).length + _ ≤ _
          rw [List.length_replicate, hM, sz]; omega
        · rw [hM]; omega
        · rw [hM]; omega
        · intro z; rw [z] at e7; simp at e7
        · show ((#[.str hereS (f 17)] : Array Value) ++ names).toList = _
          rw [Array.toList_append, hc']; rfl
        · rw [e7, List.length_cons, hlen]
        · rw [List.length_cons, hlen]; omega
        · omega
        · rw [hWs]; omega
        · rw [hWs]; have : (2 : Nat) ^ 62 > 1000 := by decide
          omega
        · rw [nsz, sz]; show 1 + _ ≤ _; omega
      · obtain ⟨l, e3, e4⟩ := hI (f 6) (f 16) (f 17) (f 31)
        refine ⟨[joinedT (paI ups names (f 6) (f 16) (f 17) (f 31)).toList (f 36)], rfl, ?_⟩
        have e5 : (paI ups names (f 6) (f 16) (f 17) (f 31)).toList.map (fun v => (unV v).1) = placeS (cs.map (·.1)) (us.map (·.1)) := by rw [e3, strValues_un, e4]
        rw [e5]; rfl
    exact SegOk.perm S (List.Perm.swap _ _ _) (fun xs => ⟨by rw [eo], by rw [eo]; exact List.Perm.swap _ _ _⟩)) (fun _ _ _ => rfl)
end
end Mine
end

section
set_option maxRecDepth 100000
set_option linter.unusedVariables false
namespace Mine
open PySem PyProof.Rows PySem.W PySem.W.X
open PySem.Builtin PySem.Builtin.Str

/-- the parts of a round behind "here" -/
noncomputable def rdT : List Str → List Int → List Str
  | c :: cs, n :: ns => List.replicate (upsI n).toNat dd ++ c :: rdT cs ns
  | _, _ => []
theorem lrTail_str : ∀ (cs : List (Str × Tok)) (ns : List Int) (ts : List Nat), cs.length = ns.length → ∃ l : List (Str × Tok), lrTail (cs.zip ns) ts = l.map strV ∧ l.map (·.1) = rdT (cs.map (·.1)) ns
  | [], [], ts, _ => ⟨[], by cases ts <;> rfl, rfl⟩
  | c :: cs, n :: ns, t :: ts, h => by
    obtain ⟨l, e1, e2⟩ := lrTail_str cs ns ts (by simpa using h)
    refine ⟨List.replicate (upsI n).toNat (dd, t) ++ c :: l, ?_, ?_⟩
    · show List.replicate (upsI n).toNat (.str dd t) ++ strV c :: lrTail (cs.zip ns) ts = _
      rw [e1, List.map_append, List.map_replicate]; rfl
    · show _ = List.replicate (upsI n).toNat dd ++ c.1 :: rdT (cs.map (·.1)) ns
      rw [List.map_append, List.map_replicate, ← e2]; rfl
  | c :: cs, n :: ns, [], h => by
    obtain ⟨l, e1, e2⟩ := lrTail_str cs ns [] (by simpa using h)
    refine ⟨List.replicate (upsI n).toNat (dd, 0) ++ c :: l, ?_, ?_⟩
    · show List.replicate (upsI n).toNat (.str dd 0) ++ strV c :: lrTail (cs.zip ns) [] = _
      rw [e1, List.map_append, List.map_replicate]; rfl
    · show _ = List.replicate (upsI n).toNat dd ++ c.1 :: rdT (cs.map (·.1)) ns
      rw [List.map_append, List.map_replicate, ← e2]; rfl
theorem glueUp_join : ∀ (l : List (Str × Tok)) (q : Str), glueUp q l = PySem.Str.join sl (q :: l.map (·.1))
  | [], q => rfl
  | c :: r, q => by
    show glueUp (q ++ (sl ++ c.1)) r = _
    rw [glueUp_join r]
    have := PySem.StrLaws.join_shift sl q c.1 (r.map (·.1))
    rw [PySem.Str.append_assoc] at this
    exact this
theorem nRun_app : ∀ (l m : List Str) (st : List Str), nRun st (l ++ m) = nRun (nRun st l) m
  | [], m, st => rfl
  | c :: r, m, st => nRun_app r m (nStep st c)
theorem rdT_last : ∀ (cs : List Str) (ns : List Int), cs.length = ns.length → cs ≠ [] → ∃ l c, rdT cs ns = l ++ [c] ∧ c ∈ cs
  | [], _, _, h => absurd rfl h
  | c :: cs, n :: ns, hl, _ => by
    cases cs with
    | nil =>
      cases ns with
      | nil => exact ⟨List.replicate (upsI n).toNat dd, c, rfl, List.mem_cons_self ..⟩
      | cons => simp at hl
    | cons d ds =>
      obtain ⟨l, e, h1, h2⟩ := rdT_last (d :: ds) ns (by simpa using hl) (by simp)
      refine ⟨List.replicate (upsI n).toNat dd ++ c :: l, e, ?_, List.mem_cons_of_mem _ h2⟩
      show List.replicate _ _ ++ c :: rdT (d :: ds) ns = _
      rw [h1]; simp
theorem rdT_mem : ∀ (cs : List Str) (ns : List Int) (x : Str), x ∈ rdT cs ns → x = dd ∨ x ∈ cs
  | [], _, x, h => by simp [rdT] at h
  | _ :: _, [], x, h => by simp [rdT] at h
  | c :: cs, n :: ns, x, h => by
    have h' : x ∈ List.replicate (upsI n).toNat dd ++ c :: rdT cs ns := h
    rcases List.mem_append.mp h' with h | h
    · exact .inl (List.eq_of_mem_replicate h)
    · rcases List.mem_cons.mp h with h | h
      · exact .inr (by rw [h]; exact List.mem_cons_self ..)
      · rcases rdT_mem cs ns x h with h | h
        · exact .inl h
        · exact .inr (List.mem_cons_of_mem _ h)
theorem rdT_len : ∀ (cs : List Str) (ns : List Int), (∀ n ∈ ns, 0 ≤ n) → cs.length = ns.length → cs.length ≤ (rdT cs ns).length ∧ (rdT cs ns).length ≤ 3 * cs.length
  | [], [], _, _ => ⟨Nat.le_refl _, Nat.le_refl _⟩
  | c :: cs, n :: ns, h, hl => by
    have ih := rdT_len cs ns (fun x hx => h x (List.mem_cons_of_mem _ hx)) (by simpa using hl)
    have hu := ups_small (h n (List.mem_cons_self ..))
    show _ ≤ (List.replicate (upsI n).toNat dd ++ c :: rdT cs ns).length ∧ (List.replicate (upsI n).toNat dd ++ c :: rdT cs ns).length ≤ _
    simp only [List.length_append, List.length_replicate, List.length_cons]
    omega
theorem glued_pos {ps : List Str} {c : Str} (h : c ∈ ps) (hc : c.length ≠ 0) : (glued sl ps).length ≠ 0 := by
  rw [PySem.size_glued]
  have : ∀ (l : List Str), c ∈ l → c.length ≤ (l.map (·.length)).sum := by
    intro l
    induction l with
    | nil => intro h; cases h
    | cons x r ih =>
      intro h
      rw [List.map_cons, List.sum_cons]
      rcases List.mem_cons.mp h with h | h
      · rw [h]; omega
      · have := ih h; omega
  have := this ps h
  omega
end Mine
end

section
set_option maxRecDepth 100000
set_option linter.unusedVariables false
namespace Mine
open PySem PyProof.Rows PySem.W PySem.W.X
open PySem.Builtin PySem.Builtin.Str

/-- a name fit for a path -/
def NameOk (c : Str) : Prop := NoSl c ∧ c.length ≤ 1000 ∧ (c.cps.toList == (⟨⟨[46]⟩⟩ : Str).cps.toList) = false ∧ isD c = false
theorem fit_round {cs : List Str} {ns : List Int} (hl : cs.length = ns.length) (h2 : 1 ≤ cs.length) (h8 : cs.length ≤ 9) (hn : ∀ n ∈ ns, 0 ≤ n) (hc : ∀ c ∈ cs, NameOk c) : FitP (hereS :: rdT cs ns) := by
  have hlen := rdT_len cs ns hn hl
  obtain ⟨l, c, e, hm⟩ := rdT_last cs ns hl (by intro z; rw [z] at h2; simp at h2)
  have hcc := hc c hm
  refine ⟨by simp; omega, by simp; omega, fun p hp => ?_, ⟨hereS, rdT cs ns, rfl, by decide⟩, ?_⟩
  · rcases List.mem_cons.mp hp with h | h
    · rw [h]; exact ⟨⟨by decide, by decide⟩, by decide, by decide⟩
    · rcases rdT_mem cs ns p h with h | h
      · rw [h]; exact ⟨⟨by decide, by decide⟩, by decide, by decide⟩
      · have := hc p h; exact ⟨this.1, this.2.1, this.2.2.1⟩
  · have : nRun [] (hereS :: rdT cs ns) = nRun [] (hereS :: l) ++ [c] := by
      rw [e, ← List.cons_append, nRun_app]
      show nStep _ c = _
      unfold nStep
      rw [hcc.2.2.2]
    rw [this]
    exact glued_pos (List.mem_append_right _ (List.mem_singleton.mpr rfl)) hcc.1.ends.pos
/-- the text of a round -/
noncomputable def roundTxt (names : List Str) (ns : List Int) : Str := glued sl (nRun [] (hereS :: rdT names ns))
noncomputable def roundJ (ns : List Int) : Job (Array Value × Nat × Array Value × Nat) where
  lvl := 3
  need := 1
  ext := fun _ os => match os with
    | [⟨_, _, .seq octs no, _⟩, ⟨_, _, .seq names m, _⟩] => some (octs, no, names, m)
    | _ => none
  code := fun ids _ => .call (.ref 881) ⟨[.ref (at0 ids), .ref (at1 ids)], []⟩
  pre := fun _ d => [seqO "list" d.1 d.2.1, seqO "list" d.2.2.1 d.2.2.2]
  side := fun _ d => [∃ cs : List (Str × Tok), d.2.2.1.toList = cs.map strV ∧ cs.length = ns.length ∧ 1 ≤ ns.length ∧ ns.length ≤ 9 ∧ (∀ c ∈ cs, NameOk c.1) ∧ (∀ n ∈ ns, 0 ≤ n) ∧ VarsAt (roBs d.1) 0 ns ∧
    ∃ ks : List (Int × Nat), d.1.toList = ks.map intV ∧ (∀ k ∈ ks, 0 ≤ k.1 ∧ k.1 < 256) ∧ ks.length ≤ 500]
  res := fun _ d xs => .ok (.ret (.str (roundTxt (d.2.2.1.toList.map fun v => (unV v).1) ns) (tk0 xs)))
  new := fun _ _ _ => []
  post := fun _ d _ => [seqO "list" d.1 d.2.1, seqO "list" d.2.2.1 d.2.2.2]
section
variable {w : World} {a b : Bool} {hT : Heap}
theorem round_ok (TK : TopK (WW w a b) hT) (ns : List Int) : ConOk pwT' (WW w a b) hT (roundJ ns).con := Job.con_ok (fun ids d hl hs => by
  obtain ⟨octs, no, names, m⟩ := d
  match ids, hl with
  | [oc, nm], _ =>
    obtain ⟨⟨cs, hi, hlen, l1, l9, hok, hn, hv, ks, hk, hkr, hkl⟩, _⟩ := hs
    have hi' : names.toList = cs.map strV := hi
    have eu : unA names = cs := by unfold unA; rw [hi', unV_map]
    have en : names.toList.map (fun v => (unV v).1) = cs.map (·.1) := by
      rw [hi']; exact strValues_un cs
    have C : Cons pwT' (WW w a b) hT (roCs w a b ns) := ⟨bytesL_ok TK.size, lrL_ok TK ns, liadd_ok TK.size, join_ok TK, norm_ok TK, trivial⟩
    have F := fit_round (cs := cs.map (·.1)) (ns := ns) (by rw [List.length_map]; exact hlen) (by rw [List.length_map]; omega) (by rw [List.length_map]; omega) hn (fun c hc => by
      obtain ⟨x, hx, rfl⟩ := List.mem_map.mp hc; exact hok x hx)
    have hQ : ∀ x, ∃ l : List (Str × Tok), roVs names ns x = l.map strV ∧ l.map (·.1) = rdT (cs.map (·.1)) ns ∧ roQ names ns x = PySem.Str.join sl (hereS :: rdT (cs.map (·.1)) ns) := fun x => by
      obtain ⟨l, e1, e2⟩ := lrTail_str cs ns (decK ns.length x) hlen
      have e3 : roVs names ns x = l.map strV := by show lrTail ((unA names).zip ns) _ = _; rw [eu]; exact e1
      refine ⟨l, e3, e2, ?_⟩
      show glueUp hereS ((roVs names ns x).map unV) = _
      rw [e3, unV_map, glueUp_join, e2]
    have hlenR := rdT_len (cs.map (·.1)) ns hn (by rw [List.length_map]; exact hlen)
    rw [List.length_map] at hlenR
    have hcut : ∀ x, cuts (roQ names ns x) = hereS :: rdT (cs.map (·.1)) ns := fun x => by
      obtain ⟨l, _, _, e⟩ := hQ x
      rw [e]
      refine cuts_join (by simp) (fun p hp m => (F.ok p hp).1.2 47 m rfl) ?_
      cases hr : rdT (cs.map (·.1)) ns with
      | nil => have q := hlenR.1; rw [hr] at q; have q' : cs.length ≤ 0 := q; omega
      | cons y r =>
        show (hereS ++ sl ++ PySem.Str.join sl (y :: r)).length ≠ 0
        rw [len_app, len_app, show hereS.length = 4 from rfl]; omega
    have S : SegOk pwT' (WW w a b) hT 3 1 (.call (.ref 881) ⟨[.ref (oc + B), .ref (nm + B)], []⟩) [(nm, seqO "list" names m), (oc, seqO "list" octs no)]
        (fun xs => (.ok (.ret (.str (roundTxt (cs.map (·.1)) ns) (tk0 xs))), [(nm, seqO "list" names m), (oc, seqO "list" octs no)])) := by
      refine SegOk.of_run (V := VW w a b (roCs w a b ns) 3) (uok TK) (conOf_ok C) (show 1 ≤ 3 by decide) (run_round w a b oc nm m no octs names ns) (fun f => ?_) (fun f => ⟨[f 21], rfl, by rw [hcut]; rfl⟩)
      obtain ⟨l, e1, e2, e3⟩ := hQ (f 17)
      have hll : l.length = (rdT (cs.map (·.1)) ns).length := by rw [← e2, List.length_map]
      have hlok : ∀ c ∈ l, NoSl c.1 ∧ c.1.length ≤ 1000 := fun c hc => by
        have : c.1 ∈ hereS :: rdT (cs.map (·.1)) ns := List.mem_cons_of_mem _ (by rw [← e2]; exact List.mem_map_of_mem hc)
        exact ⟨(F.ok _ this).1, (F.ok _ this).2.1⟩
      have hsum : ∀ (z : List (Str × Tok)), (∀ c ∈ z, c.1.length ≤ 1000) → sumLen z ≤ 1001 * z.length := by
        intro z
        induction z with
        | nil => intro _; exact Nat.le_refl _
        | cons y r ih =>
          intro h
          have h1 := h y (List.mem_cons_self ..)
          have h2 := ih fun c hc => h c (List.mem_cons_of_mem _ hc)
          show y.1.length + 1 + sumLen r ≤ _
          simp only [List.length_cons]; omega
      have hs2 := hsum l fun c hc => (hlok c hc).2
      refine ⟨⟨_, e3, F⟩, ⟨?_, l, e1, ?_, fun c hc => (hlok c hc).1, ⟨by decide, by decide⟩, ?_⟩, ?_, ⟨cs, hi', hlen, ?_, hv, by omega⟩, ⟨ks, hk, hkr, hkl⟩, trivial⟩
      · rw [e1, List.length_map, hll]; omega
      · intro z; rw [z] at hll; have q : 0 = (rdT (cs.map (·.1)) ns).length := hll; omega
      · rw [show hereS.length = 4 from rfl]; omega
      · show (_ :: roVs names ns (f 17)).length ≤ 1000
        rw [e1, List.length_cons, List.length_map, hll]; omega
      · intro z; rw [z] at l1; simp at l1
    refine SegOk.perm S (List.Perm.swap _ _ _) (fun xs => ⟨?_, ?_⟩)
    · show Except.ok (Flow.ret (.str (roundTxt (names.toList.map fun v => (unV v).1) ns) _)) = _
      rw [en]
    · exact List.Perm.swap _ _ _) (fun _ _ _ => rfl)
end
end Mine
end

section
set_option maxRecDepth 100000
set_option linter.unusedVariables false
namespace Mine
open PySem PyProof.Rows PySem.W PySem.W.X
open PySem.Builtin PySem.Builtin.Str
/-! the stack that normpath keeps is the place that the law says -/
theorem mnI_gt (l : Int) : ∀ (r : List Int) (c : Int), l < mnI c r ↔ l < c ∧ ∀ y ∈ r, l < y
  | [], c => by simp [mnI]
  | u :: r, c => by
    unfold mnI
    cases h : decide (u < c) with
    | true =>
      have := of_decide_eq_true h
      show l < mnI u r ↔ _
      rw [mnI_gt l r u]
      simp only [List.mem_cons, forall_eq_or_imp]
      exact ⟨fun ⟨a, b⟩ => ⟨by omega, a, b⟩, fun ⟨_, a, b⟩ => ⟨a, b⟩⟩
    | false =>
      have := of_decide_eq_false h
      show l < mnI c r ↔ _
      rw [mnI_gt l r c]
      simp only [List.mem_cons, forall_eq_or_imp]
      exact ⟨fun ⟨a, b⟩ => ⟨a, by omega, b⟩, fun ⟨a, _, b⟩ => ⟨a, b⟩⟩
theorem mnHd_gt (l : Int) (a : List Int) (h : a ≠ []) : l < mnHd a ↔ ∀ y ∈ a, l < y := by
  cases a with
  | nil => exact absurd rfl h
  | cons c r => show l < mnI c r ↔ _; rw [mnI_gt]; simp only [List.mem_cons, forall_eq_or_imp]
theorem mnI_snoc (x : Int) : ∀ (r : List Int) (c : Int), mnI c (r ++ [x]) = if x < mnI c r then x else mnI c r
  | [], c => by
    show (match decide (x < c) with | true => x | false => c) = if x < c then x else c
    by_cases h : x < c <;> simp [h]
  | u :: r, c => by
    show (match decide (u < c) with | true => mnI u (r ++ [x]) | false => mnI c (r ++ [x])) = if x < (match decide (u < c) with | true => mnI u r | false => mnI c r) then x else (match decide (u < c) with | true => mnI u r | false => mnI c r)
    cases decide (u < c) with
    | true => exact mnI_snoc x r u
    | false => exact mnI_snoc x r c
theorem mnHd_snoc (x : Int) (a : List Int) (h : a ≠ []) : mnHd (a ++ [x]) = if x < mnHd a then x else mnHd a := by
  cases a with
  | nil => exact absurd rfl h
  | cons c r => exact mnI_snoc x r c
def keptQ (h : Int) : List (Str × Int) → List (Str × Int)
  | [] => []
  | z :: r => match decide (mnHd (r.map (·.2) ++ [h]) > z.2) with
    | true => z :: keptQ h r
    | false => keptQ h r
theorem keptQ_map (h : Int) : ∀ Z, (keptQ h Z).map (·.1) = keptS h Z
  | [] => rfl
  | (c, l) :: r => by
    unfold keptQ keptS
    dsimp only
    cases decide (mnHd (r.map (·.2) ++ [h]) > l) with
    | true => exact congrArg (c :: ·) (keptQ_map h r)
    | false => exact keptQ_map h r
theorem keptQ_lt (h : Int) : ∀ Z, ∀ z ∈ keptQ h Z, z.2 < h
  | [], z, hz => nomatch hz
  | y :: r, z, hz => by
    unfold keptQ at hz
    cases hd : decide (mnHd (r.map (·.2) ++ [h]) > y.2) with
    | true =>
      rw [hd] at hz
      have := (mnHd_gt _ _ (by simp)).mp (of_decide_eq_true hd)
      rcases List.mem_cons.mp hz with rfl | hz
      · exact this h (by simp)
      · exact keptQ_lt h r z hz
    | false => rw [hd] at hz; exact keptQ_lt h r z hz
theorem keptQ_snoc (c : Str) (x h : Int) (hx : x ≤ h) : ∀ Z, keptQ (x + 1) (Z ++ [(c, x)]) = (keptQ h Z).filter (fun z => decide (z.2 < x)) ++ [(c, x)]
  | [] => by
    show (match decide (mnHd (([] : List (Str × Int)).map (·.2) ++ [x + 1]) > x) with | true => (c, x) :: keptQ (x + 1) [] | false => keptQ (x + 1) []) = _
    have : decide (mnHd (([] : List (Str × Int)).map (·.2) ++ [x + 1]) > x) = true := decide_eq_true (by show x < x + 1; omega)
    rw [this]; rfl
  | z :: r => by
    have ih := keptQ_snoc c x h hx r
    show (match decide (mnHd ((r ++ [(c, x)]).map (·.2) ++ [x + 1]) > z.2) with | true => z :: keptQ (x + 1) (r ++ [(c, x)]) | false => keptQ (x + 1) (r ++ [(c, x)])) = (match decide (mnHd (r.map (·.2) ++ [h]) > z.2) with | true => z :: keptQ h r | false => keptQ h r : List (Str × Int)).filter (fun z => decide (z.2 < x)) ++ [(c, x)]
    have e1 := mnHd_gt z.2 ((r ++ [(c, x)]).map (·.2) ++ [x + 1]) (by simp)
    have e2 := mnHd_gt z.2 (r.map (·.2) ++ [h]) (by simp)
    simp only [List.map_append, List.map_cons, List.map_nil, List.mem_append, List.mem_cons, List.not_mem_nil, or_false] at e1 e2
    have e3 : mnHd ((r ++ [(c, x)]).map (·.2) ++ [x + 1]) > z.2 ↔ (mnHd (r.map (·.2) ++ [h]) > z.2 ∧ z.2 < x) := by
      rw [gt_iff_lt, gt_iff_lt, List.map_append, List.map_cons, List.map_nil, e1, e2]
      constructor
      · intro q
        have qx := q x (.inl (.inr rfl))
        exact ⟨fun y hy => hy.elim (fun hy => q y (.inl (.inl hy))) (fun e => by omega), qx⟩
      · rintro ⟨q, qx⟩ y hy
        rcases hy with (hy | rfl) | rfl
        · exact q y (.inl hy)
        · exact qx
        · omega
    by_cases h2 : mnHd (r.map (·.2) ++ [h]) > z.2
    · by_cases hz : z.2 < x
      · rw [decide_eq_true (e3.mpr ⟨h2, hz⟩), decide_eq_true h2]
        show z :: keptQ (x + 1) (r ++ [(c, x)]) = (z :: keptQ h r).filter _ ++ _
        rw [ih, List.filter_cons_of_pos (by simpa using hz)]; rfl
      · rw [decide_eq_false (fun q => hz (e3.mp q).2), decide_eq_true h2]
        show keptQ (x + 1) (r ++ [(c, x)]) = (z :: keptQ h r).filter _ ++ _
        rw [ih, List.filter_cons_of_neg (by simpa using hz)]
    · rw [decide_eq_false (fun q => h2 (e3.mp q).1), decide_eq_false h2]
      exact ih
/-! the stack -/
theorem isD_dd : isD dd = true := rfl
theorem nStep_c {c : Str} (h : isD c = false) (st : List Str) : nStep st c = st ++ [c] := by unfold nStep; rw [h]
theorem nStep_nil (k : Nat) : nStep (List.replicate k dd) dd = List.replicate (k + 1) dd := by
  rw [List.replicate_succ']
  unfold nStep
  rw [isD_dd]
  cases k with
  | zero => rfl
  | succ k =>
    have : (List.replicate (k + 1) dd).getLast? = some dd := by rw [List.replicate_succ', List.getLast?_concat]
    dsimp only
    rw [this]
    dsimp only
    rw [isD_dd]
theorem nStep_snoc (a : List Str) {x : Str} (hx : isD x = false) : nStep (a ++ [x]) dd = a := by
  unfold nStep
  rw [isD_dd]
  dsimp only
  rw [List.getLast?_concat]
  dsimp only
  rw [hx]
  dsimp only
  rw [List.dropLast_concat]
theorem nRun_d : ∀ (u k : Nat) (l : List Str), (∀ x ∈ l, isD x = false) → nRun (List.replicate k dd ++ l) (List.replicate u dd) = List.replicate (k + (u - l.length)) dd ++ l.take (l.length - u)
  | 0, k, l, _ => by rw [Nat.zero_sub, Nat.sub_zero, List.take_length]; rfl
  | u + 1, k, l, hl => by
    rw [List.replicate_succ]
    show nRun (nStep (List.replicate k dd ++ l) dd) (List.replicate u dd) = _
    rcases List.eq_nil_or_concat l with rfl | ⟨l', x, rfl⟩
    · have ih := nRun_d u (k + 1) [] hl
      rw [List.append_nil] at ih
      rw [List.append_nil, nStep_nil, ih, List.length_nil, Nat.sub_zero, Nat.sub_zero, Nat.add_assoc, Nat.add_comm 1 u, List.take_nil, List.take_nil]
    · rw [List.concat_eq_append] at hl ⊢
      have ih := nRun_d u k l' fun y hy => hl y (List.mem_append_left _ hy)
      rw [← List.append_assoc, nStep_snoc _ (hl x (List.mem_append_right _ (List.mem_singleton.mpr rfl))), ih, List.length_append, List.length_singleton, Nat.succ_sub_succ, Nat.succ_sub_succ, List.take_append_of_le_length (Nat.sub_le ..)]
noncomputable def rdU : List Str → List Int → List Str
  | c :: cs, u :: us => List.replicate u.toNat dd ++ c :: rdU cs us
  | _, _ => []
theorem rdT_U : ∀ (cs : List Str) (ns : List Int), rdT cs ns = rdU cs (ns.map upsI)
  | c :: cs, n :: ns => by
    show List.replicate (upsI n).toNat dd ++ c :: rdT cs ns = List.replicate (upsI n).toNat dd ++ c :: rdU cs (ns.map upsI)
    rw [rdT_U cs ns]
  | [], _ => by simp [rdT, rdU]
  | _ :: _, [] => by simp [rdT, rdU]
theorem st_ar (n k : Nat) (u h : Int) (hu : 0 ≤ u) (hh : h = n - k) : ∃ d k' : Nat, n - u.toNat = d ∧ k + (u.toNat - n) = k' ∧ h - u = d - k' ∧ (h - u + k).toNat = d ∧ (k' = k ∨ d = 0) ∧ d ≤ n ∧ k ≤ k' := by
  obtain ⟨v, rfl⟩ := Int.eq_ofNat_of_zero_le hu
  subst hh
  rw [Int.toNat_natCast]
  rcases Nat.le_total v n with q | q
  · obtain ⟨d, rfl⟩ := Nat.exists_eq_add_of_le q
    exact ⟨d, k, by omega, by omega, by omega, by omega, .inl rfl, by omega, Nat.le_refl _⟩
  · obtain ⟨e, rfl⟩ := Nat.exists_eq_add_of_le q
    exact ⟨0, k + e, by omega, by omega, by omega, by omega, .inr rfl, Nat.zero_le _, by omega⟩
theorem ar2 {d k' : Nat} {x y : Int} (e : x = d - k') (h : x < y) : d + 1 ≤ (y + k').toNat := by omega
theorem ar3 {d k' : Nat} {x y : Int} (e : x = d - k') (h : ¬ x < y) : (y + k').toNat ≤ d := by omega
theorem ar4 {k : Nat} {x y : Int} (e : (x + k).toNat = 0) (h : ¬ x < y) : (y + k).toNat = 0 := by omega
theorem ar6 {d k' : Nat} {x : Int} (e : x = d - k') : x + 1 = ((d + 1 : Nat) : Int) - k' := by omega
theorem fl1 {c : Str} {x y : Int} (h : x < y) : [(c, x)].filter (fun z => decide (z.2 < y)) = [(c, x)] := List.filter_cons_of_pos (decide_eq_true h)
theorem fl0 {c : Str} {x y : Int} (h : ¬ x < y) : [(c, x)].filter (fun z => decide (z.2 < y)) = [] := List.filter_cons_of_neg (by rw [decide_eq_false h]; exact Bool.false_ne_true)
theorem ar5 {d k k' : Nat} {x : Int} (e : x = d - k') (e4 : (x + k).toNat = d) (e5 : k' = k ∨ d = 0) (hk : k ≤ k') : (if x < -(k : Int) then x else -(k : Int)) = -(k' : Int) := by
  split <;> omega
theorem flt1 {a x y : Int} (h : x < y) : (decide (a < y) && decide (a < x)) = decide (a < x) := by
  by_cases q : a < x
  · rw [decide_eq_true q, decide_eq_true (Int.lt_trans q h)]; rfl
  · rw [decide_eq_false q, Bool.and_false]
theorem flt2 {a x y : Int} (h : ¬ x < y) : (decide (a < y) && decide (a < x)) = decide (a < y) := by
  by_cases q : a < y
  · rw [decide_eq_true q, decide_eq_true (Int.lt_of_lt_of_le q (Int.not_lt.mp h))]; rfl
  · rw [decide_eq_false q, Bool.false_and]
theorem stack_run : ∀ (cs : List Str) (us : List Int) (k : Nat) (l : List Str) (Z : List (Str × Int)) (h : Int), cs.length = us.length → (∀ u ∈ us, 0 ≤ u) → (∀ c ∈ cs, isD c = false) → (∀ x ∈ l, isD x = false) →
    Z ≠ [] → h = l.length - k → mnHd (Z.map (·.2)) = -k → (∀ y : Int, ((keptQ h Z).filter (fun z => decide (z.2 < y))).map (·.1) = l.take (y + k).toNat) →
    nRun (List.replicate k dd ++ l) (rdU cs us) = List.replicate (-(mnHd ((Z ++ cs.zip (lowsOf h us)).map (·.2)))).toNat dd ++ keptS (highOf h us) (Z ++ cs.zip (lowsOf h us))
  | [], [], k, l, Z, h, _, _, _, _, _, hh, hm, hk => by
    show List.replicate k dd ++ l = List.replicate (-(mnHd ((Z ++ ([] : List Str).zip (lowsOf h [])).map (·.2)))).toNat dd ++ keptS h (Z ++ ([] : List Str).zip (lowsOf h []))
    have e : ([] : List Str).zip (lowsOf h []) = [] := rfl
    rw [e, List.append_nil, hm, ← keptQ_map]
    have hf : (keptQ h Z).filter (fun z => decide (z.2 < h)) = keptQ h Z := List.filter_eq_self.mpr fun z hz => decide_eq_true (keptQ_lt h Z z hz)
    have := hk h
    rw [hf] at this
    rw [this]
    have e1 : (- -(k : Int)).toNat = k := by omega
    have e2 : (h + k).toNat = l.length := by omega
    rw [e1, e2, List.take_length]
  | c :: cs, u :: us, k, l, Z, h, hlen, hu, hc, hl, hZ, hh, hm, hk => by
    have hu0 := hu u (List.mem_cons_self ..)
    have hc0 := hc c (List.mem_cons_self ..)
    show nRun (List.replicate k dd ++ l) (List.replicate u.toNat dd ++ c :: rdU cs us) = _
    rw [nRun_app, nRun_d _ _ _ hl]
    show nRun (nStep _ c) (rdU cs us) = _
    rw [nStep_c hc0, List.append_assoc]
    obtain ⟨d, k', e1, e2, e3, e4, e5, hd, hkk⟩ := st_ar l.length k u h hu0 hh
    have hxh : h - u ≤ h := Int.sub_le_self h hu0
    rw [e1, e2]
    have tl : (l.take d).length = d := List.length_take_of_le hd
    have tl1 : (l.take d ++ [c]).length = d + 1 := by rw [List.length_append, tl]; rfl
    have key := stack_run cs us k' (l.take d ++ [c]) (Z ++ [(c, h - u)]) (h - u + 1) (Nat.succ.inj hlen) (fun x hx => hu x (List.mem_cons_of_mem _ hx)) (fun x hx => hc x (List.mem_cons_of_mem _ hx))
      (fun x hx => (List.mem_append.mp hx).elim (fun hx => hl x (List.mem_of_mem_take hx)) (fun hx => by rw [List.mem_singleton.mp hx]; exact hc0))
      (List.append_ne_nil_of_right_ne_nil _ (List.cons_ne_nil _ _)) (by rw [tl1]; exact ar6 e3)
      (by rw [List.map_append, List.map_cons, List.map_nil, mnHd_snoc _ _ (fun q => hZ (List.map_eq_nil_iff.mp q)), hm]; exact ar5 e3 e4 e5 hkk)
      (fun y => by
        rw [keptQ_snoc c (h - u) h hxh, List.filter_append, List.map_append, List.filter_filter]
        by_cases hy : h - u < y
        · rw [List.filter_congr fun z _ => flt1 hy, hk (h - u), e4, fl1 hy, List.take_of_length_le (i := (y + (k' : Int)).toNat) (by rw [tl1]; exact ar2 e3 hy)]
          rfl
        · rw [List.filter_congr fun z _ => flt2 hy, hk y, fl0 hy, List.map_nil, List.append_nil, List.take_append_of_le_length (by rw [tl]; exact ar3 e3 hy), List.take_take, Nat.min_eq_left (ar3 e3 hy)]
          rcases e5 with rfl | rfl
          · rfl
          · rw [ar4 e4 hy, Nat.le_zero.mp (ar3 e3 hy)])
    rw [key]
    show _ = List.replicate (-(mnHd ((Z ++ (c, h - u) :: cs.zip (lowsOf (h - u + 1) us)).map (·.2)))).toNat dd ++ keptS (highOf (h - u + 1) us) (Z ++ (c, h - u) :: cs.zip (lowsOf (h - u + 1) us))
    rw [List.append_assoc]; rfl
theorem round_place (cs : List Str) (ns : List Int) (hl : cs.length = ns.length) (hn : ∀ n ∈ ns, 0 ≤ n) (hc : ∀ c ∈ cs, isD c = false) : nRun [] (hereS :: rdT cs ns) = placeS cs (ns.map upsI) := by
  have h0 : isD hereS = false := by decide
  show nRun (nStep [] hereS) (rdT cs ns) = _
  rw [nStep_c h0, rdT_U]
  have := stack_run cs (ns.map upsI) 0 [hereS] [(hereS, 0)] 1 (by simpa using hl) (fun u hu => by obtain ⟨n, hn', rfl⟩ := List.mem_map.mp hu; exact (ups_small (hn n hn')).1) hc (fun x hx => by rw [List.mem_singleton.mp hx]; exact h0) (by simp) (by simp) rfl
    (fun y => by
      show (((match decide (mnHd (([] : List (Str × Int)).map (·.2) ++ [1]) > 0) with | true => (hereS, (0 : Int)) :: keptQ 1 [] | false => keptQ 1 []) : List (Str × Int)).filter (fun z => decide (z.2 < y))).map (·.1) = _
      rw [show decide (mnHd (([] : List (Str × Int)).map (·.2) ++ [1]) > 0) = true from rfl]
      show ([(hereS, (0 : Int))].filter (fun z => decide (z.2 < y))).map (·.1) = _
      by_cases hy : 0 < y
      · rw [List.filter_cons_of_pos (by simpa using hy), List.take_of_length_le (by simp only [List.length_singleton]; omega)]; rfl
      · have : (y + ((0 : Nat) : Int)).toNat = 0 := by omega
        rw [List.filter_cons_of_neg (by simpa using hy), this]; rfl)
  unfold placeS
  have e : (hereS :: cs).zip (0 :: lowsOf 1 (ns.map upsI)) = [(hereS, (0 : Int))] ++ cs.zip (lowsOf 1 (ns.map upsI)) := rfl
  have hz : (([(hereS, (0 : Int))] ++ cs.zip (lowsOf 1 (ns.map upsI))).map (·.2)) = 0 :: lowsOf 1 (ns.map upsI) := by
    show 0 :: (cs.zip (lowsOf 1 (ns.map upsI))).map (·.2) = _
    congr 1
    exact List.map_snd_zip (by rw [lowsOf_len, List.length_map, hl]; exact Nat.le_refl _)
  rw [hz] at this
  rw [e]
  exact this
end Mine
end

section
set_option maxRecDepth 100000
set_option linter.unusedVariables false
namespace Mine
open PySem PySem.Spec PySem.Calls PyProof.Rows PySem.W PySem.W.X
/-! a loop that gathers, once for all -/

/-- a code goes on to another code -/
def StepOk (prog : Program) (w : World) (hT : Heap) (lvl need : Nat) (c : Code) (T : Slots) (next : List Nat → Code × Slots) : Prop :=
  ∀ need' out, (∀ ys : List Nat, ys.length = need → SegOk prog w hT lvl need' (next ys).1 (next ys).2 out) → SegOk prog w hT lvl need' c T out
section
variable {V : UV} {hT : Heap} {n : Nat} {c : Code} {hs k need : Nat} {T : Slots} {ps : (Nat → Nat) → List Prop} {T' : (Nat → Nat) → Slots} {c' : (Nat → Nat) → Code} {next : List Nat → Code × Slots}
theorem StepOk.of_run (O : UOk V hT) (OC : ∀ n con, V.con n = some con → ConOk V.prog V.w hT con) (h1 : 1 ≤ V.lvl)
    (H : ∀ f : Nat → Nat, RunIs (codeU V (simU V n) none c hs (mk f k) .base T [] []) (ps f) (.stop (c' f) (T' f)))
    (ha : ∀ f, Alls (ps f)) (ho : ∀ f, ∃ ys : List Nat, ys.length = need ∧ next ys = (c' f, T' f)) (hf : V.fr = none := by rfl) : StepOk V.prog V.w hT V.lvl need c T next := by
  intro need' out K
  refine SegOk.of_then O OC h1 H ha (fun f => ?_) hf
  obtain ⟨ys, hy, e⟩ := ho f
  have := K ys hy
  rw [e] at this
  exact this
end
theorem StepOk.lift {prog : Program} {w : World} {hT : Heap} {lvl need : Nat} {c : Code} {T : Slots} {out : List Nat → Result × Slots} {c₀ : Code} {T₀ : Slots} (S : StepOk prog w hT lvl 0 c₀ T₀ fun _ => (c, T)) (K : SegOk prog w hT lvl need c T out) : SegOk prog w hT lvl need c₀ T₀ out :=
  S need out fun _ _ => K

section
variable {prog : Program} {w : World} {hT : Heap} {lvl : Nat} {σ : Type}
/-- what the items' outputs are, each with its number -/
def flatO (outv : σ → Nat → List Value) : List σ → List Nat → List Value
  | x :: r, t :: ts => outv x t ++ flatO outv r ts
  | _, _ => []
theorem flatO_snoc (outv : σ → Nat → List Value) (x : σ) (t : Nat) : ∀ (a : List σ) (ts : List Nat), a.length = ts.length → flatO outv (a ++ [x]) (ts ++ [t]) = flatO outv a ts ++ outv x t
  | [], [], _ => by simp [flatO]
  | y :: r, u :: us, h => by
    show outv y u ++ flatO outv (r ++ [x]) (us ++ [t]) = outv y u ++ flatO outv r us ++ _
    rw [flatO_snoc outv x t r us (by simpa using h), List.append_assoc]
noncomputable def gT {δ : Type} (dk ac it : Nat) (dO : Option δ → Obj) (io : Obj) (X : Slots) (d : Option δ) (hd : List Value) : Slots := (dk, dO d) :: (ac, listO ⟨hd⟩ hd.length) :: (it, io) :: X
theorem gT_snoc {δ : Type} (dk ac it : Nat) (dO : Option δ → Obj) (io : Obj) (X : Slots) (d : Option δ) (hd : List Value) (o : Value) :
    gT dk ac it dO io X d (hd ++ [o]) = (dk, dO d) :: (ac, listO ((⟨hd⟩ : Array Value).push o) (hd.length + 1)) :: (it, io) :: X := by
  have e1 : (⟨hd⟩ : Array Value).push o = ⟨hd ++ [o]⟩ := by apply Array.ext'; simp
  have e2 : (hd ++ [o]).length = hd.length + 1 := by simp
  unfold gT
  rw [e1, e2]
/-- the items are gone through: each gives outv; d is what the loop's names hold, I what is known of it, nd what a turn makes of it -/
theorem gather {δ : Type} (lp : Code) (dk ac it : Nat) (dO : Option δ → Obj) (io : Nat → Obj) (ioE : Obj) (X : Slots) (xs : List σ) (outv : σ → Nat → List Value) (k : Nat) (nd : σ → Option δ → List Nat → δ) (I : Nat → δ → Prop) (dec : List Nat → δ) (kd : Nat) (hne : xs ≠ [])
    (hlen : ∀ x t, (outv x t).length ≤ 3)
    (hstep : ∀ i x hd d, xs[i]? = some x → hd.length ≤ 3 * i → i < xs.length → (∀ e, d = some e → I i e) → StepOk prog w hT lvl (k + 1) lp (gT dk ac it dO (io i) X d hd) (fun ys => (lp, gT dk ac it dO (io (i + 1)) X (some (nd x d (ys.drop 1))) (hd ++ outv x (ky ys 0)))))
    (hI : ∀ i x d ys, xs[i]? = some x → ys.length = k → (∀ e, d = some e → I i e) → I (i + 1) (nd x d ys))
    (hdec : ∀ e, I xs.length e → ∃ ys : List Nat, ys.length = kd ∧ e = dec ys)
    (hend : ∀ e hd, SegOk prog w hT lvl 0 lp (gT dk ac it dO (io xs.length) X (some e) hd) (fun _ => (.ok .next, gT dk ac it dO ioE X (some e) hd))) :
    SegOk prog w hT lvl (kd + 1) lp (gT dk ac it dO (io 0) X none []) (fun ys => (.ok .next, gT dk ac it dO ioE X (some (dec (ys.drop 1))) (flatO outv xs (decK xs.length (ky ys 0))))) := by
  have hl : ∀ (a : List σ) (us : List Nat), (flatO outv a us).length ≤ 3 * a.length := by
    intro a
    induction a with
    | nil => intro us; simp [flatO]
    | cons y r ih =>
      intro us
      cases us with
      | nil => simp [flatO]
      | cons v vs =>
        have h1 := hlen y v
        have h2 := ih vs
        simp only [flatO, List.length_append, List.length_cons]; omega
  have main : ∀ (n i : Nat) (e : δ) (ts : List Nat), i + n = xs.length → I i e → ts.length = i →
      SegOk prog w hT lvl (kd + 1) lp (gT dk ac it dO (io i) X (some e) (flatO outv (xs.take i) ts)) (fun ys => (.ok .next, gT dk ac it dO ioE X (some (dec (ys.drop 1))) (flatO outv xs (decK xs.length (ky ys 0))))) := by
    intro n
    induction n with
    | zero =>
      intro i e ts hi hIe ht
      have ei : i = xs.length := by omega
      subst ei
      rw [List.take_length]
      refine SegOk.mono (hend _ _) (Nat.le_refl _) fun _ _ => ?_
      obtain ⟨code, hc⟩ := decK_sur ts
      rw [ht] at hc
      obtain ⟨ys, hy, he⟩ := hdec e hIe
      refine ⟨code :: ys, by simp [hy], rfl, ?_⟩
      show gT _ _ _ _ _ _ (some (dec ys)) (flatO outv xs (decK xs.length code)) = _
      rw [hc, ← he]
    | succ n ih =>
      intro i e ts hi hIe ht
      have hlt : i < xs.length := by omega
      obtain ⟨x, hx⟩ : ∃ x, xs[i]? = some x := ⟨_, List.getElem?_eq_getElem hlt⟩
      have htake : xs.take (i + 1) = xs.take i ++ [x] := by rw [List.take_add_one, hx]; rfl
      have hl1 := hl (xs.take i) ts
      rw [List.length_take] at hl1
      have hI' : ∀ e', some e = some e' → I i e' := fun e' h => by cases h; exact hIe
      refine hstep i x _ _ hx (by omega) hlt hI' _ _ fun ys hy => ?_
      have key := ih (i + 1) (nd x (some e) (ys.drop 1)) (ts ++ [ky ys 0]) (by omega) (hI i x _ _ hx (by simp [hy]) hI') (by simp [ht])
      rw [htake, flatO_snoc outv x _ _ _ (by rw [List.length_take, ht]; omega)] at key
      exact key
  obtain ⟨x, hx⟩ : ∃ x, xs[0]? = some x := by
    cases xs with
    | nil => exact absurd rfl hne
    | cons x r => exact ⟨x, rfl⟩
  have hlt : 0 < xs.length := List.length_pos_iff.mpr hne
  have htake : xs.take 1 = [x] := by
    have : xs.take (0 + 1) = xs.take 0 ++ [x] := by rw [List.take_add_one, hx]; rfl
    simpa using this
  have hI' : ∀ e', (none : Option δ) = some e' → I 0 e' := fun e' h => nomatch h
  refine hstep 0 x [] none hx (by simp) hlt hI' _ _ fun ys hy => ?_
  have key := main (xs.length - 1) 1 (nd x none (ys.drop 1)) [ky ys 0] (by omega) (hI 0 x _ _ hx (by simp [hy]) hI') rfl
  rw [htake] at key
  have e : flatO outv [x] [ky ys 0] = [] ++ outv x (ky ys 0) := by simp [flatO]
  rw [e] at key
  exact key
end
end Mine
end

section
set_option maxRecDepth 100000
set_option linter.unusedVariables false
namespace Mine
open PySem PySem.Spec PySem.Calls PyProof.Rows PySem.W PySem.W.X
/-! comprehensions over a list, one name -/
noncomputable def kO (P : Params) (key : Str) : Option (Nat × Value) → Obj
  | none => dcO P [] 0
  | some e => dcO P [(key, e.1, e.2)] 1
noncomputable def itE (i : Int) : Obj := ⟨.type "list_iterator", none, .fields #[.none, .int i 0], #[]⟩
noncomputable def ndK (v : Value) (d : Option (Nat × Value)) (t : Nat) : Nat × Value := (match d with | some e => e.1 | none => t, v)
noncomputable abbrev liX (dl : Nat) (items : Array Value) (m : Nat) : Slots := [(dl, seqO "list" items m)]
noncomputable def lastOf {σ : Type} (val : σ → Value) (xs : List σ) : Value := (xs.getLast?.map val).getD .none
/-- ids: the names' dict, the list that is made, the iterator, the list that is gone through, the frame -/
noncomputable def compJ {σ : Type} (P : Params) (lvl : Nat) (st : Nat → Nat → Nat → Nat → Code) (key : Str) (un : Array Value → List σ) (val : σ → Value) (outv : σ → Nat → List Value) (S : Array Value → Prop) : Job (Array Value × Nat × Obj) where
  lvl := lvl
  need := 2
  ext := fun _ os => match os with
    | [_, _, _, ⟨_, _, .seq items m, _⟩, fo] => some (items, m, fo)
    | _ => none
  code := fun ids _ => st (ky ids 2) (ky ids 1) (ky ids 0) (ky ids 4)
  pre := fun ids d => [kO P key none, listO #[] 0, itO "list_iterator" (.ref (ky ids 3 + B)) 0, seqO "list" d.1 d.2.1, d.2.2]
  side := fun _ d => [S d.1]
  res := fun _ _ _ => .ok .next
  new := fun _ _ _ => []
  post := fun _ d xs => [kO P key (some (ky xs 1, lastOf val (un d.1))), listO ⟨flatO outv (un d.1) (decK (un d.1).length (ky xs 0))⟩ (flatO outv (un d.1) (decK (un d.1).length (ky xs 0))).length, itE (un d.1).length, seqO "list" d.1 d.2.1, d.2.2]
theorem ids5 {ids : List Nat} (h : ids.length = 5) : ∃ a b c d e, ids = [a, b, c, d, e] := ⟨_, _, _, _, _, ids_fn h⟩
section
variable {prog : Program} {w : World} {hT : Heap} {σ : Type}
theorem compJ_ok {P : Params} {lvl : Nat} {st lp : Nat → Nat → Nat → Nat → Code} {key : Str} {un : Array Value → List σ} {val : σ → Value} {outv : σ → Nat → List Value} {S : Array Value → Prop} (hlen : ∀ x t, (outv x t).length ≤ 3)
    (H0 : ∀ items, S items → un items ≠ [])
    (H1 : ∀ dk ac it dl fr items m, S items → StepOk prog w hT lvl 0 (st it ac dk fr) (gT dk ac it (kO P key) (itO "list_iterator" (.ref (dl + B)) 0) (liX dl items m) none []) (fun _ => (lp it ac dk fr, gT dk ac it (kO P key) (itO "list_iterator" (.ref (dl + B)) 0) (liX dl items m) none [])))
    (H2 : ∀ dk ac it dl fr items m i x hd d, S items → (un items)[i]? = some x → hd.length ≤ 1000 → i < (un items).length → StepOk prog w hT lvl 2 (lp it ac dk fr) (gT dk ac it (kO P key) (itO "list_iterator" (.ref (dl + B)) i) (liX dl items m) d hd) (fun ys => (lp it ac dk fr, gT dk ac it (kO P key) (itO "list_iterator" (.ref (dl + B)) (i + 1 : Nat)) (liX dl items m) (some (ndK (val x) d (ky ys 1))) (hd ++ outv x (ky ys 0)))))
    (H3 : ∀ dk ac it dl fr items m e hd, S items → SegOk prog w hT lvl 0 (lp it ac dk fr) (gT dk ac it (kO P key) (itO "list_iterator" (.ref (dl + B)) (un items).length) (liX dl items m) (some e) hd) (fun _ => (.ok .next, gT dk ac it (kO P key) (itE (un items).length) (liX dl items m) (some e) hd)))
    (H4 : ∀ items, S items → (un items).length ≤ 300) :
    ConOk prog w hT (compJ P lvl st key un val outv S).con := Job.con_ok (fun ids d hl hs => by
  obtain ⟨items, m, fo⟩ := d
  obtain ⟨dk, ac, it, dl, fr, rfl⟩ := ids5 hl
  have hS : S items := hs.1
  have G := gather (prog := prog) (w := w) (hT := hT) (lvl := lvl) (lp it ac dk fr) dk ac it (kO P key) (fun i => itO "list_iterator" (.ref (dl + B)) i) (itE (un items).length) (liX dl items m) (un items) outv 1 (fun x d ys => ndK (val x) d (ky ys 0)) (fun i e => ∃ x, (un items)[i - 1]? = some x ∧ e.2 = val x) (fun ys => (ky ys 0, lastOf val (un items))) 1 (H0 items hS) hlen
    (fun i x hd d hx h1 h2 _ => by
      have := H4 items hS
      have q := H2 dk ac it dl fr items m i x hd d hS hx (by omega) h2
      intro need' out K
      exact q need' out fun ys hy => by
        have := K ys hy
        match ys, hy with
        | [a, b], _ => exact this)
    (fun i x d ys hx _ _ => ⟨x, by simpa using hx, rfl⟩)
    (fun e he => by
      obtain ⟨x, hx, ex⟩ := he
      refine ⟨[e.1], rfl, ?_⟩
      have : lastOf val (un items) = val x := by unfold lastOf; rw [List.getLast?_eq_getElem?, hx]; rfl
      show e = (e.1, lastOf val (un items))
      rw [this, ← ex])
    (fun e hd => H3 dk ac it dl fr items m e hd hS)
  have main := StepOk.lift (H1 dk ac it dl fr items m hS) G
  have mF := main.frame [(fr, fo)]
  refine SegOk.mono mF (Nat.le_refl _) fun xs hx => ?_
  match xs, hx with
  | [a, b], _ => exact ⟨[a, b], rfl, rfl, rfl⟩) (fun _ _ _ => rfl)
end
end Mine
end

section
set_option maxRecDepth 100000
set_option linter.unusedVariables false
namespace Mine
open PySem PyProof.Rows PySem.W PySem.W.X
/-- a move's number -/
noncomputable abbrev mvI (x : Int) : Int := x.fmod 262144
def IntsP (items : Array Value) : Prop := ∃ xs : List (Int × Nat), items.toList = xs.map intV ∧ xs ≠ [] ∧ xs.length ≤ 300
theorem IntsP.un {items : Array Value} (h : IntsP items) : items.toList = (unIs items).map intV ∧ unIs items ≠ [] ∧ (unIs items).length ≤ 300 := by
  obtain ⟨xs, h1, h2, h3⟩ := h
  have : unIs items = xs := by unfold unIs; rw [h1, unI_map]
  rw [this]; exact ⟨h1, h2, h3⟩
theorem IntsP.get {items : Array Value} (h : IntsP items) {i : Nat} {x : Int × Nat} (hx : (unIs items)[i]? = some x) : items[(i : Int).toNat]? = some (.int x.1 x.2) := by
  rw [Int.toNat_natCast, ← Array.getElem?_toList, h.un.1, List.getElem?_map, hx]; rfl
noncomputable abbrev cuE : Expr := asgV (stN (fnB (tS 51)) 1)
noncomputable def cuLp (it ac dk fr : Nat) : Code := .compLoop cuE 0 (.ref (it + B)) (.ref (ac + B)) (envP (compS cuE) dk fr (⟨⟨[108, 97, 119]⟩⟩ : Str) 890 [])
noncomputable def cuSt (it ac dk fr : Nat) : Code := .compStart cuE 0 (.ref (it + B)) (.ref (ac + B)) (envP (compS cuE) dk fr (⟨⟨[108, 97, 119]⟩⟩ : Str) 890 [])
noncomputable abbrev cuCs (x : Int) (tx : Nat) : List Con := [(itemJ "list_iterator" "list_iterator.__next__" "list" (.int x tx)).con, (endJ "list_iterator" "list_iterator.__next__" "list").con, floordivC, lappJ.con]
noncomputable abbrev cuK : Str := (⟨⟨[120]⟩⟩ : Str)
noncomputable abbrev cuT (dk ac it dl : Nat) (d : Obj) (arr : Array Value) (ep : Nat) (i : Int) (items : Array Value) (m : Nat) : Slots := [(dk, d), (ac, listO arr ep), (it, itO "list_iterator" (.ref (dl + B)) i), (dl, seqO "list" items m)]
section
variable (w : World) (a b : Bool) (dk ac it dl fr : Nat) (i : Int) (m ep tk : Nat) (v : Value) (x : Int) (tx : Nat) (arr items : Array Value) (f : Nat → Nat)
theorem run_cu0 : RunIs (codeU (VW w a b (cuCs x tx) 1) (simU (VW w a b (cuCs x tx) 1) 76) none (cuLp it ac dk fr) 6633541483503583137968291119775130135987286568340687944943682817 (mk f 9) .base (cuT dk ac it dl (kO (WW w a b).params cuK none) arr ep i items m) [] [])
    [arr.size ≤ sizeLine, True, ¬ (((2 : Int) == 0) = true), (2 : Int).natAbs < 1073741824, items[i.toNat]? = some (.int x tx)] (.stop (cuLp it ac dk fr) (cuT dk ac it dl (kO (WW w a b).params cuK (some (f 0, .int x tx))) (arr.push (.int (upsI (mvI x)) (f 8))) (ep + 1) (i + 1) items m)) := RunIs.of (by cases a <;> kernel_rfl)
theorem run_cu1 : RunIs (codeU (VW w a b (cuCs x tx) 1) (simU (VW w a b (cuCs x tx) 1) 76) none (cuLp it ac dk fr) 6633541483503583137968291119775130135987286568340687944943682817 (mk f 9) .base (cuT dk ac it dl (kO (WW w a b).params cuK (some (tk, v))) arr ep i items m) [] [])
    [arr.size ≤ sizeLine, True, ¬ (((2 : Int) == 0) = true), (2 : Int).natAbs < 1073741824, items[i.toNat]? = some (.int x tx)] (.stop (cuLp it ac dk fr) (cuT dk ac it dl (kO (WW w a b).params cuK (some (tk, .int x tx))) (arr.push (.int (upsI (mvI x)) (f 8))) (ep + 1) (i + 1) items m)) := RunIs.of (by cases a <;> kernel_rfl)
theorem run_cuE : RunIs (codeU (VW w a b (cuCs x tx) 1) (simU (VW w a b (cuCs x tx) 1) 45) none (cuLp it ac dk fr) 39296066099862843372356865 (mk f 2) .base (cuT dk ac it dl (kO (WW w a b).params cuK (some (tk, v))) arr ep i items m) [] [])
    [items[i.toNat]? = none] (.ret (.ok .next) [(dk, kO (WW w a b).params cuK (some (tk, v))), (ac, listO arr ep), (it, itE i), (dl, seqO "list" items m)]) := RunIs.of (by cases a <;> kernel_rfl)
theorem run_cuS : RunIs (codeU (VW w a b (cuCs x tx) 1) (simU (VW w a b (cuCs x tx) 1) 51) none (cuSt it ac dk fr) (match b with | true => 66049 | false => 290526193476863233) (mk f 0) .base (cuT dk ac it dl (kO (WW w a b).params cuK none) arr ep i items m) [] [])
    [] (.stop (cuLp it ac dk fr) (cuT dk ac it dl (kO (WW w a b).params cuK none) arr ep i items m)) := RunIs.of (by cases a <;> cases b <;> kernel_rfl)
end
noncomputable def cuJ (P : Params) : Job (Array Value × Nat × Obj) := compJ P 1 cuSt cuK unIs intV (fun x t => [.int (upsI (mvI x.1)) t]) IntsP
section
variable {w : World} {a b : Bool} {hT : Heap}
theorem cu_ok (TK : TopK (WW w a b) hT) : ConOk pwT' (WW w a b) hT (cuJ (WW w a b).params).con := by
  have C : ∀ x tx, Cons pwT' (WW w a b) hT (cuCs x tx) := fun x tx => ⟨lnext_ok TK.size, lend_ok TK.size, floordiv_ok, lapp_ok TK.size, trivial⟩
  have sz : sizeLine = 16777216 := by decide
  refine compJ_ok (lp := cuLp) (fun _ _ => by simp) ?_ ?_ ?_ ?_ ?_
  · intro items hS
    exact hS.un.2.1
  · intro dk ac it dl fr items m _
    exact StepOk.of_run (V := VW w a b (cuCs 0 0) 1) (uok TK) (conOf_ok (C 0 0)) (show 1 ≤ 1 by decide) (run_cuS w a b dk ac it dl fr 0 m 0 0 0 #[] items) (fun f => trivial) (fun f => ⟨[], rfl, rfl⟩)
  · intro dk ac it dl fr items m i x hd d hS hx h1 h2
    have hsz : (⟨hd⟩ : Array Value).size ≤ sizeLine := by rw [sz]; show hd.length ≤ _; omega
    have hget := IntsP.get hS hx
    cases d with
    | none => exact StepOk.of_run (V := VW w a b (cuCs x.1 x.2) 1) (uok TK) (conOf_ok (C x.1 x.2)) (show 1 ≤ 1 by decide) (run_cu0 w a b dk ac it dl fr i m hd.length x.1 x.2 ⟨hd⟩ items) (fun f => ⟨hsz, trivial, by decide, by decide, hget, trivial⟩) (fun f => ⟨[f 8, f 0], rfl, congrArg (Prod.mk _) (gT_snoc ..)⟩)
    | some e => exact StepOk.of_run (V := VW w a b (cuCs x.1 x.2) 1) (uok TK) (conOf_ok (C x.1 x.2)) (show 1 ≤ 1 by decide) (run_cu1 w a b dk ac it dl fr i m hd.length e.1 e.2 x.1 x.2 ⟨hd⟩ items) (fun f => ⟨hsz, trivial, by decide, by decide, hget, trivial⟩) (fun f => ⟨[f 8, 0], rfl, congrArg (Prod.mk _) (gT_snoc ..)⟩)
  · intro dk ac it dl fr items m e hd hS
    refine SegOk.of_run (V := VW w a b (cuCs 0 0) 1) (uok TK) (conOf_ok (C 0 0)) (show 1 ≤ 1 by decide) (run_cuE w a b dk ac it dl fr (unIs items).length m hd.length e.1 e.2 0 0 ⟨hd⟩ items) (fun f => ⟨?_, trivial⟩) (fun f => ⟨[], rfl, rfl⟩)
    have : items.size = (unIs items).length := by unfold unIs; simp
    simp [← this]
  · intro items hS
    exact hS.un.2.2
end
end Mine
end

section
set_option maxRecDepth 100000
set_option linter.unusedVariables false
namespace Mine
open PySem PyProof.Rows PySem.W PySem.W.X
noncomputable def argM (e : Expr) (n : Nat) : Expr := match e with
  | .Call _ as _ _ => match as with
    | x :: _ => x
    | [] => default
  | _ => default
noncomputable def cmpL (e : Expr) : Expr := match e with
  | .Compare l _ _ _ => l
  | _ => default
noncomputable abbrev hereL : Str := (⟨⟨[104, 101, 114, 101, 47]⟩⟩ : Str)
noncomputable abbrev ctE : Expr := argM (cmpL (asgV (stN (fnB (tS 51)) 9))) 0
noncomputable def ctLp (it ac dk fr : Nat) : Code := .compLoop ctE 0 (.ref (it + B)) (.ref (ac + B)) (envP (compS ctE) dk fr (⟨⟨[108, 97, 119]⟩⟩ : Str) 890 [])
noncomputable def ctSt (it ac dk fr : Nat) : Code := .compStart ctE 0 (.ref (it + B)) (.ref (ac + B)) (envP (compS ctE) dk fr (⟨⟨[108, 97, 119]⟩⟩ : Str) 890 [])
noncomputable abbrev ctCs (s : Str) (ts : Nat) : List Con := [(itemJ "list_iterator" "list_iterator.__next__" "list" (.str s ts)).con, (endJ "list_iterator" "list_iterator.__next__" "list").con, sliceC, seqC, lappJ.con]
noncomputable abbrev ctK : Str := (⟨⟨[116, 111, 108, 100]⟩⟩ : Str)
noncomputable abbrev ctT (dk ac it dl : Nat) (d : Obj) (arr : Array Value) (ep : Nat) (i : Int) (items : Array Value) (m : Nat) : Slots := [(dk, d), (ac, listO arr ep), (it, itO "list_iterator" (.ref (dl + B)) i), (dl, seqO "list" items m)]
/-- does the text begin with here and a slash? -/
noncomputable abbrev begS (s : Str) : Bool := (Txt.slice s none (some 5)).cps.toList == hereL.cps.toList
section
variable (w : World) (a b : Bool) (dk ac it dl fr : Nat) (i : Int) (m ep tk : Nat) (v : Value) (s : Str) (ts : Nat) (arr items : Array Value) (f : Nat → Nat)
theorem run_ct0K : RunIs (codeU (VW w a b (ctCs s ts) 1) (simU (VW w a b (ctCs s ts) 1) 65) none (ctLp it ac dk fr) 217258225260376079234101554127546520542280487846646914095431828737 (mk f 6) .base (ctT dk ac it dl (kO (WW w a b).params ctK none) arr ep i items m) [] [])
    [arr.size ≤ sizeLine, True, begS s = true, s.length ≤ sizeLine, items[i.toNat]? = some (.str s ts)] (.stop (ctLp it ac dk fr) (ctT dk ac it dl (kO (WW w a b).params ctK (some (f 0, .str s ts))) (arr.push (.str s ts)) (ep + 1) (i + 1) items m)) := RunIs.of (by cases a <;> kernel_rfl)
theorem run_ct0N : RunIs (codeU (VW w a b (ctCs s ts) 1) (simU (VW w a b (ctCs s ts) 1) 61) none (ctLp it ac dk fr) 385927777534411110401129253992054660619472283387137 (mk f 6) .base (ctT dk ac it dl (kO (WW w a b).params ctK none) arr ep i items m) [] [])
    [True, begS s = false, s.length ≤ sizeLine, items[i.toNat]? = some (.str s ts)] (.stop (ctLp it ac dk fr) (ctT dk ac it dl (kO (WW w a b).params ctK (some (f 0, .str s ts))) arr ep (i + 1) items m)) := RunIs.of (by cases a <;> kernel_rfl)
theorem run_ct1K : RunIs (codeU (VW w a b (ctCs s ts) 1) (simU (VW w a b (ctCs s ts) 1) 65) none (ctLp it ac dk fr) 217258225260376079234101554127546520542280487846646914095431828737 (mk f 6) .base (ctT dk ac it dl (kO (WW w a b).params ctK (some (tk, v))) arr ep i items m) [] [])
    [arr.size ≤ sizeLine, True, begS s = true, s.length ≤ sizeLine, items[i.toNat]? = some (.str s ts)] (.stop (ctLp it ac dk fr) (ctT dk ac it dl (kO (WW w a b).params ctK (some (tk, .str s ts))) (arr.push (.str s ts)) (ep + 1) (i + 1) items m)) := RunIs.of (by cases a <;> kernel_rfl)
theorem run_ct1N : RunIs (codeU (VW w a b (ctCs s ts) 1) (simU (VW w a b (ctCs s ts) 1) 61) none (ctLp it ac dk fr) 385927777534411110401129253992054660619472283387137 (mk f 6) .base (ctT dk ac it dl (kO (WW w a b).params ctK (some (tk, v))) arr ep i items m) [] [])
    [True, begS s = false, s.length ≤ sizeLine, items[i.toNat]? = some (.str s ts)] (.stop (ctLp it ac dk fr) (ctT dk ac it dl (kO (WW w a b).params ctK (some (tk, .str s ts))) arr ep (i + 1) items m)) := RunIs.of (by cases a <;> kernel_rfl)
theorem run_ctE : RunIs (codeU (VW w a b (ctCs s ts) 1) (simU (VW w a b (ctCs s ts) 1) 45) none (ctLp it ac dk fr) 39296066099862843372356865 (mk f 2) .base (ctT dk ac it dl (kO (WW w a b).params ctK (some (tk, v))) arr ep i items m) [] [])
    [items[i.toNat]? = none] (.ret (.ok .next) [(dk, kO (WW w a b).params ctK (some (tk, v))), (ac, listO arr ep), (it, itE i), (dl, seqO "list" items m)]) := RunIs.of (by cases a <;> kernel_rfl)
theorem run_ctS : RunIs (codeU (VW w a b (ctCs s ts) 1) (simU (VW w a b (ctCs s ts) 1) 51) none (ctSt it ac dk fr) (match b with | true => 66049 | false => 290526193476863233) (mk f 0) .base (ctT dk ac it dl (kO (WW w a b).params ctK none) arr ep i items m) [] [])
    [] (.stop (ctLp it ac dk fr) (ctT dk ac it dl (kO (WW w a b).params ctK none) arr ep i items m)) := RunIs.of (by cases a <;> cases b <;> kernel_rfl)
end
def StrsP (items : Array Value) : Prop := ∃ xs : List (Str × Tok), items.toList = xs.map strV ∧ xs ≠ [] ∧ xs.length ≤ 300 ∧ ∀ c ∈ xs, c.1.length ≤ 1000000
theorem StrsP.un {items : Array Value} (h : StrsP items) : items.toList = (unA items).map strV ∧ unA items ≠ [] ∧ (unA items).length ≤ 300 ∧ ∀ c ∈ unA items, c.1.length ≤ 1000000 := by
  obtain ⟨xs, h1, h2, h3, h4⟩ := h
  have : unA items = xs := by unfold unA; rw [h1, unV_map]
  rw [this]; exact ⟨h1, h2, h3, h4⟩
theorem StrsP.get {items : Array Value} (h : StrsP items) {i : Nat} {x : Str × Tok} (hx : (unA items)[i]? = some x) : items[(i : Int).toNat]? = some (.str x.1 x.2) := by
  rw [Int.toNat_natCast, ← Array.getElem?_toList, h.un.1, List.getElem?_map, hx]; rfl
noncomputable def ctO (x : Str × Tok) (_ : Nat) : List Value := match begS x.1 with
  | true => [strV x]
  | false => []
noncomputable def ctJ (P : Params) : Job (Array Value × Nat × Obj) := compJ P 1 ctSt ctK unA strV ctO StrsP
section
variable {w : World} {a b : Bool} {hT : Heap}
theorem ct_ok (TK : TopK (WW w a b) hT) : ConOk pwT' (WW w a b) hT (ctJ (WW w a b).params).con := by
  have C : ∀ s ts, Cons pwT' (WW w a b) hT (ctCs s ts) := fun s ts => ⟨lnext_ok TK.size, lend_ok TK.size, sliceC_ok, seq_ok, lapp_ok TK.size, trivial⟩
  have sz : sizeLine = 16777216 := by decide
  refine compJ_ok (lp := ctLp) (fun x t => by unfold ctO; split <;> simp) (fun items hS => hS.un.2.1) ?_ ?_ ?_ (fun items hS => hS.un.2.2.1)
  · intro dk ac it dl fr items m _
    exact StepOk.of_run (V := VW w a b (ctCs sl 0) 1) (uok TK) (conOf_ok (C sl 0)) (show 1 ≤ 1 by decide) (run_ctS w a b dk ac it dl fr 0 m 0 sl 0 #[] items) (fun f => trivial) (fun f => ⟨[], rfl, rfl⟩)
  · intro dk ac it dl fr items m i x hd d hS hx h1 h2
    have hsz : (⟨hd⟩ : Array Value).size ≤ sizeLine := by rw [sz]; show hd.length ≤ _; omega
    have hget := StrsP.get hS hx
    have hl : x.1.length ≤ sizeLine := by have := hS.un.2.2.2 x (List.mem_of_getElem? hx); rw [sz]; omega
    cases hy : begS x.1 with
    | true =>
      have eo : ∀ t, ctO x t = [.str x.1 x.2] := fun t => by unfold ctO; rw [hy]; rfl
      cases d with
      | none => exact StepOk.of_run (V := VW w a b (ctCs x.1 x.2) 1) (uok TK) (conOf_ok (C x.1 x.2)) (show 1 ≤ 1 by decide) (run_ct0K w a b dk ac it dl fr i m hd.length x.1 x.2 ⟨hd⟩ items) (fun f => ⟨hsz, trivial, hy, hl, hget, trivial⟩) (fun f => ⟨[0, f 0], rfl, congrArg (Prod.mk _) (by rw [eo]; exact gT_snoc ..)⟩)
      | some e => exact StepOk.of_run (V := VW w a b (ctCs x.1 x.2) 1) (uok TK) (conOf_ok (C x.1 x.2)) (show 1 ≤ 1 by decide) (run_ct1K w a b dk ac it dl fr i m hd.length e.1 e.2 x.1 x.2 ⟨hd⟩ items) (fun f => ⟨hsz, trivial, hy, hl, hget, trivial⟩) (fun f => ⟨[0, 0], rfl, congrArg (Prod.mk _) (by rw [eo]; exact gT_snoc ..)⟩)
    | false =>
      have eo : ∀ t, hd ++ ctO x t = hd := fun t => by unfold ctO; rw [hy]; exact List.append_nil _
      cases d with
      | none => exact StepOk.of_run (V := VW w a b (ctCs x.1 x.2) 1) (uok TK) (conOf_ok (C x.1 x.2)) (show 1 ≤ 1 by decide) (run_ct0N w a b dk ac it dl fr i m hd.length x.1 x.2 ⟨hd⟩ items) (fun f => ⟨trivial, hy, hl, hget, trivial⟩) (fun f => ⟨[0, f 0], rfl, congrArg (Prod.mk _) (by rw [eo]; rfl)⟩)
      | some e => exact StepOk.of_run (V := VW w a b (ctCs x.1 x.2) 1) (uok TK) (conOf_ok (C x.1 x.2)) (show 1 ≤ 1 by decide) (run_ct1N w a b dk ac it dl fr i m hd.length e.1 e.2 x.1 x.2 ⟨hd⟩ items) (fun f => ⟨trivial, hy, hl, hget, trivial⟩) (fun f => ⟨[0, 0], rfl, congrArg (Prod.mk _) (by rw [eo]; rfl)⟩)
  · intro dk ac it dl fr items m e hd hS
    refine SegOk.of_run (V := VW w a b (ctCs sl 0) 1) (uok TK) (conOf_ok (C sl 0)) (show 1 ≤ 1 by decide) (run_ctE w a b dk ac it dl fr (unA items).length m hd.length e.1 e.2 sl 0 ⟨hd⟩ items) (fun f => ⟨?_, trivial⟩) (fun f => ⟨[], rfl, rfl⟩)
    have : items.size = (unA items).length := by unfold unA; simp
    simp [← this]
end
end Mine
end

section
set_option maxRecDepth 100000
set_option linter.unusedVariables false
namespace Mine
open PySem PyProof.Rows PySem.W PySem.W.X
open PySem.Builtin PySem.Builtin.Str

/-- the names, and as quote writes them -/
noncomputable def nm : Nat → Str
  | 0 => ⟨⟨[97]⟩⟩
  | 1 => ⟨⟨[98, 32, 99]⟩⟩
  | 2 => ⟨⟨[105, 116, 39, 115]⟩⟩
  | 3 => ⟨⟨[46, 46, 46]⟩⟩
  | 4 => ⟨⟨[35]⟩⟩
  | 5 => ⟨⟨[92]⟩⟩
  | 6 => ⟨⟨[34]⟩⟩
  | _ => ⟨⟨[97]⟩⟩
noncomputable def qt : Nat → Str
  | 0 => ⟨⟨[97]⟩⟩
  | 1 => ⟨⟨[39, 98, 32, 99, 39]⟩⟩
  | 2 => ⟨⟨[39, 105, 116, 39, 34, 39, 34, 39, 115, 39]⟩⟩
  | 3 => ⟨⟨[46, 46, 46]⟩⟩
  | 4 => ⟨⟨[39, 35, 39]⟩⟩
  | 5 => ⟨⟨[39, 92, 39]⟩⟩
  | 6 => ⟨⟨[39, 34, 39]⟩⟩
  | _ => ⟨⟨[97]⟩⟩
noncomputable def safe : Nat → Bool
  | 0 => true
  | 1 => false
  | 2 => false
  | 3 => true
  | 4 => false
  | 5 => false
  | 6 => false
  | _ => true
theorem run_quote0 (w : World) (a b : Bool) (t : Nat) (f : Nat → Nat) : RunIs (codeU (VW w a b [] 1) (simU (VW w a b [] 1) 59) none (.call (.ref 867) ⟨[.str (nm 0) t], []⟩) 115607063194253342098432868404939160885659697154 (mk f 4) .base [] [] [])
    [] (.ret (.ok (.ret (.str (qt 0) t))) []) := RunIs.of (by cases a <;> kernel_rfl)
theorem run_quote1 (w : World) (a b : Bool) (t : Nat) (f : Nat → Nat) : RunIs (codeU (VW w a b [] 1) (simU (VW w a b [] 1) 88) none (.call (.ref 867) ⟨[.str (nm 1) t], []⟩) 502958954797598954270960085917199125252751245946938923679746 (mk f 12) .base [] [] [])
    [] (.ret (.ok (.ret (.str (qt 1) (f 11)))) []) := RunIs.of (by cases a <;> kernel_rfl)
theorem run_quote2 (w : World) (a b : Bool) (t tk : Nat) (f : Nat → Nat) : RunIs (codeU (VW w a b [replC] 1) (simU (VW w a b [replC] 1) 85) (some (tk + 1)) (.call (.ref 867) ⟨[.str (nm 2) t], []⟩) 1054781377965560527333048804364594459466049408457776546206120411138 (mk f 7) .base [] [] [])
    [(qt 2).length - 2 ≤ sizeLine, (tk + 5 == 0 || tk + 6 == 0) = false, (tk + 5 == tk + 6) = false, ((⟨⟨[39]⟩⟩ : Str) == ⟨⟨[39, 34, 39, 34, 39]⟩⟩) = false, tooLong 9 = false, false = false] (.ret (.ok (.ret (.str (qt 2) (f 6)))) []) := RunIs.of (by cases a <;> kernel_rfl)
theorem run_quote3 (w : World) (a b : Bool) (t : Nat) (f : Nat → Nat) : RunIs (codeU (VW w a b [] 1) (simU (VW w a b [] 1) 57) none (.call (.ref 867) ⟨[.str (nm 3) t], []⟩) 115607063194253342098432868404939160885659697154 (mk f 4) .base [] [] [])
    [] (.ret (.ok (.ret (.str (qt 3) t))) []) := RunIs.of (by cases a <;> kernel_rfl)
theorem run_quote4 (w : World) (a b : Bool) (t : Nat) (f : Nat → Nat) : RunIs (codeU (VW w a b [] 1) (simU (VW w a b [] 1) 88) none (.call (.ref 867) ⟨[.str (nm 4) t], []⟩) 502958954797598954270960085917199125252751245946938923679746 (mk f 12) .base [] [] [])
    [] (.ret (.ok (.ret (.str (qt 4) (f 11)))) []) := RunIs.of (by cases a <;> kernel_rfl)
theorem run_quote5 (w : World) (a b : Bool) (t : Nat) (f : Nat → Nat) : RunIs (codeU (VW w a b [] 1) (simU (VW w a b [] 1) 88) none (.call (.ref 867) ⟨[.str (nm 5) t], []⟩) 502958954797598954270960085917199125252751245946938923679746 (mk f 12) .base [] [] [])
    [] (.ret (.ok (.ret (.str (qt 5) (f 11)))) []) := RunIs.of (by cases a <;> kernel_rfl)
theorem run_quote6 (w : World) (a b : Bool) (t : Nat) (f : Nat → Nat) : RunIs (codeU (VW w a b [] 1) (simU (VW w a b [] 1) 88) none (.call (.ref 867) ⟨[.str (nm 6) t], []⟩) 502958954797598954270960085917199125252751245946938923679746 (mk f 12) .base [] [] [])
    [] (.ret (.ok (.ret (.str (qt 6) (f 11)))) []) := RunIs.of (by cases a <;> kernel_rfl)
theorem run_quote7 (w : World) (a b : Bool) (t : Nat) (f : Nat → Nat) : RunIs (codeU (VW w a b [] 1) (simU (VW w a b [] 1) 59) none (.call (.ref 867) ⟨[.str (nm 7) t], []⟩) 115607063194253342098432868404939160885659697154 (mk f 4) .base [] [] [])
    [] (.ret (.ok (.ret (.str (qt 7) t))) []) := RunIs.of (by cases a <;> kernel_rfl)
noncomputable def quoteJ (k : Nat) : Job Nat where
  lvl := 1
  need := 1
  ext := fun c _ => match c with
    | .call _ ⟨[.str _ t], []⟩ => some t
    | _ => none
  code := fun _ t => .call (.ref 867) ⟨[.str (nm k) t], []⟩
  pre := fun _ _ => []
  side := fun _ _ => [k < 8]
  res := fun _ t xs => .ok (.ret (.str (qt k) (match safe k with | true => t | false => tk0 xs)))
  new := fun _ _ _ => []
  post := fun _ _ _ => []
section
variable {w : World} {a b : Bool} {hT : Heap}
theorem quote_ok (TK : TopK (WW w a b) hT) (k : Nat) : ConOk pwT' (WW w a b) hT (quoteJ k).con := Job.con_ok (fun ids t hl hs => by
  have hk : k < 8 := hs.1
  have e0 : (quoteJ k).into ids t = [] := by cases ids <;> rfl
  have e1 : ∀ xs, (quoteJ k).out ids t xs = (.ok (.ret (.str (qt k) (match safe k with | true => t | false => tk0 xs))), []) := fun xs => by cases ids <;> rfl
  rw [e0]
  have C0 : Cons pwT' (WW w a b) hT [] := trivial
  match k, hk with
  | 0, _ => exact SegOk.of_run (V := VW w a b [] 1) (uok TK) (conOf_ok C0) (Nat.le_refl _) (run_quote0 w a b t) (fun f => trivial) (fun f => ⟨[0], rfl, by rw [e1]; rfl⟩)
  | 1, _ => exact SegOk.of_run (V := VW w a b [] 1) (uok TK) (conOf_ok C0) (Nat.le_refl _) (run_quote1 w a b t) (fun f => trivial) (fun f => ⟨[f 11], rfl, by rw [e1]; rfl⟩)
  | 2, _ => exact SegOk.of_runT (V := VW w a b [replC] 1) (uok TK) (conOf_ok (show Cons pwT' (WW w a b) hT [replC] from ⟨repl_ok, trivial⟩)) (Nat.le_refl _) (fun f tk => run_quote2 w a b t tk f) (fun f tk => ⟨by decide +kernel, by simp, by simp, by decide +kernel, by decide +kernel, rfl, trivial⟩) (fun f tk => ⟨[f 6], rfl, by rw [e1]; rfl⟩)
  | 3, _ => exact SegOk.of_run (V := VW w a b [] 1) (uok TK) (conOf_ok C0) (Nat.le_refl _) (run_quote3 w a b t) (fun f => trivial) (fun f => ⟨[0], rfl, by rw [e1]; rfl⟩)
  | 4, _ => exact SegOk.of_run (V := VW w a b [] 1) (uok TK) (conOf_ok C0) (Nat.le_refl _) (run_quote4 w a b t) (fun f => trivial) (fun f => ⟨[f 11], rfl, by rw [e1]; rfl⟩)
  | 5, _ => exact SegOk.of_run (V := VW w a b [] 1) (uok TK) (conOf_ok C0) (Nat.le_refl _) (run_quote5 w a b t) (fun f => trivial) (fun f => ⟨[f 11], rfl, by rw [e1]; rfl⟩)
  | 6, _ => exact SegOk.of_run (V := VW w a b [] 1) (uok TK) (conOf_ok C0) (Nat.le_refl _) (run_quote6 w a b t) (fun f => trivial) (fun f => ⟨[f 11], rfl, by rw [e1]; rfl⟩)
  | 7, _ => exact SegOk.of_run (V := VW w a b [] 1) (uok TK) (conOf_ok C0) (Nat.le_refl _) (run_quote7 w a b t) (fun f => trivial) (fun f => ⟨[0], rfl, by rw [e1]; rfl⟩)) (fun _ _ _ => rfl)
end
end Mine
end

section
set_option maxRecDepth 100000
set_option linter.unusedVariables false
namespace Mine
open PySem PyProof.Rows PySem.W PySem.W.X
open PySem.Builtin PySem.Builtin.Str
/-! when a round's text begins with the place where it began -/
theorem beg_no {q : Str} (h : ∀ t, q.cps.toList ≠ 104 :: t) : begS q = false := by
  show ((Txt.slice q none (some 5)).cps.toList == hereL.cps.toList) = false
  cases e : (Txt.slice q none (some 5)).cps.toList == hereL.cps.toList with
  | false => rfl
  | true =>
    have e := eq_of_beq e
    by_cases hl : 5 ≤ q.length
    · have hl' : 5 ≤ q.cps.toList.length := by rw [← len_list]; exact hl
      have z : (Txt.slice q none (some 5)).cps.toList = q.cps.toList.take 5 := by
        have e : Txt.slice q none (some 5) = PySem.StrLaws.sliceText q none (some 5) := rfl
        rw [e, PySem.StrLaws.sliceText_to (x := q) (j := 5) ⟨by decide, by exact_mod_cast hl'⟩]
        rfl
      rw [z] at e
      cases hq : q.cps.toList with
      | nil => rw [hq] at e; simp at e
      | cons c t =>
        rw [hq] at e
        have : c = 104 := by
          have := congrArg List.head? e
          simpa using this
        exact absurd (by rw [hq, this]) (h t)
    · have z := Txt.slice_le q none (some 5)
      have y : (Txt.slice q none (some 5)).length = 5 := by rw [len_list, e]; rfl
      omega
theorem beg_yes {q : Str} {t : List Nat} (h : q.cps.toList = [104, 101, 114, 101, 47] ++ t) : begS q = true := by
  have hl' : 5 ≤ q.cps.toList.length := by rw [h]; simp
  have z : (Txt.slice q none (some 5)).cps.toList = q.cps.toList.take 5 := by
    have e : Txt.slice q none (some 5) = PySem.StrLaws.sliceText q none (some 5) := rfl
    rw [e, PySem.StrLaws.sliceText_to (x := q) (j := 5) ⟨by decide, by exact_mod_cast hl'⟩]
    rfl
  show ((Txt.slice q none (some 5)).cps.toList == hereL.cps.toList) = true
  rw [z, h]
  rfl
theorem glued_two (x y : Str) (r : List Str) : (glued sl (x :: y :: r)).cps.toList = x.cps.toList ++ 47 :: (glued sl (y :: r)).cps.toList := by
  rw [PySem.StrLaws.glued_eq_join, PySem.StrLaws.glued_eq_join]
  show (x ++ sl ++ PySem.Str.join sl (y :: r)).cps.toList = _
  have e : (x ++ sl ++ PySem.Str.join sl (y :: r)).cps = x.cps ++ sl.cps ++ (PySem.Str.join sl (y :: r)).cps := rfl
  rw [e, Array.toList_append, Array.toList_append, List.append_assoc]
  rfl
theorem glued_head (x : Str) (r : List Str) : ∃ t, (glued sl (x :: r)).cps.toList = x.cps.toList ++ t := by
  cases r with
  | nil => exact ⟨[], by rw [glued_one, List.append_nil]⟩
  | cons y r => exact ⟨_, glued_two x y r⟩
theorem kept_last : ∀ (cs : List Str) (us : List Int) (h : Int), cs.length = us.length → us ≠ [] → ∃ Z c x, cs.zip (lowsOf h us) = Z ++ [(c, x)] ∧ highOf h us = x + 1 ∧ x ∈ lowsOf h us
  | [], [], _, _, h => absurd rfl h
  | c :: cs, u :: us, h, hl, _ => by
    cases us with
    | nil =>
      cases cs with
      | nil => exact ⟨[], c, h - u, rfl, rfl, List.mem_cons_self ..⟩
      | cons => simp at hl
    | cons u' us =>
      obtain ⟨Z, c', x, e, e2, m⟩ := kept_last cs (u' :: us) (h - u + 1) (by simpa using hl) (by simp)
      refine ⟨(c, h - u) :: Z, c', x, ?_, e2, List.mem_cons_of_mem _ m⟩
      show (c, h - u) :: cs.zip (lowsOf (h - u + 1) (u' :: us)) = _
      rw [e]; rfl
theorem kept_ne (cs : List Str) (us : List Int) (hl : cs.length = us.length) (hn : us ≠ []) : keptS (highOf 1 us) (cs.zip (lowsOf 1 us)) ≠ [] := by
  obtain ⟨Z, c, x, e, e2, _⟩ := kept_last cs us 1 hl hn
  rw [e, e2, ← keptQ_map, keptQ_snoc c x x (Int.le_refl _)]
  simp
noncomputable def goodI (us : List Int) : Bool := (lowsOf 1 us).all fun x => decide (0 < x)
theorem nm_no (k : Nat) (h : k < 8) : ∀ t r, (nm k).cps.toList ++ r ≠ 104 :: t := by
  intro t r e
  have e := congrArg List.head? e
  match k, h with
  | 0, _ | 1, _ | 2, _ | 3, _ | 4, _ | 5, _ | 6, _ | 7, _ => exact absurd e (by simp [nm])
theorem beg_place (cs : List Str) (us : List Int) (hl : cs.length = us.length) (hn : us ≠ []) (hc : ∀ c ∈ cs, ∃ k, k < 8 ∧ c = nm k) : begS (placeT cs us) = goodI us := by
  have kn := kept_ne cs us hl hn
  have hz : (cs.zip (lowsOf 1 us)).map (·.2) = lowsOf 1 us := List.map_snd_zip (by rw [lowsOf_len, hl]; exact Nat.le_refl _)
  obtain ⟨Z, c0, x0, e0, e2, m0⟩ := kept_last cs us 1 hl hn
  have hpos : mnHd (lowsOf 1 us ++ [highOf 1 us]) > 0 ↔ goodI us = true := by
    rw [gt_iff_lt, mnHd_gt _ _ (by simp)]
    unfold goodI
    rw [List.all_eq_true]
    constructor
    · intro h x hx; exact decide_eq_true (h x (List.mem_append_left _ hx))
    · intro h y hy
      rcases List.mem_append.mp hy with hy | hy
      · exact of_decide_eq_true (h y hy)
      · rw [List.mem_singleton.mp hy, e2]
        have := of_decide_eq_true (h x0 m0)
        omega
  have hS : keptS (highOf 1 us) ((hereS :: cs).zip (0 :: lowsOf 1 us)) = match decide (mnHd (lowsOf 1 us ++ [highOf 1 us]) > 0) with | true => hereS :: keptS (highOf 1 us) (cs.zip (lowsOf 1 us)) | false => keptS (highOf 1 us) (cs.zip (lowsOf 1 us)) := by
    show (match decide (mnHd ((cs.zip (lowsOf 1 us)).map (·.2) ++ [highOf 1 us]) > 0) with | true => hereS :: keptS (highOf 1 us) (cs.zip (lowsOf 1 us)) | false => keptS (highOf 1 us) (cs.zip (lowsOf 1 us))) = _
    rw [hz]
  unfold placeT placeS
  rw [hS]
  cases hg : goodI us with
  | true =>
    have hp := hpos.mpr hg
    rw [decide_eq_true hp]
    have hm : (-(mnHd (0 :: lowsOf 1 us))).toNat = 0 := by
      have : -1 < mnHd (0 :: lowsOf 1 us) := (mnHd_gt _ _ (by simp)).mpr fun y hy => by
        rcases List.mem_cons.mp hy with rfl | hy
        · decide
        · have := of_decide_eq_true (List.all_eq_true.mp hg y hy); omega
      omega
    rw [hm]
    cases hk : keptS (highOf 1 us) (cs.zip (lowsOf 1 us)) with
    | nil => exact absurd hk kn
    | cons y r => exact beg_yes (glued_two hereS y r)
  | false =>
    have hp : ¬ mnHd (lowsOf 1 us ++ [highOf 1 us]) > 0 := fun h => by rw [hpos.mp h] at hg; cases hg
    rw [decide_eq_false hp]
    refine beg_no fun t => ?_
    cases (-(mnHd (0 :: lowsOf 1 us))).toNat with
    | zero =>
      cases hk : keptS (highOf 1 us) (cs.zip (lowsOf 1 us)) with
      | nil => exact absurd hk kn
      | cons y r =>
        have hy : y ∈ cs := by
          have := keptS_mem (highOf 1 us) (cs.zip (lowsOf 1 us)) y (by rw [hk]; exact List.mem_cons_self ..)
          rw [List.map_fst_zip (by rw [lowsOf_len, hl]; exact Nat.le_refl _)] at this
          exact this
        obtain ⟨k, h8, rfl⟩ := hc y hy
        obtain ⟨t', et⟩ := glued_head (nm k) r
        show (glued sl (nm k :: r)).cps.toList ≠ _
        rw [et]
        exact nm_no k h8 t t'
    | succ n =>
      obtain ⟨t', et⟩ := glued_head dd (List.replicate n dd ++ keptS (highOf 1 us) (cs.zip (lowsOf 1 us)))
      show (glued sl (dd :: (List.replicate n dd ++ keptS (highOf 1 us) (cs.zip (lowsOf 1 us))))).cps.toList ≠ _
      rw [et]
      intro e
      have e := congrArg List.head? e
      exact absurd e (by simp)
/-! how often, over all turns -/
def goodN : Nat → List Nat → Bool
  | _, [] => true
  | h, u :: r => match Nat.ble h u with
    | true => false
    | false => goodN (h - u + 1) r
theorem good_nat : ∀ (us : List Nat) (h : Nat), (lowsOf (h : Int) (us.map Int.ofNat)).all (fun x => decide (0 < x)) = goodN h us
  | [], _ => rfl
  | u :: r, h => by
    show (decide (0 < (h : Int) - (u : Int)) && (lowsOf ((h : Int) - (u : Int) + 1) (r.map Int.ofNat)).all _) = match Nat.ble h u with | true => false | false => goodN (h - u + 1) r
    cases hb : Nat.ble h u with
    | true =>
      have := Nat.le_of_ble_eq_true hb
      rw [decide_eq_false (by omega)]; rfl
    | false =>
      have : ¬ h ≤ u := fun q => by rw [Nat.ble_eq_true_of_le q] at hb; cases hb
      rw [decide_eq_true (by omega), Bool.true_and]
      have e : (h : Int) - (u : Int) + 1 = ((h - u + 1 : Nat) : Int) := by omega
      rw [e]
      exact good_nat r (h - u + 1)
def cntN (l : List Nat) : Nat → Nat
  | 0 => 0
  | i + 1 => cntN l i + (match goodN 1 (l.drop i ++ l.take i) with | true => 1 | false => 0)
def sumN : List Nat → Nat
  | [] => 0
  | u :: r => u + sumN r
def chkN (l : List Nat) : Bool := Nat.beq (cntN l l.length) (l.length - sumN l)
def allW : Nat → List Nat → Bool
  | 0, l => chkN l
  | n + 1, l => allW n (0 :: l) && (allW n (1 :: l) && allW n (2 :: l))
theorem allW_ok : ∀ (n : Nat) (l : List Nat), allW n l = true → ∀ m : List Nat, m.length = n → (∀ u ∈ m, u ≤ 2) → chkN (m.reverse ++ l) = true
  | 0, l, h, [], _, _ => h
  | n + 1, l, h, u :: m, hl, hu => by
    have h' : (allW n (0 :: l) && (allW n (1 :: l) && allW n (2 :: l))) = true := h
    simp only [Bool.and_eq_true] at h'
    have hu0 := hu u (List.mem_cons_self ..)
    have k : allW n (u :: l) = true := by
      match u, hu0 with
      | 0, _ => exact h'.1
      | 1, _ => exact h'.2.1
      | 2, _ => exact h'.2.2
      | n + 3, q => omega
    have := allW_ok n (u :: l) k m (by simpa using hl) fun x hx => hu x (List.mem_cons_of_mem _ hx)
    rw [List.reverse_cons, List.append_assoc]
    exact this
theorem cyc4 : allW 4 [] = true := by decide +kernel
theorem cyc5 : allW 5 [] = true := by decide +kernel
theorem cyc6 : allW 6 [] = true := by decide +kernel
theorem cyc7 : allW 7 [] = true := by decide +kernel
theorem cyc80 : allW 7 [0] = true := by decide +kernel
theorem cyc81 : allW 7 [1] = true := by decide +kernel
theorem cyc82 : allW 7 [2] = true := by decide +kernel
theorem cyc8 : allW 8 [] = true := by
  show (allW 7 [0] && (allW 7 [1] && allW 7 [2])) = true
  rw [cyc80, cyc81, cyc82]
  rfl
end Mine
end

section
set_option maxRecDepth 100000
set_option linter.unusedVariables false
namespace Mine
open PySem PyProof.Rows PySem.W PySem.W.X
/-- a StringIO's own dict: its text, and how far it is read -/
noncomputable abbrev sdO (P : Params) (k : Nat → Nat) (vn : Value) (s : Str) (ts : Nat) (p : Int) (tp : Nat) : Obj := dcO P [((⟨⟨[95, 83, 116, 114, 105, 110, 103, 73, 79, 95, 95, 110, 101, 119, 108, 105, 110, 101]⟩⟩ : Str), k 0, vn), ((⟨⟨[95, 83, 116, 114, 105, 110, 103, 73, 79, 95, 95, 98, 117, 102]⟩⟩ : Str), k 1, .str s ts), ((⟨⟨[95, 83, 116, 114, 105, 110, 103, 73, 79, 95, 95, 112, 111, 115]⟩⟩ : Str), k 2, .int p tp)] 3
noncomputable abbrev sioO (sd : Nat) : Obj := ⟨.ref 712, some (sd + B), .plain, #[]⟩
noncomputable abbrev rdCs : List Con := [lenC, sliceC, cmpC "int.__ge__" (fun a b => decide (a ≥ b)), cmpC "int.__lt__" (fun a b => decide (a < b))]
noncomputable abbrev lenI (s : Str) : Int := Int.ofNat (s.length - 1 + 1)
section
variable (w : World) (a b : Bool) (sio sd ts tp t : Nat) (k : Nat → Nat) (vn : Value) (p : Int) (s : Str) (f : Nat → Nat)
theorem run_rdM : RunIs (codeU (VW w a b rdCs 1) (simU (VW w a b rdCs 1) 423) none (.call (.ref 658) ⟨[.ref (sio + B), .int 1 t], []⟩) 254846436689002244925303308159328614833173824743467853525144524924928960950309195944936387696517023099136876714343810709036355399157994457898456969142385746870894965417498553477786163783881466466603177154461103582917418046759669764558148384495194837434048317076047722979165402018290330812384366701147897575144874074284068235358897691763050017519929107740817491999372907270484742160491230509205970145497952428486742008577878818112916950819847684394722622568590209438720634230028606996913856611955473233549605276913827861709717506 (mk f 29) .base [(sio, sioO sd), (sd, sdO (WW w a b).params k vn s ts p tp)] [] [])
    [s.length ≤ sizeLine, decide (p + 1 < lenI s) = true, decide ((1 : Int) ≥ 0) = true, decide (p ≥ lenI s) = false, s.length ≠ 0, s.length < 2 ^ 62, decide ((1 : Int) < -1099511627776) = false] (.ret (.ok (.ret (.str (Txt.slice s (some p) (some (p + 1))) (f 28)))) [(sio, sioO sd), (sd, sdO (WW w a b).params k vn s ts (p + 1) (f 22))]) := RunIs.of (by cases a <;> kernel_rfl)
theorem run_rdL : RunIs (codeU (VW w a b rdCs 1) (simU (VW w a b rdCs 1) 406) none (.call (.ref 658) ⟨[.ref (sio + B), .int 1 t], []⟩) 57945370983589383496406141639301634957786023902251111741212417865637908323676400856342385781435273906740093642461900051111196125319602307263294878677184347043315363604284941640601841241648765487738042932707020166043125089743620999698467895202458375465306045410869238351462116838810937770766469001892547049109724379802278530793704271301083495030757130545567327489942982898422173220205712086716836200398743097819894098505123977959955089287769103927435305113732068154509126923304463815537581700128735935961878375694338 (mk f 27) .base [(sio, sioO sd), (sd, sdO (WW w a b).params k vn s ts p tp)] [] [])
    [s.length ≤ sizeLine, decide (p + 1 < lenI s) = false, decide ((1 : Int) ≥ 0) = true, decide (p ≥ lenI s) = false, s.length ≠ 0, s.length < 2 ^ 62, decide ((1 : Int) < -1099511627776) = false] (.ret (.ok (.ret (.str (Txt.slice s (some p) (some (lenI s))) (f 26)))) [(sio, sioO sd), (sd, sdO (WW w a b).params k vn s ts (lenI s) (f 18))]) := RunIs.of (by cases a <;> kernel_rfl)
theorem run_rdE : RunIs (codeU (VW w a b rdCs 1) (simU (VW w a b rdCs 1) 315) none (.call (.ref 658) ⟨[.ref (sio + B), .int 1 t], []⟩) 50712636766749991537509490668506434395495015777591018277690530312366374283609628300059144889922475277754691526503727203252004087675041482979200233565821609684124223093108595065022010857492324863642392402349738001238442141442229099186633611762453825646386629566935450517456091968255310754893669025619481799449926074917037816228224610662358609315607300072800258 (mk f 21) .base [(sio, sioO sd), (sd, sdO (WW w a b).params k vn s ts p tp)] [] [])
    [decide (p ≥ lenI s) = true, s.length ≠ 0, s.length < 2 ^ 62, decide ((1 : Int) < -1099511627776) = false] (.ret (.ok (.ret (.str ⟨⟨[]⟩⟩ (f 20)))) [(sio, sioO sd), (sd, sdO (WW w a b).params k vn s ts p tp)]) := RunIs.of (by cases a <;> kernel_rfl)
end
end Mine
end

section
set_option maxRecDepth 100000
set_option linter.unusedVariables false
namespace Mine
open PySem PyProof.Rows PySem.W PySem.W.X
def CharAt (s : Str) (p : Int) (ch : Nat) : Prop := 0 ≤ p ∧ s.cps.toList[p.toNat]? = some ch
/-- the tokens of a dict's keys -/
noncomputable def keyT (o : Obj) : Nat → Nat := fun i => match (entD o).1[i]? with
  | some e => e.1
  | none => 0
noncomputable def valT (o : Obj) (i : Nat) : Value := match (entD o).1[i]? with
  | some e => e.2
  | none => .none
noncomputable abbrev RdD : Type := (Nat → Nat) × Value × Str × Nat × Int × Nat × Nat
noncomputable def rdExt (c : Code) (os : List Obj) : Option RdD := match os, c with
  | [_, sd], .call _ ⟨[_, .int _ t], []⟩ => match valT sd 1, valT sd 2 with
    | .str s ts, .int p tp => some (keyT sd, valT sd 0, s, ts, p, tp, t)
    | _, _ => none
  | _, _ => none
noncomputable def rdPre (P : Params) (ids : List Nat) (d : RdD) (p : Int) (tp : Nat) : List Obj := [sioO (ky ids 1), sdO P d.1 d.2.1 d.2.2.1 d.2.2.2.1 p tp]
/-- one sign is read -/
noncomputable def rdJ (P : Params) (ch : Nat) : Job RdD where
  lvl := 1
  need := 2
  ext := rdExt
  code := fun ids d => .call (.ref 658) ⟨[.ref (ky ids 0 + B), .int 1 d.2.2.2.2.2.2], []⟩
  pre := fun ids d => rdPre P ids d d.2.2.2.2.1 d.2.2.2.2.2.1
  side := fun _ d => [CharAt d.2.2.1 d.2.2.2.2.1 ch, d.2.2.1.length ≤ 1000000]
  res := fun _ _ xs => .ok (.ret (.str ⟨⟨[ch]⟩⟩ (ky xs 0)))
  new := fun _ _ _ => []
  post := fun ids d xs => rdPre P ids d (d.2.2.2.2.1 + 1) (ky xs 1)
/-- the text is at its end -/
noncomputable def rdEJ (P : Params) : Job RdD where
  lvl := 1
  need := 1
  ext := rdExt
  code := fun ids d => .call (.ref 658) ⟨[.ref (ky ids 0 + B), .int 1 d.2.2.2.2.2.2], []⟩
  pre := fun ids d => rdPre P ids d d.2.2.2.2.1 d.2.2.2.2.2.1
  side := fun _ d => [d.2.2.2.2.1 = d.2.2.1.length, d.2.2.1.length ≠ 0, d.2.2.1.length ≤ 1000000]
  res := fun _ _ xs => .ok (.ret (.str ⟨⟨[]⟩⟩ (ky xs 0)))
  new := fun _ _ _ => []
  post := fun ids d xs => rdPre P ids d d.2.2.2.2.1 d.2.2.2.2.2.1
theorem ids2 {ids : List Nat} (h : ids.length = 2) : ∃ a b, ids = [a, b] := by
  match ids, h with
  | [a, b], _ => exact ⟨a, b, rfl⟩
section
variable {w : World} {a b : Bool} {hT : Heap}
theorem rd_cs : Cons pwT' (WW w a b) hT rdCs := ⟨len_ok, sliceC_ok, ge_ok, lt_ok, trivial⟩
theorem rd_ok (TK : TopK (WW w a b) hT) (ch : Nat) : ConOk pwT' (WW w a b) hT (rdJ (WW w a b).params ch).con := Job.con_ok (fun ids d hl hs => by
  obtain ⟨k, vn, s, ts, p, tp, t⟩ := d
  obtain ⟨sio, sd, rfl⟩ := ids2 hl
  obtain ⟨⟨h0, hc⟩, hlen, _⟩ := hs
  have h0' : 0 ≤ p := h0
  have hc' : s.cps.toList[p.toNat]? = some ch := hc
  have hlen' : s.length ≤ 1000000 := hlen
  have sz : sizeLine = 16777216 := by decide
  have hlt : p.toNat < s.length := by
    rw [len_list]
    rcases Nat.lt_or_ge p.toNat s.cps.toList.length with q | q
    · exact q
    · rw [List.getElem?_eq_none q] at hc'; cases hc'
  have el : lenI s = (s.length : Int) := by show Int.ofNat (s.length - 1 + 1) = _; rw [Nat.sub_add_cancel (by omega)]; rfl
  have esl : Txt.slice s (some p) (some (p + 1)) = ⟨⟨[ch]⟩⟩ := by
    have e : Txt.slice s (some p) (some (p + 1)) = PySem.StrLaws.sliceText s (some p) (some (p + 1)) := rfl
    rw [e, PySem.StrLaws.sliceText_plain ⟨h0', by omega, by rw [← len_list]; omega⟩]
    have e1 : (p + 1 - p).toNat = 1 := by omega
    have e2 : (s.cps.toList.drop p.toNat).take 1 = [ch] := by
      rw [show 1 = 0 + 1 from rfl, List.take_add_one, List.getElem?_drop, Nat.add_zero, hc']; rfl
    rw [e1, e2]
  have p62 : (1000000 : Nat) < 2 ^ 62 := by decide
  by_cases hm : p + 1 < (s.length : Int)
  · refine SegOk.of_run (V := VW w a b rdCs 1) (uok TK) (conOf_ok rd_cs) (Nat.le_refl _) (run_rdM w a b sio sd ts tp t k vn p s) (fun f => ⟨by rw [sz]; omega, by rw [el]; exact decide_eq_true hm, by decide, by rw [el]; exact decide_eq_false (by omega), by omega, by omega, by decide, trivial⟩) (fun f => ⟨[f 28, f 22], rfl, ?_⟩)
    rw [esl]; rfl
  · have e1 : lenI s = p + 1 := by rw [el]; omega
    refine SegOk.of_run (V := VW w a b rdCs 1) (uok TK) (conOf_ok rd_cs) (Nat.le_refl _) (run_rdL w a b sio sd ts tp t k vn p s) (fun f => ⟨by rw [sz]; omega, by rw [el]; exact decide_eq_false hm, by decide, by rw [el]; exact decide_eq_false (by omega), by omega, by omega, by decide, trivial⟩) (fun f => ⟨[f 26, f 18], rfl, ?_⟩)
    rw [e1, esl]; rfl) (fun _ _ _ => rfl)
theorem rdE_ok (TK : TopK (WW w a b) hT) : ConOk pwT' (WW w a b) hT (rdEJ (WW w a b).params).con := Job.con_ok (fun ids d hl hs => by
  obtain ⟨k, vn, s, ts, p, tp, t⟩ := d
  obtain ⟨sio, sd, rfl⟩ := ids2 hl
  obtain ⟨h0, h1, hlen, _⟩ := hs
  have h0' : p = s.length := h0
  have h1' : s.length ≠ 0 := h1
  have hlen' : s.length ≤ 1000000 := hlen
  have el : lenI s = (s.length : Int) := by show Int.ofNat (s.length - 1 + 1) = _; rw [Nat.sub_add_cancel (by omega)]; rfl
  have p62 : (1000000 : Nat) < 2 ^ 62 := by decide
  exact SegOk.of_run (V := VW w a b rdCs 1) (uok TK) (conOf_ok rd_cs) (Nat.le_refl _) (run_rdE w a b sio sd ts tp t k vn p s) (fun f => ⟨by rw [el]; exact decide_eq_true (by omega), h1', by omega, by decide, trivial⟩) (fun f => ⟨[f 20], rfl, rfl⟩)) (fun _ _ _ => rfl)
end
end Mine
end

section
set_option maxRecDepth 100000
set_option linter.unusedVariables false
namespace Mine
open PySem PySem.Spec PySem.Calls PyProof.Rows PySem.W PySem.W.X
open PySem.Builtin
/-- a text is in a tuple of texts -/
noncomputable def tinJ : Job (Array Value × Nat × Str × Nat) where
  lvl := 0
  need := 0
  ext := fun c os => match os, tailV c with
    | [⟨_, _, .seq items n, _⟩], .str x u => some (items, n, x, u)
    | _, _ => none
  code := fun ids d => .builtin "tuple.__contains__" ⟨[.ref (at0 ids), .str d.2.2.1 d.2.2.2], []⟩
  pre := fun _ d => [seqO "tuple" d.1 d.2.1]
  side := fun _ d => [∃ ys, StrsAre d.1.toList ys ∧ ys.any (· == d.2.2.1) = true]
  res := fun _ _ _ => .ok (.ret (.bool true))
  new := fun _ _ _ => []
  post := fun _ d _ => [seqO "tuple" d.1 d.2.1]
/-- a new list, its maker's argument not looked at -/
noncomputable def lnewJ : Job Value where
  lvl := 1
  need := 1
  ext := fun c _ => match c with
    | .call _ ⟨[_, v], []⟩ => some v
    | _ => none
  code := fun _ d => .call (.builtin "list.__new__") ⟨[.type "list", d], []⟩
  pre := fun _ _ => []
  side := fun _ _ => []
  res := fun _ _ xs => .ok (.ret (.ref (at0 xs)))
  new := fun _ _ xs => [(ky xs 0, listO #[] 0)]
  post := fun _ _ _ => []
section
variable {prog : Program} {w : World} {hT : Heap}
theorem tin_ok : ConOk prog w hT tinJ.con := Job.con_ok (fun ids d hl hs => by
  obtain ⟨items, n, x, u⟩ := d
  match ids, hl with
  | [t], _ =>
    obtain ⟨⟨ys, h1, h2⟩, _⟩ := hs
    have h1' : StrsAre items.toList ys := h1
    have h2' : ys.any (· == x) = true := h2
    intro A h₀ U g d os R h tk hh hr D K
    have ho := D.at' (t, seqO "tuple" items n) (List.mem_cons_self ..)
    refine code_builtin (b := Builtin.«tuple.__contains__») (by decide +kernel) F.entry_tuple_contains ?_
    refine tuple_contains_strs ⟨_, ho, rfl, n, rfl⟩ h1' ?_
    rw [h2']
    exact K [] rfl _ tk D) (fun _ _ _ => rfl)
theorem lnew_ok : ConOk prog w hT lnewJ.con := Job.con_ok (fun ids d hl hs => by
  have e0 : lnewJ.into ids d = [] := by cases ids <;> rfl
  have e1 : ∀ xs, lnewJ.out ids d xs = (.ok (.ret (.ref (at0 xs))), [(ky xs 0, listO #[] 0)]) := fun xs => by cases ids <;> rfl
  rw [e0]
  intro A h₀ U g d' os R h tk hh hr D K
  obtain ⟨D', e⟩ := D_new D (o := listO #[] 0) rfl
  have fin := K [h.objs.size - B] rfl _ tk (by rw [e1]; exact D')
  rw [e1] at fin
  have fin' : R (.ok (.ret (.ref (h.objs.size - B + B)))) _ := fin
  rw [e] at fin'
  refine codeAny_mono (code_list_new d (Q₁ := fun v s' => R (.ok (.ret v)) s') (E := fun _ _ => False) fin') fun r s hr => ?_
  match r, hr with
  | .ok (.ret v), hr => exact hr) (fun _ _ _ => rfl)
end
end Mine
end

section
set_option maxRecDepth 100000
set_option linter.unusedVariables false
namespace Mine
open PySem PyProof.Rows PySem.W PySem.W.X
/-! the word's signs are read -/
noncomputable def lexE (k v : Nat → Nat) (st q : Value) (sio d1 d2 : Nat) : List (Str × Tok × Value) := [((⟨⟨[105, 110, 115, 116, 114, 101, 97, 109]⟩⟩ : Str), k 0, .ref (sio + B)), ((⟨⟨[105, 110, 102, 105, 108, 101]⟩⟩ : Str), k 1, .none), ((⟨⟨[112, 111, 115, 105, 120]⟩⟩ : Str), k 2, .bool true), ((⟨⟨[101, 111, 102]⟩⟩ : Str), k 3, .none), ((⟨⟨[99, 111, 109, 109, 101, 110, 116, 101, 114, 115]⟩⟩ : Str), k 4, .str (⟨⟨[]⟩⟩ : Str) (v 4)), ((⟨⟨[119, 111, 114, 100, 99, 104, 97, 114, 115]⟩⟩ : Str), k 5, .str (⟨⟨[97, 98, 99, 100, 102, 101, 103, 104, 105, 106, 107, 108, 109, 110, 111, 112, 113, 114, 115, 116, 117, 118, 119, 120, 121, 122, 65, 66, 67, 68, 69, 70, 71, 72, 73, 74, 75, 76, 77, 78, 79, 80, 81, 82, 83, 84, 85, 86, 87, 88, 89, 90, 48, 49, 50, 51, 52, 53, 54, 55, 56, 57, 95, 223, 224, 225, 226, 227, 228, 229, 230, 231, 232, 233, 234, 235, 236, 237, 238, 239, 240, 241, 242, 243, 244, 245, 246, 248, 249, 250, 251, 252, 253, 254, 255, 192, 193, 194, 195, 196, 197, 198, 199, 200, 201, 202, 203, 204, 205, 206, 207, 208, 209, 210, 211, 212, 213, 214, 216, 217, 218, 219, 220, 221, 222]⟩⟩ : Str) (v 5)), ((⟨⟨[119, 104, 105, 116, 101, 115, 112, 97, 99, 101]⟩⟩ : Str), k 6, .str (⟨⟨[32, 9, 13, 10]⟩⟩ : Str) (v 6)), ((⟨⟨[119, 104, 105, 116, 101, 115, 112, 97, 99, 101, 95, 115, 112, 108, 105, 116]⟩⟩ : Str), k 7, .bool true), ((⟨⟨[113, 117, 111, 116, 101, 115]⟩⟩ : Str), k 8, .str (⟨⟨[39, 34]⟩⟩ : Str) (v 8)), ((⟨⟨[101, 115, 99, 97, 112, 101]⟩⟩ : Str), k 9, .str (⟨⟨[92]⟩⟩ : Str) (v 9)), ((⟨⟨[101, 115, 99, 97, 112, 101, 100, 113, 117, 111, 116, 101, 115]⟩⟩ : Str), k 10, .str (⟨⟨[34]⟩⟩ : Str) (v 10)), ((⟨⟨[115, 116, 97, 116, 101]⟩⟩ : Str), k 11, st), ((⟨⟨[112, 117, 115, 104, 98, 97, 99, 107]⟩⟩ : Str), k 12, .ref (d1 + B)), ((⟨⟨[108, 105, 110, 101, 110, 111]⟩⟩ : Str), k 13, .int 1 (v 13)), ((⟨⟨[100, 101, 98, 117, 103]⟩⟩ : Str), k 14, .int 0 (v 14)), ((⟨⟨[116, 111, 107, 101, 110]⟩⟩ : Str), k 15, q), ((⟨⟨[102, 105, 108, 101, 115, 116, 97, 99, 107]⟩⟩ : Str), k 16, .ref (d2 + B)), ((⟨⟨[115, 111, 117, 114, 99, 101]⟩⟩ : Str), k 17, .none), ((⟨⟨[95, 112, 117, 110, 99, 116, 117, 97, 116, 105, 111, 110, 95, 99, 104, 97, 114, 115]⟩⟩ : Str), k 18, .str (⟨⟨[]⟩⟩ : Str) (v 18))]
noncomputable abbrev ldO (P : Params) (k v : Nat → Nat) (st q : Value) (sio d1 d2 : Nat) : Obj := dcO P (lexE k v st q sio d1 d2) 19
noncomputable abbrev lxO (ld : Nat) : Obj := ⟨.ref 847, some (ld + B), .plain, #[]⟩
noncomputable abbrev dqO : Obj := ⟨.type "collections.deque", none, .fields #[.none, .int 0 0], #[]⟩
noncomputable abbrev wE (fk : Nat → Nat) (lx te : Nat) (qd : Bool) : List (Str × Tok × Value) := [((⟨⟨[115, 101, 108, 102]⟩⟩ : Str), fk 0, .ref (lx + B)), ((⟨⟨[113, 117, 111, 116, 101, 100]⟩⟩ : Str), fk 1, .bool qd), ((⟨⟨[101, 115, 99, 97, 112, 101, 100, 115, 116, 97, 116, 101]⟩⟩ : Str), fk 2, .str (⟨⟨[32]⟩⟩ : Str) te)]
noncomputable abbrev wF0 (P : Params) (fk : Nat → Nat) (lx te : Nat) (qd : Bool) : Obj := frO P (wE fk lx te qd) 3
noncomputable abbrev wF1 (P : Params) (fk : Nat → Nat) (lx te : Nat) (qd : Bool) (tn : Nat) (nc : Value) : Obj := frO P (wE fk lx te qd ++ [((⟨⟨[110, 101, 120, 116, 99, 104, 97, 114]⟩⟩ : Str), tn, nc)]) 4
noncomputable def wLp (fr : Nat) : Code := whileC (stN (fnB (cS 43 6)) 2) (envO (fnS (cS 43 6)) fr (⟨⟨[115, 104, 108, 101, 120, 46, 114, 101, 97, 100, 95, 116, 111, 107, 101, 110]⟩⟩ : Str) 815 814)
noncomputable abbrev wT (fr lx ld sio sd d1 d2 : Nat) (fo lo so : Obj) : Slots := [(fr, fo), (lx, lxO ld), (ld, lo), (sio, sioO sd), (sd, so), (d1, dqO), (d2, dqO)]
def TinP (t u : Nat) : Prop := ∃ ys, StrsAre [.str ⟨⟨[97]⟩⟩ t, .str ⟨⟨[99]⟩⟩ u] ys ∧ ys.any (· == (⟨⟨[97]⟩⟩ : Str)) = true
theorem tinP (t u : Nat) : TinP t u := ⟨_, .cons _ _ (.cons _ _ .nil), by decide +kernel⟩
noncomputable abbrev c1 (n : Nat) : Str := ⟨⟨[n]⟩⟩
noncomputable abbrev wCs0 (w : World) (a b : Bool) : List Con := [(rdJ (WW w a b).params 97).con, tinJ.con]
noncomputable abbrev wCs1 (w : World) (a b : Bool) : List Con := [(rdJ (WW w a b).params 39).con, (rdJ (WW w a b).params 98).con, (rdJ (WW w a b).params 32).con, (rdJ (WW w a b).params 99).con, tinJ.con]
noncomputable abbrev wCs2 (w : World) (a b : Bool) : List Con := [(rdJ (WW w a b).params 39).con, (rdJ (WW w a b).params 105).con, (rdJ (WW w a b).params 116).con, (rdJ (WW w a b).params 34).con, (rdJ (WW w a b).params 115).con, tinJ.con]
noncomputable abbrev wCs3 (w : World) (a b : Bool) : List Con := [(rdJ (WW w a b).params 46).con, tinJ.con]
noncomputable abbrev wCs4 (w : World) (a b : Bool) : List Con := [(rdJ (WW w a b).params 39).con, (rdJ (WW w a b).params 35).con, tinJ.con]
noncomputable abbrev wCs5 (w : World) (a b : Bool) : List Con := [(rdJ (WW w a b).params 39).con, (rdJ (WW w a b).params 92).con, tinJ.con]
noncomputable abbrev wCs6 (w : World) (a b : Bool) : List Con := [(rdJ (WW w a b).params 39).con, (rdJ (WW w a b).params 34).con, tinJ.con]
section
variable (w : World) (a b : Bool) (fr lx ld sio sd d1 d2 te ts tp tst tq tn : Nat) (fk k v k2 : Nat → Nat) (vn : Value) (p : Int) (s : Str) (f : Nat → Nat)
theorem run_w0 : RunIs (codeU (VW w a b (wCs0 w a b) 2) (simU (VW w a b (wCs0 w a b) 2) 439) none (wLp fr) 347598922087596973400895079541045609504754290305362675435086557132992394986538398340047975067088227466120566099715865792674425950620657134966609806929468706993302501321193440631834073742763429480344642213473371873256106212484512853951166340155270042162487627632433329550490153407515896288836923400252590208419539822158145082134262262060901610347196815572036912747863018896403939837491440557817494648969109138486737685547682044689323517775250720612115129365580062849001077356373819892769731931685291348015052685643324158103129845947723027495834819441755016020993 (mk f 29) .base (wT fr lx ld sio sd d1 d2 (wF0 (WW w a b).params fk lx te false) (ldO (WW w a b).params k v (.str (c1 32) tst) (.str ⟨⟨[]⟩⟩ tq) sio d1 d2) (sdO (WW w a b).params k2 vn s ts p tp)) [] [])
    [CharAt s p 97, s.length ≤ 1000000] (.stop (wLp fr) (wT fr lx ld sio sd d1 d2 (wF1 (WW w a b).params fk lx te false (f 10) (.str (c1 97) (f 8))) (ldO (WW w a b).params k v (.str (c1 97) (f 26)) (.str (nm 0) (f 8)) sio d1 d2) (sdO (WW w a b).params k2 vn s ts (p + 1) (f 9)))) := RunIs.of (by cases a <;> kernel_rfl)
theorem run_w1 : RunIs (codeU (VW w a b (wCs1 w a b) 2) (simU (VW w a b (wCs1 w a b) 2) 2053) none (wLp fr) 4529079178670786080230473970102844187975324888001277218814022406373486556492884791288448168973474367648207024351793791628290872860621779287038049372430540309156892548965156777480786736770859405811648633532964023054771935861015308020743569905609212997874900732413617529936891672918952486615571775596370549229257223659785233376958642187670004650965351374818926801905144573448977253417927455637918085823871237783873336813119824614682525844478101249551198255430143982865765659404480183609509735156659598460563431302167234825808028512978037313810072751143158358476323356960935796723305789057850262673279557541135359565276892345591172599485434640265601711704830256402693452727017604074610688854940875229258151097007183987457398240013713811923051890862808235138507743310430541980218764177276177861646661931854955105107476026674260453372219080163961468269051034012659245930111973936494094175769329502648394335968407502244076040244202032893064842699162221656738795344821387855229031689552688470565414784061333851845371122257358518967262213400338156791587361618562128881147560344292600353847207519423116051776454003646978194927296148905195719517735291044722949424613512838778840293633899121887478206148382686865096848337528314686478073941793156015090074614516822766079033244492121921511728329886191581904528311111075661992512894726847919520733411851042090059706926268972263215261560220448678403085846975930776032871854573611637472058172235731486908030175485086575238151771192022247779808496360221565197728086347291533970260795693545729576326288095560677298933099903265163153543220972890710711386559539632722883545266338494122779522693826562691661953583574696201687630374316854185065036496757959879163329998457473796386346638343760183877219306803830770651532496049778290259944553815746216797660449294549436830440948452012445301792589832212321266128704300935115169652007851246378320222239516485936585137851122898075106658481260289515605803367120384129766207152464537944381882791865153883820581616971669387961155107373395792875076570039450778479410699793369036479921261234011367095478874139422880982773396212293551669394951728921898006676252043081863228390264554319540916242469053342352369188431940618045335022269359182344333432163979793322370735319774822393141755299858729772020743040899652732820212652258964173053363970341116422710684941515330368674079612695808881913696941310982724942589499215797668138265851969256026659063228955553332654725235074611927243466071750380096232306399987214334515231348337126973285518350614159214948745828916258834297595398871558110298390611401874214591767776251985746830122167157942692134635010293275447328070747295937855529514970562153783092004100035024811877529901847428169079393639085762108374482229927917460333653087375131866701614089289599173633 (mk f 145) .base (wT fr lx ld sio sd d1 d2 (wF0 (WW w a b).params fk lx te false) (ldO (WW w a b).params k v (.str (c1 32) tst) (.str ⟨⟨[]⟩⟩ tq) sio d1 d2) (sdO (WW w a b).params k2 vn s ts p tp)) [] [])
    [CharAt s ((((p + 1) + 1) + 1) + 1) 39, s.length ≤ 1000000, CharAt s (((p + 1) + 1) + 1) 99, s.length ≤ 1000000, CharAt s ((p + 1) + 1) 32, s.length ≤ 1000000, CharAt s (p + 1) 98, s.length ≤ 1000000, CharAt s p 39, s.length ≤ 1000000] (.stop (wLp fr) (wT fr lx ld sio sd d1 d2 (wF1 (WW w a b).params fk lx te true (f 10) (.str (c1 39) (f 126))) (ldO (WW w a b).params k v (.str (c1 97) (f 142)) (.str (nm 1) (f 115)) sio d1 d2) (sdO (WW w a b).params k2 vn s ts (((((p + 1) + 1) + 1) + 1) + 1) (f 127)))) := RunIs.of (by cases a <;> kernel_rfl)
theorem run_w2 : RunIs (codeU (VW w a b (wCs2 w a b) 2) (simU (VW w a b (wCs2 w a b) 2) 4114) none (wLp fr) 1816284848042843999130278007321311886033943937142120899286164834760294488552291303640220912509100625215391585413479624332954204232919366501321664245141195541530517069623900711731782430061299981775746177786164429085544431010695772324496768051381351683682596401950241837370207661667039359093092590470137131740987859073269918089811014339897113979535819742577300320161547623166822321952677219917049750444091393305483734306086044744182643595684649644301347576207946670620467252609263321382658672591776827009709864290895669962942289876545444653405778584296367767449568022998677298105810654870917877859273164892998053051396598938645097256972203635439005987742234708959480837031383829730145059141381092446323025081396672535318349962967571091039549687867930639405244942153379046429363581677863654789995329686033051309872119175879760278632525479123750341115837188028807987878665757683900975782545340268767653747507097954393389071691469390611126754675344661310190721879248642522534651673371844407788133345235892198109501940255246016139259624795404913684275367428633781280607020281457573141855678038728177493458304926336486486685215708841986320269566071545729765691863217465738840672763493814217108011583855884118918683113068394559214521425117578929717251111804680822461518862938758222050602068497533661087372803233808977736855324704622665007208524968012889295639106133539618329708932348765164236532598985079827694489781051242172435981958902831318634134383181958684578607076086812383030823020011621319259550080964065738018049946116238263441156386790624973973606921084524324064415956164944537483074237761506191377400308298056987768223147711948814738136912265914546015101542642267595082111346476807170755828266992002456843960814194883526544088488875600810037273486637483578192467137517571810111031976637340764110147320088600327072141056070289856948584791485216711239523899603589213685130044378639901214518755171715788635688307779052250717982983872477119065737778487022944420937784531555750164356648153667963221913865102265728810497583340270610119207975863798877021229031853323596669861715014517145559568162655656822372427689667851833492291469580105245673770401965224823441867220140581205065180013263383994777838800712150291095949702575787941047293064352837090348070895362234665447127923204223628692955858778915707172569141697397993177401332320405891374393467509908661957561855012845085956716648042925778865638684734912346237667138864853125388953276609271669838123317557300091031481827604813406150078757314580843127866090846391383103843569686732755769431075229758521302210384820961290755582787844809832997866020572066496242634446734951110389760066896587466620584556412714689283173515988538475091623997197302503099994997973715159563977682803989487327578461621849990938444021950046971500738558750536952448901425577879464026421242624310946818359903606093381079596998628115110801993946328075560844479740605198835708801949361624703609528807256662694353082713698424268418163385518641524818129731015509022464829933742804715977966310470492721030740015563508340006843484518110362912148140111965779974966271878425435682359098224278413727843334957387578649261333149865038373573187687728578339614001119937014698840399564956851190599829143122071997046109096341060629482732376295476425347933463947686196592340396856368000064113177112151450211112285829352779675307670592485776336164163957045760414307702101532457550224832934208390110696584029435476475842427273707063342508960543520679638121145757233984400885864063859073097942071627639363091754554467414543229049881415765488018998512591174478937335664183179062339055571215196049573939533394355367277897725491711948289098887921087768622494017472340435750845497312011146704481094017799259755111083805134140105651591111363841005941773490158666134613952828256967059673893399924280102136167005088911458001907823861511214157875496485252733211092335078787864109477764212960168041178231932650741910230675029312269387392314004584728180559999690595713252599084362919723690618436115821010981428761882550652333021175214388411727120788860255409083426892970084897501383627957282929319131827348638196009648229146276798287865410352042311980683325927039090469610605749327685623451207210112359411722352785962735562594419899356770756449049161069216079788830294916020992103253585163228749955125181232409342202771542441280481131046571183721280767076786406720401329773425999222976312413161242705454939532910847899124982783114982123316658649377121052161958260183993308091780426625428375410368814934750850231689504909782385347214922571402120103873565049676261054479672715369140665123137940383489739515289757698949639198349015354037632993934501701951921537995338964709829183295486434734807434106145260617529688990052483967015691075739318265350842578024648769398422952493530785466991623490755475666725661380304576498827811732324523152706580944104151212071708157802377563908219438863116468826264190991714387776614441841988262508943760369472399202579181657984345785292850960149236810641523845324321426555150591501807522856486794285189403993419060518588752489477862174390122025245266045465223478649929290014863398756977298456489803190920486038430582782427830377403222490159487777997478712682414625626418969466653937159266033475958252663562204352843861047333141383879395752822873344816971952387101718750990639629761655279735623125398350579131593310713527664024523945602262288241422690750138307351511736405154139875520033324063277772651852718567263106545549460824899854360270186634763904454404520753573884568417039764939391077629310963256082335617343939685709875609836534653027730542052045567478375741716276854501358563562673574529614849 (mk f 298) .base (wT fr lx ld sio sd d1 d2 (wF0 (WW w a b).params fk lx te false) (ldO (WW w a b).params k v (.str (c1 32) tst) (.str ⟨⟨[]⟩⟩ tq) sio d1 d2) (sdO (WW w a b).params k2 vn s ts p tp)) [] [])
    [CharAt s (((((((((p + 1) + 1) + 1) + 1) + 1) + 1) + 1) + 1) + 1) 39, s.length ≤ 1000000, CharAt s ((((((((p + 1) + 1) + 1) + 1) + 1) + 1) + 1) + 1) 115, s.length ≤ 1000000, TinP (f 229) (f 230), CharAt s (((((((p + 1) + 1) + 1) + 1) + 1) + 1) + 1) 39, s.length ≤ 1000000, CharAt s ((((((p + 1) + 1) + 1) + 1) + 1) + 1) 34, s.length ≤ 1000000, CharAt s (((((p + 1) + 1) + 1) + 1) + 1) 39, s.length ≤ 1000000, TinP (f 138) (f 139), CharAt s ((((p + 1) + 1) + 1) + 1) 34, s.length ≤ 1000000, CharAt s (((p + 1) + 1) + 1) 39, s.length ≤ 1000000, CharAt s ((p + 1) + 1) 116, s.length ≤ 1000000, CharAt s (p + 1) 105, s.length ≤ 1000000, CharAt s p 39, s.length ≤ 1000000] (.stop (wLp fr) (wT fr lx ld sio sd d1 d2 (wF1 (WW w a b).params fk lx te true (f 10) (.str (c1 39) (f 279))) (ldO (WW w a b).params k v (.str (c1 97) (f 295)) (.str (nm 2) (f 268)) sio d1 d2) (sdO (WW w a b).params k2 vn s ts ((((((((((p + 1) + 1) + 1) + 1) + 1) + 1) + 1) + 1) + 1) + 1) (f 280)))) := RunIs.of (by cases a <;> kernel_rfl)
theorem run_w3 : RunIs (codeU (VW w a b (wCs3 w a b) 2) (simU (VW w a b (wCs3 w a b) 2) 1930) none (wLp fr) 1252662427791470766047603069525568134753404397010839377940340234563100448740851411668354526971445830238491667390265036678035024435032390549861290981950685635166956266955063908979995383012535623106144337466054016704364488674455780500912784141196581700370804415233226051521681825957334446070282932657868453985659758065219145177269645590533074271919939192163707228993416188082020484406367433631172155703408782427106130170881238268446442904923359810074115226302030257152186003620631161373161756201308514745289168298874732655761843549106502923771803161056754866472199929108617622293223843254860776933675611499321460432937050580630560984286317117285810792778141581093229791976634044290236737272940234662752356736467484557399620679326924829147899188595446193575969492122706658274800004393968967247008913124779742084075607110672769838296951150207566602495931396460220385877687399740791595315772259808765807409528623245805578209350269115202491470789018279794447437957897350664750107884149060182845408274860083802005716099813979054018842298457699468827066280511476904746443883491827281575363956745337820125704678934726761669262066529226261067601671263006829694902252751696715919519611289353687441766166318328088671057108447675409774341659251523806147740321500952236931416538590757104110207050379384579949368289151457919510445324747586643687177476078745043831286092556586558176540925202689026873102051351508611568661142754522381523304106296130391046149115874094650347398639669233584649379397902252813050727423993012909807369877397667269890362467375438768186037665422262233136473242785520128328428588723230980163065965065025227806286466950647185260798728079372796263536303854863817374090349643866269047259472031182134224341959816274461670820767600782996705396274409769172841831654777173655666325656197174598141572710241994365604897920395639546129016760306737633186579394607607432280031815185591294335718271978499405457061516457568825567921413561597343994703189488937976585882603250401324887364293265423124585586839336551270820860385132004775812052511446066123823194922721104637434278121788273776817393894074859428826761801788082602617303098592831662073071708141809588124289348935990941639043974308937680851514292902779356588967155938009693858539865167711499229010592756329785732286574729613647622095880752344882052060221473337465855599453692676555716543457645048040734286868102522479322706270544429113969375963715643691151721087666822740658089233266183114313110452281311027911888042450337300474416621369652636511654616023508611913645682917104773222482070136253862779247808170549065480316261844648281469141789161059893375367704000105441000973163827054228059172889218401281 (mk f 127) .base (wT fr lx ld sio sd d1 d2 (wF0 (WW w a b).params fk lx te false) (ldO (WW w a b).params k v (.str (c1 32) tst) (.str ⟨⟨[]⟩⟩ tq) sio d1 d2) (sdO (WW w a b).params k2 vn s ts p tp)) [] [])
    [TinP (f 103) (f 104), CharAt s ((p + 1) + 1) 46, s.length ≤ 1000000, TinP (f 57) (f 58), CharAt s (p + 1) 46, s.length ≤ 1000000, CharAt s p 46, s.length ≤ 1000000] (.stop (wLp fr) (wT fr lx ld sio sd d1 d2 (wF1 (WW w a b).params fk lx te false (f 10) (.str (c1 46) (f 89))) (ldO (WW w a b).params k v (.str (c1 97) (f 32)) (.str (nm 3) (f 124)) sio d1 d2) (sdO (WW w a b).params k2 vn s ts (((p + 1) + 1) + 1) (f 90)))) := RunIs.of (by cases a <;> kernel_rfl)
theorem run_w4 : RunIs (codeU (VW w a b (wCs4 w a b) 2) (simU (VW w a b (wCs4 w a b) 2) 1263) none (wLp fr) 2376621250513445505133900570707746548859711919990098568241910523098765749899412302008081141266578304827250360619560261332731388494230812174582836038303808750436528825170422032411351038552278024997163355973440425775298574183571957792841607884319860269073843276426743476386012513781943443236905337750655607503667210737373766137076787150548234838409338982708584878864051042560092654921491568371360050980614785979337588821886103125193802791964623380899134539467765688739244497985721648991174954534898798316123000048443112891687366670563838724895217861875225305531602051413350275033270683216277473312986112743910000299135152993764577875721260349199519143719783482713060416939491591549738650832075702630235078262714788489574813613382197053344321174040148108403401226384446499805903200360322401694839844594319158839516144832547491850692585625801176088220897523655746791004315959123364668554059360662009412577217175063735964920832477987372487453067125188937173111674314176203859819254045085501405874598088841338147319312728586891380364395910622621363503396543402910862575323658856756287211859771820155050014212507282450477304492225810576808663553334434342510318329694568667752489240882435385170175034796107158274255722192693660650973168213994801898497969915304817586321237528959000679899053377538168230203293232337521417160926511869303430318203010833885794556634462416616416018243656656684491377126651332674625513563107944829995736280186075708202704501074578550515634402022970734976160388722245349546737336869812598904540981001245641518860685459239625615567923044284518947258739447970604081064184153128177074074959510030853454271181301371954731115385659700055214091575426515477542132790197371905 (mk f 87) .base (wT fr lx ld sio sd d1 d2 (wF0 (WW w a b).params fk lx te false) (ldO (WW w a b).params k v (.str (c1 32) tst) (.str ⟨⟨[]⟩⟩ tq) sio d1 d2) (sdO (WW w a b).params k2 vn s ts p tp)) [] [])
    [CharAt s ((p + 1) + 1) 39, s.length ≤ 1000000, CharAt s (p + 1) 35, s.length ≤ 1000000, CharAt s p 39, s.length ≤ 1000000] (.stop (wLp fr) (wT fr lx ld sio sd d1 d2 (wF1 (WW w a b).params fk lx te true (f 10) (.str (c1 39) (f 68))) (ldO (WW w a b).params k v (.str (c1 97) (f 84)) (.str (nm 4) (f 40)) sio d1 d2) (sdO (WW w a b).params k2 vn s ts (((p + 1) + 1) + 1) (f 69)))) := RunIs.of (by cases a <;> kernel_rfl)
theorem run_w5 : RunIs (codeU (VW w a b (wCs5 w a b) 2) (simU (VW w a b (wCs5 w a b) 2) 1305) none (wLp fr) 3910741098746298274047817635211745327746802950630632912061277064686185090859784216162634855898190551741148949317279429681355219709373273452250926636895619523960054472459663779739720449441617856870027273983276096465553392644835220651495660170088126516230716914791311288647098321753302428856020689197383650207261068122629113961161142970062066608147317890855091142760967445879313632579288863136115246601401181636773525696982379273770608752010390877629917899208353447093932210015556841150818337448349596811976384232552776679240528964544032256625092851206661922546203661238168448917857277940575998440846967700860489642630452405412948078746575509224464650716829453779956614595992870537595361132371652173630816388663389799990131562921229931482513785840126688752978651978317924883816591245228138503822820738594992812271576610978207298372159636421398957734237597966198586510223602360130979229509279162810057540196765942984656340607751643900353976509537435209523915928210007044060289910531802583244371903910609304706366046775259065455152219025710318965390323689659585073811291842905721195333691465897309029850217731083905960035061459269963265554769758093573430014718589965485132211176962167108117375817771397852339000938913403428791619684358152278354511514156903415431065843080813287788909241644433551665780906779279508964665928625001965031740405537358014612463383047608477065108183342974420047022153074936508896464029935707652210782593526233214385298802745172945718085683626015635174319388116065353500875102716937831373634642359914312417871992694547280509284442412755275134509880411735610965463263946506610086389308253227709689771901481234267359045676312640240626413918403465235462414443203921987853770172843177435633883861381276802790243906271727267652715521 (mk f 89) .base (wT fr lx ld sio sd d1 d2 (wF0 (WW w a b).params fk lx te false) (ldO (WW w a b).params k v (.str (c1 32) tst) (.str ⟨⟨[]⟩⟩ tq) sio d1 d2) (sdO (WW w a b).params k2 vn s ts p tp)) [] [])
    [CharAt s ((p + 1) + 1) 39, s.length ≤ 1000000, CharAt s (p + 1) 92, s.length ≤ 1000000, CharAt s p 39, s.length ≤ 1000000] (.stop (wLp fr) (wT fr lx ld sio sd d1 d2 (wF1 (WW w a b).params fk lx te true (f 10) (.str (c1 39) (f 70))) (ldO (WW w a b).params k v (.str (c1 97) (f 86)) (.str (nm 5) (f 40)) sio d1 d2) (sdO (WW w a b).params k2 vn s ts (((p + 1) + 1) + 1) (f 71)))) := RunIs.of (by cases a <;> kernel_rfl)
theorem run_w6 : RunIs (codeU (VW w a b (wCs6 w a b) 2) (simU (VW w a b (wCs6 w a b) 2) 1263) none (wLp fr) 2376621250513445505133900570707746548859711919990098568241910523098765749899412302008081141266578304827250360619560261332731388494230812174582836038303808750436528825170422032411351038552278024997163355973440425775298574183571957792841607884319860269073843276426743476386012513781943443236905337750655607503667210737373766137076787150548234838409338982708584878864051042560092654921491568371360050980614785979337588821886103125193802791964623380899134539467765688739244497985721648991174954534898798316123000048443112891687366670563838724895217861875225305531602051413350275033270683216277473312986112743910000299135152993764577875721260349199519143719783482713060416939491591549738650832075702630235078262714788489574813613382197053344321174040148108403401226384446499805903200360322401694839844594319158839516144832547491850692585625801176088220897523655746791004315959123364668554059360662009412577217175063735964920832477987372487453067125188937173111674314176203859819254045085501405874598088841338147319312728586891380364395910622621363503396543402910862575323658856756287211859771820155050014212507282450477304492225810576808663553334434342510318329694568667752489240882435385170175034796107158274255722192693660650973168213994801898497969915304817586321237528959000679899053377538168230203293232337521417160926511869303430318203010833885794556634462416616416018243656656684491377126651332674625513563107944829995736280186075708202704501074578550515634402022970734976160388722245349546737336869812598904540981001245641518860685459239625615567923044284518947258739447970604081064184153128177074074959510030853454271181301371954731115385659700055214091575426515477542132790197371905 (mk f 87) .base (wT fr lx ld sio sd d1 d2 (wF0 (WW w a b).params fk lx te false) (ldO (WW w a b).params k v (.str (c1 32) tst) (.str ⟨⟨[]⟩⟩ tq) sio d1 d2) (sdO (WW w a b).params k2 vn s ts p tp)) [] [])
    [CharAt s ((p + 1) + 1) 39, s.length ≤ 1000000, CharAt s (p + 1) 34, s.length ≤ 1000000, CharAt s p 39, s.length ≤ 1000000] (.stop (wLp fr) (wT fr lx ld sio sd d1 d2 (wF1 (WW w a b).params fk lx te true (f 10) (.str (c1 39) (f 68))) (ldO (WW w a b).params k v (.str (c1 97) (f 84)) (.str (nm 6) (f 40)) sio d1 d2) (sdO (WW w a b).params k2 vn s ts (((p + 1) + 1) + 1) (f 69)))) := RunIs.of (by cases a <;> kernel_rfl)
end
end Mine
end

section
set_option maxRecDepth 100000
set_option linter.unusedVariables false
namespace Mine
open PySem PyProof.Rows PySem.W PySem.W.X
noncomputable abbrev weCs (w : World) (a b : Bool) (r : Con) : List Con := [r, lenC, tinJ.con]
section
variable (w : World) (a b : Bool) (fr lx ld sio sd d1 d2 te ts tp tst tq tn : Nat) (fk k v k2 : Nat → Nat) (vn nc : Value) (qd : Bool) (p : Int) (s q : Str) (f : Nat → Nat)
theorem run_wS : RunIs (codeU (VW w a b (weCs w a b (rdJ (WW w a b).params 32).con) 2) (simU (VW w a b (weCs w a b (rdJ (WW w a b).params 32).con) 2) 459) none (wLp fr) 18254978885958897288588018872491635070706823598309400735483231939989759111183818298649542791698754949858722112059207203676477039872019525632072385607058242991159643821798251270408485453862758105052154591903248336565444601941795636451283542792784893441424269656985741517551044133234281398502059003967815493535382574463951694689962096421081123616834830262278687569504342177145150400819404080217651153520553687555559573234343735701778962190493901817776817514227552312481954268041427005888306032609484487857113767612011006109547665719797905729401554334737133554048447831843249223618735686354283959396297240818247987955482603775214593 (mk f 33) .base (wT fr lx ld sio sd d1 d2 (wF1 (WW w a b).params fk lx te qd tn nc) (ldO (WW w a b).params k v (.str (c1 97) tst) (.str q tq) sio d1 d2) (sdO (WW w a b).params k2 vn s ts p tp)) [] [])
    [q.length ≠ 0, q.length < 2 ^ 62, (c1 32).length ≠ 0, (c1 32).length < 2 ^ 62, TinP (f 21) (f 22), CharAt s p 32, s.length ≤ 1000000, (⟨⟨[]⟩⟩ : Str).length = 0] (.ret (.ok .next) (wT fr lx ld sio sd d1 d2 (wF1 (WW w a b).params fk lx te qd tn (.str (c1 32) (f 7))) (ldO (WW w a b).params k v (.str (c1 32) (f 28)) (.str q tq) sio d1 d2) (sdO (WW w a b).params k2 vn s ts (p + 1) (f 8)))) := RunIs.of (by cases a <;> kernel_rfl)
theorem run_wE : RunIs (codeU (VW w a b (weCs w a b (rdEJ (WW w a b).params).con) 2) (simU (VW w a b (weCs w a b (rdEJ (WW w a b).params).con) 2) 385) none (wLp fr) 62183333548606192854770860546066881415687468297965137966086339740958897499718698382796954687129493736455634086105240314215768996633658235043779779038286208088112130173782623946093297984678535644826050935186502493558378016351617883546086815864991226522527262168257707843607963938860334221756377243022490358972344488687928690139672476605031037542164501773636973115727505331681673083799148729545244093957745851148743509206663076349733154204718730464934154665936325819742924580583519197907576360490971850437954561181707551745 (mk f 26) .base (wT fr lx ld sio sd d1 d2 (wF1 (WW w a b).params fk lx te qd tn nc) (ldO (WW w a b).params k v (.str (c1 97) tst) (.str q tq) sio d1 d2) (sdO (WW w a b).params k2 vn s ts p tp)) [] [])
    [(⟨⟨[]⟩⟩ : Str).length = 0, TinP (f 20) (f 21), p = s.length, s.length ≠ 0, s.length ≤ 1000000, (⟨⟨[]⟩⟩ : Str).length = 0] (.ret (.ok .next) (wT fr lx ld sio sd d1 d2 (wF1 (WW w a b).params fk lx te qd tn (.str (⟨⟨[]⟩⟩ : Str) (f 7))) (ldO (WW w a b).params k v .none (.str q tq) sio d1 d2) (sdO (WW w a b).params k2 vn s ts p tp))) := RunIs.of (by cases a <;> kernel_rfl)
theorem run_wN : RunIs (codeU (VW w a b (weCs w a b (rdEJ (WW w a b).params).con) 2) (simU (VW w a b (weCs w a b (rdEJ (WW w a b).params).con) 2) 241) none (wLp fr) 2893924856719188557079907069173844205011688381845612061403670463524938235890026517530473600069466824300239241554702331041044449236978345655736542359038999289838032995220790424663687826962711601727335098831735738627873139447933096671253895020161343148351677204938924141238755760852923791099136198016386049 (mk f 16) .base (wT fr lx ld sio sd d1 d2 (wF0 (WW w a b).params fk lx te qd) (ldO (WW w a b).params k v .none (.str q tq) sio d1 d2) (sdO (WW w a b).params k2 vn s ts p tp)) [] [])
    [p = s.length, s.length ≠ 0, s.length ≤ 1000000, (⟨⟨[]⟩⟩ : Str).length = 0] (.ret (.ok .next) (wT fr lx ld sio sd d1 d2 (wF1 (WW w a b).params fk lx te qd (f 8) (.str (⟨⟨[]⟩⟩ : Str) (f 7))) (ldO (WW w a b).params k v .none (.str (⟨⟨[]⟩⟩ : Str) (f 13)) sio d1 d2) (sdO (WW w a b).params k2 vn s ts p tp))) := RunIs.of (by cases a <;> kernel_rfl)
end
end Mine
end

section
set_option maxRecDepth 100000
set_option linter.unusedVariables false
namespace Mine
open PySem PyProof.Rows PySem.W PySem.W.X
def CharsAt (s : Str) : Int → List Nat → Prop
  | _, [] => True
  | p, ch :: r => CharAt s p ch ∧ CharsAt s (p + 1) r
def adv : Int → Nat → Int
  | p, 0 => p
  | p, n + 1 => adv (p + 1) n
theorem adv_eq : ∀ (n : Nat) (p : Int), adv p n = p + n
  | 0, p => by simp [adv]
  | n + 1, p => by show adv (p + 1) n = _; rw [adv_eq n]; omega
/-- the signs as quote writes the name -/
noncomputable def qtL (k : Nat) : List Nat := (qt k).cps.toList
noncomputable def qdK (k : Nat) : Bool := !safe k
/-- how a word ends: with a space, or with the text -/
def EndAt (s : Str) (p : Int) : Bool → Prop
  | true => CharAt s p 32
  | false => p = s.length
structure WlD where
  fk : Nat → Nat
  te : Nat
  k : Nat → Nat
  v : Nat → Nat
  k2 : Nat → Nat
  vn : Value
  tst : Nat
  tq : Nat
  s : Str
  ts : Nat
  p : Int
  tp : Nat
noncomputable def tokV (v : Value) : Nat := match v with
  | .str _ t => t
  | .int _ t => t
  | _ => 0
noncomputable def wlExt (os : List Obj) : Option WlD := match os with
  | [fr, _, ld, _, sd, _, _] => match valT sd 1, valT sd 2 with
    | .str s ts, .int p tp => some ⟨keyT fr, tokV (valT fr 2), keyT ld, fun i => tokV (valT ld i), keyT sd, valT sd 0, tokV (valT ld 11), tokV (valT ld 15), s, ts, p, tp⟩
    | _, _ => none
  | _ => none
noncomputable def wO (lx ld sio sd : Nat) (fo lo so : Obj) : List Obj := [fo, lxO ld, lo, sioO sd, so, dqO, dqO]
noncomputable def endC (e : Bool) : Str := match e with
  | true => c1 32
  | false => ⟨⟨[]⟩⟩
noncomputable def endSt (e : Bool) (t : Nat) : Value := match e with
  | true => .str (c1 32) t
  | false => .none
noncomputable def endP (e : Bool) (p : Int) : Int := match e with
  | true => p + 1
  | false => p
/-- a word's loop; ids: the frame, lex, its dict, the stream, its dict, the two deques -/
noncomputable def wlJ (P : Params) (cs : List Nat) (q : Str) (qd e : Bool) : Job WlD where
  lvl := 2
  need := 5
  ext := fun _ os => wlExt os
  code := fun ids _ => wLp (ky ids 0)
  pre := fun ids d => wO (ky ids 1) (ky ids 2) (ky ids 3) (ky ids 4) (wF0 P d.fk (ky ids 1) d.te false) (ldO P d.k d.v (.str (c1 32) d.tst) (.str ⟨⟨[]⟩⟩ d.tq) (ky ids 3) (ky ids 5) (ky ids 6)) (sdO P d.k2 d.vn d.s d.ts d.p d.tp)
  side := fun _ d => [∃ k, k < 7 ∧ cs = qtL k ∧ q = nm k ∧ qd = qdK k, CharsAt d.s d.p cs ∧ EndAt d.s (adv d.p cs.length) e ∧ d.s.length ≠ 0 ∧ d.s.length ≤ 1000000]
  res := fun _ _ _ => .ok .next
  new := fun _ _ _ => []
  post := fun ids d xs => wO (ky ids 1) (ky ids 2) (ky ids 3) (ky ids 4) (wF1 P d.fk (ky ids 1) d.te qd (ky xs 0) (.str (endC e) (ky xs 1))) (ldO P d.k d.v (endSt e (ky xs 2)) (.str q (ky xs 3)) (ky ids 3) (ky ids 5) (ky ids 6)) (sdO P d.k2 d.vn d.s d.ts (endP e (adv d.p cs.length)) (ky xs 4))
section
variable {w : World} {a b : Bool} {hT : Heap}
theorem w_end (TK : TopK (WW w a b) hT) (fr lx ld sio sd d1 d2 te ts tp tst tq tn : Nat) (fk k v k2 : Nat → Nat) (vn nc : Value) (qd e : Bool) (p : Int) (s q : Str) (hq : q.length ≠ 0) (hq2 : q.length ≤ 1000000) (he : EndAt s p e) (h0 : s.length ≠ 0) (h1 : s.length ≤ 1000000) :
    SegOk pwT' (WW w a b) hT 2 5 (wLp fr) (wT fr lx ld sio sd d1 d2 (wF1 (WW w a b).params fk lx te qd tn nc) (ldO (WW w a b).params k v (.str (c1 97) tst) (.str q tq) sio d1 d2) (sdO (WW w a b).params k2 vn s ts p tp))
      (fun xs => (.ok .next, wT fr lx ld sio sd d1 d2 (wF1 (WW w a b).params fk lx te qd (ky xs 0) (.str (endC e) (ky xs 1))) (ldO (WW w a b).params k v (endSt e (ky xs 2)) (.str q (ky xs 3)) sio d1 d2) (sdO (WW w a b).params k2 vn s ts (endP e p) (ky xs 4)))) := by
  have p62 : (1000000 : Nat) < 2 ^ 62 := by decide
  have l0 : ((⟨⟨[]⟩⟩ : Str)).length = 0 := rfl
  cases e with
  | true => exact SegOk.of_run (V := VW w a b (weCs w a b (rdJ (WW w a b).params 32).con) 2) (uok TK) (conOf_ok (show Cons pwT' (WW w a b) hT (weCs w a b (rdJ (WW w a b).params 32).con) from ⟨rd_ok TK 32, len_ok, tin_ok, trivial⟩)) (show 1 ≤ 2 by decide) (run_wS w a b fr lx ld sio sd d1 d2 te ts tp tst tq tn fk k v k2 vn nc qd p s q) (fun f => ⟨hq, by omega, by decide, by decide, tinP _ _, he, h1, l0, trivial⟩) (fun f => ⟨[tn, f 7, f 28, tq, f 8], rfl, rfl⟩)
  | false => exact SegOk.of_run (V := VW w a b (weCs w a b (rdEJ (WW w a b).params).con) 2) (uok TK) (conOf_ok (show Cons pwT' (WW w a b) hT (weCs w a b (rdEJ (WW w a b).params).con) from ⟨rdE_ok TK, len_ok, tin_ok, trivial⟩)) (show 1 ≤ 2 by decide) (run_wE w a b fr lx ld sio sd d1 d2 te ts tp tst tq tn fk k v k2 vn nc qd p s q) (fun f => ⟨l0, tinP _ _, he, h0, h1, l0, trivial⟩) (fun f => ⟨[tn, f 7, 0, tq, tp], rfl, rfl⟩)
theorem wl_ok (TK : TopK (WW w a b) hT) (cs : List Nat) (q : Str) (qd e : Bool) : ConOk pwT' (WW w a b) hT (wlJ (WW w a b).params cs q qd e).con := Job.con_ok (fun ids d hl hs => by
  obtain ⟨fk, te, k, v, k2, vn, tst, tq, s, ts, p, tp⟩ := d
  obtain ⟨fr, lx, ld, sio, sd, d1, d2, rfl⟩ := ids7 hl
  obtain ⟨⟨kk, hk, rfl, rfl, rfl⟩, ⟨hc, he, h0, h1⟩, _⟩ := hs
  have hc' : CharsAt s p (qtL kk) := hc
  have he' : EndAt s (adv p (qtL kk).length) e := he
  have h1' : s.length ≤ 1000000 := h1
  have E := fun tst tq tn nc tp hq hq2 => w_end TK fr lx ld sio sd d1 d2 te ts tp tst tq tn fk k v k2 vn nc (qdK kk) e (adv p (qtL kk).length) s (nm kk) hq hq2 he' h0 h1'
  clear he hc h1 hl
  match kk, hk with
  | 0, _ => exact SegOk.of_then (V := VW w a b (wCs0 w a b) 2) (uok TK) (conOf_ok (show Cons pwT' (WW w a b) hT (wCs0 w a b) from ⟨rd_ok TK _, tin_ok, trivial⟩)) (show 1 ≤ 2 by decide) (run_w0 w a b fr lx ld sio sd d1 d2 te ts tp tst tq fk k v k2 vn p s) (fun f => ⟨hc'.1, h1', trivial⟩) (fun f => E _ _ _ _ _ (by decide) (by decide))
  | 1, _ => exact SegOk.of_then (V := VW w a b (wCs1 w a b) 2) (uok TK) (conOf_ok (show Cons pwT' (WW w a b) hT (wCs1 w a b) from ⟨rd_ok TK _, rd_ok TK _, rd_ok TK _, rd_ok TK _, tin_ok, trivial⟩)) (show 1 ≤ 2 by decide) (run_w1 w a b fr lx ld sio sd d1 d2 te ts tp tst tq fk k v k2 vn p s) (fun f => ⟨hc'.2.2.2.2.1, h1', hc'.2.2.2.1, h1', hc'.2.2.1, h1', hc'.2.1, h1', hc'.1, h1', trivial⟩) (fun f => E _ _ _ _ _ (by decide) (by decide))
  | 2, _ => exact SegOk.of_then (V := VW w a b (wCs2 w a b) 2) (uok TK) (conOf_ok (show Cons pwT' (WW w a b) hT (wCs2 w a b) from ⟨rd_ok TK _, rd_ok TK _, rd_ok TK _, rd_ok TK _, rd_ok TK _, tin_ok, trivial⟩)) (show 1 ≤ 2 by decide) (run_w2 w a b fr lx ld sio sd d1 d2 te ts tp tst tq fk k v k2 vn p s) (fun f => ⟨hc'.2.2.2.2.2.2.2.2.2.1, h1', hc'.2.2.2.2.2.2.2.2.1, h1', tinP _ _, hc'.2.2.2.2.2.2.2.1, h1', hc'.2.2.2.2.2.2.1, h1', hc'.2.2.2.2.2.1, h1', tinP _ _, hc'.2.2.2.2.1, h1', hc'.2.2.2.1, h1', hc'.2.2.1, h1', hc'.2.1, h1', hc'.1, h1', trivial⟩) (fun f => E _ _ _ _ _ (by decide) (by decide))
  | 3, _ => exact SegOk.of_then (V := VW w a b (wCs3 w a b) 2) (uok TK) (conOf_ok (show Cons pwT' (WW w a b) hT (wCs3 w a b) from ⟨rd_ok TK _, tin_ok, trivial⟩)) (show 1 ≤ 2 by decide) (run_w3 w a b fr lx ld sio sd d1 d2 te ts tp tst tq fk k v k2 vn p s) (fun f => ⟨tinP _ _, hc'.2.2.1, h1', tinP _ _, hc'.2.1, h1', hc'.1, h1', trivial⟩) (fun f => E _ _ _ _ _ (by decide) (by decide))
  | 4, _ => exact SegOk.of_then (V := VW w a b (wCs4 w a b) 2) (uok TK) (conOf_ok (show Cons pwT' (WW w a b) hT (wCs4 w a b) from ⟨rd_ok TK _, rd_ok TK _, tin_ok, trivial⟩)) (show 1 ≤ 2 by decide) (run_w4 w a b fr lx ld sio sd d1 d2 te ts tp tst tq fk k v k2 vn p s) (fun f => ⟨hc'.2.2.1, h1', hc'.2.1, h1', hc'.1, h1', trivial⟩) (fun f => E _ _ _ _ _ (by decide) (by decide))
  | 5, _ => exact SegOk.of_then (V := VW w a b (wCs5 w a b) 2) (uok TK) (conOf_ok (show Cons pwT' (WW w a b) hT (wCs5 w a b) from ⟨rd_ok TK _, rd_ok TK _, tin_ok, trivial⟩)) (show 1 ≤ 2 by decide) (run_w5 w a b fr lx ld sio sd d1 d2 te ts tp tst tq fk k v k2 vn p s) (fun f => ⟨hc'.2.2.1, h1', hc'.2.1, h1', hc'.1, h1', trivial⟩) (fun f => E _ _ _ _ _ (by decide) (by decide))
  | 6, _ => exact SegOk.of_then (V := VW w a b (wCs6 w a b) 2) (uok TK) (conOf_ok (show Cons pwT' (WW w a b) hT (wCs6 w a b) from ⟨rd_ok TK _, rd_ok TK _, tin_ok, trivial⟩)) (show 1 ≤ 2 by decide) (run_w6 w a b fr lx ld sio sd d1 d2 te ts tp tst tq fk k v k2 vn p s) (fun f => ⟨hc'.2.2.1, h1', hc'.2.1, h1', hc'.1, h1', trivial⟩) (fun f => E _ _ _ _ _ (by decide) (by decide))) (fun _ _ _ => rfl)
end
end Mine
end

section
set_option maxRecDepth 100000
set_option linter.unusedVariables false
namespace Mine
open PySem PyProof.Rows PySem.W PySem.W.X
noncomputable abbrev nxT (lx ld sio sd d1 d2 : Nat) (lo so : Obj) : Slots := [(lx, lxO ld), (ld, lo), (sio, sioO sd), (sd, so), (d1, dqO), (d2, dqO)]
noncomputable abbrev nxCs (w : World) (a b : Bool) (cs : List Nat) (q : Str) (qd e : Bool) : List Con := [(wlJ (WW w a b).params cs q qd e).con, seqC]
noncomputable abbrev e0S : Str := ⟨⟨[]⟩⟩
section
variable (w : World) (a b : Bool) (lx ld sio sd d1 d2 ts tp tst tq : Nat) (k v k2 : Nat → Nat) (vn : Value) (p : Int) (s q : Str) (cs : List Nat) (e : Bool) (f : Nat → Nat)
theorem run_nxF : RunIs (codeU (VW w a b (nxCs w a b cs q false e) 3) (simU (VW w a b (nxCs w a b cs q false e) 3) 424) none (.call (.ref 844) ⟨[.ref (lx + B)], []⟩) 1279621593712740250854266311564346582880767017272510847997782758756434718600293208018738616744210457579994739950367447151521644970264919659291820298657654908914283071363885591026993323555765481349925364706743865627210124897855263411382368158200835772664816978912772207608613643556723313228037042076094225313947597499360259449560271147462817537784818091278559564278374984318561136006293450733971323786202336785210110569009682566537585448251783676902744702082494517300111524093291022493430129449965585432578 (mk f 34) .base (nxT lx ld sio sd d1 d2 (ldO (WW w a b).params k v (.str (c1 32) tst) (.str e0S tq) sio d1 d2) (sdO (WW w a b).params k2 vn s ts p tp)) [] [])
    [True, (q.cps.toList == e0S.cps.toList) = false, ∃ k, k < 7 ∧ cs = qtL k ∧ q = nm k ∧ false = qdK k, CharsAt s p cs ∧ EndAt s (adv p cs.length) e ∧ s.length ≠ 0 ∧ s.length ≤ 1000000] (.ret (.ok (.ret (.str q (f 15)))) (nxT lx ld sio sd d1 d2 (ldO (WW w a b).params k v (endSt e (f 14)) (.str e0S (f 19)) sio d1 d2) (sdO (WW w a b).params k2 vn s ts (endP e (adv p cs.length)) (f 16)))) := RunIs.of (by cases a <;> kernel_rfl)
theorem run_nxT : RunIs (codeU (VW w a b (nxCs w a b cs q true e) 3) (simU (VW w a b (nxCs w a b cs q true e) 3) 418) none (.call (.ref 844) ⟨[.ref (lx + B)], []⟩) 290952264938991959491947070901993943807785175811775581677871459477599891806742836710950227085097698723073958706292489103252966053847767320642519802881373586595664862980785435644746331389743654960949558446103577957187590042433398932874695308396217061813179689014990548950157860771064363277929847522778731086406736425098567189757958995270666609265293458773968562268296635680681944827561466506304524294633982372467168130702751819450560166976837978920898518990047414363863333310081564113318707202 (mk f 32) .base (nxT lx ld sio sd d1 d2 (ldO (WW w a b).params k v (.str (c1 32) tst) (.str e0S tq) sio d1 d2) (sdO (WW w a b).params k2 vn s ts p tp)) [] [])
    [∃ k, k < 7 ∧ cs = qtL k ∧ q = nm k ∧ true = qdK k, CharsAt s p cs ∧ EndAt s (adv p cs.length) e ∧ s.length ≠ 0 ∧ s.length ≤ 1000000] (.ret (.ok (.ret (.str q (f 15)))) (nxT lx ld sio sd d1 d2 (ldO (WW w a b).params k v (endSt e (f 14)) (.str e0S (f 19)) sio d1 d2) (sdO (WW w a b).params k2 vn s ts (endP e (adv p cs.length)) (f 16)))) := RunIs.of (by cases a <;> kernel_rfl)
end
end Mine
end

section
set_option maxRecDepth 100000
set_option linter.unusedVariables false
namespace Mine
open PySem PySem.Spec PySem.Calls PySem.W PySem.W.X
open PySem.Builtin
section
variable {prog : Program} {w : World} {hT : Heap}
theorem stop_new {A : Around} {R : Result → Shared → Prop} {hp : Heap} {g : Array GenState} {d : Drawn} {tk : Nat} {os : OsState}
    (h : R (.ok (.ret (.ref (hp.objs.size + 1)))) ⟨(hp.push (seqO "tuple" #[] 0)).push (stopO hp.objs.size), g, d, tk, os⟩) :
    codeAny (model prog w) A (.builtin "Exception.__new__" ⟨[.type "StopIteration"], []⟩) R ⟨hp, g, d, tk, os⟩ := by
  have hentry : entryFor table "Exception.__new__" = some Builtin.«BaseException.__new__» := entryFor_alias (id' := "BaseException.__new__") (by rw [fastTable_eq_tree]; kernel_rfl) (by first | rfl | decide +kernel) (by decide +kernel) (by rw [fastTable_eq_tree]; kernel_rfl)
  have hsub : isSubtype (.type "StopIteration") (.type "Exception") = pure true := by rw [isSubtype_type]; kernel_rfl
  have hna : isSubtype (.type "StopIteration") (.type "AttributeError") = pure false := by rw [isSubtype_type]; kernel_rfl
  have hnn : isSubtype (.type "StopIteration") (.type "NameError") = pure false := by rw [isSubtype_type]; kernel_rfl
  have hmade : Bind.madeHere "BaseException.__new__" (.type "StopIteration") = pure () := by kernel_rfl
  have hends : "Exception.__new__".endsWith ".__new__" = true := by decide +kernel
  have howner : "Exception.__new__".dropRight 8 = "Exception" := by decide +kernel
  refine codeAny_builtinAt hentry ?_
  unfold Builtin.«BaseException.__new__»
  refine wpAt_bind ?_
  show wpAt _ _ _ (stack >>= _) _ _ _
  refine wpAt_bind (wpAt_stack fun p below => wpAt_of_wpAny ?_)
  wp_walk
  refine wpAt_of_wpAny ?_
  rw [howner]
  wp_walk
  show R _ _
  rw [Heap.size_push]
  exact h
noncomputable def snewJ : Job Unit where
  lvl := 0
  need := 2
  ext := fun _ _ => some ()
  code := fun _ _ => .builtin "Exception.__new__" ⟨[.type "StopIteration"], []⟩
  pre := fun _ _ => []
  side := fun _ _ => []
  res := fun _ _ xs => .ok (.ret (.ref (at0 xs)))
  new := fun _ _ xs => [(ky xs 0, stopO (ky xs 1 + B)), (ky xs 1, seqO "tuple" #[] 0)]
  post := fun _ _ _ => []
theorem snew_ok : ConOk prog w hT snewJ.con := Job.con_ok (fun ids d hl hs => by
  have e0 : snewJ.into ids d = [] := by cases ids <;> rfl
  have e1 : ∀ xs, snewJ.out ids d xs = (.ok (.ret (.ref (at0 xs))), [(ky xs 0, stopO (ky xs 1 + B)), (ky xs 1, seqO "tuple" #[] 0)]) := fun xs => by cases ids <;> rfl
  rw [e0]
  intro A h₀ U g d' os R h tk hh hr D K
  obtain ⟨D2, e2⟩ := D_new D (o := seqO "tuple" #[] 0) rfl
  obtain ⟨D3, e3⟩ := D_new D2 (o := stopO (h.objs.size - B + B)) rfl
  have fin := K [(h.push (seqO "tuple" #[] 0)).objs.size - B, h.objs.size - B] rfl _ tk (by rw [e1]; exact D3)
  rw [e1] at fin
  change R (.ok (.ret (.ref ((h.push (seqO "tuple" #[] 0)).objs.size - B + B)))) _ at fin
  rw [e3, e2, Heap.size_push] at fin
  exact stop_new fin) (fun _ _ _ => rfl)
end
end Mine
end

section
set_option maxRecDepth 100000
set_option linter.unusedVariables false
namespace Mine
open PySem PySem.Spec PySem.Calls PyProof.Rows PySem.W PySem.W.X
/-! jobs that know the frames below -/
structure FJob (D : Type) where
  J : Job D
  fr : List Nat → D → List Env
noncomputable def FJob.con {D : Type} (F : FJob D) : ConF where
  need := F.J.need
  lvl := F.J.lvl
  run := fun fr c T as xs => match sel T as with
    | some l => match F.J.ext c (objs l) with
      | some d => match F.J.con.run c T as xs with
        | some o => some { o with eqs := (.e fr, .e (F.fr (keys l) d)) :: o.eqs }
        | none => none
      | none => none
    | none => none
noncomputable def FJob.Ok {D : Type} (F : FJob D) (prog : Program) (w : World) (hT : Heap) : Prop :=
  ∀ ids d, ids.length = (F.J.pre ids d).length → Alls (F.J.side ids d) → SegOkF prog w hT F.J.lvl F.J.need (F.fr ids d) (F.J.code ids d) (F.J.into ids d) (F.J.out ids d)
theorem FJob.con_ok {D : Type} {F : FJob D} {prog : Program} {w : World} {hT : Heap} (H : F.Ok prog w hT) (hp : ∀ ids d xs, (F.J.post ids d xs).length = (F.J.pre ids d).length) : ConOkF prog w hT F.con := by
  intro A h₀ U g d os c T as R h tk fr hh hA hr D K
  have key : ∀ xs : List Nat, xs.length = F.J.need → ∃ o, F.con.run fr c T as xs = some o ∧ (∀ q ∈ o.eqs, q.1 = q.2) ∧ (∀ q ∈ o.ps, q) ∧ ∀ h' t', RepU hT h₀ U o.T h' → R o.res ⟨h', g, d, t' + 1, os⟩ := K
  obtain ⟨o, ho, he, hps, _⟩ := key _ (zeros F.J.need)
  simp only [FJob.con, Job.con] at ho key
  cases hs : sel T as with
  | none => rw [hs] at ho; cases ho
  | some l =>
    cases hx : F.J.ext c (objs l) with
    | none => simp only [hs, hx] at ho; cases ho
    | some y =>
      cases hd : distinct as with
      | false => simp only [hs, hx, hd] at ho; cases ho
      | true =>
        cases hb : objEqs (objs l) (F.J.pre (keys l) y) with
        | none => simp only [hd, hs, hx, hb] at ho; cases ho
        | some es =>
          simp only [hd, hs, hx, hb] at ho key
          cases ho
          have e0 := he _ (List.mem_cons_self ..)
          have e1 := he _ (List.mem_cons_of_mem _ (List.mem_cons_self ..))
          have hfr : fr = F.fr (keys l) y := by cases e0; rfl
          have hc : c = F.J.code (keys l) y := by cases e1; rfl
          have hpre := objEqs_eq hb fun q hq => he q (List.mem_cons_of_mem _ (List.mem_cons_of_mem _ hq))
          have sg := sel_get hs
          have len : (keys l).length = (F.J.pre (keys l) y).length := by rw [← hpre]; unfold keys objs; rw [List.length_map, List.length_map]
          have lT : ∀ p ∈ l, p ∈ T := fun p hp => by obtain ⟨j, _, e⟩ := sg.2 p hp; exact List.mem_of_getElem? e
          have Din : RepU hT h (fun b => ∃ p ∈ l, b = p.1 + B) (F.J.into (keys l) y) h := by
            unfold Job.into
            rw [← hpre, zipS_self]
            exact ⟨D.top, D.low, Nat.le_refl _, fun p hp => D.at' p (lT p hp), sel_nodup D.nd hs hd, fun p hp => .inl ⟨p, hp, rfl⟩, fun _ _ e _ => e⟩
          rw [hc]
          refine H (keys l) y len (alls_of hps) A h _ g d os R h tk hh (by rw [hA, hfr]) hr Din fun xs hx' h' t' D' => ?_
          obtain ⟨o, ho, _, _, hR⟩ := key xs hx'
          cases ho
          refine hR h' t' (D.comp hs hd ?_ D')
          rw [hp, ← len]
          unfold keys
          rw [List.length_map, sg.1]
theorem SegOkF.mono {prog : Program} {w : World} {hT : Heap} {lvl need lvl' need' : Nat} {F : List Env} {c : Code} {T : Slots} {out out' : List Nat → Result × Slots} (S : SegOkF prog w hT lvl need F c T out) (hl : lvl ≤ lvl')
    (H : ∀ xs : List Nat, xs.length = need → ∃ ys : List Nat, ys.length = need' ∧ (out' ys).1 = (out xs).1 ∧ (out' ys).2 = (out xs).2) : SegOkF prog w hT lvl' need' F c T out' := by
  intro A h₀ U g d os R h tk hh hA hr D K
  have l1 : 70 * lvl ≤ 70 * lvl' := Nat.mul_le_mul_left _ hl
  have l2 : 130 * lvl ≤ 130 * lvl' := Nat.mul_le_mul_left _ hl
  refine S A h₀ U g d os R h tk hh hA ⟨Nat.le_trans (Nat.add_le_add_left l1 _) hr.1, Nat.le_trans (Nat.add_le_add_left l2 _) hr.2⟩ D fun xs hx h' t' D' => ?_
  obtain ⟨ys, hy, e1, e2⟩ := H xs hx
  have := K ys hy h' t' (by rw [e2]; exact D')
  rw [e1] at this
  exact this
/-- framed contracts, by their places -/
noncomputable def conFOf (l : List ConF) : Nat → Option ConF := fun n => l[n]?
def ConsF (prog : Program) (w : World) (hT : Heap) : List ConF → Prop
  | [] => True
  | c :: r => ConOkF prog w hT c ∧ ConsF prog w hT r
theorem conFOf_ok {prog : Program} {w : World} {hT : Heap} : ∀ {l : List ConF}, ConsF prog w hT l → ∀ n con, conFOf l n = some con → ConOkF prog w hT con
  | [], _, n, con, h => by simp [conFOf] at h
  | c :: r, H, 0, con, h => by
    have : c = con := by simpa [conFOf] using h
    exact this ▸ H.1
  | c :: r, H, n + 1, con, h => conFOf_ok H.2 n con (by simpa [conFOf] using h)
/-- the machine, the frames below known -/
noncomputable def VF (w : World) (cs : List Con) (lvl : Nat) (F : List Env) (fs : List ConF) : UV := { den := denT, ent := entT, prog := pwT', w := w, kt := ktP w.params, con := conOf cs, lvl := lvl, fr := some F, conF := conFOf fs }
noncomputable abbrev VWF (w : World) (a b : Bool) (cs : List Con) (lvl : Nat) (F : List Env) (fs : List ConF) : UV := VF (WW w a b) cs lvl F fs
theorem uokF {w : World} {hT : Heap} {cs : List Con} {lvl : Nat} {F : List Env} {fs : List ConF} (T : TopK w hT) (H : ConsF pwT' w hT fs) : UOk (VF w cs lvl F fs) hT :=
  @UOk.mk (VF w cs lvl F fs) hT denT_eq entT_eq (kt_holds T.frag) T.size T.nolim (conFOf_ok H)
section
variable {w : World} {hT : Heap} {cs : List Con} {lvl : Nat} {F : List Env} {fs : List ConF} {n : Nat} {c : Code} {hs k need : Nat} {T : Slots} {out : List Nat → Result × Slots} {ps : (Nat → Nat) → List Prop} {r : (Nat → Nat) → Result} {T' : (Nat → Nat) → Slots} {c' : (Nat → Nat) → Code}
theorem SegOkF.of_run (TK : TopK w hT) (OC : Cons pwT' w hT cs) (OF : ConsF pwT' w hT fs) (h1 : 1 ≤ lvl)
    (H : ∀ f : Nat → Nat, RunIs (codeU (VF w cs lvl F fs) (simU (VF w cs lvl F fs) n) none c hs (mk f k) .base T [] []) (ps f) (.ret (r f) (T' f)))
    (ha : ∀ f, Alls (ps f)) (ho : ∀ f, ∃ ys : List Nat, ys.length = need ∧ out ys = (r f, T' f)) : SegOkF pwT' w hT lvl need F c T out :=
  SegOkF.run (V := VF w cs lvl F fs) (uokF TK OF) (conOf_ok OC) n (hs := hs) (k := k) h1 rfl fun f => by
    obtain ⟨ys, hy, e⟩ := ho f
    exact ⟨ys, hy, ps f, ha f, by rw [e]; exact H f⟩
theorem SegOkF.of_then (TK : TopK w hT) (OC : Cons pwT' w hT cs) (OF : ConsF pwT' w hT fs) (h1 : 1 ≤ lvl)
    (H : ∀ f : Nat → Nat, RunIs (codeU (VF w cs lvl F fs) (simU (VF w cs lvl F fs) n) none c hs (mk f k) .base T [] []) (ps f) (.stop (c' f) (T' f)))
    (ha : ∀ f, Alls (ps f)) (ho : ∀ f, SegOkF pwT' w hT lvl need F (c' f) (T' f) out) : SegOkF pwT' w hT lvl need F c T out :=
  SegOkF.then (V := VF w cs lvl F fs) (uokF TK OF) (conOf_ok OC) n (hs := hs) (k := k) h1 (fun F' e => by cases e; rfl) fun f => ⟨c' f, T' f, ps f, ha f, H f, ho f⟩
end
/-! a function's body that raises: the tree without what leaves the frame -/
noncomputable def bodyT (body : List Stmt) (env : Env) : Sem Fin := point >>= fun _ => execs body env >>= fun f => Sem.pure (.done f)
/-- what is still to be shown when the body is at its end -/
noncomputable def bodyR (prog : Program) (w : World) (A : Around) (c : Code) (env : Env) (R : Result → Shared → Prop) : Result → Shared → Prop := fun r s' => match r with
  | .ok f => wpOwn (model prog w) A c (match f with | .ret v => ret v | _ => ret .none) (postC prog w A R) (postE R) s'
  | .error e => wpOwn (model prog w) A c (leaving env e) (fun _ s'' => R (.error e) s'') (postE R) s'
theorem func_code {prog : Program} {w : World} {A : Around} {R : Result → Shared → Prop} {body : List Stmt} {env : Env} {s : Shared}
    (h : wpOwn (model prog w) A (.func body env) (bodyT body env) (postC prog w A (bodyR prog w A (.func body env) env R)) (postE (bodyR prog w A (.func body env) env R)) s) : codeAny (model prog w) A (.func body env) R s := by
  refine y_code _ _ _ _ _ _ ?_
  intro Γ p hc hΓ
  have h' : Sem.wp (model prog w) Γ (execs body env >>= fun f => (Sem.pure (Fin.done f) : Sem Fin)) (fun a _ s' => postC prog w A (bodyR prog w A (.func body env) env R) a s') (fun e _ s' => postE (bodyR prog w A (.func body env) env R) e s') p s := h Γ p hc hΓ
  show Sem.wp _ Γ (((execs body env).onRaise (leaving env)) >>= fun f => match f with | .ret v => ret v | _ => ret .none) _ _ p s
  rw [Sem.wp_bind'] at h' ⊢
  rw [Sem.wp_onRaise]
  refine Sem.wp_mono _ Γ _ (fun f p'' s'' h₃ => ?_) (fun e p'' s'' h₃ => ?_) p s h'
  · exact h₃ Γ p'' hc hΓ
  · exact h₃ Γ p'' hc hΓ
end Mine
end

section
set_option maxRecDepth 100000
set_option linter.unusedVariables false
namespace Mine
open PySem PyProof.Rows PySem.W PySem.W.X
structure WnD where
  fk : Nat → Nat
  te : Nat
  k : Nat → Nat
  v : Nat → Nat
  k2 : Nat → Nat
  vn : Value
  tq : Nat
  s : Str
  ts : Nat
  p : Int
  tp : Nat
noncomputable def wnExt (os : List Obj) : Option WnD := match os with
  | [fr, _, ld, _, sd, _, _] => match valT sd 1, valT sd 2 with
    | .str s ts, .int p tp => some ⟨keyT fr, tokV (valT fr 2), keyT ld, fun i => tokV (valT ld i), keyT sd, valT sd 0, tokV (valT ld 15), s, ts, p, tp⟩
    | _, _ => none
  | _ => none
/-- the word's loop behind the text's end -/
noncomputable def wnJ (P : Params) : Job WnD where
  lvl := 2
  need := 3
  ext := fun _ os => wnExt os
  code := fun ids _ => wLp (ky ids 0)
  pre := fun ids d => wO (ky ids 1) (ky ids 2) (ky ids 3) (ky ids 4) (wF0 P d.fk (ky ids 1) d.te false) (ldO P d.k d.v .none (.str e0S d.tq) (ky ids 3) (ky ids 5) (ky ids 6)) (sdO P d.k2 d.vn d.s d.ts d.p d.tp)
  side := fun _ d => [d.p = d.s.length ∧ d.s.length ≠ 0 ∧ d.s.length ≤ 1000000]
  res := fun _ _ _ => .ok .next
  new := fun _ _ _ => []
  post := fun ids d xs => wO (ky ids 1) (ky ids 2) (ky ids 3) (ky ids 4) (wF1 P d.fk (ky ids 1) d.te false (ky xs 0) (.str e0S (ky xs 1))) (ldO P d.k d.v .none (.str e0S (ky xs 2)) (ky ids 3) (ky ids 5) (ky ids 6)) (sdO P d.k2 d.vn d.s d.ts d.p d.tp)
noncomputable abbrev neCs (w : World) (a b : Bool) : List Con := [(wnJ (WW w a b).params).con, snewJ.con]
noncomputable abbrev neE (frn : Nat) : Env := envO (fnS (cS 43 10)) frn (⟨⟨[115, 104, 108, 101, 120, 46, 95, 95, 110, 101, 120, 116, 95, 95]⟩⟩ : Str) 844 843
noncomputable abbrev neB : List Stmt := fnB (cS 43 10)
noncomputable abbrev frY (dt : Data) (sl : Array (Option Value)) : Obj := ⟨.type "frame", none, dt, sl⟩
noncomputable abbrev neT (lx ld sio sd d1 d2 frs frl : Nat) (lo so fs fl : Obj) : Slots := [(lx, lxO ld), (ld, lo), (sio, sioO sd), (sd, so), (d1, dqO), (d2, dqO), (frs, fs), (frl, fl)]
noncomputable abbrev neH : Nat := 1170282876996576524643613732610252454201314299621541247339106068856410494921083064411953180189115272926214651373293621753185123644265228867474691521979338468028483895847740439702273042100742321319503488205071349159983087491789664740103173692521381737164830664324861712350916720926817436812882859055176652902398213979449609631884526134983183345117095728548292874217955392273107367085539625222246609058241268813203714676368765228857183102758557825058255323805670698121522138090435574858821742737046588084504771931956085816784069157543641221673691507412570351285135962178615576939725960
noncomputable def bodyTT (body : List Stmt) (env : Env) : Sem Fin := point >>= fun _ => PySem.W.Fast.tw12563942051412417395 body env >>= fun f => Sem.pure (.done f)
theorem bodyTT_eq : bodyTT = bodyT := by
  funext body env
  unfold bodyTT bodyT
  rw [← PySem.W.Fast.te12563942051412417395]
noncomputable abbrev excO (tt : Addr) (tb : Value) : Obj := ⟨.type "StopIteration", none, .fields #[.ref tt, tb, .none, .none, .bool false, .none], #[]⟩
section
variable (w : World) (a b : Bool) (lx ld sio sd d1 d2 frs frl ts tp tq : Nat) (k v k2 : Nat → Nat) (vn : Value) (p : Int) (s : Str) (fs fl : Obj) (f : Nat → Nat)
theorem run_ne0 : RunIs (codeU (VW w a b (neCs w a b) 3) (simU (VW w a b (neCs w a b) 3) 49) none (.call (.ref 844) ⟨[.ref (lx + B)], []⟩) 39722021814274 (mk f 2) .base (neT lx ld sio sd d1 d2 frs frl (ldO (WW w a b).params k v .none (.str e0S tq) sio d1 d2) (sdO (WW w a b).params k2 vn s ts p tp) fs fl) [] [])
    [] (.stop (.func neB (neE (f 0))) ((f 0, frO (WW w a b).params [((⟨⟨[115, 101, 108, 102]⟩⟩ : Str), f 1, .ref (lx + B))] 1) :: neT lx ld sio sd d1 d2 frs frl (ldO (WW w a b).params k v .none (.str e0S tq) sio d1 d2) (sdO (WW w a b).params k2 vn s ts p tp) fs fl)) := RunIs.of (by cases a <;> kernel_rfl)
theorem run_ne1 (frn t0 : Nat) : RunIs (simU (VW w a b (neCs w a b) 3) 471 none neH (mk f 35) false (.func neB (neE frn)) .base (bodyTT neB (neE frn)) ((frn, frO (WW w a b).params [((⟨⟨[115, 101, 108, 102]⟩⟩ : Str), t0, .ref (lx + B))] 1) :: neT lx ld sio sd d1 d2 frs frl (ldO (WW w a b).params k v .none (.str e0S tq) sio d1 d2) (sdO (WW w a b).params k2 vn s ts p tp) fs fl) [] [])
    [p = s.length ∧ s.length ≠ 0 ∧ s.length ≤ 1000000] (.ret (.error (.ref (f 32 + B))) ((f 32, excO (f 34 + B) .none) :: (frn, frO (WW w a b).params [((⟨⟨[115, 101, 108, 102]⟩⟩ : Str), t0, .ref (lx + B)), ((⟨⟨[116, 111, 107, 101, 110]⟩⟩ : Str), f 30, .none)] 2) :: neT lx ld sio sd d1 d2 frs frl (ldO (WW w a b).params k v .none (.str e0S (f 15)) sio d1 d2) (sdO (WW w a b).params k2 vn s ts p tp) fs fl)) := RunIs.of (by cases a <;> kernel_rfl)
end
end Mine
end

section
set_option maxRecDepth 100000
set_option linter.unusedVariables false
namespace Mine
open PySem PySem.Spec PySem.Calls PySem.W PySem.W.X
noncomputable abbrev spE (frs : Nat) : Env := envO (fnS (tS 44)) frs (⟨⟨[115, 112, 108, 105, 116]⟩⟩ : Str) 859 858
noncomputable abbrev lawE (frl oc : Nat) : Env := { scope := fnS (tS 51), locals := frl + B, globals := 3, cells := [((⟨⟨[111, 99, 116, 101, 116, 115]⟩⟩ : Str), oc + B)], qual := (⟨⟨[108, 97, 119]⟩⟩ : Str) ++ ".<locals>.", func := some 891, code := .ref 890, frame := some (frl + B), builtins := 0 }
noncomputable abbrev frZ (f : Array DictEntry × Nat) : Obj := frY (.dict f.1 f.2) #[]
/-- a frame's looked-at part -/
noncomputable abbrev lookS (env : Env) (x2 : Option Value) (back : Value) (x4 : Option Value) : Array (Option Value) := #[some env.code, some (.ref env.globals), x2, some back, x4, env.func.map Value.ref, some (.ref env.builtins)] ++ (env.cells.map fun c => some (.ref c.2)).toArray
noncomputable def lookF (env : Env) (back : Value) : Obj → Obj := fun o => { o with slots := lookS env (o.slots.getD 2 none) back (o.slots.getD 4 none) }
section
variable {M : Model} {A : Around} {E : Value → Shared → Prop} {s : Shared}
theorem ready_cons {env : Env} {outer : List Env} {L : Addr} {o : Obj} {Q : Unit → Shared → Prop} (P : Value → Prop) (hk : behindIsImport env outer = pure false) (hf : env.frame = some L) (ho : s.heap.get? L = some o) (hn : (o.slots.getD 3 none).isSome = false)
    (hb : ∀ Q' : Value → Shared → Prop, (∀ back, P back → Q' back s) → wpAny M A (keptBack env false outer) Q' E s)
    (h : ∀ back, P back → wpAny M A (readyFrames outer) Q E { s with heap := s.heap.update L (lookF env back) }) : wpAny M A (readyFrames (env :: outer)) Q E s := by
  simp only [readyFrames, hf]
  refine wpAny_bind (wpAny_load ho ?_)
  rw [if_neg (by rw [hn]; decide)]
  refine wpAny_bind (wpAny_of_eq hk ?_)
  refine wpAny_bind (hb _ fun back hP => ?_)
  exact wpAny_bind (wpAny_update ho (h back hP))
end
theorem back_some {M : Model} {A : Around} {E : Value → Shared → Prop} {s : Shared} {env c : Env} {r : List Env} (v : Value) (h : keptBack env false (c :: r) = pure v) (Q' : Value → Shared → Prop) (q : ∀ back, back = v → Q' back s) : wpAny M A (keptBack env false (c :: r)) Q' E s := by
  rw [h]; exact wpAny_pure (q v rfl)
theorem back_nil {M : Model} {A : Around} {E : Value → Shared → Prop} {s : Shared} {env : Env} (h : (env.scope.isGenerator || env.scope.isCoroutine) = false) (Q' : Value → Shared → Prop) (q : ∀ back, (back = .none ∨ back = .notImplemented) → Q' back s) : wpAny M A (keptBack env false []) Q' E s := by
  simp only [keptBack]
  rw [if_neg (by rw [h]; decide)]
  refine wpAny_bind (wpAny_underTheClaimsCaller fun b => wpAny_pure ?_)
  cases b with
  | true => exact q _ (.inr rfl)
  | false => exact q _ (.inl rfl)
/-- the law's frame's back, by a number -/
noncomputable def backV (n : Nat) : Value := match n with
  | 0 => .none
  | _ => .notImplemented
section
variable {w : World} {a b : Bool} {hT : Heap}
theorem ne_leave (TK : TopK (WW w a b) hT) {A : Around} {h₀ : Heap} {U : Addr → Prop} {g : Array GenState} {d : Drawn} {os : OsState} {R : Result → Shared → Prop} {h : Heap} {tk : Nat} {e frn frs frl oc tt : Nat} {f1 f2 f3 : Array DictEntry × Nat} {X : Slots}
    (hA : A.frames = some [spE frs, lawE frl oc])
    (D : RepU hT h₀ U ((frn, frZ f1) :: (frs, frZ f2) :: (frl, frZ f3) :: (e, excO tt .none) :: X) h)
    (K : ∀ n tb h', RepU hT h₀ U ((frn, lookF (neE frn) (.ref (frs + B)) (frZ f1)) :: (frs, lookF (spE frs) (.ref (frl + B)) (frZ f2)) :: (frl, lookF (lawE frl oc) (backV n) (frZ f3)) :: (e, excO tt (.ref tb)) :: X) h' → R (.error (.ref (e + B))) ⟨h', g, d, tk + 1, os⟩) :
    wpOwn (model pwT' (WW w a b)) A (.func neB (neE frn)) (leaving (neE frn) (.ref (e + B))) (fun _ s'' => R (.error (.ref (e + B))) s'') (postE R) ⟨h, g, d, tk + 1, os⟩ := by
  refine wpOwn_of_wpAny ?_
  have hfr : (A.under (.func neB (neE frn))).frames = some [neE frn, spE frs, lawE frl oc] := by
    have q : (A.under (.func neB (neE frn))).frames = pushEnvs (Code.envs (.func neB (neE frn))) A.frames := rfl
    rw [q, hA]; rfl
  generalize A.under (.func neB (neE frn)) = A' at hfr
  have hz := TK.size
  have h1 := D.at' (frn, _) (List.mem_cons_self ..)
  have h4 := D.at' (e, _) (List.mem_cons_of_mem _ (List.mem_cons_of_mem _ (List.mem_cons_of_mem _ (List.mem_cons_self ..))))
  unfold leaving noteFrame
  simp only [show (neE frn).frame = some (frn + B) from rfl]
  refine wpAny_bind (wpAny_bind (wpAny_field h4 rfl (x := .none) rfl ?_))
  rw [if_neg (by decide)]
  unfold frameOf
  refine wpAny_bind (wpAny_bind (wpAny_frameEnvs hfr ?_))
  have hdw : ([neE frn, spE frs, lawE frl oc].dropWhile fun x => x.frame != (neE frn).frame) = [neE frn, spE frs, lawE frl oc] := by simp [List.dropWhile]
  rw [hdw]
  unfold frameObject
  refine wpAny_bind (wpAny_bind ?_)
  have D1 := D.update hz (j := 0) (q := (frn, frZ f1)) (f := lookF (neE frn) (.ref (frs + B))) rfl rfl
  have g2 := D1.at' (frs, _) (List.mem_cons_of_mem _ (List.mem_cons_self ..))
  have D2 := D1.update hz (j := 1) (q := (frs, frZ f2)) (f := lookF (spE frs) (.ref (frl + B))) rfl rfl
  have g3 := D2.at' (frl, _) (List.mem_cons_of_mem _ (List.mem_cons_of_mem _ (List.mem_cons_self ..)))
  refine ready_cons (· = .ref (frs + B)) rfl rfl h1 rfl (back_some _ rfl) fun back hb => ?_
  subst hb
  refine ready_cons (· = .ref (frl + B)) rfl rfl g2 rfl (back_some _ rfl) fun back hb => ?_
  subst hb
  refine ready_cons (fun v => v = .none ∨ v = .notImplemented) rfl rfl g3 rfl (back_nil rfl) fun back hb => ?_
  obtain ⟨n, rfl⟩ : ∃ n, back = backV n := by
    rcases hb with rfl | rfl
    · exact ⟨0, rfl⟩
    · exact ⟨1, rfl⟩
  have D3 := D2.update hz (j := 2) (q := (frl, frZ f3)) (f := lookF (lawE frl oc) (backV n)) rfl rfl
  simp only [readyFrames]
  refine wpAny_pure (wpAny_pure ?_)
  refine wpAny_pure ?_
  refine wpAny_bind (wpAny_entryPlaceOf fun pl hpl => ?_)
  unfold EntryCells.newEntry newFields
  refine wpAny_bind (wpAny_newObj_type ?_ (hpl.sizeOk5 _ _ _ _ _))
  obtain ⟨D4, e4⟩ := D_new D3 (o := { cls := .type "traceback", dict := none, data := .fields ([.none, .ref (frn + B), .none, rawInt (frn + B : Nat), .none] ++ (if pl.isEmpty then List.replicate 6 Value.none else pl)).toArray }) rfl
  generalize hH : ((h.update (frn + B) (lookF (neE frn) (.ref (frs + B)))).update (frs + B) (lookF (spE frs) (.ref (frl + B)))).update (frl + B) (lookF (lawE frl oc) (backV n)) = H at D3 D4 e4
  have he5 := D4.at' (e, excO tt .none) (List.mem_cons_of_mem _ (List.mem_cons_of_mem _ (List.mem_cons_of_mem _ (List.mem_cons_of_mem _ (List.mem_cons_self ..)))))
  refine wpAny_setField he5 rfl (by simp) ?_
  have D5 := D4.update hz (j := 4) (q := (e, excO tt .none)) (f := Obj.mapFields (·.setIfInBounds 1 (.ref H.objs.size))) rfl rfl
  have he6 := D5.at' (e, excO tt (.ref H.objs.size)) (List.mem_cons_of_mem _ (List.mem_cons_of_mem _ (List.mem_cons_of_mem _ (List.mem_cons_of_mem _ (List.mem_cons_self ..)))))
  have ht6 := D5.at' (H.objs.size - B, _) (List.mem_cons_self ..)
  unfold setFlight
  refine wpAny_bind (wpAny_field he6 rfl (x := .ref H.objs.size) rfl ?_)
  rw [if_pos (show (Value.ref H.objs.size != Value.none) = true from by simp)]
  have ht6' : _ = some _ := ht6
  rw [show (H.objs.size - B, ({ cls := .type "traceback", dict := none, data := .fields ([.none, .ref (frn + B), .none, rawInt (frn + B : Nat), .none] ++ (if pl.isEmpty then List.replicate 6 Value.none else pl)).toArray } : Obj)).1 + B = H.objs.size from e4] at ht6'
  refine wpAny_setField ht6' rfl (by simp only [List.size_toArray, List.length_append, List.length_cons, List.length_nil] <;> omega) ?_
  have D6 := D5.update hz (j := 0) (q := (H.objs.size - B, _)) (f := Obj.mapFields (·.setIfInBounds 3 ((none : Option Addr).elim Value.none fun f => rawInt f))) rfl rfl
  rw [show ((H.objs.size - B, ({ cls := .type "traceback", dict := none, data := .fields ([.none, .ref (frn + B), .none, rawInt (frn + B : Nat), .none] ++ (if pl.isEmpty then List.replicate 6 Value.none else pl)).toArray } : Obj)).1 + B) = H.objs.size from e4] at D6
  exact K n H.objs.size _ (D6.sub ((List.Sublist.refl _).cons _))
end
end Mine
end

section
set_option maxRecDepth 100000
set_option linter.unusedVariables false
namespace Mine
open PySem PySem.Spec PySem.Calls PyProof.Rows PySem.W PySem.W.X
theorem SegOkF.frame {prog : Program} {w : World} {hT : Heap} {lvl need : Nat} {F : List Env} {c : Code} {T : Slots} {out : List Nat → Result × Slots} (S : SegOkF prog w hT lvl need F c T out) (X : Slots) :
    SegOkF prog w hT lvl need F c (T ++ X) (fun xs => ((out xs).1, (out xs).2 ++ X)) := by
  intro A h₀ U g d os R h tk hh hA hr D K
  have nd := D.nd
  rw [List.map_append] at nd
  have Din : RepU hT h (fun b => ∃ p ∈ T, b = p.1 + B) T h := ⟨D.top, D.low, Nat.le_refl _, fun p hp => D.at' p (List.mem_append_left _ hp), (List.nodup_append.mp nd).1, fun p hp => .inl ⟨p, hp, rfl⟩, fun _ _ e _ => e⟩
  exact S A h _ g d os R h tk hh hA hr Din fun xs hx h' t' D' => K xs hx h' t' (D.frame D')
section
variable {w : World} {a b : Bool} {hT : Heap}
theorem wn_ok (TK : TopK (WW w a b) hT) : ConOk pwT' (WW w a b) hT (wnJ (WW w a b).params).con := Job.con_ok (fun ids d hl hs => by
  obtain ⟨fk, te, k, v, k2, vn, tq, s, ts, p, tp⟩ := d
  obtain ⟨fr, lx, ld, sio, sd, d1, d2, rfl⟩ := ids7 hl
  obtain ⟨⟨h0, h1, h2⟩, _⟩ := hs
  have l0 : ((⟨⟨[]⟩⟩ : Str)).length = 0 := rfl
  exact SegOk.of_run (V := VW w a b (weCs w a b (rdEJ (WW w a b).params).con) 2) (uok TK) (conOf_ok (show Cons pwT' (WW w a b) hT (weCs w a b (rdEJ (WW w a b).params).con) from ⟨rdE_ok TK, len_ok, tin_ok, trivial⟩)) (show 1 ≤ 2 by decide) (run_wN w a b fr lx ld sio sd d1 d2 te ts tp tq fk k v k2 vn false p s e0S) (fun f => ⟨h0, h1, h2, l0, trivial⟩) (fun f => ⟨[f 8, f 7, f 13], rfl, rfl⟩)) (fun _ _ _ => rfl)
structure NeD where
  k : Nat → Nat
  v : Nat → Nat
  k2 : Nat → Nat
  vn : Value
  tq : Nat
  s : Str
  ts : Nat
  p : Int
  tp : Nat
  f2 : Array DictEntry × Nat
  f3 : Array DictEntry × Nat
  oo : Obj
noncomputable def dictOf (o : Obj) : Array DictEntry × Nat := match o.data with
  | .dict es n => (es, n)
  | _ => (#[], 0)
noncomputable def neExt (os : List Obj) : Option NeD := match os with
  | [_, ld, _, sd, _, _, fs, fl, oo] => match valT sd 1, valT sd 2 with
    | .str s ts, .int p tp => some ⟨keyT ld, fun i => tokV (valT ld i), keyT sd, valT sd 0, tokV (valT ld 15), s, ts, p, tp, dictOf fs, dictOf fl, oo⟩
    | _, _ => none
  | _ => none
noncomputable def neO (ld sio sd : Nat) (lo so fs fl oo : Obj) : List Obj := [lxO ld, lo, sioO sd, so, dqO, dqO, fs, fl, oo]
/-- lex at its end; ids: lex, its dict, the stream, its dict, the deques, split's frame, law's frame, law's cell -/
noncomputable def neJ (P : Params) : FJob NeD where
  J := {
    lvl := 3
    need := 5
    ext := fun _ os => neExt os
    code := fun ids _ => .call (.ref 844) ⟨[.ref (ky ids 0 + B)], []⟩
    pre := fun ids d => neO (ky ids 1) (ky ids 2) (ky ids 3) (ldO P d.k d.v .none (.str e0S d.tq) (ky ids 2) (ky ids 4) (ky ids 5)) (sdO P d.k2 d.vn d.s d.ts d.p d.tp) (frZ d.f2) (frZ d.f3) d.oo
    side := fun _ d => [d.p = d.s.length ∧ d.s.length ≠ 0 ∧ d.s.length ≤ 1000000]
    res := fun _ _ xs => .error (.ref (ky xs 0 + B))
    new := fun _ _ xs => [(ky xs 0, excO (ky xs 1) (.ref (ky xs 2)))]
    post := fun ids d xs => neO (ky ids 1) (ky ids 2) (ky ids 3) (ldO P d.k d.v .none (.str e0S (ky xs 3)) (ky ids 2) (ky ids 4) (ky ids 5)) (sdO P d.k2 d.vn d.s d.ts d.p d.tp) (lookF (spE (ky ids 6)) (.ref (ky ids 7 + B)) (frZ d.f2)) (lookF (lawE (ky ids 7) (ky ids 8)) (backV (ky xs 4)) (frZ d.f3)) d.oo }
  fr := fun ids _ => [spE (ky ids 6), lawE (ky ids 7) (ky ids 8)]
theorem ne_seg (TK : TopK (WW w a b) hT) (lx ld sio sd d1 d2 frs frl oc ts tp tq : Nat) (k v k2 : Nat → Nat) (vn : Value) (p : Int) (s : Str) (f2 f3 : Array DictEntry × Nat) (hp : p = s.length ∧ s.length ≠ 0 ∧ s.length ≤ 1000000) :
    SegOkF pwT' (WW w a b) hT 3 5 [spE frs, lawE frl oc] (.call (.ref 844) ⟨[.ref (lx + B)], []⟩) (neT lx ld sio sd d1 d2 frs frl (ldO (WW w a b).params k v .none (.str e0S tq) sio d1 d2) (sdO (WW w a b).params k2 vn s ts p tp) (frZ f2) (frZ f3))
      (fun xs => (.error (.ref (ky xs 0 + B)), (ky xs 0, excO (ky xs 1) (.ref (ky xs 2))) :: neT lx ld sio sd d1 d2 frs frl (ldO (WW w a b).params k v .none (.str e0S (ky xs 3)) sio d1 d2) (sdO (WW w a b).params k2 vn s ts p tp) (lookF (spE frs) (.ref (frl + B)) (frZ f2)) (lookF (lawE frl oc) (backV (ky xs 4)) (frZ f3)))) := by
  have C : Cons pwT' (WW w a b) hT (neCs w a b) := ⟨wn_ok TK, snew_ok, trivial⟩
  refine SegOkF.then (V := VW w a b (neCs w a b) 3) (uok TK) (conOf_ok C) _ (show 1 ≤ 3 by decide) (fun F' e => by cases e) fun f => ⟨_, _, [], trivial, run_ne0 w a b lx ld sio sd d1 d2 frs frl ts tp tq k v k2 vn p s (frZ f2) (frZ f3) f, ?_⟩
  generalize f 0 = frn, f 1 = t0
  intro A h₀ U g d os R h tk hh hA hr D K
  refine func_code ?_
  have O : UOk (VW w a b (neCs w a b) 3) hT := uok TK
  have S := simU_sound (V := VW w a b (neCs w a b) 3) (hT := hT) (h₀ := h₀) (U := U) (A₀ := A) (g := g) (d := d) (os := os) (R := bodyR pwT' (WW w a b) A (.func neB (neE frn)) (neE frn) R) O (conOf_ok C) hr (show 1 ≤ 3 by decide) hh (fun F' e => by cases e)
  have M := S 471 none neH 35 false (.func neB (neE frn)) .base (bodyTT neB (neE frn)) _ [] [] h tk trivial noTk (fun xs hx => ?_) D
  · rw [bodyTT_eq] at M; exact M
  have e := mk_of xs
  rw [hx] at e
  have ro := run_ne1 w a b lx ld sio sd d1 d2 frs frl ts tp tq k v k2 vn p s (frZ f2) (frZ f3) (fun i => xs.getD i 0) frn t0
  rw [← e] at ro
  refine ⟨of_dup ro.eqs, by rw [ro.ps]; exact Alls.all ⟨hp, trivial⟩, ?_⟩
  rw [ro.fin]
  generalize xs.getD 32 0 = ek, xs.getD 34 0 = tt, xs.getD 30 0 = t30, xs.getD 15 0 = t15
  intro h' t' D'
  show wpOwn _ A _ (leaving (neE frn) (.ref (ek + B))) _ _ _
  have D1 : RepU hT h₀ U ((frn, frZ (dictOf (frO (WW w a b).params [((⟨⟨[115, 101, 108, 102]⟩⟩ : Str), t0, .ref (lx + B)), ((⟨⟨[116, 111, 107, 101, 110]⟩⟩ : Str), t30, .none)] 2))) :: (frs, frZ f2) :: (frl, frZ f3) :: (ek, excO (tt + B) .none) :: [(lx, lxO ld), (ld, ldO (WW w a b).params k v .none (.str e0S t15) sio d1 d2), (sio, sioO sd), (sd, sdO (WW w a b).params k2 vn s ts p tp), (d1, dqO), (d2, dqO)]) h' := by
    refine D'.perm ?_
    show [_, _, _, _, _, _, _, _, _, _].Perm ([_] ++ ([_] ++ ([_, _, _, _, _, _] ++ [_, _])))
    have q1 : ∀ (e n l1 l2 l3 l4 l5 l6 s l : Nat × Obj), [n, s, l, e, l1, l2, l3, l4, l5, l6].Perm [e, n, l1, l2, l3, l4, l5, l6, s, l] := fun e n l1 l2 l3 l4 l5 l6 s l => by
      have a1 : ([n] ++ ([s, l] ++ ([e] ++ [l1, l2, l3, l4, l5, l6]))).Perm ([n] ++ (([e] ++ [l1, l2, l3, l4, l5, l6]) ++ [s, l])) := (List.perm_append_comm).append_left _
      exact a1.trans (List.Perm.swap ..)
    exact q1 ..
  refine ne_leave TK (os := os) (d := d) (g := g) hA D1 fun n tb h'' D2 => ?_
  refine K [ek, tt + B, tb, t15, n] rfl h'' t' ?_
  have D3 := D2.sub (List.sublist_cons_self _ _)
  refine D3.perm ?_
  have q2 : ∀ (e l1 l2 l3 l4 l5 l6 s l : Nat × Obj), [e, l1, l2, l3, l4, l5, l6, s, l].Perm [s, l, e, l1, l2, l3, l4, l5, l6] := fun e l1 l2 l3 l4 l5 l6 s l => List.perm_append_comm (l₁ := [e, l1, l2, l3, l4, l5, l6]) (l₂ := [s, l])
  exact q2 ..
theorem ne_ok (TK : TopK (WW w a b) hT) : ConOkF pwT' (WW w a b) hT (neJ (WW w a b).params).con := FJob.con_ok (fun ids d hl hs => by
  obtain ⟨k, v, k2, vn, tq, s, ts, p, tp, f2, f3, oo⟩ := d
  obtain ⟨lx, ld, sio, sd, d1, d2, frs, frl, oc, rfl⟩ := ids9 hl
  obtain ⟨hp, _⟩ := hs
  exact (ne_seg TK lx ld sio sd d1 d2 frs frl oc ts tp tq k v k2 vn p s f2 f3 hp).frame [(oc, oo)]) (fun _ _ _ => rfl)
end
end Mine
end

section
set_option maxRecDepth 100000
set_option linter.unusedVariables false
namespace Mine
open PySem PyProof.Rows PySem.W PySem.W.X
structure NxD where
  k : Nat → Nat
  v : Nat → Nat
  k2 : Nat → Nat
  vn : Value
  tst : Nat
  tq : Nat
  s : Str
  ts : Nat
  p : Int
  tp : Nat
noncomputable def nxExt (os : List Obj) : Option NxD := match os with
  | [_, ld, _, sd, _, _] => match valT sd 1, valT sd 2 with
    | .str s ts, .int p tp => some ⟨keyT ld, fun i => tokV (valT ld i), keyT sd, valT sd 0, tokV (valT ld 11), tokV (valT ld 15), s, ts, p, tp⟩
    | _, _ => none
  | _ => none
noncomputable def nxO (ld sio sd : Nat) (lo so : Obj) : List Obj := [lxO ld, lo, sioO sd, so, dqO, dqO]
/-- lex's next word; ids: lex, its dict, the stream, its dict, the two deques -/
noncomputable def nxJ (P : Params) (cs : List Nat) (q : Str) (qd e : Bool) : Job NxD where
  lvl := 3
  need := 4
  ext := fun _ os => nxExt os
  code := fun ids _ => .call (.ref 844) ⟨[.ref (ky ids 0 + B)], []⟩
  pre := fun ids d => nxO (ky ids 1) (ky ids 2) (ky ids 3) (ldO P d.k d.v (.str (c1 32) d.tst) (.str e0S d.tq) (ky ids 2) (ky ids 4) (ky ids 5)) (sdO P d.k2 d.vn d.s d.ts d.p d.tp)
  side := fun _ d => [∃ k, k < 7 ∧ cs = qtL k ∧ q = nm k ∧ qd = qdK k, CharsAt d.s d.p cs ∧ EndAt d.s (adv d.p cs.length) e ∧ d.s.length ≠ 0 ∧ d.s.length ≤ 1000000]
  res := fun _ _ xs => .ok (.ret (.str q (ky xs 0)))
  new := fun _ _ _ => []
  post := fun ids d xs => nxO (ky ids 1) (ky ids 2) (ky ids 3) (ldO P d.k d.v (endSt e (ky xs 1)) (.str e0S (ky xs 2)) (ky ids 2) (ky ids 4) (ky ids 5)) (sdO P d.k2 d.vn d.s d.ts (endP e (adv d.p cs.length)) (ky xs 3))
noncomputable def exLp (l lx : Nat) : Code := .builtin "list.extend.loop" ⟨[.ref (l + B), .ref (lx + B), .none], []⟩
noncomputable abbrev exT (l lx ld sio sd d1 d2 : Nat) (ls lo so : Obj) : Slots := (l, ls) :: nxT lx ld sio sd d1 d2 lo so
noncomputable abbrev exCs (w : World) (a b : Bool) (cs : List Nat) (q : Str) (qd e : Bool) : List Con := [(nxJ (WW w a b).params cs q qd e).con]
noncomputable abbrev neFs (w : World) (a b : Bool) : List ConF := [(neJ (WW w a b).params).con]
section
variable (w : World) (a b : Bool) (l lx ld sio sd d1 d2 ts tp tst tq : Nat) (k v k2 : Nat → Nat) (vn : Value) (p : Int) (s q : Str) (cs : List Nat) (qd e : Bool) (g : Nat → Value) (f : Nat → Nat)
theorem run_ex : ∀ n, n ≤ 7 → RunIs (codeU (VW w a b (exCs w a b cs q qd e) 4) (simU (VW w a b (exCs w a b cs q qd e) 4) 48) none (exLp l lx) 76568891334001649007504331496492835538049 (mk f 4) .base (exT l lx ld sio sd d1 d2 (listO ⟨mkv g n⟩ (n + 2)) (ldO (WW w a b).params k v (.str (c1 32) tst) (.str e0S tq) sio d1 d2) (sdO (WW w a b).params k2 vn s ts p tp)) [] [])
    [∃ k, k < 7 ∧ cs = qtL k ∧ q = nm k ∧ qd = qdK k, CharsAt s p cs ∧ EndAt s (adv p cs.length) e ∧ s.length ≠ 0 ∧ s.length ≤ 1000000] (.stop (exLp l lx) (exT l lx ld sio sd d1 d2 (listO ((⟨mkv g n⟩ : Array Value).push (.str q (f 0))) (n + 2 + 1)) (ldO (WW w a b).params k v (endSt e (f 1)) (.str e0S (f 2)) sio d1 d2) (sdO (WW w a b).params k2 vn s ts (endP e (adv p cs.length)) (f 3))))
  | 0, _ => RunIs.of (by cases a <;> kernel_rfl)
  | 1, _ => RunIs.of (by cases a <;> kernel_rfl)
  | 2, _ => RunIs.of (by cases a <;> kernel_rfl)
  | 3, _ => RunIs.of (by cases a <;> kernel_rfl)
  | 4, _ => RunIs.of (by cases a <;> kernel_rfl)
  | 5, _ => RunIs.of (by cases a <;> kernel_rfl)
  | 6, _ => RunIs.of (by cases a <;> kernel_rfl)
  | 7, _ => RunIs.of (by cases a <;> kernel_rfl)
  | n + 8, h => by omega
theorem run_exE (frs frl oc ep : Nat) (arr : Array Value) (f2 f3 : Array DictEntry × Nat) (oo : Obj) : RunIs (codeU (VWF w a b [] 4 [spE frs, lawE frl oc] (neFs w a b)) (simU (VWF w a b [] 4 [spE frs, lawE frl oc] (neFs w a b)) 46) none (exLp l lx) 192399059104118040194805515160062021318214785 (mk f 5) .base ((l, listO arr ep) :: (neT lx ld sio sd d1 d2 frs frl (ldO (WW w a b).params k v .none (.str e0S tq) sio d1 d2) (sdO (WW w a b).params k2 vn s ts p tp) (frZ f2) (frZ f3) ++ [(oc, oo)])) [] [])
    [p = s.length ∧ s.length ≠ 0 ∧ s.length ≤ 1000000] (.ret (.ok (.ret .none)) ((l, listO arr ep) :: (neT lx ld sio sd d1 d2 frs frl (ldO (WW w a b).params k v .none (.str e0S (f 3)) sio d1 d2) (sdO (WW w a b).params k2 vn s ts p tp) (lookF (spE frs) (.ref (frl + B)) (frZ f2)) (lookF (lawE frl oc) (backV (f 4)) (frZ f3)) ++ [(oc, oo)]))) := RunIs.of (by cases a <;> kernel_rfl)
end
end Mine
end

section
set_option maxRecDepth 100000
set_option linter.unusedVariables false
namespace Mine
open PySem PySem.Spec PySem.Calls PyProof.Rows PySem.W PySem.W.X
theorem ids6' {ids : List Nat} (h : ids.length = 6) : ∃ a b c d e f, ids = [a, b, c, d, e, f] := ⟨_, _, _, _, _, _, ids_fn h⟩
theorem ids10 {ids : List Nat} (h : ids.length = 10) : ∃ a b c d e f g i j m, ids = [a, b, c, d, e, f, g, i, j, m] := ⟨_, _, _, _, _, _, _, _, _, _, ids_fn h⟩
/-- the words of a line, from a place on -/
def LineAt (s : Str) : Int → List Nat → Prop
  | _, [] => False
  | p, [k] => CharsAt s p (qtL k) ∧ adv p (qtL k).length = s.length
  | p, k :: r => CharsAt s p (qtL k) ∧ CharAt s (adv p (qtL k).length) 32 ∧ LineAt s (adv p (qtL k).length + 1) r
noncomputable def wordV : List Nat → List Nat → List Value
  | k :: r, t :: ts => .str (nm k) t :: wordV r ts
  | _, _ => []
theorem wordV_snoc (k t : Nat) : ∀ (a ts : List Nat), a.length = ts.length → wordV (a ++ [k]) (ts ++ [t]) = wordV a ts ++ [.str (nm k) t]
  | [], [], _ => rfl
  | y :: r, u :: us, h => by
    show Value.str (nm y) u :: wordV (r ++ [k]) (us ++ [t]) = Value.str (nm y) u :: wordV r us ++ _
    rw [wordV_snoc k t r us (by simpa using h)]; rfl
theorem wordV_len : ∀ (a ts : List Nat), a.length = ts.length → (wordV a ts).length = a.length
  | [], [], _ => rfl
  | y :: r, u :: us, h => by
    show (wordV r us).length + 1 = _
    rw [wordV_len r us (by simpa using h)]; rfl
structure ExD where
  k : Nat → Nat
  v : Nat → Nat
  k2 : Nat → Nat
  vn : Value
  tst : Nat
  tq : Nat
  s : Str
  ts : Nat
  p : Int
  tp : Nat
  f2 : Array DictEntry × Nat
  f3 : Array DictEntry × Nat
  oo : Obj
noncomputable def exExt (os : List Obj) : Option ExD := match os with
  | [_, _, ld, _, sd, _, _, fs, fl, oo] => match valT sd 1, valT sd 2 with
    | .str s ts, .int p tp => some ⟨keyT ld, fun i => tokV (valT ld i), keyT sd, valT sd 0, tokV (valT ld 11), tokV (valT ld 15), s, ts, p, tp, dictOf fs, dictOf fl, oo⟩
    | _, _ => none
  | _ => none
/-- list(lex); ids: the list, lex, its dict, the stream, its dict, the deques, split's frame, law's frame, law's cell -/
noncomputable def exJ (P : Params) (ks : List Nat) : FJob ExD where
  J := {
    lvl := 4
    need := 4
    ext := fun _ os => exExt os
    code := fun ids _ => exLp (ky ids 0) (ky ids 1)
    pre := fun ids d => listO #[] 2 :: neO (ky ids 2) (ky ids 3) (ky ids 4) (ldO P d.k d.v (.str (c1 32) d.tst) (.str e0S d.tq) (ky ids 3) (ky ids 5) (ky ids 6)) (sdO P d.k2 d.vn d.s d.ts d.p d.tp) (frZ d.f2) (frZ d.f3) d.oo
    side := fun _ d => [LineAt d.s d.p ks ∧ ks.length ≤ 8 ∧ (∀ k ∈ ks, k < 7) ∧ d.s.length ≠ 0 ∧ d.s.length ≤ 1000000]
    res := fun _ _ _ => .ok (.ret .none)
    new := fun _ _ _ => []
    post := fun ids d xs => listO ⟨wordV ks (decK ks.length (ky xs 0))⟩ (ks.length + 2) :: neO (ky ids 2) (ky ids 3) (ky ids 4) (ldO P d.k d.v .none (.str e0S (ky xs 1)) (ky ids 3) (ky ids 5) (ky ids 6)) (sdO P d.k2 d.vn d.s d.ts d.s.length (ky xs 2)) (lookF (spE (ky ids 7)) (.ref (ky ids 8 + B)) (frZ d.f2)) (lookF (lawE (ky ids 8) (ky ids 9)) (backV (ky xs 3)) (frZ d.f3)) d.oo }
  fr := fun ids _ => [spE (ky ids 7), lawE (ky ids 8) (ky ids 9)]
section
variable {w : World} {a b : Bool} {hT : Heap}
theorem nm_ne (k : Nat) (h : k < 7) : ((nm k).cps.toList == e0S.cps.toList) = false := by
  match k, h with
  | 0, _ => decide +kernel
  | 1, _ => decide +kernel
  | 2, _ => decide +kernel
  | 3, _ => decide +kernel
  | 4, _ => decide +kernel
  | 5, _ => decide +kernel
  | 6, _ => decide +kernel
theorem nx_ok (TK : TopK (WW w a b) hT) (cs : List Nat) (q : Str) (qd e : Bool) : ConOk pwT' (WW w a b) hT (nxJ (WW w a b).params cs q qd e).con := Job.con_ok (fun ids d hl hs => by
  obtain ⟨k, v, k2, vn, tst, tq, s, ts, p, tp⟩ := d
  obtain ⟨lx, ld, sio, sd, d1, d2, rfl⟩ := ids6' hl
  obtain ⟨hk, hc, _⟩ := hs
  have hq : (q.cps.toList == e0S.cps.toList) = false := by
    obtain ⟨kk, h1, _, rfl, _⟩ := hk
    exact nm_ne kk h1
  have C : ∀ qd, Cons pwT' (WW w a b) hT (nxCs w a b cs q qd e) := fun qd => ⟨wl_ok TK cs q qd e, seq_ok, trivial⟩
  cases qd with
  | false => exact SegOk.of_run (V := VW w a b (nxCs w a b cs q false e) 3) (uok TK) (conOf_ok (C false)) (show 1 ≤ 3 by decide) (run_nxF w a b lx ld sio sd d1 d2 ts tp tst tq k v k2 vn p s q cs e) (fun f => ⟨trivial, hq, hk, hc, trivial⟩) (fun f => ⟨[f 15, f 14, f 19, f 16], rfl, rfl⟩)
  | true => exact SegOk.of_run (V := VW w a b (nxCs w a b cs q true e) 3) (uok TK) (conOf_ok (C true)) (show 1 ≤ 3 by decide) (run_nxT w a b lx ld sio sd d1 d2 ts tp tst tq k v k2 vn p s q cs e) (fun f => ⟨hk, hc, trivial⟩) (fun f => ⟨[f 15, f 14, f 19, f 16], rfl, rfl⟩)) (fun _ _ _ => rfl)
noncomputable def exOut (P : Params) (l lx ld sio sd d1 d2 frs frl oc ts : Nat) (k v k2 : Nat → Nat) (vn : Value) (s : Str) (f2 f3 : Array DictEntry × Nat) (oo : Obj) (ks : List Nat) (xs : List Nat) : Result × Slots :=
  (.ok (.ret .none), (l, listO ⟨wordV ks (decK ks.length (ky xs 0))⟩ (ks.length + 2)) :: (neT lx ld sio sd d1 d2 frs frl (ldO P k v .none (.str e0S (ky xs 1)) sio d1 d2) (sdO P k2 vn s ts s.length (ky xs 2)) (lookF (spE frs) (.ref (frl + B)) (frZ f2)) (lookF (lawE frl oc) (backV (ky xs 3)) (frZ f3)) ++ [(oc, oo)]))
theorem ex_loop (TK : TopK (WW w a b) hT) (l lx ld sio sd d1 d2 frs frl oc ts : Nat) (k v k2 : Nat → Nat) (vn : Value) (s : Str) (f2 f3 : Array DictEntry × Nat) (oo : Obj) (ks : List Nat) (hlen : ks.length ≤ 8) (h0 : s.length ≠ 0) (h1 : s.length ≤ 1000000) :
    ∀ (rest done : List Nat) (tk : List Nat) (tst tq : Nat) (p : Int) (tp : Nat), ks = done ++ rest → done.length = tk.length → (∀ k ∈ rest, k < 7) → LineAt s p rest →
    SegOkF pwT' (WW w a b) hT 4 4 [spE frs, lawE frl oc] (exLp l lx) ((l, listO ⟨wordV done tk⟩ (done.length + 2)) :: (neT lx ld sio sd d1 d2 frs frl (ldO (WW w a b).params k v (.str (c1 32) tst) (.str e0S tq) sio d1 d2) (sdO (WW w a b).params k2 vn s ts p tp) (frZ f2) (frZ f3) ++ [(oc, oo)]))
      (exOut (WW w a b).params l lx ld sio sd d1 d2 frs frl oc ts k v k2 vn s f2 f3 oo ks)
  | [], done, tk, tst, tq, p, tp, _, _, _, hline => hline.elim
  | kk :: rest, done, tk, tst, tq, p, tp, hks, hd, h7, hline => by
    have hk7 := h7 kk (List.mem_cons_self ..)
    have hdl : done.length ≤ 7 := by rw [hks] at hlen; simp at hlen; omega
    have wl := wordV_len done tk hd
    have em := mkv_of (wordV done tk)
    rw [wl] at em
    have hpush : ∀ t, ((⟨wordV done tk⟩ : Array Value).push (.str (nm kk) t)) = ⟨wordV (done ++ [kk]) (tk ++ [t])⟩ := fun t => by rw [push_list, wordV_snoc kk t done tk hd]
    have hlenS : ∀ t, (done ++ [kk]).length = (tk ++ [t]).length := fun t => by simp [hd]
    have e2 : done.length + 2 + 1 = (done ++ [kk]).length + 2 := by simp
    have hks' : ks = (done ++ [kk]) ++ rest := by rw [hks]; simp
    have C : ∀ e, Cons pwT' (WW w a b) hT (exCs w a b (qtL kk) (nm kk) (qdK kk) e) := fun e => ⟨nx_ok TK _ _ _ e, trivial⟩
    -- one turn: the words' slots alone
    have turn : ∀ (e : Bool), CharsAt s p (qtL kk) → EndAt s (adv p (qtL kk).length) e → ∀ out, (∀ t0 t1 t2 t3 : Nat, SegOkF pwT' (WW w a b) hT 4 4 [spE frs, lawE frl oc] (exLp l lx) ((l, listO ⟨wordV (done ++ [kk]) (tk ++ [t0])⟩ ((done ++ [kk]).length + 2)) :: (neT lx ld sio sd d1 d2 frs frl (ldO (WW w a b).params k v (endSt e t1) (.str e0S t2) sio d1 d2) (sdO (WW w a b).params k2 vn s ts (endP e (adv p (qtL kk).length)) t3) (frZ f2) (frZ f3) ++ [(oc, oo)])) out) →
        SegOkF pwT' (WW w a b) hT 4 4 [spE frs, lawE frl oc] (exLp l lx) ((l, listO ⟨wordV done tk⟩ (done.length + 2)) :: (neT lx ld sio sd d1 d2 frs frl (ldO (WW w a b).params k v (.str (c1 32) tst) (.str e0S tq) sio d1 d2) (sdO (WW w a b).params k2 vn s ts p tp) (frZ f2) (frZ f3) ++ [(oc, oo)])) out := by
      intro e hc he out K
      have O : UOk (VW w a b (exCs w a b (qtL kk) (nm kk) (qdK kk) e) 4) hT := uok TK
      intro A h₀ U g d os R h tk' hh hA hr D KR
      have ro0 := fun f => run_ex w a b l lx ld sio sd d1 d2 ts tp tst tq k v k2 vn p s (nm kk) (qtL kk) (qdK kk) e (fun i => (wordV done tk).getD i .none) f done.length hdl
      rw [← em] at ro0
      have D0 : RepU hT h (fun b' => ∃ q ∈ exT l lx ld sio sd d1 d2 (listO ⟨wordV done tk⟩ (done.length + 2)) (ldO (WW w a b).params k v (.str (c1 32) tst) (.str e0S tq) sio d1 d2) (sdO (WW w a b).params k2 vn s ts p tp), b' = q.1 + B) (exT l lx ld sio sd d1 d2 (listO ⟨wordV done tk⟩ (done.length + 2)) (ldO (WW w a b).params k v (.str (c1 32) tst) (.str e0S tq) sio d1 d2) (sdO (WW w a b).params k2 vn s ts p tp)) h :=
        ⟨D.top, D.low, Nat.le_refl _, fun q hq => D.at' q (List.mem_append_left (bs := [(frs, frZ f2), (frl, frZ f3), (oc, oo)]) hq), by
          have nd := D.nd
          have e3 : ((l, listO ⟨wordV done tk⟩ (done.length + 2)) :: (neT lx ld sio sd d1 d2 frs frl (ldO (WW w a b).params k v (.str (c1 32) tst) (.str e0S tq) sio d1 d2) (sdO (WW w a b).params k2 vn s ts p tp) (frZ f2) (frZ f3) ++ [(oc, oo)])) = exT l lx ld sio sd d1 d2 (listO ⟨wordV done tk⟩ (done.length + 2)) (ldO (WW w a b).params k v (.str (c1 32) tst) (.str e0S tq) sio d1 d2) (sdO (WW w a b).params k2 vn s ts p tp) ++ [(frs, frZ f2), (frl, frZ f3), (oc, oo)] := rfl
          rw [e3, List.map_append] at nd
          exact (List.nodup_append.mp nd).1, fun q hq => .inl ⟨q, hq, rfl⟩, fun _ _ e _ => e⟩
      refine code_sound (V := VW w a b (exCs w a b (qtL kk) (nm kk) (qdK kk) e) 4) O (conOf_ok (C e)) hr (show 1 ≤ 4 by decide) hh (fun F' e' => by cases e') 48 (u := none) (hs := 76568891334001649007504331496492835538049) (k := 4) noTk (fun xs hx => ?_) D0
      have ex := mk_of xs
      rw [hx] at ex
      have ro := ro0 (fun i => xs.getD i 0)
      rw [← ex] at ro
      refine ⟨of_dup ro.eqs, by rw [ro.ps]; exact Alls.all ⟨⟨kk, hk7, rfl, rfl, rfl⟩, ⟨hc, he, h0, h1⟩, trivial⟩, ?_⟩
      rw [ro.fin]
      intro h' t' D'
      refine K (xs.getD 0 0) (xs.getD 1 0) (xs.getD 2 0) (xs.getD 3 0) A h₀ U g d os R h' t' hh hA hr ?_ KR
      have := (show RepU hT h₀ U (exT l lx ld sio sd d1 d2 _ _ _ ++ [(frs, frZ f2), (frl, frZ f3), (oc, oo)]) h from D).frame D'
      rw [hpush, e2] at this
      exact this
    cases rest with
    | nil =>
      obtain ⟨hc, he⟩ := hline
      refine turn false hc he _ fun t0 t1 t2 t3 => ?_
      have ek : ks = done ++ [kk] := by rw [hks']; simp
      have hp : adv p (qtL kk).length = (s.length : Int) := he
      show SegOkF pwT' (WW w a b) hT 4 4 _ (exLp l lx) ((l, listO _ _) :: (neT lx ld sio sd d1 d2 frs frl (ldO (WW w a b).params k v .none (.str e0S t2) sio d1 d2) (sdO (WW w a b).params k2 vn s ts (adv p (qtL kk).length) t3) (frZ f2) (frZ f3) ++ [(oc, oo)])) _
      rw [hp]
      obtain ⟨code, hcode⟩ := decK_sur (tk ++ [t0])
      rw [← hlenS t0, ← ek] at hcode
      refine SegOkF.of_run TK (show Cons pwT' (WW w a b) hT [] from trivial) (show ConsF pwT' (WW w a b) hT (neFs w a b) from ⟨ne_ok TK, trivial⟩) (show 1 ≤ 4 by decide) (run_exE w a b l lx ld sio sd d1 d2 ts t3 t2 k v k2 vn s.length s · frs frl oc _ _ f2 f3 oo) (fun f => ⟨⟨rfl, h0, h1⟩, trivial⟩) (fun f => ⟨[code, f 3, t3, f 4], rfl, ?_⟩)
      unfold exOut
      have ec : decK ks.length (ky [code, f 3, t3, f 4] 0) = tk ++ [t0] := hcode
      rw [ec, ek]; rfl
    | cons k2' rest =>
      obtain ⟨hc, hsp, hl'⟩ := hline
      refine turn true hc hsp _ fun t0 t1 t2 t3 => ?_
      exact ex_loop TK l lx ld sio sd d1 d2 frs frl oc ts k v k2 vn s f2 f3 oo ks hlen h0 h1 (k2' :: rest) (done ++ [kk]) (tk ++ [t0]) t1 t2 _ t3 hks' (hlenS t0) (fun x hx => h7 x (List.mem_cons_of_mem _ hx)) hl'
theorem ex_ok (TK : TopK (WW w a b) hT) (ks : List Nat) : ConOkF pwT' (WW w a b) hT (exJ (WW w a b).params ks).con := FJob.con_ok (fun ids d hl hs => by
  obtain ⟨k, v, k2, vn, tst, tq, s, ts, p, tp, f2, f3, oo⟩ := d
  obtain ⟨l, lx, ld, sio, sd, d1, d2, frs, frl, oc, rfl⟩ := ids10 hl
  obtain ⟨⟨hline, h8, h7, h0, h1⟩, _⟩ := hs
  exact ex_loop TK l lx ld sio sd d1 d2 frs frl oc ts k v k2 vn s f2 f3 oo ks h8 h0 h1 ks [] [] tst tq p tp rfl rfl h7 hline) (fun _ _ _ => rfl)
end
end Mine
end

section
set_option maxRecDepth 100000
set_option linter.unusedVariables false
namespace Mine
open PySem PySem.Spec PySem.Calls PyProof.Rows PySem.W PySem.W.X
theorem code_own {prog : Program} {w : World} {A : Around} {id : String} {args : Args} {b : Builtin} {R : Result → Shared → Prop} {s : Shared} (hb : entryFor table id = some b)
    (h : wpOwn (model prog w) A (.builtin id args) (b args) (postC prog w A R) (postE R) s) : codeAny (model prog w) A (.builtin id args) R s := by
  refine y_code _ _ _ _ _ _ ?_
  show wpOwn _ A _ (match entryFor table id with | some b => b args | none => _) _ _ s
  rw [hb]
  exact h
/-- list.extend's tree, the list known to be no other -/
noncomputable def extP (self it r : Value) : { t : Sem Fin // Builtin.List.listSameRef self it = false → PySem.W.Fast.tw8938917530802602619 self it r = t } := ⟨_, fun h => by
  unfold PySem.W.Fast.tw8938917530802602619
  rw [h]⟩
noncomputable def initT (E : Value → Value → Value → Sem Fin) (l it : Value) : Sem Fin := PySem.W.Fast.tw10557518346328741659 l >>= fun old => PySem.W.Fast.tw2060155186595164805 l (fun _ => #[]) >>= fun _ => PySem.W.Fast.tw3461954006293484611 old.toList.reverse >>= fun _ => E l it .none
noncomputable def initE (l it : Value) : Sem Fin := initT (fun s i r => (extP s i r).1) l it
theorem init_tree (l lx : Nat) (h : l ≠ lx) : Builtin.«list.__init__» ⟨[.ref (l + B), .ref (lx + B)], []⟩ = initE (.ref (l + B)) (.ref (lx + B)) := by
  have h1 : Builtin.List.listSameRef (.ref (l + B)) (.ref (lx + B)) = false := by simp [Builtin.List.listSameRef, h]
  have e : initE (.ref (l + B)) (.ref (lx + B)) = initT Builtin.List.listExtendWith (.ref (l + B)) (.ref (lx + B)) := by
    have e2 : (extP (.ref (l + B)) (.ref (lx + B)) .none).1 = Builtin.List.listExtendWith (.ref (l + B)) (.ref (lx + B)) .none := by
      rw [← (extP (.ref (l + B)) (.ref (lx + B)) .none).2 h1, ← PySem.W.Fast.te8938917530802602619]
    unfold initE initT
    simp only [e2]
  rw [e]
  unfold initT
  rw [← PySem.W.Fast.te10557518346328741659, ← PySem.W.Fast.te2060155186595164805, ← PySem.W.Fast.te3461954006293484611]
  rfl
noncomputable abbrev liC (l lx : Nat) : Code := .builtin "list.__init__" ⟨[.ref (l + B), .ref (lx + B)], []⟩
noncomputable abbrev spFs (w : World) (a b : Bool) (ks : List Nat) : List ConF := [(exJ (WW w a b).params ks).con]
noncomputable abbrev liH : Nat := 663945338784539916624014520833876165718675338426895177323743513959000741645752069751781122490746004074327970022408
section
variable (w : World) (a b : Bool) (l lx ld sio sd d1 d2 frs frl oc ts tp tst tq : Nat) (k v k2 : Nat → Nat) (vn : Value) (p : Int) (s : Str) (f2 f3 : Array DictEntry × Nat) (oo : Obj) (ks : List Nat) (f : Nat → Nat)
theorem run_li : RunIs (simU (VWF w a b [] 5 [spE frs, lawE frl oc] (spFs w a b ks)) 90 none liH (mk f 6) false (liC l lx) .base (initE (.ref (l + B)) (.ref (lx + B))) ((l, listO #[] 0) :: (neT lx ld sio sd d1 d2 frs frl (ldO (WW w a b).params k v (.str (c1 32) tst) (.str e0S tq) sio d1 d2) (sdO (WW w a b).params k2 vn s ts p tp) (frZ f2) (frZ f3) ++ [(oc, oo)])) [] [])
    [LineAt s p ks ∧ ks.length ≤ 8 ∧ (∀ k ∈ ks, k < 7) ∧ s.length ≠ 0 ∧ s.length ≤ 1000000]
    (.ret (.ok (.ret .none)) ((l, listO ⟨wordV ks (decK ks.length (f 2))⟩ (ks.length + 2)) :: (neT lx ld sio sd d1 d2 frs frl (ldO (WW w a b).params k v .none (.str e0S (f 3)) sio d1 d2) (sdO (WW w a b).params k2 vn s ts s.length (f 4)) (lookF (spE frs) (.ref (frl + B)) (frZ f2)) (lookF (lawE frl oc) (backV (f 5)) (frZ f3)) ++ [(oc, oo)]))) := RunIs.of (by cases a <;> kernel_rfl)
end
section
variable {w : World} {a b : Bool} {hT : Heap}
theorem li_seg (TK : TopK (WW w a b) hT) (l lx ld sio sd d1 d2 frs frl oc ts tp tst tq : Nat) (k v k2 : Nat → Nat) (vn : Value) (p : Int) (s : Str) (f2 f3 : Array DictEntry × Nat) (oo : Obj) (ks : List Nat) (hs : LineAt s p ks ∧ ks.length ≤ 8 ∧ (∀ k ∈ ks, k < 7) ∧ s.length ≠ 0 ∧ s.length ≤ 1000000) :
    SegOkF pwT' (WW w a b) hT 5 4 [spE frs, lawE frl oc] (liC l lx) ((l, listO #[] 0) :: (neT lx ld sio sd d1 d2 frs frl (ldO (WW w a b).params k v (.str (c1 32) tst) (.str e0S tq) sio d1 d2) (sdO (WW w a b).params k2 vn s ts p tp) (frZ f2) (frZ f3) ++ [(oc, oo)]))
      (exOut (WW w a b).params l lx ld sio sd d1 d2 frs frl oc ts k v k2 vn s f2 f3 oo ks) := by
  intro A h₀ U g d os R h tk hh hA hr D K
  have hne : l ≠ lx := fun e => by
    have nd := D.nd
    rw [List.map_cons, List.nodup_cons] at nd
    exact nd.1 (e ▸ List.mem_cons_self ..)
  refine code_own PySem.F.entry_list_init ?_
  rw [init_tree l lx hne]
  have O : UOk (VWF w a b [] 5 [spE frs, lawE frl oc] (spFs w a b ks)) hT := uokF TK ⟨ex_ok TK ks, trivial⟩
  have S := simU_sound (V := VWF w a b [] 5 [spE frs, lawE frl oc] (spFs w a b ks)) (hT := hT) (h₀ := h₀) (U := U) (A₀ := A) (g := g) (d := d) (os := os) (R := R) O (conOf_ok (show Cons pwT' (WW w a b) hT [] from trivial)) hr (show 1 ≤ 5 by decide) hh (fun F' e => by cases e; exact hA)
  refine S 90 none liH 6 false (liC l lx) .base (initE (.ref (l + B)) (.ref (lx + B))) _ [] [] h tk trivial noTk (fun xs hx => ?_) D
  have e := mk_of xs
  rw [hx] at e
  have ro := run_li w a b l lx ld sio sd d1 d2 frs frl oc ts tp tst tq k v k2 vn p s f2 f3 oo ks (fun i => xs.getD i 0)
  rw [← e] at ro
  refine ⟨of_dup ro.eqs, by rw [ro.ps]; exact Alls.all ⟨hs, trivial⟩, ?_⟩
  rw [ro.fin]
  intro h' t' D'
  exact K [xs.getD 2 0, xs.getD 3 0, xs.getD 4 0, xs.getD 5 0] rfl h' t' D'
/-- list's init over lex -/
noncomputable def liJ (P : Params) (ks : List Nat) : FJob ExD := { exJ P ks with J := { (exJ P ks).J with lvl := 5, code := fun ids _ => liC (ky ids 0) (ky ids 1), pre := fun ids d => listO #[] 0 :: ((exJ P ks).J.pre ids d).tail } }
theorem li_ok (TK : TopK (WW w a b) hT) (ks : List Nat) : ConOkF pwT' (WW w a b) hT (liJ (WW w a b).params ks).con := FJob.con_ok (fun ids d hl hs => by
  obtain ⟨k, v, k2, vn, tst, tq, s, ts, p, tp, f2, f3, oo⟩ := d
  obtain ⟨l, lx, ld, sio, sd, d1, d2, frs, frl, oc, rfl⟩ := ids10 hl
  obtain ⟨hs, _⟩ := hs
  exact li_seg TK l lx ld sio sd d1 d2 frs frl oc ts tp tst tq k v k2 vn p s f2 f3 oo ks hs) (fun _ _ _ => rfl)
end
end Mine
end

section
set_option maxRecDepth 100000
set_option linter.unusedVariables false
namespace Mine
open PySem PySem.Spec PySem.Calls PyProof.Rows PySem.W PySem.W.X
noncomputable abbrev liFs (w : World) (a b : Bool) (ks : List Nat) : List ConF := [(liJ (WW w a b).params ks).con]
theorem run_split (w : World) (a b : Bool) (frl oc t : Nat) (s : Str) (ks : List Nat) (f3 : Array DictEntry × Nat) (oo : Obj) (f : Nat → Nat) : RunIs (codeU (VWF w a b [lnewJ.con] 6 [lawE frl oc] (liFs w a b ks)) (simU (VWF w a b [lnewJ.con] 6 [lawE frl oc] (liFs w a b ks)) 1407) none (.call (.ref 859) ⟨[.str s t], []⟩) 1080541030544206713144121969911851271947133110737164236018243585353109341243207849782775269591716967899919367424461324089935980672532310928695716369341112543801941956793250714415814434316318339716644906409162185705738431287567047859697782479829608063213445836712384979932796872175307412296209516954622917404608663121134192613153524193027428569455914696725292629747931480195246489306956787187202437713238199784323364426369295907345793637885450594009637410112704146362211058460868258758376067047143153192840928591164542216225780203937180477688158439178943892938395749044930054962833213740111941564440386820179974936898528368968939458206456705355311129434248481605076615889196800834813039080706108964152248286256892307657959124397680415293545708487465925327531830179251074731277373072724932873818607857546901374974199694006765533067567611202163103171951641597574460513234592286507331309961496953106902334625868310942899300116030276383262556312655929940422550277780594015727940388400225626954923043745252539834736968284567219434656031007739311896806434543579050673945416341611497007160902490793295308795290692234937488026297026322923411321801545909358615216890768580388828102801086219883954898318469418821582122699369757739671752589317457898345026259283343993390760280244937916082318005755079604197919047124492680903178094430689701181510343401882634638516918124494054950950184692140535256226266116982927287975788997191173604763774011902708233590380470613635147462508413895643567072501392678573253427463711135566637873374566262665023598130415226974379720010274513273614771097052871722568827177432057921799272475058986858216556301248302627955204640586914283990889158057241278851531553012472015236453113726111838768904024790808115015024242775591670746987554513653717753209518826505531843065409666949859050553505859323451537890871908835801158504801535792162418918808105851956430998642121484820450637198011221494033117302188796002350264699381028757833352915319235002847199234 (mk f 117) .base [(frl, frZ f3), (oc, oo)] [] [])
    [LineAt s 0 ks ∧ ks.length ≤ 8 ∧ (∀ k ∈ ks, k < 7) ∧ s.length ≠ 0 ∧ s.length ≤ 1000000]
    (.ret (.ok (.ret (.ref (f 112 + B)))) [(f 112, listO ⟨wordV ks (decK ks.length (f 113))⟩ (ks.length + 2)), (frl, lookF (lawE frl oc) (backV (f 116)) (frZ f3)), (oc, oo)]) := RunIs.of (by cases a <;> kernel_rfl)
structure SpD where
  s : Str
  t : Nat
  f3 : Array DictEntry × Nat
  oo : Obj
/-- split; ids: law's frame, law's cell -/
noncomputable def spJ (P : Params) (ks : List Nat) : FJob SpD where
  J := {
    lvl := 6
    need := 3
    ext := fun c os => match c, os with
      | .call _ ⟨[.str s t], []⟩, [fl, oo] => some ⟨s, t, dictOf fl, oo⟩
      | _, _ => none
    code := fun _ d => .call (.ref 859) ⟨[.str d.s d.t], []⟩
    pre := fun _ d => [frZ d.f3, d.oo]
    side := fun _ d => [LineAt d.s 0 ks ∧ ks.length ≤ 8 ∧ (∀ k ∈ ks, k < 7) ∧ d.s.length ≠ 0 ∧ d.s.length ≤ 1000000]
    res := fun _ _ xs => .ok (.ret (.ref (ky xs 0 + B)))
    new := fun _ _ xs => [(ky xs 0, listO ⟨wordV ks (decK ks.length (ky xs 1))⟩ (ks.length + 2))]
    post := fun ids d xs => [lookF (lawE (ky ids 0) (ky ids 1)) (backV (ky xs 2)) (frZ d.f3), d.oo] }
  fr := fun ids _ => [lawE (ky ids 0) (ky ids 1)]
theorem split_fok {w : World} {a b : Bool} {hT : Heap} (TK : TopK (WW w a b) hT) (ks : List Nat) : ConOkF pwT' (WW w a b) hT (spJ (WW w a b).params ks).con := FJob.con_ok (fun ids d hl hs => by
  obtain ⟨s, t, f3, oo⟩ := d
  match ids, hl with
  | [frl, oc], _ =>
    exact SegOkF.of_run TK (show Cons pwT' (WW w a b) hT [lnewJ.con] from ⟨lnew_ok, trivial⟩) (show ConsF pwT' (WW w a b) hT (liFs w a b ks) from ⟨li_ok TK ks, trivial⟩) (show 1 ≤ 6 by decide) (run_split w a b frl oc t s ks f3 oo) (fun f => ⟨hs.1, trivial⟩) (fun f => ⟨[f 112, f 113, f 116], rfl, rfl⟩)) (fun _ _ _ => rfl)
end Mine
end

section
set_option maxRecDepth 100000
set_option linter.unusedVariables false
namespace Mine
open PySem PyProof.Rows PySem.W PySem.W.X
/-- a frame that has been looked at -/
noncomputable def frX (P : Params) (sl : Array (Option Value)) (es : List (Str × Tok × Value)) (n : Nat) : Obj := ⟨.type "frame", none, .dict ⟨es.map fun e => ⟨PyData.keyHash P e.1, .str e.1 e.2.1, e.2.2⟩⟩ n, sl⟩
/-- the tokens and the values of law's names -/
structure FlN where
  t1 : Nat
  t2 : Nat
  t3 : Nat
  t4 : Nat
  t5 : Nat
  t6 : Nat
  t7 : Nat
  v1 : Value
  v2 : Value
  v3 : Value
  v4 : Value
noncomputable abbrev flE (q : FlN) (ac cl wl : Nat) : List (Str × Tok × Value) := [((⟨⟨[115, 99, 114, 105, 112, 116]⟩⟩ : Str), q.t1, q.v1), ((⟨⟨[100, 114, 97, 119, 110]⟩⟩ : Str), q.t2, q.v2), ((⟨⟨[117, 112, 115]⟩⟩ : Str), q.t3, q.v3), ((⟨⟨[110, 97, 109, 101, 115]⟩⟩ : Str), q.t4, q.v4), ((⟨⟨[119, 111, 114, 100, 115]⟩⟩ : Str), q.t5, .ref (wl + B)), ((⟨⟨[99, 117, 116, 115]⟩⟩ : Str), q.t6, .ref (cl + B)), ((⟨⟨[114, 111, 117, 110, 100, 115]⟩⟩ : Str), q.t7, .ref (ac + B))]
noncomputable def flO (P : Params) (sl : Array (Option Value)) (q : FlN) (ac cl wl n : Nat) : Option (Nat × Value) → Obj
  | none => frX P sl (flE q ac cl wl) n
  | some e => frX P sl (flE q ac cl wl ++ [((⟨⟨[116, 117, 114, 110]⟩⟩ : Str), e.1, e.2)]) (n + 1)
noncomputable def flLp (it fr oc : Nat) : Code := forC (stN (fnB (tS 51)) 7) (.ref (it + B)) { scope := fnS (tS 51), locals := fr + B, globals := 3, cells := [((⟨⟨[111, 99, 116, 101, 116, 115]⟩⟩ : Str), oc + B)], qual := (⟨⟨[108, 97, 119]⟩⟩ : Str) ++ ".<locals>.", func := some 891, code := .ref 890, frame := some (fr + B), builtins := 0 }
noncomputable abbrev flCs (c : Int) (tc : Nat) (ns : List Int) : List Con := [rnextJ.con, rendJ.con, (lgetJ (.int c tc)).con, lsliceJ.con, laddJ.con, (roundJ ns).con, lappJ.con]
noncomputable abbrev rotA (items : Array Value) (c : Int) : Array Value := slicePick items (some c) none none ++ slicePick items none (some c) none
noncomputable abbrev flT (fr ac it oc ol cl wl : Nat) (d : Obj) (arr : Array Value) (ep : Nat) (x left : Int) (octs : Array Value) (m1 : Nat) (cuts : Array Value) (m2 : Nat) (words : Array Value) (m3 : Nat) : Slots :=
  [(fr, d), (ac, listO arr ep), (it, rIt x left), (oc, cellO (.ref (ol + B))), (ol, listO octs m1), (cl, listO cuts m2), (wl, listO words m3)]
section
variable (w : World) (a b : Bool) (fr ac it oc ol cl wl : Nat) (x left : Int) (m1 m2 m3 ep tk n tc : Nat) (sl : Array (Option Value)) (q : FlN) (v : Value) (c : Int) (ns : List Int) (arr octs cuts words : Array Value) (f : Nat → Nat)
theorem run_fl0 : RunIs (codeU (VW w a b (flCs c tc ns) 4) (simU (VW w a b (flCs c tc ns) 4) 149) none (flLp it fr oc) 4499412054553626105635448322749088193266942751441530978689293566269555868170072745252373794566938677822858499964439938860648033801312617196684181601213653258643089117989002114435120000690984616846701857714554155618082495674246242354111279978409641217 (mk f 13) .base (flT fr ac it oc ol cl wl (flO (WW w a b).params sl q ac cl wl n none) arr ep x left octs m1 cuts m2 words m3) [] [])
    [arr.size ≤ sizeLine, ∃ cs : List (Str × Tok), (rotA words x).toList = cs.map strV ∧ cs.length = ns.length ∧ 1 ≤ ns.length ∧ ns.length ≤ 9 ∧ (∀ c ∈ cs, NameOk c.1) ∧ (∀ n ∈ ns, 0 ≤ n) ∧ VarsAt (roBs (rotA octs c)) 0 ns ∧ ∃ ks : List (Int × Nat), (rotA octs c).toList = ks.map intV ∧ (∀ k ∈ ks, 0 ≤ k.1 ∧ k.1 < 256) ∧ ks.length ≤ 500, (slicePick words (some x) none none).size + (slicePick words none (some x) none).size ≤ sizeLine, words.size ≤ 1000, IsPart .none none, IsPart (.int x (f 0)) (some x), words.size ≤ 1000, IsPart (.int x (f 0)) (some x), IsPart .none none, (slicePick octs (some c) none none).size + (slicePick octs none (some c) none).size ≤ sizeLine, octs.size ≤ 1000, IsPart .none none, IsPart (.int c tc) (some c), LgetP cuts x (.int c tc), octs.size ≤ 1000, IsPart (.int c tc) (some c), IsPart .none none, LgetP cuts x (.int c tc), 0 < left] (.stop (flLp it fr oc) (flT fr ac it oc ol cl wl (flO (WW w a b).params sl q ac cl wl n (some (f 1, .int x (f 0)))) (arr.push (.str (roundTxt ((rotA words x).toList.map fun v => (unV v).1) ns) (f 12))) (ep + 1) (x + 1) (left - 1) octs m1 cuts m2 words m3)) := RunIs.of (by cases a <;> kernel_rfl)
theorem run_fl1 : RunIs (codeU (VW w a b (flCs c tc ns) 4) (simU (VW w a b (flCs c tc ns) 4) 149) none (flLp it fr oc) 4499412054553626105635448322749088193266942751441530978689293566269555868170072745252373794566938677822858499964439938860648033801312617196684181601213653258643089117989002114435120000690984616846701857714554155618082495674246242354111279978409641217 (mk f 13) .base (flT fr ac it oc ol cl wl (flO (WW w a b).params sl q ac cl wl n (some (tk, v))) arr ep x left octs m1 cuts m2 words m3) [] [])
    [arr.size ≤ sizeLine, ∃ cs : List (Str × Tok), (rotA words x).toList = cs.map strV ∧ cs.length = ns.length ∧ 1 ≤ ns.length ∧ ns.length ≤ 9 ∧ (∀ c ∈ cs, NameOk c.1) ∧ (∀ n ∈ ns, 0 ≤ n) ∧ VarsAt (roBs (rotA octs c)) 0 ns ∧ ∃ ks : List (Int × Nat), (rotA octs c).toList = ks.map intV ∧ (∀ k ∈ ks, 0 ≤ k.1 ∧ k.1 < 256) ∧ ks.length ≤ 500, (slicePick words (some x) none none).size + (slicePick words none (some x) none).size ≤ sizeLine, words.size ≤ 1000, IsPart .none none, IsPart (.int x (f 0)) (some x), words.size ≤ 1000, IsPart (.int x (f 0)) (some x), IsPart .none none, (slicePick octs (some c) none none).size + (slicePick octs none (some c) none).size ≤ sizeLine, octs.size ≤ 1000, IsPart .none none, IsPart (.int c tc) (some c), LgetP cuts x (.int c tc), octs.size ≤ 1000, IsPart (.int c tc) (some c), IsPart .none none, LgetP cuts x (.int c tc), 0 < left] (.stop (flLp it fr oc) (flT fr ac it oc ol cl wl (flO (WW w a b).params sl q ac cl wl n (some (tk, .int x (f 0)))) (arr.push (.str (roundTxt ((rotA words x).toList.map fun v => (unV v).1) ns) (f 12))) (ep + 1) (x + 1) (left - 1) octs m1 cuts m2 words m3)) := RunIs.of (by cases a <;> kernel_rfl)
theorem run_flE : RunIs (codeU (VW w a b (flCs c tc ns) 4) (simU (VW w a b (flCs c tc ns) 4) 46) none (flLp it fr oc) 39749349078897643472569601 (mk f 2) .base (flT fr ac it oc ol cl wl (flO (WW w a b).params sl q ac cl wl n (some (tk, v))) arr ep x left octs m1 cuts m2 words m3) [] [])
    [left ≤ 0] (.ret (.ok .next) (flT fr ac it oc ol cl wl (flO (WW w a b).params sl q ac cl wl n (some (tk, v))) arr ep x left octs m1 cuts m2 words m3)) := RunIs.of (by cases a <;> kernel_rfl)
end
end Mine
end

section
set_option maxRecDepth 100000
set_option linter.unusedVariables false
namespace Mine
open PySem PyProof.Rows PySem.W PySem.W.X
noncomputable abbrev kcE : Expr := asgV (stN (fnB (tS 51)) 5)
noncomputable abbrev kcC (oc : Nat) : List (Str × Addr) := [((⟨⟨[111, 99, 116, 101, 116, 115]⟩⟩ : Str), oc + B)]
noncomputable def kcLp (it ac dk fr oc : Nat) : Code := .compLoop kcE 0 (.ref (it + B)) (.ref (ac + B)) (envP (compS kcE) dk fr (⟨⟨[108, 97, 119]⟩⟩ : Str) 890 (kcC oc))
noncomputable def kcSt (it ac dk fr oc : Nat) : Code := .compStart kcE 0 (.ref (it + B)) (.ref (ac + B)) (envP (compS kcE) dk fr (⟨⟨[108, 97, 119]⟩⟩ : Str) 890 (kcC oc))
noncomputable abbrev kcCs (o : Int) (to : Nat) : List Con := [rnextJ.con, rendJ.con, (lgetJ (.int o to)).con, cmpC "int.__gt__" (fun a b => decide (a > b)), lappJ.con]
noncomputable abbrev kcK : Str := (⟨⟨[107]⟩⟩ : Str)
noncomputable abbrev kcT (dk ac it oc ol : Nat) (d : Obj) (arr : Array Value) (ep : Nat) (x left : Int) (items : Array Value) (m : Nat) : Slots := [(dk, d), (ac, listO arr ep), (it, rIt x left), (oc, cellO (.ref (ol + B))), (ol, listO items m)]
section
variable (w : World) (a b : Bool) (dk ac it oc ol fr : Nat) (x left : Int) (m ep tk : Nat) (v : Value) (o : Int) (to : Nat) (arr items : Array Value) (f : Nat → Nat)
theorem run_kc0K : RunIs (codeU (VW w a b (kcCs o to) 1) (simU (VW w a b (kcCs o to) 1) 69) none (kcLp it ac dk fr oc) 2222389500859301506030942766583680886119448486031842787569594892470469889 (mk f 3) .base (kcT dk ac it oc ol (kO (WW w a b).params kcK none) arr ep x left items m) [] [])
    [arr.size ≤ sizeLine, decide (o > 127) = true, LgetP items x (.int o to), 0 < left] (.stop (kcLp it ac dk fr oc) (kcT dk ac it oc ol (kO (WW w a b).params kcK (some (f 1, .int x (f 0)))) (arr.push (.int x (f 0))) (ep + 1) (x + 1) (left - 1) items m)) := RunIs.of (by cases a <;> kernel_rfl)
theorem run_kc0N : RunIs (codeU (VW w a b (kcCs o to) 1) (simU (VW w a b (kcCs o to) 1) 65) none (kcLp it ac dk fr oc) 3947708896252650561286673582120532783852857259857274750209 (mk f 3) .base (kcT dk ac it oc ol (kO (WW w a b).params kcK none) arr ep x left items m) [] [])
    [decide (o > 127) = false, LgetP items x (.int o to), 0 < left] (.stop (kcLp it ac dk fr oc) (kcT dk ac it oc ol (kO (WW w a b).params kcK (some (f 1, .int x (f 0)))) arr ep (x + 1) (left - 1) items m)) := RunIs.of (by cases a <;> kernel_rfl)
theorem run_kc1K : RunIs (codeU (VW w a b (kcCs o to) 1) (simU (VW w a b (kcCs o to) 1) 69) none (kcLp it ac dk fr oc) 2222389500859301506030942766583680886119448486031842787569594892470469889 (mk f 3) .base (kcT dk ac it oc ol (kO (WW w a b).params kcK (some (tk, v))) arr ep x left items m) [] [])
    [arr.size ≤ sizeLine, decide (o > 127) = true, LgetP items x (.int o to), 0 < left] (.stop (kcLp it ac dk fr oc) (kcT dk ac it oc ol (kO (WW w a b).params kcK (some (tk, .int x (f 0)))) (arr.push (.int x (f 0))) (ep + 1) (x + 1) (left - 1) items m)) := RunIs.of (by cases a <;> kernel_rfl)
theorem run_kc1N : RunIs (codeU (VW w a b (kcCs o to) 1) (simU (VW w a b (kcCs o to) 1) 65) none (kcLp it ac dk fr oc) 3947708896252650561286673582120532783852857259857274750209 (mk f 3) .base (kcT dk ac it oc ol (kO (WW w a b).params kcK (some (tk, v))) arr ep x left items m) [] [])
    [decide (o > 127) = false, LgetP items x (.int o to), 0 < left] (.stop (kcLp it ac dk fr oc) (kcT dk ac it oc ol (kO (WW w a b).params kcK (some (tk, .int x (f 0)))) arr ep (x + 1) (left - 1) items m)) := RunIs.of (by cases a <;> kernel_rfl)
theorem run_kcE : RunIs (codeU (VW w a b (kcCs o to) 1) (simU (VW w a b (kcCs o to) 1) 45) none (kcLp it ac dk fr oc) 308181107458514066883841 (mk f 2) .base (kcT dk ac it oc ol (kO (WW w a b).params kcK (some (tk, v))) arr ep x left items m) [] [])
    [left ≤ 0] (.ret (.ok .next) (kcT dk ac it oc ol (kO (WW w a b).params kcK (some (tk, v))) arr ep x left items m)) := RunIs.of (by cases a <;> kernel_rfl)
theorem run_kcS : RunIs (codeU (VW w a b (kcCs o to) 1) (simU (VW w a b (kcCs o to) 1) 51) none (kcSt it ac dk fr oc) (match b with | true => 82433 | false => 362583787514791169) (mk f 0) .base (kcT dk ac it oc ol (kO (WW w a b).params kcK none) arr ep x left items m) [] [])
    [] (.stop (kcLp it ac dk fr oc) (kcT dk ac it oc ol (kO (WW w a b).params kcK none) arr ep x left items m)) := RunIs.of (by cases a <;> cases b <;> kernel_rfl)
end
def enumL : Nat → List (Int × Nat) → List (Nat × Int × Nat)
  | _, [] => []
  | i, x :: r => (i, x) :: enumL (i + 1) r
theorem enumL_len : ∀ (l : List (Int × Nat)) (i : Nat), (enumL i l).length = l.length
  | [], _ => rfl
  | x :: r, i => by simp [enumL, enumL_len r]
theorem enumL_get : ∀ (l : List (Int × Nat)) (j i : Nat) (x : Nat × Int × Nat), (enumL j l)[i]? = some x → x.1 = j + i ∧ l[i]? = some x.2
  | y :: r, j, 0, x, h => by
    have : (j, y) = x := by simpa [enumL] using h
    subst this; exact ⟨rfl, rfl⟩
  | y :: r, j, i + 1, x, h => by
    have := enumL_get r (j + 1) i x (by simpa [enumL] using h)
    exact ⟨by omega, by simpa using this.2⟩
/-- the places of the octets over 127 -/
noncomputable def kcO (x : Nat × Int × Nat) (t : Nat) : List Value := match decide (x.2.1 > 127) with
  | true => [.int x.1 t]
  | false => []
theorem ids6 {ids : List Nat} (h : ids.length = 6) : ∃ a b c d e f, ids = [a, b, c, d, e, f] := ⟨_, _, _, _, _, _, ids_fn h⟩
noncomputable def kcL (items : Array Value) (n : Nat) : List Value := flatO kcO (enumL 0 (unIs items)) (decK (unIs items).length n)
/-- ids: the names' dict, the list made, the iterator, the cell, the octets, the frame -/
noncomputable def kcJ (P : Params) : Job (Array Value × Nat × Obj) where
  lvl := 1
  need := 3
  ext := fun _ os => match os with
    | [_, _, _, _, ⟨_, _, .seq items m, _⟩, fo] => some (items, m, fo)
    | _ => none
  code := fun ids _ => kcSt (ky ids 2) (ky ids 1) (ky ids 0) (ky ids 5) (ky ids 3)
  pre := fun ids d => [kO P kcK none, listO #[] 0, rIt 0 d.1.size, cellO (.ref (ky ids 4 + B)), listO d.1 d.2.1, d.2.2]
  side := fun _ d => [IntsP d.1]
  res := fun _ _ _ => .ok .next
  new := fun _ _ _ => []
  post := fun ids d xs => [kO P kcK (some (ky xs 1, .int ((d.1.size : Int) - 1) (ky xs 2))), listO ⟨kcL d.1 (ky xs 0)⟩ (kcL d.1 (ky xs 0)).length, rIt d.1.size 0, cellO (.ref (ky ids 4 + B)), listO d.1 d.2.1, d.2.2]
section
variable {w : World} {a b : Bool} {hT : Heap}
theorem kc_ok (TK : TopK (WW w a b) hT) : ConOk pwT' (WW w a b) hT (kcJ (WW w a b).params).con := Job.con_ok (fun ids d hl hs => by
  obtain ⟨items, m, fo⟩ := d
  obtain ⟨dk, ac, it, oc, ol, fr, rfl⟩ := ids6 hl
  have hS : IntsP items := hs.1
  have C : ∀ o to, Cons pwT' (WW w a b) hT (kcCs o to) := fun o to => ⟨rnext_ok TK.size, rend_ok, lget_ok, gt_ok, lapp_ok TK.size, trivial⟩
  have hu := hS.un
  have hsz : items.size = (unIs items).length := by unfold unIs; simp
  have hel := enumL_len (unIs items) 0
  have sz : sizeLine = 16777216 := by decide
  have G := gather (prog := pwT') (w := WW w a b) (hT := hT) (lvl := 1) (kcLp it ac dk fr oc) dk ac it (kO (WW w a b).params kcK) (fun i => rIt i ((items.size : Int) - i)) (rIt items.size 0) [(oc, cellO (.ref (ol + B))), (ol, listO items m)] (enumL 0 (unIs items)) kcO 2
    (fun x d ys => ((match d with | some e => e.1 | none => ky ys 0), .int x.1 (ky ys 1))) (fun i e => ∃ u, e.2 = .int ((i : Int) - 1) u) (fun ys => (ky ys 0, .int ((items.size : Int) - 1) (ky ys 1))) 2
    (fun h => hu.2.1 (List.eq_nil_of_length_eq_zero (by rw [← hel, h]; rfl)))
    (fun x t => by unfold kcO; split <;> simp)
    (fun i x hd d hx h1 h2 _ => by
      obtain ⟨e1, e2⟩ := enumL_get _ _ _ _ hx
      have e1' : x.1 = i := by omega
      have hget : LgetP items i (.int x.2.1 x.2.2) := LgetP.of (by rw [← Array.getElem?_toList, hu.1, List.getElem?_map, e2]; rfl) (by omega)
      have s0 : (⟨hd⟩ : Array Value).size ≤ sizeLine := by rw [sz]; show hd.length ≤ _; omega
      have left : (0 : Int) < (items.size : Int) - i := by omega
      have el : (items.size : Int) - ((i + 1 : Nat) : Int) = (items.size : Int) - i - 1 := by omega
      rw [el]
      cases hy : decide (x.2.1 > 127) with
      | true =>
        have eo : ∀ t, kcO x t = [.int i t] := fun t => by unfold kcO; rw [hy, e1']
        cases d with
        | none => exact StepOk.of_run (V := VW w a b (kcCs x.2.1 x.2.2) 1) (uok TK) (conOf_ok (C _ _)) (show 1 ≤ 1 by decide) (run_kc0K w a b dk ac it oc ol fr i ((items.size : Int) - i) m hd.length x.2.1 x.2.2 ⟨hd⟩ items) (fun f => ⟨s0, hy, hget, left, trivial⟩) (fun f => ⟨[f 0, f 1, f 0], rfl, congrArg (Prod.mk _) (by rw [eo, e1']; exact gT_snoc ..)⟩)
        | some e => exact StepOk.of_run (V := VW w a b (kcCs x.2.1 x.2.2) 1) (uok TK) (conOf_ok (C _ _)) (show 1 ≤ 1 by decide) (run_kc1K w a b dk ac it oc ol fr i ((items.size : Int) - i) m hd.length e.1 e.2 x.2.1 x.2.2 ⟨hd⟩ items) (fun f => ⟨s0, hy, hget, left, trivial⟩) (fun f => ⟨[f 0, f 1, f 0], rfl, congrArg (Prod.mk _) (by rw [eo, e1']; exact gT_snoc ..)⟩)
      | false =>
        have eo : ∀ t, hd ++ kcO x t = hd := fun t => by unfold kcO; rw [hy]; exact List.append_nil _
        cases d with
        | none => exact StepOk.of_run (V := VW w a b (kcCs x.2.1 x.2.2) 1) (uok TK) (conOf_ok (C _ _)) (show 1 ≤ 1 by decide) (run_kc0N w a b dk ac it oc ol fr i ((items.size : Int) - i) m hd.length x.2.1 x.2.2 ⟨hd⟩ items) (fun f => ⟨hy, hget, left, trivial⟩) (fun f => ⟨[f 0, f 1, f 0], rfl, congrArg (Prod.mk _) (by rw [eo, e1']; rfl)⟩)
        | some e => exact StepOk.of_run (V := VW w a b (kcCs x.2.1 x.2.2) 1) (uok TK) (conOf_ok (C _ _)) (show 1 ≤ 1 by decide) (run_kc1N w a b dk ac it oc ol fr i ((items.size : Int) - i) m hd.length e.1 e.2 x.2.1 x.2.2 ⟨hd⟩ items) (fun f => ⟨hy, hget, left, trivial⟩) (fun f => ⟨[f 0, f 1, f 0], rfl, congrArg (Prod.mk _) (by rw [eo, e1']; rfl)⟩))
    (fun i x d ys hx _ _ => by
      obtain ⟨e1, _⟩ := enumL_get _ _ _ _ hx
      exact ⟨ky ys 1, by show Value.int (x.1 : Int) _ = _; rw [show (x.1 : Int) = ((i + 1 : Nat) : Int) - 1 by omega]⟩)
    (fun e he => by
      obtain ⟨u, hu'⟩ := he
      refine ⟨[e.1, u], rfl, ?_⟩
      show e = (e.1, .int ((items.size : Int) - 1) u)
      rw [hel, ← hsz] at hu'
      rw [← hu'])
    (fun e hd => by
      rw [hel, ← hsz, Int.sub_self]
      exact SegOk.of_run (V := VW w a b (kcCs 0 0) 1) (uok TK) (conOf_ok (C 0 0)) (show 1 ≤ 1 by decide) (run_kcE w a b dk ac it oc ol fr items.size 0 m hd.length e.1 e.2 0 0 ⟨hd⟩ items) (fun f => ⟨show (0 : Int) ≤ 0 by decide, trivial⟩) (fun f => ⟨[], rfl, rfl⟩))
  have e0 : (items.size : Int) - ((0 : Nat) : Int) = items.size := by omega
  rw [e0, hel] at G
  have S0 : StepOk pwT' (WW w a b) hT 1 0 (kcSt it ac dk fr oc) (gT dk ac it (kO (WW w a b).params kcK) (rIt ((0 : Nat) : Int) items.size) [(oc, cellO (.ref (ol + B))), (ol, listO items m)] none []) (fun _ => (kcLp it ac dk fr oc, gT dk ac it (kO (WW w a b).params kcK) (rIt ((0 : Nat) : Int) items.size) [(oc, cellO (.ref (ol + B))), (ol, listO items m)] none [])) :=
    StepOk.of_run (V := VW w a b (kcCs 0 0) 1) (uok TK) (conOf_ok (C 0 0)) (show 1 ≤ 1 by decide) (run_kcS w a b dk ac it oc ol fr 0 items.size m 0 0 0 #[] items) (fun f => trivial) (fun f => ⟨[], rfl, rfl⟩)
  have main := StepOk.lift S0 G
  refine SegOk.mono (main.frame [(fr, fo)]) (Nat.le_refl _) fun xs hx => ?_
  match xs, hx with
  | [p, q, r], _ => exact ⟨[p, q, r], rfl, rfl, rfl⟩) (fun _ _ _ => rfl)
end
end Mine
end

section
set_option maxRecDepth 100000
set_option linter.unusedVariables false
namespace Mine
open PySem PyProof.Rows PySem.W PySem.W.X
theorem SegOk.of_con {prog : Program} {w : World} {hT : Heap} {con : Con} (H : ConOk prog w hT con) {c : Code} {T : Slots} {out : List Nat → Result × Slots} (as : List Nat)
    (K : ∀ xs : List Nat, xs.length = con.need → ∃ o, con.run c T as xs = some o ∧ (∀ q ∈ o.eqs, q.1 = q.2) ∧ (∀ q ∈ o.ps, q) ∧ o.res = (out xs).1 ∧ o.T = (out xs).2) : SegOk prog w hT con.lvl con.need c T out := by
  intro A h₀ U g d os R h tk hh hr D Q
  refine H A h₀ U g d os c T as R h tk hh hr D fun xs hx => ?_
  obtain ⟨o, h1, h2, h3, h4, h5⟩ := K xs hx
  refine ⟨o, h1, h2, h3, fun h' t' D' => ?_⟩
  rw [h4]
  exact Q xs hx h' t' (by rw [← h5]; exact D')
/-- the octets of a move, told -/
noncomputable def octKJ (ks : List Int) : Job (Int × Nat) where
  lvl := 1
  need := 4
  ext := fun c _ => match c with
    | .call _ ⟨[.int m t], []⟩ => some (m, t)
    | _ => none
  code := fun _ d => .call (.ref 874) ⟨[.int d.1 d.2], []⟩
  pre := fun _ _ => []
  side := fun _ d => [octL d.1 = ks, 0 ≤ d.1, d.1 < 262144]
  res := fun _ _ xs => .ok (.ret (.ref (at0 xs)))
  new := fun _ d xs => match xs with
    | x :: xs => [(x, listO ⟨intVals ks xs⟩ 0)]
    | [] => []
  post := fun _ _ _ => []
theorem octK_ok {w : World} {a b : Bool} {hT : Heap} (TK : TopK (WW w a b) hT) (ks : List Int) : ConOk pwT' (WW w a b) hT (octKJ ks).con := Job.con_ok (fun ids d hl hs => by
  obtain ⟨m, t⟩ := d
  obtain ⟨h1, h2, h3, _⟩ := hs
  have h1' : octL m = ks := h1
  subst h1'
  have S := SegOk.of_con (oct_ok TK) (c := .call (.ref 874) ⟨[.int m t], []⟩) (T := []) (out := (octKJ (octL m)).out [] (m, t)) [] (fun xs hx => by
    refine ⟨_, rfl, fun q hq => ?_, fun q hq => ?_, rfl, rfl⟩
    · rcases List.mem_cons.mp hq with rfl | hq
      · rfl
      · cases hq
    · rcases List.mem_cons.mp hq with rfl | hq
      · exact h2
      · rcases List.mem_cons.mp hq with rfl | hq
        · exact h3
        · cases hq)
  cases ids with
  | nil => exact S
  | cons x r => exact S) (fun _ _ _ => rfl)
noncomputable abbrev coE : Expr := asgV (stN (fnB (tS 51)) 4)
noncomputable def coLp (it ac dk fr : Nat) : Code := .compLoop coE 0 (.ref (it + B)) (.ref (ac + B)) (envP (compS coE) dk fr (⟨⟨[108, 97, 119]⟩⟩ : Str) 890 [])
noncomputable def coSt (it ac dk fr : Nat) : Code := .compStart coE 0 (.ref (it + B)) (.ref (ac + B)) (envP (compS coE) dk fr (⟨⟨[108, 97, 119]⟩⟩ : Str) 890 [])
noncomputable abbrev coCs (x : Int) (tx : Nat) (ks : List Int) : List Con := [(itemJ "list_iterator" "list_iterator.__next__" "list" (.int x tx)).con, (endJ "list_iterator" "list_iterator.__next__" "list").con, (octKJ ks).con, lappJ.con]
/-- the two names of the comprehension -/
noncomputable def coO (P : Params) : Option (Nat × Value × Nat × Value) → Obj
  | none => dcO P [] 0
  | some e => dcO P [((⟨⟨[120]⟩⟩ : Str), e.1, e.2.1), ((⟨⟨[111, 99, 116, 101, 116]⟩⟩ : Str), e.2.2.1, e.2.2.2)] 2
noncomputable abbrev coT (dk ac it dl : Nat) (d : Obj) (arr : Array Value) (ep : Nat) (i : Int) (items : Array Value) (m : Nat) : Slots := [(dk, d), (ac, listO arr ep), (it, itO "list_iterator" (.ref (dl + B)) i), (dl, seqO "list" items m)]
section
variable (w : World) (a b : Bool) (dk ac it dl fr : Nat) (i : Int) (m ep t1 t2 : Nat) (v1 v2 : Value) (x : Int) (tx : Nat) (k0 k1 k2 : Int) (arr items : Array Value) (f : Nat → Nat)
theorem run_co10 : RunIs (codeU (VW w a b (coCs x tx [k0]) 2) (simU (VW w a b (coCs x tx [k0]) 2) 133) none (coLp it ac dk fr) (match b with | true => 10916027622964207938053970785263544380896579897752834204533587194766113556624547746821019826096368939402031720928790017778664705 | false => 48009197202292625072625047967381874541563266886757833522976698301526900225853599596212388509366867513525348237599681979475451996641022723329) (mk f 13) .base (coT dk ac it dl (coO (WW w a b).params none) arr ep i items m) [] [])
    [arr.size ≤ sizeLine, octL (mvI x) = [k0], 0 ≤ mvI x, mvI x < 262144, items[i.toNat]? = some (.int x tx)] (.stop (coLp it ac dk fr) (coT dk ac it dl (coO (WW w a b).params (some (f 0, .int x tx, f 10, .int k0 (f 6)))) (arr.push (.int k0 (f 6))) (ep + 1) (i + 1) items m)) := RunIs.of (by cases a <;> cases b <;> kernel_rfl)
theorem run_co11 : RunIs (codeU (VW w a b (coCs x tx [k0]) 2) (simU (VW w a b (coCs x tx [k0]) 2) 133) none (coLp it ac dk fr) (match b with | true => 10916027622964207938053970785263544380896579897752834204533587194766113556624547746821019826096368939402031720928790017778664705 | false => 48009197202292625072625047967381874541563266886757833522976698301526900225853599596212388509366867513525348237599681979475451996641022723329) (mk f 13) .base (coT dk ac it dl (coO (WW w a b).params (some (t1, v1, t2, v2))) arr ep i items m) [] [])
    [arr.size ≤ sizeLine, octL (mvI x) = [k0], 0 ≤ mvI x, mvI x < 262144, items[i.toNat]? = some (.int x tx)] (.stop (coLp it ac dk fr) (coT dk ac it dl (coO (WW w a b).params (some (t1, .int x tx, t2, .int k0 (f 6)))) (arr.push (.int k0 (f 6))) (ep + 1) (i + 1) items m)) := RunIs.of (by cases a <;> cases b <;> kernel_rfl)
theorem run_co20 : RunIs (codeU (VW w a b (coCs x tx [k0, k1]) 2) (simU (VW w a b (coCs x tx [k0, k1]) 2) 156) none (coLp it ac dk fr) (match b with | true => 118865014941331402134188729327793844250834920093400711532631573760755863326290128094326658122188381898745753173209887732586530998253593710114562079180478658284787614977 | false => 522773864255047404404905160657582719884752488955831625170721429626325157096101762224930610970390397139221906760941339273649186324607636653087174358315884038677496968445952054543617) (mk f 14) .base (coT dk ac it dl (coO (WW w a b).params none) arr ep i items m) [] [])
    [(arr.push (.int k0 (f 6))).size ≤ sizeLine, arr.size ≤ sizeLine, octL (mvI x) = [k0, k1], 0 ≤ mvI x, mvI x < 262144, items[i.toNat]? = some (.int x tx)] (.stop (coLp it ac dk fr) (coT dk ac it dl (coO (WW w a b).params (some (f 0, .int x tx, f 10, .int k1 (f 7)))) ((arr.push (.int k0 (f 6))).push (.int k1 (f 7))) (ep + 1 + 1) (i + 1) items m)) := RunIs.of (by cases a <;> cases b <;> kernel_rfl)
theorem run_co21 : RunIs (codeU (VW w a b (coCs x tx [k0, k1]) 2) (simU (VW w a b (coCs x tx [k0, k1]) 2) 156) none (coLp it ac dk fr) (match b with | true => 118865014941331402134188729327793844250834920093400711532631573760755863326290128094326658122188381898745753173209887732586530998253593710114562079180478658284787614977 | false => 522773864255047404404905160657582719884752488955831625170721429626325157096101762224930610970390397139221906760941339273649186324607636653087174358315884038677496968445952054543617) (mk f 14) .base (coT dk ac it dl (coO (WW w a b).params (some (t1, v1, t2, v2))) arr ep i items m) [] [])
    [(arr.push (.int k0 (f 6))).size ≤ sizeLine, arr.size ≤ sizeLine, octL (mvI x) = [k0, k1], 0 ≤ mvI x, mvI x < 262144, items[i.toNat]? = some (.int x tx)] (.stop (coLp it ac dk fr) (coT dk ac it dl (coO (WW w a b).params (some (t1, .int x tx, t2, .int k1 (f 7)))) ((arr.push (.int k0 (f 6))).push (.int k1 (f 7))) (ep + 1 + 1) (i + 1) items m)) := RunIs.of (by cases a <;> cases b <;> kernel_rfl)
theorem run_co30 : RunIs (codeU (VW w a b (coCs x tx [k0, k1, k2]) 2) (simU (VW w a b (coCs x tx [k0, k1, k2]) 2) 179) none (coLp it ac dk fr) (match b with | true => 1294325396106526877694079891107221390322212165663099155587721844806630358045891012309636218796646107709989044258182063957895169394671842661999034834029478567645310089989253508398885072871417528696220298528001 | false => 5692503292579613359965250585719559271286325405589857307908588526171407187730301301811426289038024199270498711149761070195650635311611577226591679074042680763851430762163400741986395961355434020965344841586418872848762113) (mk f 15) .base (coT dk ac it dl (coO (WW w a b).params none) arr ep i items m) [] [])
    [((arr.push (.int k0 (f 6))).push (.int k1 (f 7))).size ≤ sizeLine, (arr.push (.int k0 (f 6))).size ≤ sizeLine, arr.size ≤ sizeLine, octL (mvI x) = [k0, k1, k2], 0 ≤ mvI x, mvI x < 262144, items[i.toNat]? = some (.int x tx)] (.stop (coLp it ac dk fr) (coT dk ac it dl (coO (WW w a b).params (some (f 0, .int x tx, f 10, .int k2 (f 8)))) (((arr.push (.int k0 (f 6))).push (.int k1 (f 7))).push (.int k2 (f 8))) (ep + 1 + 1 + 1) (i + 1) items m)) := RunIs.of (by cases a <;> cases b <;> kernel_rfl)
theorem run_co31 : RunIs (codeU (VW w a b (coCs x tx [k0, k1, k2]) 2) (simU (VW w a b (coCs x tx [k0, k1, k2]) 2) 179) none (coLp it ac dk fr) (match b with | true => 1294325396106526877694079891107221390322212165663099155587721844806630358045891012309636218796646107709989044258182063957895169394671842661999034834029478567645310089989253508398885072871417528696220298528001 | false => 5692503292579613359965250585719559271286325405589857307908588526171407187730301301811426289038024199270498711149761070195650635311611577226591679074042680763851430762163400741986395961355434020965344841586418872848762113) (mk f 15) .base (coT dk ac it dl (coO (WW w a b).params (some (t1, v1, t2, v2))) arr ep i items m) [] [])
    [((arr.push (.int k0 (f 6))).push (.int k1 (f 7))).size ≤ sizeLine, (arr.push (.int k0 (f 6))).size ≤ sizeLine, arr.size ≤ sizeLine, octL (mvI x) = [k0, k1, k2], 0 ≤ mvI x, mvI x < 262144, items[i.toNat]? = some (.int x tx)] (.stop (coLp it ac dk fr) (coT dk ac it dl (coO (WW w a b).params (some (t1, .int x tx, t2, .int k2 (f 8)))) (((arr.push (.int k0 (f 6))).push (.int k1 (f 7))).push (.int k2 (f 8))) (ep + 1 + 1 + 1) (i + 1) items m)) := RunIs.of (by cases a <;> cases b <;> kernel_rfl)
theorem run_coE : RunIs (codeU (VW w a b (coCs x tx []) 2) (simU (VW w a b (coCs x tx []) 2) 45) none (coLp it ac dk fr) 39296066099862843372356865 (mk f 2) .base (coT dk ac it dl (coO (WW w a b).params (some (t1, v1, t2, v2))) arr ep i items m) [] [])
    [items[i.toNat]? = none] (.ret (.ok .next) [(dk, coO (WW w a b).params (some (t1, v1, t2, v2))), (ac, listO arr ep), (it, itE i), (dl, seqO "list" items m)]) := RunIs.of (by cases a <;> kernel_rfl)
theorem run_coS : RunIs (codeU (VW w a b (coCs x tx []) 2) (simU (VW w a b (coCs x tx []) 2) 51) none (coSt it ac dk fr) (match b with | true => 66049 | false => 290526193476863233) (mk f 0) .base (coT dk ac it dl (coO (WW w a b).params none) arr ep i items m) [] [])
    [] (.stop (coLp it ac dk fr) (coT dk ac it dl (coO (WW w a b).params none) arr ep i items m)) := RunIs.of (by cases a <;> cases b <;> kernel_rfl)
end
end Mine
end

section
set_option maxRecDepth 100000
set_option linter.unusedVariables false
namespace Mine
open PySem PySem.Spec PySem.Calls PyProof.Rows PySem.W PySem.W.X
theorem gT_snoc2 {δ : Type} (dk ac it : Nat) (dO : Option δ → Obj) (io : Obj) (X : Slots) (d : Option δ) (hd : List Value) (o p : Value) :
    gT dk ac it dO io X d (hd ++ [o, p]) = (dk, dO d) :: (ac, listO (((⟨hd⟩ : Array Value).push o).push p) (hd.length + 1 + 1)) :: (it, io) :: X := by
  rw [show hd ++ [o, p] = (hd ++ [o]) ++ [p] by simp, gT_snoc, push_list]; simp
theorem gT_snoc3 {δ : Type} (dk ac it : Nat) (dO : Option δ → Obj) (io : Obj) (X : Slots) (d : Option δ) (hd : List Value) (o p q : Value) :
    gT dk ac it dO io X d (hd ++ [o, p, q]) = (dk, dO d) :: (ac, listO ((((⟨hd⟩ : Array Value).push o).push p).push q) (hd.length + 1 + 1 + 1)) :: (it, io) :: X := by
  rw [show hd ++ [o, p, q] = (hd ++ [o]) ++ [p, q] by simp, gT_snoc2, push_list]; simp
theorem octL_cases (m : Int) : (∃ k0, octL m = [k0]) ∨ (∃ k0 k1, octL m = [k0, k1]) ∨ ∃ k0 k1 k2, octL m = [k0, k1, k2] := by
  unfold octL
  split
  · exact .inl ⟨_, rfl⟩
  · split
    · exact .inr (.inl ⟨_, _, rfl⟩)
    · exact .inr (.inr ⟨_, _, _, rfl⟩)
/-- the octets of a script's number, with their tokens -/
noncomputable def coOut (x : Int × Nat) (t : Nat) : List Value := (withI (octL (mvI x.1)) (decK 3 t)).map intV
noncomputable def oLast (m : Int) : Int := (octL m).getLast?.getD 0
noncomputable def coD (xs : List (Int × Nat)) : Int := match xs.getLast? with
  | some x => oLast (mvI x.1)
  | none => 0
noncomputable abbrev CoS : Type := Nat × Value × Nat × Value
noncomputable def coNd (x : Int × Nat) (d : Option CoS) (ys : List Nat) : CoS := ((match d with | some e => e.1 | none => ky ys 0), intV x, (match d with | some e => e.2.2.1 | none => ky ys 1), .int (oLast (mvI x.1)) (ky ys 2))
noncomputable def coDec (xs : List (Int × Nat)) (ys : List Nat) : CoS := (ky ys 0, lastOf intV xs, ky ys 1, .int (coD xs) (ky ys 2))
theorem octL_len (m : Int) : 1 ≤ (octL m).length ∧ (octL m).length ≤ 3 := by
  rcases octL_cases m with ⟨k0, e⟩ | ⟨k0, k1, e⟩ | ⟨k0, k1, k2, e⟩ <;> rw [e] <;> simp
theorem mv_ok (x : Int) : 0 ≤ mvI x ∧ mvI x < 262144 := by
  unfold mvI
  rw [Int.fmod_eq_emod_of_nonneg _ (by decide)]
  omega
noncomputable def coJ (P : Params) : Job (Array Value × Nat × Obj) where
  lvl := 2
  need := 4
  ext := fun _ os => match os with
    | [_, _, _, ⟨_, _, .seq items m, _⟩, fo] => some (items, m, fo)
    | _ => none
  code := fun ids _ => coSt (ky ids 2) (ky ids 1) (ky ids 0) (ky ids 4)
  pre := fun ids d => [coO P none, listO #[] 0, itO "list_iterator" (.ref (ky ids 3 + B)) 0, seqO "list" d.1 d.2.1, d.2.2]
  side := fun _ d => [IntsP d.1]
  res := fun _ _ _ => .ok .next
  new := fun _ _ _ => []
  post := fun _ d xs => [coO P (some (coDec (unIs d.1) (xs.drop 1))), listO ⟨flatO coOut (unIs d.1) (decK (unIs d.1).length (ky xs 0))⟩ (flatO coOut (unIs d.1) (decK (unIs d.1).length (ky xs 0))).length, itE (unIs d.1).length, seqO "list" d.1 d.2.1, d.2.2]
section
variable {w : World} {a b : Bool} {hT : Heap}
theorem co_step (TK : TopK (WW w a b) hT) (dk ac it dl fr m : Nat) (items : Array Value) (i : Nat) (x : Int × Nat) (hd : List Value) (hl : hd.length ≤ 1000) (hget : items[(i : Int).toNat]? = some (.int x.1 x.2)) (d : Option CoS) :
    StepOk pwT' (WW w a b) hT 2 4 (coLp it ac dk fr) (gT dk ac it (coO (WW w a b).params) (itO "list_iterator" (.ref (dl + B)) i) (liX dl items m) d hd) (fun ys => (coLp it ac dk fr, gT dk ac it (coO (WW w a b).params) (itO "list_iterator" (.ref (dl + B)) ((i : Int) + 1)) (liX dl items m) (some (coNd x d (ys.drop 1))) (hd ++ coOut x (ky ys 0)))) := by
  have C : ∀ ks, Cons pwT' (WW w a b) hT (coCs x.1 x.2 ks) := fun ks => ⟨lnext_ok TK.size, lend_ok TK.size, octK_ok TK ks, lapp_ok TK.size, trivial⟩
  have sz : sizeLine = 16777216 := by decide
  have s0 : (⟨hd⟩ : Array Value).size ≤ sizeLine := by rw [sz]; show hd.length ≤ _; omega
  have s1 : ∀ o, ((⟨hd⟩ : Array Value).push o).size ≤ sizeLine := fun o => by rw [Array.size_push, sz]; show hd.length + 1 ≤ _; omega
  have s2 : ∀ o p, (((⟨hd⟩ : Array Value).push o).push p).size ≤ sizeLine := fun o p => by rw [Array.size_push, Array.size_push, sz]; show hd.length + 1 + 1 ≤ _; omega
  have mo := mv_ok x.1
  have code : ∀ p q r : Nat, ∃ n, decK 3 n = [p, q, r] := fun p q r => decK_sur [p, q, r]
  rcases octL_cases (mvI x.1) with ⟨k0, e⟩ | ⟨k0, k1, e⟩ | ⟨k0, k1, k2, e⟩
  · have el : oLast (mvI x.1) = k0 := by unfold oLast; rw [e]; rfl
    have eo : ∀ n p q r, decK 3 n = [p, q, r] → coOut x n = [.int k0 p] := fun n p q r h => by unfold coOut; rw [e, h]; rfl
    cases d with
    | none => exact StepOk.of_run (V := VW w a b (coCs x.1 x.2 [k0]) 2) (uok TK) (conOf_ok (C [k0])) (show 1 ≤ 2 by decide) (run_co10 w a b dk ac it dl fr i m hd.length x.1 x.2 k0 ⟨hd⟩ items) (fun f => ⟨s0, e, mo.1, mo.2, hget, trivial⟩) (fun f => by
        obtain ⟨n, hn⟩ := code (f 6) 0 0
        exact ⟨[n, f 0, f 10, f 6], rfl, congrArg (Prod.mk _) (by show gT _ _ _ _ _ _ (some (coNd x none [f 0, f 10, f 6])) (hd ++ coOut x n) = _; unfold coNd; rw [eo n _ _ _ hn, el]; exact gT_snoc ..)⟩)
    | some q => exact StepOk.of_run (V := VW w a b (coCs x.1 x.2 [k0]) 2) (uok TK) (conOf_ok (C [k0])) (show 1 ≤ 2 by decide) (run_co11 w a b dk ac it dl fr i m hd.length q.1 q.2.2.1 q.2.1 q.2.2.2 x.1 x.2 k0 ⟨hd⟩ items) (fun f => ⟨s0, e, mo.1, mo.2, hget, trivial⟩) (fun f => by
        obtain ⟨n, hn⟩ := code (f 6) 0 0
        exact ⟨[n, 0, 0, f 6], rfl, congrArg (Prod.mk _) (by show gT _ _ _ _ _ _ (some (coNd x (some q) [0, 0, f 6])) (hd ++ coOut x n) = _; unfold coNd; rw [eo n _ _ _ hn, el]; exact gT_snoc ..)⟩)
  · have el : oLast (mvI x.1) = k1 := by unfold oLast; rw [e]; rfl
    have eo : ∀ n p q r, decK 3 n = [p, q, r] → coOut x n = [.int k0 p, .int k1 q] := fun n p q r h => by unfold coOut; rw [e, h]; rfl
    cases d with
    | none => exact StepOk.of_run (V := VW w a b (coCs x.1 x.2 [k0, k1]) 2) (uok TK) (conOf_ok (C [k0, k1])) (show 1 ≤ 2 by decide) (run_co20 w a b dk ac it dl fr i m hd.length x.1 x.2 k0 k1 ⟨hd⟩ items) (fun f => ⟨s1 _, s0, e, mo.1, mo.2, hget, trivial⟩) (fun f => by
        obtain ⟨n, hn⟩ := code (f 6) (f 7) 0
        exact ⟨[n, f 0, f 10, f 7], rfl, congrArg (Prod.mk _) (by show gT _ _ _ _ _ _ (some (coNd x none [f 0, f 10, f 7])) (hd ++ coOut x n) = _; unfold coNd; rw [eo n _ _ _ hn, el]; exact gT_snoc2 ..)⟩)
    | some q => exact StepOk.of_run (V := VW w a b (coCs x.1 x.2 [k0, k1]) 2) (uok TK) (conOf_ok (C [k0, k1])) (show 1 ≤ 2 by decide) (run_co21 w a b dk ac it dl fr i m hd.length q.1 q.2.2.1 q.2.1 q.2.2.2 x.1 x.2 k0 k1 ⟨hd⟩ items) (fun f => ⟨s1 _, s0, e, mo.1, mo.2, hget, trivial⟩) (fun f => by
        obtain ⟨n, hn⟩ := code (f 6) (f 7) 0
        exact ⟨[n, 0, 0, f 7], rfl, congrArg (Prod.mk _) (by show gT _ _ _ _ _ _ (some (coNd x (some q) [0, 0, f 7])) (hd ++ coOut x n) = _; unfold coNd; rw [eo n _ _ _ hn, el]; exact gT_snoc2 ..)⟩)
  · have el : oLast (mvI x.1) = k2 := by unfold oLast; rw [e]; rfl
    have eo : ∀ n p q r, decK 3 n = [p, q, r] → coOut x n = [.int k0 p, .int k1 q, .int k2 r] := fun n p q r h => by unfold coOut; rw [e, h]; rfl
    cases d with
    | none => exact StepOk.of_run (V := VW w a b (coCs x.1 x.2 [k0, k1, k2]) 2) (uok TK) (conOf_ok (C [k0, k1, k2])) (show 1 ≤ 2 by decide) (run_co30 w a b dk ac it dl fr i m hd.length x.1 x.2 k0 k1 k2 ⟨hd⟩ items) (fun f => ⟨s2 _ _, s1 _, s0, e, mo.1, mo.2, hget, trivial⟩) (fun f => by
        obtain ⟨n, hn⟩ := code (f 6) (f 7) (f 8)
        exact ⟨[n, f 0, f 10, f 8], rfl, congrArg (Prod.mk _) (by show gT _ _ _ _ _ _ (some (coNd x none [f 0, f 10, f 8])) (hd ++ coOut x n) = _; unfold coNd; rw [eo n _ _ _ hn, el]; exact gT_snoc3 ..)⟩)
    | some q => exact StepOk.of_run (V := VW w a b (coCs x.1 x.2 [k0, k1, k2]) 2) (uok TK) (conOf_ok (C [k0, k1, k2])) (show 1 ≤ 2 by decide) (run_co31 w a b dk ac it dl fr i m hd.length q.1 q.2.2.1 q.2.1 q.2.2.2 x.1 x.2 k0 k1 k2 ⟨hd⟩ items) (fun f => ⟨s2 _ _, s1 _, s0, e, mo.1, mo.2, hget, trivial⟩) (fun f => by
        obtain ⟨n, hn⟩ := code (f 6) (f 7) (f 8)
        exact ⟨[n, 0, 0, f 8], rfl, congrArg (Prod.mk _) (by show gT _ _ _ _ _ _ (some (coNd x (some q) [0, 0, f 8])) (hd ++ coOut x n) = _; unfold coNd; rw [eo n _ _ _ hn, el]; exact gT_snoc3 ..)⟩)
theorem co_ok (TK : TopK (WW w a b) hT) : ConOk pwT' (WW w a b) hT (coJ (WW w a b).params).con := Job.con_ok (fun ids d hl hs => by
  obtain ⟨items, m, fo⟩ := d
  obtain ⟨dk, ac, it, dl, fr, rfl⟩ := ids5 hl
  have hS : IntsP items := hs.1
  have C : Cons pwT' (WW w a b) hT (coCs 0 0 []) := ⟨lnext_ok TK.size, lend_ok TK.size, octK_ok TK [], lapp_ok TK.size, trivial⟩
  have hu := hS.un
  have G := gather (prog := pwT') (w := WW w a b) (hT := hT) (lvl := 2) (coLp it ac dk fr) dk ac it (coO (WW w a b).params) (fun i => itO "list_iterator" (.ref (dl + B)) i) (itE (unIs items).length) (liX dl items m) (unIs items) coOut 3 coNd
    (fun i e => ∃ x u, (unIs items)[i - 1]? = some x ∧ e.2.1 = intV x ∧ e.2.2.2 = .int (oLast (mvI x.1)) u) (coDec (unIs items)) 3 hu.2.1
    (fun x t => by unfold coOut; rw [List.length_map, withI_len]; exact (octL_len _).2)
    (fun i x hd d hx h1 h2 _ => co_step TK dk ac it dl fr m items i x hd (by omega) (hS.get hx) d)
    (fun i x d ys hx _ _ => ⟨x, ky ys 2, by simpa using hx, rfl, rfl⟩)
    (fun e he => by
      obtain ⟨x, u, hx, e1, e2⟩ := he
      refine ⟨[e.1, e.2.2.1, u], rfl, ?_⟩
      have h1 : lastOf intV (unIs items) = intV x := by unfold lastOf; rw [List.getLast?_eq_getElem?, hx]; rfl
      have h2 : coD (unIs items) = oLast (mvI x.1) := by unfold coD; rw [List.getLast?_eq_getElem?, hx]
      show e = (e.1, lastOf intV (unIs items), e.2.2.1, .int (coD (unIs items)) u)
      rw [h1, h2, ← e1, ← e2])
    (fun e hd => by
      refine SegOk.of_run (V := VW w a b (coCs 0 0 []) 2) (uok TK) (conOf_ok C) (show 1 ≤ 2 by decide) (run_coE w a b dk ac it dl fr (unIs items).length m hd.length e.1 e.2.2.1 e.2.1 e.2.2.2 0 0 ⟨hd⟩ items) (fun f => ⟨?_, trivial⟩) (fun f => ⟨[], rfl, rfl⟩)
      have : items.size = (unIs items).length := by unfold unIs; simp
      simp [← this])
  have S0 : StepOk pwT' (WW w a b) hT 2 0 (coSt it ac dk fr) (gT dk ac it (coO (WW w a b).params) (itO "list_iterator" (.ref (dl + B)) ((0 : Nat) : Int)) (liX dl items m) none []) (fun _ => (coLp it ac dk fr, gT dk ac it (coO (WW w a b).params) (itO "list_iterator" (.ref (dl + B)) ((0 : Nat) : Int)) (liX dl items m) none [])) :=
    StepOk.of_run (V := VW w a b (coCs 0 0 []) 2) (uok TK) (conOf_ok C) (show 1 ≤ 2 by decide) (run_coS w a b dk ac it dl fr 0 m 0 0 0 #[] items) (fun f => trivial) (fun f => ⟨[], rfl, rfl⟩)
  have main := StepOk.lift S0 G
  exact main.frame [(fr, fo)]) (fun _ _ _ => rfl)
end
end Mine
end

section
set_option maxRecDepth 100000
set_option linter.unusedVariables false
namespace Mine
open PySem PySem.Spec PySem.Calls PyProof.Rows PySem.W PySem.W.X
/-! the rounds: plain facts -/
theorem octL_oct {n : Int} (h0 : 0 ≤ n) (h : n < 262144) : ∀ k ∈ octL n, 0 ≤ k ∧ k < 256 := by
  have f1 : ∀ z : Int, z.fdiv 64 = z / 64 := fun z => Int.fdiv_eq_ediv_of_nonneg _ (by decide)
  have f2 : ∀ z : Int, z.fmod 64 = z % 64 := fun z => Int.fmod_eq_emod_of_nonneg _ (by decide)
  intro k hk
  unfold octL at hk
  simp only [f1, f2] at hk
  split at hk
  · simp only [List.mem_cons, List.not_mem_nil, or_false] at hk; omega
  · split at hk
    · simp only [List.mem_cons, List.not_mem_nil, or_false] at hk; omega
    · simp only [List.mem_cons, List.not_mem_nil, or_false] at hk; omega
theorem bytes_eq : ∀ (l : List (Int × Nat)), bytesOfInts l = (l.map (·.1)).map (fun k => k.toNat.toUInt8)
  | [] => rfl
  | k :: r => by
    show k.1.toNat.toUInt8 :: bytesOfInts r = _
    rw [bytes_eq r]; rfl
theorem varAt_of : ∀ (ks : List Int) (pre post : List UInt8), (∀ k ∈ ks, 0 ≤ k ∧ k < 256) → VarAt ⟨pre ++ (ks.map (fun k => k.toNat.toUInt8) ++ post)⟩ (pre.length : Int) ks
  | [], _, _, _ => trivial
  | k :: r, pre, post, h => by
    have hk := h k (List.mem_cons_self ..)
    refine ⟨⟨k.toNat.toUInt8, ?_, ?_⟩, ?_⟩
    · rw [Int.toNat_natCast]
      rw [← Array.getElem?_toList]
      show (pre ++ (k.toNat.toUInt8 :: r.map (fun k => k.toNat.toUInt8) ++ post))[pre.length]? = _
      rw [List.getElem?_append_right (Nat.le_refl _), Nat.sub_self]; rfl
    · have : (k.toNat.toUInt8).toNat = k.toNat := by
        show (UInt8.ofNat k.toNat).toNat = _
        rw [UInt8.toNat_ofNat']; omega
      rw [this]; omega
    · have := varAt_of r (pre ++ [k.toNat.toUInt8]) post fun y hy => h y (List.mem_cons_of_mem _ hy)
      rw [List.length_append, List.append_assoc] at this
      exact this
theorem varsAt_of : ∀ (ns : List Int) (pre post : List UInt8), (∀ n ∈ ns, 0 ≤ n ∧ n < 262144) → VarsAt ⟨pre ++ ((ns.flatMap octL).map (fun k => k.toNat.toUInt8) ++ post)⟩ (pre.length : Int) ns
  | [], _, _, _ => trivial
  | n :: r, pre, post, h => by
    have hn := h n (List.mem_cons_self ..)
    have e : ((n :: r).flatMap octL).map (fun k => k.toNat.toUInt8) = (octL n).map (fun k => k.toNat.toUInt8) ++ (r.flatMap octL).map (fun k => k.toNat.toUInt8) := by rw [List.flatMap_cons, List.map_append]
    refine ⟨hn, ?_, ?_⟩
    · rw [e, List.append_assoc]; exact varAt_of _ _ _ (octL_oct hn.1 hn.2)
    · have := varsAt_of r (pre ++ (octL n).map (fun k => k.toNat.toUInt8)) post fun y hy => h y (List.mem_cons_of_mem _ hy)
      rw [List.length_append, List.length_map, List.append_assoc] at this
      rw [e, List.append_assoc]
      exact this
def rotL {α : Type} (i : Nat) (l : List α) : List α := l.drop i ++ l.take i
theorem rotL_map {α β : Type} (f : α → β) (i : Nat) (l : List α) : (rotL i l).map f = rotL i (l.map f) := by unfold rotL; rw [List.map_append, List.map_drop, List.map_take]
theorem rotL_len {α : Type} (i : Nat) (l : List α) : (rotL i l).length = l.length := by unfold rotL; rw [List.length_append, List.length_drop, List.length_take]; omega
theorem rotL_mem {α : Type} {i : Nat} {l : List α} {x : α} (h : x ∈ rotL i l) : x ∈ l := by
  rcases List.mem_append.mp h with h | h
  · exact List.mem_of_mem_drop h
  · exact List.mem_of_mem_take h
/-- where the i-th move's octets begin -/
noncomputable def startN (ns : List Int) (i : Nat) : Nat := ((ns.take i).flatMap octL).length
theorem rot_flat (ns : List Int) (i : Nat) : rotL (startN ns i) (ns.flatMap octL) = (rotL i ns).flatMap octL := by
  have e : ns.flatMap octL = (ns.take i).flatMap octL ++ (ns.drop i).flatMap octL := by rw [← List.flatMap_append, List.take_append_drop]
  unfold rotL startN
  rw [e, List.drop_left' rfl, List.take_left' rfl, List.flatMap_append]
theorem startN_le (ns : List Int) (i : Nat) : startN ns i ≤ (ns.flatMap octL).length := by
  have e : ns.flatMap octL = (ns.take i).flatMap octL ++ (ns.drop i).flatMap octL := by rw [← List.flatMap_append, List.take_append_drop]
  rw [e, List.length_append]; unfold startN; omega
theorem flat_len : ∀ (ns : List Int), (ns.flatMap octL).length ≤ 3 * ns.length
  | [] => Nat.le_refl _
  | n :: r => by
    rw [List.flatMap_cons, List.length_append, List.length_cons]
    have := (octL_len n).2
    have := flat_len r
    omega
theorem rotA_list {items : Array Value} {c : Nat} (h : c ≤ items.size) : (rotA items c).toList = rotL c items.toList := by
  show (slicePick items (some (c : Int)) none none ++ slicePick items none (some (c : Int)) none).toList = _
  rw [slicePick_from items c h, slicePick_upto items c h, Array.toList_append]; rfl
theorem rounds_fit {ns : List Int} {octs : Array Value} {ks : List (Int × Nat)} {i : Nat} (ho : octs.toList = ks.map intV) (hk : ks.map (·.1) = ns.flatMap octL) (hn : ∀ n ∈ ns, 0 ≤ n ∧ n < 262144) (h8 : ns.length ≤ 8) :
    VarsAt (roBs (rotA octs (startN ns i))) 0 (rotL i ns) ∧ ∃ ks' : List (Int × Nat), (rotA octs (startN ns i)).toList = ks'.map intV ∧ (∀ k ∈ ks', 0 ≤ k.1 ∧ k.1 < 256) ∧ ks'.length ≤ 500 := by
  have hsz : octs.size = ks.length := by rw [← Array.length_toList, ho, List.length_map]
  have hkl : ks.length = (ns.flatMap octL).length := by rw [← hk, List.length_map]
  have hle : startN ns i ≤ octs.size := by rw [hsz, hkl]; exact startN_le ns i
  have e1 : (rotA octs (startN ns i)).toList = (rotL (startN ns i) ks).map intV := by rw [rotA_list hle, ho, rotL_map]
  have e2 : (rotL (startN ns i) ks).map (·.1) = (rotL i ns).flatMap octL := by rw [rotL_map, hk, rot_flat]
  refine ⟨?_, rotL (startN ns i) ks, e1, fun k hk' => ?_, ?_⟩
  · have := varsAt_of (rotL i ns) [] [] fun n hn' => hn n (rotL_mem hn')
    rw [List.nil_append, List.append_nil] at this
    show VarsAt ⟨bytesOfInts ((rotA octs (startN ns i)).toList.map unI)⟩ 0 _
    rw [e1, unI_map, bytes_eq, e2]
    exact this
  · have : k.1 ∈ (rotL i ns).flatMap octL := by rw [← e2]; exact List.mem_map_of_mem hk'
    obtain ⟨n, hn', hkn⟩ := List.mem_flatMap.mp this
    have := hn n (rotL_mem hn')
    exact octL_oct this.1 this.2 _ hkn
  · rw [rotL_len, hkl]
    have := flat_len ns
    omega
end Mine
end

section
set_option maxRecDepth 100000
set_option linter.unusedVariables false
namespace Mine
open PySem PySem.Spec PySem.Calls PyProof.Rows PySem.W PySem.W.X
/-- the rounds' texts -/
noncomputable def rdO (names : List Str) (ns : List Int) (i : Nat) (t : Nat) : List Value := [.str (roundTxt (rotL i names) (rotL i ns)) t]
noncomputable def rdL (names : List Str) (ns : List Int) (code : Nat) : List Value := flatO (rdO names ns) (List.range ns.length) (decK ns.length code)
structure FlD where
  sl : Array (Option Value)
  q : FlN
  n : Nat
  octs : Array Value
  m1 : Nat
  cuts : Array Value
  m2 : Nat
  words : Array Value
  m3 : Nat
noncomputable def flExt (os : List Obj) : Option FlD := match os with
  | [fr, _, _, _, ⟨_, _, .seq octs m1, _⟩, ⟨_, _, .seq cuts m2, _⟩, ⟨_, _, .seq words m3, _⟩] => match entD fr with
    | ([(t1, v1), (t2, v2), (t3, v3), (t4, v4), (t5, _), (t6, _), (t7, _)], n) => some ⟨fr.slots, ⟨t1, t2, t3, t4, t5, t6, t7, v1, v2, v3, v4⟩, n, octs, m1, cuts, m2, words, m3⟩
    | _ => none
  | _ => none
/-- ids: the frame, the rounds' list, the iterator, the cell, the octets, the cuts, the words -/
noncomputable def flJ (P : Params) (ns : List Int) : Job FlD where
  lvl := 4
  need := 3
  ext := fun _ os => flExt os
  code := fun ids _ => flLp (ky ids 2) (ky ids 0) (ky ids 3)
  pre := fun ids d => [flO P d.sl d.q (ky ids 1) (ky ids 5) (ky ids 6) d.n none, listO #[] 0, rIt 0 d.cuts.size, cellO (.ref (ky ids 4 + B)), listO d.octs d.m1, listO d.cuts d.m2, listO d.words d.m3]
  side := fun _ d => [∃ (ks cu : List (Int × Nat)) (cs : List (Str × Tok)), d.octs.toList = ks.map intV ∧ ks.map (·.1) = ns.flatMap octL ∧ d.cuts.toList = cu.map intV ∧ cu.map (·.1) = (List.range ns.length).map (fun i => (startN ns i : Int)) ∧
    d.words.toList = cs.map strV ∧ cs.length = ns.length ∧ (∀ c ∈ cs, NameOk c.1) ∧ ns ≠ [] ∧ ns.length ≤ 8 ∧ ∀ n ∈ ns, 0 ≤ n ∧ n < 262144]
  res := fun _ _ _ => .ok .next
  new := fun _ _ _ => []
  post := fun ids d xs => [flO P d.sl d.q (ky ids 1) (ky ids 5) (ky ids 6) d.n (some (ky xs 1, .int ((ns.length : Int) - 1) (ky xs 2))), listO ⟨rdL ((unA d.words).map (·.1)) ns (ky xs 0)⟩ (rdL ((unA d.words).map (·.1)) ns (ky xs 0)).length, rIt ns.length 0, cellO (.ref (ky ids 4 + B)), listO d.octs d.m1, listO d.cuts d.m2, listO d.words d.m3]
section
variable {w : World} {a b : Bool} {hT : Heap}
theorem flL_ok (TK : TopK (WW w a b) hT) (ns : List Int) : ConOk pwT' (WW w a b) hT (flJ (WW w a b).params ns).con := Job.con_ok (fun ids d hl hs => by
  obtain ⟨sl, q, n, octs, m1, cuts, m2, words, m3⟩ := d
  obtain ⟨fr, ac, it, oc, ol, cl, wl, rfl⟩ := ids7 hl
  obtain ⟨⟨ks, cu, cs, ho, hk, hc, hcu, hw, hcs, hok, hne, h8, hn⟩, _⟩ := hs
  have ho' : octs.toList = ks.map intV := ho
  have hc' : cuts.toList = cu.map intV := hc
  have hw' : words.toList = cs.map strV := hw
  have ew : unA words = cs := by unfold unA; rw [hw', unV_map]
  have sz : sizeLine = 16777216 := by decide
  have C : ∀ c tc i, Cons pwT' (WW w a b) hT (flCs c tc (rotL i ns)) := fun c tc i => ⟨rnext_ok TK.size, rend_ok, lget_ok, lslice_ok, ladd_ok, round_ok TK _, lapp_ok TK.size, trivial⟩
  have ncu : cu.length = ns.length := by rw [← List.length_map (f := (·.1)), hcu, List.length_map, List.length_range]
  have ncut : cuts.size = ns.length := by rw [← Array.length_toList, hc', List.length_map, ncu]
  have nw : words.size = ns.length := by rw [← Array.length_toList, hw', List.length_map, hcs]
  have no : octs.size ≤ 24 := by
    have := flat_len ns
    rw [← Array.length_toList, ho', List.length_map, ← List.length_map (f := (·.1)), hk]; omega
  have hr := List.length_range (n := ns.length)
  have hslO := fun (lo hi : Option Int) => slicePick_size_le octs lo hi none
  have hslW := fun (lo hi : Option Int) => slicePick_size_le words lo hi none
  have G := gather (prog := pwT') (w := WW w a b) (hT := hT) (lvl := 4) (flLp it fr oc) fr ac it (flO (WW w a b).params sl q ac cl wl n) (fun i => rIt i ((ns.length : Int) - i)) (rIt ns.length 0) [(oc, cellO (.ref (ol + B))), (ol, listO octs m1), (cl, listO cuts m2), (wl, listO words m3)] (List.range ns.length) (rdO (cs.map (·.1)) ns) 2
    (fun x d ys => ((match d with | some e => e.1 | none => ky ys 0), .int x (ky ys 1))) (fun i e => ∃ u, e.2 = .int ((i : Int) - 1) u) (fun ys => (ky ys 0, .int ((ns.length : Int) - 1) (ky ys 1))) 2
    (fun h => hne (List.eq_nil_of_length_eq_zero (by rw [← hr, h]; rfl)))
    (fun x t => by unfold rdO; simp)
    (fun i x hd d hx h1 h2 _ => by
      rw [hr] at h2
      have ex : x = i := by rw [List.getElem?_range h2] at hx; exact (Option.some.inj hx).symm
      subst ex
      obtain ⟨c, hci⟩ : ∃ c, cu[x]? = some c := ⟨_, List.getElem?_eq_getElem (by omega)⟩
      have hc1 : c.1 = (startN ns x : Int) := by
        have e1 : (cu.map (·.1))[x]? = some c.1 := by rw [List.getElem?_map, hci]; rfl
        rw [hcu, List.getElem?_map, List.getElem?_range h2] at e1
        exact (Option.some.inj e1).symm
      have hget : LgetP cuts x (.int (startN ns x : Int) c.2) := LgetP.of (by rw [← Array.getElem?_toList, hc', List.getElem?_map, hci, ← hc1]; rfl) (by omega)
      have s0 : (⟨hd⟩ : Array Value).size ≤ sizeLine := by rw [sz]; show hd.length ≤ _; omega
      have left : (0 : Int) < (ns.length : Int) - x := by omega
      have el : (ns.length : Int) - ((x + 1 : Nat) : Int) = (ns.length : Int) - x - 1 := by omega
      have eW : (rotA words x).toList = (rotL x cs).map strV := by rw [rotA_list (by omega), hw', rotL_map]
      have eT : (rotA words x).toList.map (fun v => (unV v).1) = rotL x (cs.map (·.1)) := by rw [eW, ← rotL_map]; exact strValues_un _
      have RF := rounds_fit (i := x) ho' hk hn h8
      have side : ∃ cs' : List (Str × Tok), (rotA words x).toList = cs'.map strV ∧ cs'.length = (rotL x ns).length ∧ 1 ≤ (rotL x ns).length ∧ (rotL x ns).length ≤ 9 ∧ (∀ c ∈ cs', NameOk c.1) ∧ (∀ n ∈ rotL x ns, 0 ≤ n) ∧ VarsAt (roBs (rotA octs (startN ns x))) 0 (rotL x ns) ∧ ∃ ks : List (Int × Nat), (rotA octs (startN ns x)).toList = ks.map intV ∧ (∀ k ∈ ks, 0 ≤ k.1 ∧ k.1 < 256) ∧ ks.length ≤ 500 :=
        ⟨rotL x cs, eW, by rw [rotL_len, rotL_len, hcs], by rw [rotL_len]; omega, by rw [rotL_len]; omega, fun c hc => hok c (rotL_mem hc), fun n hn' => (hn n (rotL_mem hn')).1, RF.1, RF.2⟩
      have zO : (slicePick octs (some (startN ns x : Int)) none none).size + (slicePick octs none (some (startN ns x : Int)) none).size ≤ sizeLine := by
        have h1 := hslO (some (startN ns x : Int)) none
        have h2 := hslO none (some (startN ns x : Int))
        rw [sz]; omega
      have zW : (slicePick words (some (x : Int)) none none).size + (slicePick words none (some (x : Int)) none).size ≤ sizeLine := by
        have h1 := hslW (some (x : Int)) none
        have h2 := hslW none (some (x : Int))
        rw [sz]; omega
      rw [el]
      cases d with
      | none => exact StepOk.of_run (V := VW w a b (flCs (startN ns x) c.2 (rotL x ns)) 4) (uok TK) (conOf_ok (C _ _ _)) (show 1 ≤ 4 by decide) (run_fl0 w a b fr ac it oc ol cl wl x ((ns.length : Int) - x) m1 m2 m3 hd.length n c.2 sl q (startN ns x) (rotL x ns) ⟨hd⟩ octs cuts words) (fun f => ⟨s0, side, zW, by omega, .none, .int _ _, by omega, .int _ _, .none, zO, by omega, .none, .int _ _, hget, by omega, .int _ _, .none, hget, left, trivial⟩) (fun f => ⟨[f 12, f 1, f 0], rfl, congrArg (Prod.mk _) (by rw [eT]; exact gT_snoc ..)⟩)
      | some e => exact StepOk.of_run (V := VW w a b (flCs (startN ns x) c.2 (rotL x ns)) 4) (uok TK) (conOf_ok (C _ _ _)) (show 1 ≤ 4 by decide) (run_fl1 w a b fr ac it oc ol cl wl x ((ns.length : Int) - x) m1 m2 m3 hd.length e.1 n c.2 sl q e.2 (startN ns x) (rotL x ns) ⟨hd⟩ octs cuts words) (fun f => ⟨s0, side, zW, by omega, .none, .int _ _, by omega, .int _ _, .none, zO, by omega, .none, .int _ _, hget, by omega, .int _ _, .none, hget, left, trivial⟩) (fun f => ⟨[f 12, f 1, f 0], rfl, congrArg (Prod.mk _) (by rw [eT]; exact gT_snoc ..)⟩))
    (fun i x d ys hx _ _ => by
      have hi : i < ns.length := by
        rcases Nat.lt_or_ge i ns.length with h | h
        · exact h
        · rw [List.getElem?_eq_none (by rw [hr]; exact h)] at hx; cases hx
      have ex : x = i := by rw [List.getElem?_range hi] at hx; exact (Option.some.inj hx).symm
      exact ⟨ky ys 1, by show Value.int (x : Int) _ = _; rw [show (x : Int) = ((i + 1 : Nat) : Int) - 1 by omega]⟩)
    (fun e he => by
      obtain ⟨u, hu'⟩ := he
      refine ⟨[e.1, u], rfl, ?_⟩
      show e = (e.1, .int ((ns.length : Int) - 1) u)
      rw [hr] at hu'
      rw [← hu'])
    (fun e hd => by
      rw [hr, Int.sub_self]
      exact SegOk.of_run (V := VW w a b (flCs 0 0 (rotL 0 ns)) 4) (uok TK) (conOf_ok (C 0 0 0)) (show 1 ≤ 4 by decide) (run_flE w a b fr ac it oc ol cl wl ns.length 0 m1 m2 m3 hd.length e.1 n 0 sl q e.2 0 (rotL 0 ns) ⟨hd⟩ octs cuts words) (fun f => ⟨show (0 : Int) ≤ 0 by decide, trivial⟩) (fun f => ⟨[], rfl, rfl⟩))
  have e0 : (ns.length : Int) - ((0 : Nat) : Int) = cuts.size := by omega
  rw [e0, hr] at G
  refine SegOk.mono G (Nat.le_refl _) fun xs hx => ?_
  match xs, hx with
  | [p, q, r], _ =>
    refine ⟨[p, q, r], rfl, rfl, ?_⟩
    show zipS _ ((flJ (WW w a b).params ns).post [fr, ac, it, oc, ol, cl, wl] _ _) = _
    unfold flJ
    simp only [ew]
    rfl) (fun _ _ _ => rfl)
end
end Mine
end

section
set_option maxRecDepth 100000
set_option linter.unusedVariables false
namespace Mine
open PySem PyProof.Rows PySem.W PySem.W.X
/-- a text of a list, whichever it is -/
noncomputable def lgetXJ : Job (Array Value × Nat × Int × Nat) where
  lvl := 0
  need := 0
  ext := fun c os => match extL os, tailV c with
    | some (items, n), .int k u => some (items, n, k, u)
    | _, _ => none
  code := fun ids d => .builtin "list.__getitem__" ⟨[.ref (at0 ids), .int d.2.2.1 d.2.2.2], []⟩
  pre := fun _ d => [listO d.1 d.2.1]
  side := fun _ d => [0 ≤ d.2.2.1, d.2.2.1 < d.1.size, d.1.size ≤ 1000, strV (unV (d.1.getD d.2.2.1.toNat .none)) = d.1.getD d.2.2.1.toNat .none]
  res := fun _ d xs => .ok (.ret (strV (unV (d.1.getD d.2.2.1.toNat .none))))
  new := fun _ _ _ => []
  post := fun _ d _ => [listO d.1 d.2.1]
theorem lgetX_ok {prog : Program} {w : World} {hT : Heap} : ConOk prog w hT lgetXJ.con := Job.con_ok (fun ids d hl hs => by
  obtain ⟨items, n, k, t⟩ := d
  match ids, hl with
  | [x], _ =>
    obtain ⟨h0, h1, h2, h3, _⟩ := hs
    have h3' : strV (unV (items.getD k.toNat .none)) = items.getD k.toNat .none := h3
    have h0' : 0 ≤ k := h0
    have h1' : k < (items.size : Int) := h1
    have h2' : items.size ≤ 1000 := h2
    have hlt : k.toNat < items.size := by omega
    have hx : items[k.toNat]? = some (items.getD k.toNat .none) := by
      rw [Array.getD_eq_getD_getElem?, Array.getElem?_eq_getElem hlt]; rfl
    intro A h₀ U g' d os R h tk hh hr D K
    have ho := D.at' (x, listO items n) (List.mem_cons_self ..)
    have fin := K [] rfl _ tk D
    refine code_builtin (b := Builtin.«list.__getitem__») (by decide +kernel) PySem.F.entry_list_getitem ?_
    show wpAny _ _ (Builtin.List.listSubscript? (.int k t) >>= _) _ _ _
    refine wpAny_bind (wpAny_listSubscript_int (fitsIndex_of h0' (by omega)) ?_)
    change R (.ok (.ret (strV (unV (items.getD k.toNat .none))))) _ at fin
    rw [h3'] at fin
    generalize items.getD k.toNat .none = v at hx fin
    clear h0 h1 h2 h1' K hlt h3 h3'
    obtain ⟨j, rfl⟩ := Int.eq_ofNat_of_zero_le h0'
    have hx2 : items[j]? = some v := hx
    show wpAny _ _ ((seqItemAt (x + B) j >>= fun r => pure (r.map (j, ·))) >>= _) _ _ _
    refine wpAny_bind (wpAny_bind (wpAny_seqItemAt ho rfl (wpAny_pure ?_)))
    rw [hx2]
    first
      | exact wpAny_bind (wpAny_pure (wpAny_pure fin))
      | exact wpAny_pure fin) (fun _ _ _ => rfl)
noncomputable abbrev nm8 (t : Nat → Nat) : Array Value := #[.str (nm 0) (t 1), .str (nm 1) (t 2), .str (nm 2) (t 3), .str (nm 3) (t 4), .str (nm 4) (t 5), .str (nm 5) (t 6), .str (nm 6) (t 7), .str (nm 7) (t 8)]
/-- which name -/
noncomputable abbrev wh (x : Int) : Int := (x.fdiv 5).fmod 8
theorem wh_lt (x : Int) : 0 ≤ wh x ∧ wh x < 8 := by
  unfold wh
  rw [Int.fmod_eq_emod_of_nonneg _ (by decide)]
  omega
theorem nm8_get (t : Nat → Nat) : ∀ k, k < 8 → (nm8 t).getD k .none = .str (nm k) (t (k + 1))
  | 0, _ => rfl
  | 1, _ => rfl
  | 2, _ => rfl
  | 3, _ => rfl
  | 4, _ => rfl
  | 5, _ => rfl
  | 6, _ => rfl
  | 7, _ => rfl
  | k + 8, h => by omega
theorem nm8_wh (t : Nat → Nat) (x : Int) : (nm8 t).getD (wh x).toNat .none = .str (nm (wh x).toNat) (t ((wh x).toNat + 1)) := nm8_get t _ (by have := wh_lt x; omega)
noncomputable abbrev cnE : Expr := asgV (stN (fnB (tS 51)) 2)
noncomputable def cnLp (it ac dk fr : Nat) : Code := .compLoop cnE 0 (.ref (it + B)) (.ref (ac + B)) (envP (compS cnE) dk fr (⟨⟨[108, 97, 119]⟩⟩ : Str) 890 [])
noncomputable def cnSt (it ac dk fr : Nat) : Code := .compStart cnE 0 (.ref (it + B)) (.ref (ac + B)) (envP (compS cnE) dk fr (⟨⟨[108, 97, 119]⟩⟩ : Str) 890 [])
noncomputable abbrev cnCs (x : Int) (tx : Nat) : List Con := [(itemJ "list_iterator" "list_iterator.__next__" "list" (.int x tx)).con, (endJ "list_iterator" "list_iterator.__next__" "list").con, floordivC, lappJ.con, lgetXJ.con]
noncomputable abbrev cnK : Str := (⟨⟨[120]⟩⟩ : Str)
noncomputable abbrev cnT (dk ac it dl : Nat) (d : Obj) (arr : Array Value) (ep : Nat) (i : Int) (items : Array Value) (m : Nat) : Slots := [(dk, d), (ac, listO arr ep), (it, itO "list_iterator" (.ref (dl + B)) i), (dl, seqO "list" items m)]
section
variable (w : World) (a b : Bool) (dk ac it dl fr : Nat) (i : Int) (m ep tk : Nat) (v : Value) (x : Int) (tx : Nat) (arr items : Array Value) (f : Nat → Nat)
theorem run_cn0 : RunIs (codeU (VW w a b (cnCs x tx) 1) (simU (VW w a b (cnCs x tx) 1) 82) none (cnLp it ac dk fr) 955511779588083989779074752860565465540645026833495702565520810815529009825025 (mk f 14) .base (cnT dk ac it dl (kO (WW w a b).params cnK none) arr ep i items m) [] [])
    [arr.size ≤ sizeLine, 0 ≤ wh x, wh x < (nm8 f).size, (nm8 f).size ≤ 1000, strV (unV ((nm8 f).getD (wh x).toNat .none)) = (nm8 f).getD (wh x).toNat .none, True, ¬ (((5 : Int) == 0) = true), (5 : Int).natAbs < 1073741824, items[i.toNat]? = some (.int x tx)] (.stop (cnLp it ac dk fr) (cnT dk ac it dl (kO (WW w a b).params cnK (some (f 0, .int x tx))) (arr.push (strV (unV ((nm8 f).getD (wh x).toNat .none)))) (ep + 1) (i + 1) items m)) := RunIs.of (by cases a <;> kernel_rfl)
theorem run_cn1 : RunIs (codeU (VW w a b (cnCs x tx) 1) (simU (VW w a b (cnCs x tx) 1) 82) none (cnLp it ac dk fr) 955511779588083989779074752860565465540645026833495702565520810815529009825025 (mk f 14) .base (cnT dk ac it dl (kO (WW w a b).params cnK (some (tk, v))) arr ep i items m) [] [])
    [arr.size ≤ sizeLine, 0 ≤ wh x, wh x < (nm8 f).size, (nm8 f).size ≤ 1000, strV (unV ((nm8 f).getD (wh x).toNat .none)) = (nm8 f).getD (wh x).toNat .none, True, ¬ (((5 : Int) == 0) = true), (5 : Int).natAbs < 1073741824, items[i.toNat]? = some (.int x tx)] (.stop (cnLp it ac dk fr) (cnT dk ac it dl (kO (WW w a b).params cnK (some (tk, .int x tx))) (arr.push (strV (unV ((nm8 f).getD (wh x).toNat .none)))) (ep + 1) (i + 1) items m)) := RunIs.of (by cases a <;> kernel_rfl)
theorem run_cnE : RunIs (codeU (VW w a b (cnCs x tx) 1) (simU (VW w a b (cnCs x tx) 1) 45) none (cnLp it ac dk fr) 39296066099862843372356865 (mk f 2) .base (cnT dk ac it dl (kO (WW w a b).params cnK (some (tk, v))) arr ep i items m) [] [])
    [items[i.toNat]? = none] (.ret (.ok .next) [(dk, kO (WW w a b).params cnK (some (tk, v))), (ac, listO arr ep), (it, itE i), (dl, seqO "list" items m)]) := RunIs.of (by cases a <;> kernel_rfl)
theorem run_cnS : RunIs (codeU (VW w a b (cnCs x tx) 1) (simU (VW w a b (cnCs x tx) 1) 51) none (cnSt it ac dk fr) (match b with | true => 66049 | false => 290526193476863233) (mk f 0) .base (cnT dk ac it dl (kO (WW w a b).params cnK none) arr ep i items m) [] [])
    [] (.stop (cnLp it ac dk fr) (cnT dk ac it dl (kO (WW w a b).params cnK none) arr ep i items m)) := RunIs.of (by cases a <;> cases b <;> kernel_rfl)
end
theorem nm8_str (t : Nat → Nat) (x : Int) : Value.str (nm (wh x).toNat) (t ((wh x).toNat + 1)) = strV (unV ((nm8 t).getD (wh x).toNat .none)) := by rw [nm8_wh]; rfl
noncomputable def cnJ (P : Params) : Job (Array Value × Nat × Obj) := compJ P 1 cnSt cnK unIs intV (fun x t => [.str (nm (wh x.1).toNat) t]) IntsP
section
variable {w : World} {a b : Bool} {hT : Heap}
theorem cn_ok (TK : TopK (WW w a b) hT) : ConOk pwT' (WW w a b) hT (cnJ (WW w a b).params).con := by
  have C : ∀ x tx, Cons pwT' (WW w a b) hT (cnCs x tx) := fun x tx => ⟨lnext_ok TK.size, lend_ok TK.size, floordiv_ok, lapp_ok TK.size, lgetX_ok, trivial⟩
  have sz : sizeLine = 16777216 := by decide
  refine compJ_ok (lp := cnLp) (fun _ _ => by simp) ?_ ?_ ?_ ?_ ?_
  · intro items hS
    exact hS.un.2.1
  · intro dk ac it dl fr items m _
    exact StepOk.of_run (V := VW w a b (cnCs 0 0) 1) (uok TK) (conOf_ok (C 0 0)) (show 1 ≤ 1 by decide) (run_cnS w a b dk ac it dl fr 0 m 0 0 0 #[] items) (fun f => trivial) (fun f => ⟨[], rfl, rfl⟩)
  · intro dk ac it dl fr items m i x hd d hS hx h1 h2
    have hsz : (⟨hd⟩ : Array Value).size ≤ sizeLine := by rw [sz]; show hd.length ≤ _; omega
    have hget := IntsP.get hS hx
    cases d with
    | none => exact StepOk.of_run (V := VW w a b (cnCs x.1 x.2) 1) (uok TK) (conOf_ok (C x.1 x.2)) (show 1 ≤ 1 by decide) (run_cn0 w a b dk ac it dl fr i m hd.length x.1 x.2 ⟨hd⟩ items) (fun f => ⟨hsz, (wh_lt x.1).1, (wh_lt x.1).2, (show 8 ≤ 1000 by decide), by rw [nm8_wh]; rfl, trivial, by decide, by decide, hget, trivial⟩) (fun f => ⟨[f ((wh x.1).toNat + 1), f 0], rfl, congrArg (Prod.mk _) ((congrArg (fun o => gT dk ac it (kO _ cnK) _ _ _ (hd ++ [o])) (nm8_str f x.1)).trans (gT_snoc ..))⟩)
    | some e => exact StepOk.of_run (V := VW w a b (cnCs x.1 x.2) 1) (uok TK) (conOf_ok (C x.1 x.2)) (show 1 ≤ 1 by decide) (run_cn1 w a b dk ac it dl fr i m hd.length e.1 e.2 x.1 x.2 ⟨hd⟩ items) (fun f => ⟨hsz, (wh_lt x.1).1, (wh_lt x.1).2, (show 8 ≤ 1000 by decide), by rw [nm8_wh]; rfl, trivial, by decide, by decide, hget, trivial⟩) (fun f => ⟨[f ((wh x.1).toNat + 1), 0], rfl, congrArg (Prod.mk _) ((congrArg (fun o => gT dk ac it (kO _ cnK) _ _ _ (hd ++ [o])) (nm8_str f x.1)).trans (gT_snoc ..))⟩)
  · intro dk ac it dl fr items m e hd hS
    refine SegOk.of_run (V := VW w a b (cnCs 0 0) 1) (uok TK) (conOf_ok (C 0 0)) (show 1 ≤ 1 by decide) (run_cnE w a b dk ac it dl fr (unIs items).length m hd.length e.1 e.2 0 0 ⟨hd⟩ items) (fun f => ⟨?_, trivial⟩) (fun f => ⟨[], rfl, rfl⟩)
    have : items.size = (unIs items).length := by unfold unIs; simp
    simp [← this]
  · intro items hS
    exact hS.un.2.2
end
end Mine
end

section
set_option maxRecDepth 100000
set_option linter.unusedVariables false
namespace Mine
open PySem PyProof.Rows PySem.W PySem.W.X
/-- which name a text is -/
noncomputable def kOf (s : Str) : Nat := if s = nm 0 then 0 else if s = nm 1 then 1 else if s = nm 2 then 2 else if s = nm 3 then 3 else if s = nm 4 then 4 else if s = nm 5 then 5 else 6
theorem kOf_nm : ∀ k, k < 8 → nm (kOf (nm k)) = nm k ∧ kOf (nm k) < 7 ∧ qt (kOf (nm k)) = qt k
  | 0, _ => by decide +kernel
  | 1, _ => by decide +kernel
  | 2, _ => by decide +kernel
  | 3, _ => by decide +kernel
  | 4, _ => by decide +kernel
  | 5, _ => by decide +kernel
  | 6, _ => by decide +kernel
  | 7, _ => by decide +kernel
  | k + 8, h => by omega
noncomputable abbrev qtS (s : Str) : Str := qt (kOf s)
def NamesP (items : Array Value) : Prop := ∃ xs : List (Str × Tok), items.toList = xs.map strV ∧ xs ≠ [] ∧ xs.length ≤ 300 ∧ ∀ c ∈ xs, ∃ k, k < 8 ∧ c.1 = nm k
theorem NamesP.un {items : Array Value} (h : NamesP items) : items.toList = (unA items).map strV ∧ unA items ≠ [] ∧ (unA items).length ≤ 300 ∧ ∀ c ∈ unA items, ∃ k, k < 8 ∧ c.1 = nm k := by
  obtain ⟨xs, h1, h2, h3, h4⟩ := h
  have : unA items = xs := by unfold unA; rw [h1, unV_map]
  rw [this]; exact ⟨h1, h2, h3, h4⟩
theorem NamesP.get {items : Array Value} (h : NamesP items) {i : Nat} {x : Str × Tok} (hx : (unA items)[i]? = some x) : items[(i : Int).toNat]? = some (.str (nm (kOf x.1)) x.2) ∧ kOf x.1 < 8 ∧ strV x = .str (nm (kOf x.1)) x.2 := by
  obtain ⟨k, hk, e⟩ := h.un.2.2.2 x (List.mem_of_getElem? hx)
  have q := kOf_nm k hk
  rw [← e] at q
  have ev : strV x = .str (nm (kOf x.1)) x.2 := by rw [q.1, ← show x.1 = x.1 from rfl]; rfl
  exact ⟨by rw [Int.toNat_natCast, ← Array.getElem?_toList, h.un.1, List.getElem?_map, hx, ← ev]; rfl, by omega, ev⟩
noncomputable def exN : List Expr → Nat → Expr
  | [], _ => default
  | s :: r, n => match Nat.beq n 0 with
    | true => s
    | false => exN r (n - 1)
noncomputable def argN (e : Expr) (n : Nat) : Expr := match e with
  | .Call _ as _ _ => exN as n
  | _ => default
noncomputable abbrev cqE : Expr := argN (argN (asgV (stN (fnB (tS 51)) 3)) 0) 0
noncomputable def cqLp (it ac dk fr : Nat) : Code := .compLoop cqE 0 (.ref (it + B)) (.ref (ac + B)) (envP (compS cqE) dk fr (⟨⟨[108, 97, 119]⟩⟩ : Str) 890 [])
noncomputable def cqSt (it ac dk fr : Nat) : Code := .compStart cqE 0 (.ref (it + B)) (.ref (ac + B)) (envP (compS cqE) dk fr (⟨⟨[108, 97, 119]⟩⟩ : Str) 890 [])
noncomputable abbrev cqCs (k tx : Nat) : List Con := [(itemJ "list_iterator" "list_iterator.__next__" "list" (.str (nm k) tx)).con, (endJ "list_iterator" "list_iterator.__next__" "list").con, (quoteJ k).con, lappJ.con]
noncomputable abbrev cqK : Str := (⟨⟨[110, 97, 109, 101]⟩⟩ : Str)
noncomputable abbrev cqT (dk ac it dl : Nat) (d : Obj) (arr : Array Value) (ep : Nat) (i : Int) (items : Array Value) (m : Nat) : Slots := [(dk, d), (ac, listO arr ep), (it, itO "list_iterator" (.ref (dl + B)) i), (dl, seqO "list" items m)]
section
variable (w : World) (a b : Bool) (dk ac it dl fr : Nat) (i : Int) (m ep tk : Nat) (v : Value) (k tx : Nat) (arr items : Array Value) (f : Nat → Nat)
theorem run_cq0 : RunIs (codeU (VW w a b (cqCs k tx) 2) (simU (VW w a b (cqCs k tx) 2) 60) none (cqLp it ac dk fr) 1508292708309359827159837278872423134268224668976385 (mk f 2) .base (cqT dk ac it dl (kO (WW w a b).params cqK none) arr ep i items m) [] [])
    [arr.size ≤ sizeLine, k < 8, items[i.toNat]? = some (.str (nm k) tx)] (.stop (cqLp it ac dk fr) (cqT dk ac it dl (kO (WW w a b).params cqK (some (f 0, .str (nm k) tx))) (arr.push (.str (qt k) (match safe k with | true => tx | false => f 1))) (ep + 1) (i + 1) items m)) := RunIs.of (by cases a <;> kernel_rfl)
theorem run_cq1 : RunIs (codeU (VW w a b (cqCs k tx) 2) (simU (VW w a b (cqCs k tx) 2) 60) none (cqLp it ac dk fr) 1508292708309359827159837278872423134268224668976385 (mk f 2) .base (cqT dk ac it dl (kO (WW w a b).params cqK (some (tk, v))) arr ep i items m) [] [])
    [arr.size ≤ sizeLine, k < 8, items[i.toNat]? = some (.str (nm k) tx)] (.stop (cqLp it ac dk fr) (cqT dk ac it dl (kO (WW w a b).params cqK (some (tk, .str (nm k) tx))) (arr.push (.str (qt k) (match safe k with | true => tx | false => f 1))) (ep + 1) (i + 1) items m)) := RunIs.of (by cases a <;> kernel_rfl)
theorem run_cqE : RunIs (codeU (VW w a b (cqCs k tx) 2) (simU (VW w a b (cqCs k tx) 2) 45) none (cqLp it ac dk fr) 39296066099862843372356865 (mk f 2) .base (cqT dk ac it dl (kO (WW w a b).params cqK (some (tk, v))) arr ep i items m) [] [])
    [items[i.toNat]? = none] (.ret (.ok .next) [(dk, kO (WW w a b).params cqK (some (tk, v))), (ac, listO arr ep), (it, itE i), (dl, seqO "list" items m)]) := RunIs.of (by cases a <;> kernel_rfl)
theorem run_cqS : RunIs (codeU (VW w a b (cqCs k tx) 2) (simU (VW w a b (cqCs k tx) 2) 51) none (cqSt it ac dk fr) (match b with | true => 66049 | false => 290526193476863233) (mk f 0) .base (cqT dk ac it dl (kO (WW w a b).params cqK none) arr ep i items m) [] [])
    [] (.stop (cqLp it ac dk fr) (cqT dk ac it dl (kO (WW w a b).params cqK none) arr ep i items m)) := RunIs.of (by cases a <;> cases b <;> kernel_rfl)
end
noncomputable def cqJ (P : Params) : Job (Array Value × Nat × Obj) := compJ P 2 cqSt cqK unA strV (fun x t => [.str (qtS x.1) t]) NamesP
section
variable {w : World} {a b : Bool} {hT : Heap}
theorem cq_ok (TK : TopK (WW w a b) hT) : ConOk pwT' (WW w a b) hT (cqJ (WW w a b).params).con := by
  have C : ∀ k tx, Cons pwT' (WW w a b) hT (cqCs k tx) := fun k tx => ⟨lnext_ok TK.size, lend_ok TK.size, quote_ok TK k, lapp_ok TK.size, trivial⟩
  have sz : sizeLine = 16777216 := by decide
  refine compJ_ok (lp := cqLp) (fun _ _ => by simp) ?_ ?_ ?_ ?_ ?_
  · intro items hS
    exact hS.un.2.1
  · intro dk ac it dl fr items m _
    exact StepOk.of_run (V := VW w a b (cqCs 0 0) 2) (uok TK) (conOf_ok (C 0 0)) (show 1 ≤ 2 by decide) (run_cqS w a b dk ac it dl fr 0 m 0 0 0 #[] items) (fun f => trivial) (fun f => ⟨[], rfl, rfl⟩)
  · intro dk ac it dl fr items m i x hd d hS hx h1 h2
    have hsz : (⟨hd⟩ : Array Value).size ≤ sizeLine := by rw [sz]; show hd.length ≤ _; omega
    have hget := NamesP.get hS hx
    cases d with
    | none => exact StepOk.of_run (V := VW w a b (cqCs (kOf x.1) x.2) 2) (uok TK) (conOf_ok (C (kOf x.1) x.2)) (show 1 ≤ 2 by decide) (run_cq0 w a b dk ac it dl fr i m hd.length (kOf x.1) x.2 ⟨hd⟩ items) (fun f => ⟨hsz, hget.2.1, hget.1, trivial⟩) (fun f => ⟨[(match safe (kOf x.1) with | true => x.2 | false => f 1), f 0], rfl, congrArg (Prod.mk _) (by rw [hget.2.2]; exact gT_snoc ..)⟩)
    | some e => exact StepOk.of_run (V := VW w a b (cqCs (kOf x.1) x.2) 2) (uok TK) (conOf_ok (C (kOf x.1) x.2)) (show 1 ≤ 2 by decide) (run_cq1 w a b dk ac it dl fr i m hd.length e.1 e.2 (kOf x.1) x.2 ⟨hd⟩ items) (fun f => ⟨hsz, hget.2.1, hget.1, trivial⟩) (fun f => ⟨[(match safe (kOf x.1) with | true => x.2 | false => f 1), 0], rfl, congrArg (Prod.mk _) (by rw [hget.2.2]; exact gT_snoc ..)⟩)
  · intro dk ac it dl fr items m e hd hS
    refine SegOk.of_run (V := VW w a b (cqCs 0 0) 2) (uok TK) (conOf_ok (C 0 0)) (show 1 ≤ 2 by decide) (run_cqE w a b dk ac it dl fr (unA items).length m hd.length e.1 e.2 0 0 ⟨hd⟩ items) (fun f => ⟨?_, trivial⟩) (fun f => ⟨[], rfl, rfl⟩)
    have : items.size = (unA items).length := by unfold unA; simp
    simp [← this]
  · intro items hS
    exact hS.un.2.2.1
end
end Mine
end

section
set_option maxRecDepth 100000
set_option linter.unusedVariables false
namespace Mine
open PySem PySem.Spec PySem.Calls PyProof.Rows PySem.W PySem.W.X
open PySem.Builtin
/-! sum of a list of small ints, max of 0 and an int -/
noncomputable abbrev smCs (u : Int) (tu : Nat) : List Con := [(itemJ "list_iterator" "list_iterator.__next__" "list" (.int u tu)).con, (endJ "list_iterator" "list_iterator.__next__" "list").con, cmpC "int.__gt__" (fun a b => decide (a > b))]
noncomputable abbrev smLoop (it bx : Nat) : Code := .builtin "sum.loop" ⟨[.ref (it + B), .ref (bx + B), .int 0 0, .int 0 0], []⟩
noncomputable abbrev smT (bx it l : Nat) (best : Array Value) (k : Nat) (i : Int) (items : Array Value) (m : Nat) : Slots := [(bx, listO best k), (it, itO "list_iterator" (.ref (l + B)) i), (l, seqO "list" items m)]
section
variable (w : World) (a b : Bool) (bx it l : Nat) (i c u : Int) (tc tu k m : Nat) (items : Array Value) (f : Nat → Nat)
theorem run_smIn : RunIs (codeU (VW w a b (smCs u tu) 1) (simU (VW w a b (smCs u tu) 1) 60) none (.call (.builtin "sum") ⟨[.ref (l + B)], []⟩) 27962854759553171585 (mk f 3) .base [(l, seqO "list" items m)] [] [])
    [] (.stop (smLoop (f 0) (f 2)) (smT (f 2) (f 0) l #[.int 0 (f 1)] 0 0 items m)) := RunIs.of (by cases a <;> kernel_rfl)
theorem run_smEnd : RunIs (codeU (VW w a b (smCs u tu) 1) (simU (VW w a b (smCs u tu) 1) 60) none (smLoop it bx) 9923628169287033219711124481 (mk f 2) .base (smT bx it l #[.int c tc] k i items m) [] [])
    [items[i.toNat]? = none] (.ret (.ok (.ret (.int c tc))) [(l, seqO "list" items m)]) := RunIs.of (by cases a <;> kernel_rfl)
/-- max of 0 and a number -/
theorem run_mxG (t0 t1 : Nat) : RunIs (codeU (VW w a b (smCs u tu) 1) (simU (VW w a b (smCs u tu) 1) 108) none (.call (.builtin "max") ⟨[.int 0 t0, .int c t1], []⟩) 51228813020209487758946869315374201508300779205955860782128860991724480881116904571917340224820619470788279364193747073 (mk f 5) .base [] [] [])
    [decide (c > 0) = true] (.ret (.ok (.ret (.int c t1))) []) := RunIs.of (by cases a <;> kernel_rfl)
theorem run_mxZ (t0 t1 : Nat) : RunIs (codeU (VW w a b (smCs u tu) 1) (simU (VW w a b (smCs u tu) 1) 105) none (.call (.builtin "max") ⟨[.int 0 t0, .int c t1], []⟩) 24427801618675941352342066438376515321731740394657865603564155589182012662284957312651611762660036496581770477697 (mk f 5) .base [] [] [])
    [decide (c > 0) = false] (.ret (.ok (.ret (.int 0 t0))) []) := RunIs.of (by cases a <;> kernel_rfl)
end
theorem sum_turn {prog : Program} {w : World} {A : Around} {R : Result → Shared → Prop} {s : Shared} {it l bx : Addr} {i : Nat} {items : Array Value} {n k : Nat} {c u : Int} {tc tu : Nat}
    (h1 : s.heap.get? it = some (itO "list_iterator" (.ref l) i)) (h2 : s.heap.get? l = some (seqO "list" items n)) (h3 : s.heap.get? bx = some (listO #[.int c tc] k)) (hne : bx ≠ it) (hx : items[i]? = some (.int u tu)) (u0 : 0 ≤ u) (u1 : u ≤ 1000) (c0 : 0 ≤ c) (c1 : c ≤ 1000000)
    (K : codeAny (model prog w) A (.builtin "sum.loop" ⟨[.ref it, .ref bx, .int 0 0, .int 0 0], []⟩) R { s with heap := (s.heap.update it (Obj.mapFields (·.setIfInBounds 1 (.int (i + 1) 0)))).update bx (Obj.mapSeq (fun _ => #[.int (c + u) s.toks])), toks := s.toks + 1 }) :
    codeAny (model prog w) A (.builtin "sum.loop" ⟨[.ref it, .ref bx, .int 0 0, .int 0 0], []⟩) R s := by
  refine code_builtin (b := Builtin.«sum.loop») F.plain_sum_loop F.entry_sum_loop ?_
  have hit : s.heap.IsListIter it l i := ⟨_, h1, rfl, rfl⟩
  show wpAny _ A.in1 (seqItems? (.ref bx) >>= _) _ _ s
  refine wpAny_bind (wpAny_seqItems h3 rfl ?_)
  show wpAny _ A.in1 (tryCatch (pyNext (.ref it)) _ >>= _) _ _ s
  refine wpAny_bind (wpAny_tryCatch ?_)
  unfold pyNext
  refine wpAny_bind (wpAny_attempt (wpAny_callSpecial?_slot (name := Str.ofString "__next__") hit.typeIs slot_listiter_next
    (wpAny_call_entry slot_listiter_next hit.typeIs entry_listiter_next ?_ (args_listiter_next _))))
  show wpAny _ _ (field (.ref it) 0 >>= _) _ _ s
  refine wpAny_bind (wpAny_field h1 rfl (x := .ref l) rfl ?_)
  show wpAny _ _ (if (Value.ref l == Value.none) = true then _ else _) _ _ s
  rw [if_neg (show ¬ ((Value.ref l == Value.none) = true) from Bool.false_ne_true)]
  show wpAny _ _ (field (.ref it) 1 >>= _) _ _ s
  refine wpAny_bind (wpAny_field h1 rfl (x := .int i 0) rfl ?_)
  show wpAny _ _ (seqItems? (.ref l) >>= _) _ _ s
  refine wpAny_bind (wpAny_seqItems h2 rfl ?_)
  simp only [Int.toNat_natCast, hx]
  refine wpAny_bind (wpAny_setField h1 rfl (by simp) (wpAny_pure ⟨_, rfl, wpAny_pure ?_⟩))
  have hc : ((decide (-(2 ^ 63) ≤ u) && decide (u < 2 ^ 63)) && (decide (-(2 ^ 63) ≤ c + u) && decide (c + u < 2 ^ 63))) = true := by
    simp only [Bool.and_eq_true, decide_eq_true_eq]; omega
  show wpAny _ A.in1 (if (_ : Bool) = true then (mkInt (c + u) >>= _) else _) _ _ _
  have h3' : (s.heap.update it (Obj.mapFields (·.setIfInBounds 1 (rawInt (i + 1))))).get? bx = some (listO #[.int c tc] k) := (Heap.get?_update_other _ _ (Ne.symm hne)).trans h3
  split
  · refine wpAny_bind (wpAny_mkInt ?_)
    show wpAny _ A.in1 (updateSeq bx (fun _ => #[.int (c + u) s.toks]) >>= _) _ _ _
    refine wpAny_bind ?_
    exact wpAny_updateSeq h3' rfl (wpAny_pure ⟨plainId_quiet F.plain_sum_loop _, K⟩)
  · rename_i hneg
    exact absurd hc hneg
def sumI : Int → List Int → Int
  | c, [] => c
  | c, u :: r => sumI (c + u) r
noncomputable def sumJ : Job (Array Value × Nat) where
  lvl := 1
  need := 1
  ext := fun _ os => match os with
    | [⟨_, _, .seq items m, _⟩] => some (items, m)
    | _ => none
  code := fun ids _ => .call (.builtin "sum") ⟨[.ref (at0 ids)], []⟩
  pre := fun _ d => [seqO "list" d.1 d.2]
  side := fun _ d => [∃ ks : List (Int × Nat), d.1.toList = ks.map intV ∧ (∀ k ∈ ks, 0 ≤ k.1 ∧ k.1 ≤ 1000) ∧ ks.length ≤ 500]
  res := fun _ d xs => .ok (.ret (.int (sumI 0 ((unIs d.1).map (·.1))) (tk0 xs)))
  new := fun _ _ _ => []
  post := fun _ d _ => [seqO "list" d.1 d.2]
noncomputable def maxJ : Job (Int × Nat × Nat) where
  lvl := 1
  need := 1
  ext := fun c _ => match c with
    | .call _ ⟨[.int _ t0, .int c t1], []⟩ => some (c, t0, t1)
    | _ => none
  code := fun _ d => .call (.builtin "max") ⟨[.int 0 d.2.1, .int d.1 d.2.2], []⟩
  pre := fun _ _ => []
  side := fun _ _ => []
  res := fun _ d xs => .ok (.ret (.int (match decide (d.1 > 0) with | true => d.1 | false => 0) (tk0 xs)))
  new := fun _ _ _ => []
  post := fun _ _ _ => []
section
variable {w : World} {a b : Bool} {hT : Heap}
theorem sm_cs (TK : TopK (WW w a b) hT) (u : Int) (tu : Nat) : Cons pwT' (WW w a b) hT (smCs u tu) := ⟨lnext_ok TK.size, lend_ok TK.size, gt_ok, trivial⟩
theorem sm_loop (TK : TopK (WW w a b) hT) (bx it l m : Nat) (items : Array Value) (tot : Int) : ∀ (rest : List (Int × Nat)) (i : Nat) (c : Int) (tc k : Nat), items.toList.drop i = rest.map intV → i + rest.length = items.size → (∀ k ∈ rest, 0 ≤ k.1 ∧ k.1 ≤ 1000) → 0 ≤ c → c + 1000 * rest.length ≤ 1000000 → tot = sumI c (rest.map (·.1)) →
    SegOk pwT' (WW w a b) hT 1 1 (smLoop it bx) (smT bx it l #[.int c tc] k i items m) (fun xs => (.ok (.ret (.int tot (tk0 xs))), [(l, seqO "list" items m)]))
  | [], i, c, tc, k, hd, hi, _, _, _, ht => by
    have e : i = items.size := by simpa using hi
    subst e
    have e2 : tot = c := ht
    subst e2
    exact SegOk.of_run (V := VW w a b (smCs 0 0) 1) (uok TK) (conOf_ok (sm_cs TK _ _)) (Nat.le_refl _) (run_smEnd w a b bx it l (items.size : Int) tot 0 tc 0 k m items) (fun f => ⟨by simp, trivial⟩) (fun f => ⟨[tc], rfl, rfl⟩)
  | u :: rest, i, c, tc, k, hd, hi, hb, hc, hc2, ht => by
    intro A h₀ U g d os R h tk hh hr D K
    have h1 := D.at' (it, _) (List.mem_cons_of_mem _ (List.mem_cons_self ..))
    have h2 := D.at' (l, _) (List.mem_cons_of_mem _ (List.mem_cons_of_mem _ (List.mem_cons_self ..)))
    have h3 := D.at' (bx, _) (List.mem_cons_self ..)
    have hne : bx + B ≠ it + B := fun e => by
      have nd := D.nd
      have e' := Nat.add_right_cancel e
      simp [e'] at nd
    obtain ⟨g1, g2⟩ := drop_tail hd
    obtain ⟨u0, u1⟩ := hb u (List.mem_cons_self ..)
    simp only [List.length_cons] at hc2
    refine sum_turn h1 h2 h3 hne (arr_get g1) u0 u1 hc (by omega) ?_
    have D1 := D.update TK.size (j := 1) (q := (it, itO "list_iterator" (.ref (l + B)) (i : Int))) (f := Obj.mapFields (·.setIfInBounds 1 (.int ((i : Int) + 1) 0))) rfl rfl
    have D2 := D1.update TK.size (j := 0) (q := (bx, listO #[.int c tc] k)) (f := Obj.mapSeq (fun _ => #[.int (c + u.1) (tk + 1)])) rfl rfl
    exact sm_loop TK bx it l m items tot rest (i + 1) (c + u.1) (tk + 1) k g2 (by simp at hi; omega) (fun x hx => hb x (List.mem_cons_of_mem _ hx)) (by omega) (by omega) ht A h₀ U g d os R _ (tk + 1) hh hr D2 K
theorem sum_ok (TK : TopK (WW w a b) hT) : ConOk pwT' (WW w a b) hT sumJ.con := Job.con_ok (fun ids d hl hs => by
  obtain ⟨items, m⟩ := d
  match ids, hl with
  | [l], _ =>
    obtain ⟨⟨ks, hi, hb, hz⟩, _⟩ := hs
    have hi' : items.toList = ks.map intV := hi
    have eu : unIs items = ks := by unfold unIs; rw [hi', unI_map]
    have hsz : ks.length = items.size := by rw [← Array.length_toList, hi', List.length_map]
    have e : sumJ.out [l] (items, m) = fun xs => (.ok (.ret (.int (sumI 0 (ks.map (·.1))) (tk0 xs))), [(l, seqO "list" items m)]) := funext fun xs => by
      show (Except.ok (Flow.ret (.int (sumI 0 ((unIs items).map (·.1))) _)), _) = _
      rw [eu]; rfl
    rw [e]
    exact SegOk.of_then (V := VW w a b (smCs 0 0) 1) (uok TK) (conOf_ok (sm_cs TK _ _)) (Nat.le_refl _) (run_smIn w a b l 0 0 m items) (fun f => trivial) (fun f => sm_loop TK (f 2) (f 0) l m items _ ks 0 0 (f 1) 0 (by rw [hi']; rfl) (by omega) hb (by decide) (by omega) rfl)) (fun _ _ _ => rfl)
theorem max_ok (TK : TopK (WW w a b) hT) : ConOk pwT' (WW w a b) hT maxJ.con := Job.con_ok (fun ids d hl hs => by
  obtain ⟨c, t0, t1⟩ := d
  have e0 : maxJ.into ids (c, t0, t1) = [] := by cases ids <;> rfl
  have e1 : ∀ xs, maxJ.out ids (c, t0, t1) xs = (.ok (.ret (.int (match decide (c > 0) with | true => c | false => 0) (tk0 xs))), []) := fun xs => by cases ids <;> rfl
  rw [e0]
  cases h : decide (c > 0) with
  | true => exact SegOk.of_run (V := VW w a b (smCs 0 0) 1) (uok TK) (conOf_ok (sm_cs TK _ _)) (Nat.le_refl _) (fun f => run_mxG w a b c 0 0 f t0 t1) (fun f => ⟨h, trivial⟩) (fun f => ⟨[t1], rfl, by rw [e1, h]; rfl⟩)
  | false => exact SegOk.of_run (V := VW w a b (smCs 0 0) 1) (uok TK) (conOf_ok (sm_cs TK _ _)) (Nat.le_refl _) (fun f => run_mxZ w a b c 0 0 f t0 t1) (fun f => ⟨h, trivial⟩) (fun f => ⟨[t0], rfl, by rw [e1, h]; rfl⟩)) (fun _ _ _ => rfl)
end
end Mine
end

section
set_option maxRecDepth 100000
set_option linter.unusedVariables false
namespace Mine
open PySem PySem.Spec PySem.Calls PyProof.Rows PySem.W PySem.W.X
open PySem.Builtin PySem.Builtin.Str PySem.Builtin.Int
noncomputable abbrev lwLen : Con := (llenJ (fun n => (n : Int)) (fun _ => True)).con
noncomputable abbrev lwCs (w : World) (a b : Bool) (ns : List Int) : List Con := [lsliceJ.con, lwLen, laddJ.con, (cuJ (WW w a b).params).con, (cnJ (WW w a b).params).con, (cqJ (WW w a b).params).con, sjoinJ.con, (coJ (WW w a b).params).con, (kcJ (WW w a b).params).con, (ctJ (WW w a b).params).con, (flJ (WW w a b).params ns).con, riterJ.con, placeJ.con, lgetXJ.con, sneC, sumJ.con, maxJ.con, cmpC "int.__eq__" (fun a b => a == b)]
noncomputable abbrev lwFs (w : World) (a b : Bool) (ks : List Nat) : List ConF := [(spJ (WW w a b).params ks).con]
noncomputable abbrev lwH : Nat := 155065845987526931582808953311802964021554766736734068958414672418302391861688470903201213918301861986292092838989661899853187054449213760765038172524199410246789898610624742463458288561782603397836423795110789991619191433261573192703109276973902911647361778696467556241520506633913719453838894326188544235038800320302178739557678198694570976123143078489017861093455337132604537869900731215035362402189722592024310469973473195144226649019536392278782105181953543001321571907367790125634833049925581271268175107494686869422798943596065548101721656924148226069131226181641006727628993155687836212516431289147589931845519575745065734081774180368386
/-! what the law computes, by the numbers of its supply -/
noncomputable def lwX (f : Nat → Nat) : Array Value := ⟨[.int 9 (f 6), .int 100 (f 7), .int 4098 (f 8), .int 4170 (f 9)]⟩
noncomputable def lwD (its : Array Value) (f : Nat → Nat) : Array Value := slicePick its (partOf .none) (partOf (.int 8 (f 3))) none ++ slicePick (lwX f) (partOf (.int its.size (f 11))) (partOf .none) none
noncomputable def lwU (its : Array Value) (f : Nat → Nat) : Array Value := ⟨flatO (fun x t => [.int (upsI (mvI x.1)) t]) (unIs (lwD its f)) (decK (unIs (lwD its f)).length (f 19))⟩
noncomputable def lwN (its : Array Value) (f : Nat → Nat) : Array Value := ⟨flatO (fun x t => [.str (nm (wh x.1).toNat) t]) (unIs (lwD its f)) (decK (unIs (lwD its f)).length (f 25))⟩
noncomputable def lwQ (its : Array Value) (f : Nat → Nat) : Array Value := ⟨flatO (fun x t => [.str (qtS x.1) t]) (unA (lwN its f)) (decK (unA (lwN its f)).length (f 32))⟩
noncomputable def lwL (its : Array Value) (f : Nat → Nat) : Str := glued (⟨⟨[32]⟩⟩ : Str) ((lwQ its f).toList.map fun v => (unV v).1)
noncomputable def lwW (ks : List Nat) (f : Nat → Nat) : Array Value := ⟨wordV ks (decK ks.length (f 36))⟩
noncomputable def lwO (its : Array Value) (f : Nat → Nat) : Array Value := ⟨flatO coOut (unIs (lwD its f)) (decK (unIs (lwD its f)).length (f 42))⟩
noncomputable def lwC (its : Array Value) (f : Nat → Nat) : Array Value := ⟨kcL (lwO its f) (f 53)⟩
noncomputable def lwR (ns : List Int) (ks : List Nat) (f : Nat → Nat) : Array Value := ⟨rdL ((unA (lwW ks f)).map (·.1)) ns (f 64)⟩
noncomputable def lwT (ns : List Int) (ks : List Nat) (f : Nat → Nat) : Array Value := ⟨flatO ctO (unA (lwR ns ks f)) (decK (unA (lwR ns ks f)).length (f 73))⟩
noncomputable def lwP (its : Array Value) (ns : List Int) (ks : List Nat) (f : Nat → Nat) : List Prop := [
  (((lwT ns ks f).size : Int) == (match decide (((lwD its f).size : Int) - sumI 0 ((unIs (lwU its f)).map (·.1)) > 0) with | true => ((lwD its f).size : Int) - sumI 0 ((unIs (lwU its f)).map (·.1)) | false => 0)) = true,
  ∃ ks : List (Int × Nat), (lwU its f).toList = ks.map intV ∧ (∀ k ∈ ks, 0 ≤ k.1 ∧ k.1 ≤ 1000) ∧ ks.length ≤ 500,
  True, (lwD its f).size < 2 ^ 62, True, (lwT ns ks f).size < 2 ^ 62,
  StrsP (lwR ns ks f), True,
  ((unV ((lwR ns ks f).getD (0 : Int).toNat .none)).1.cps.toList != (placeT ((unA (lwN its f)).map (·.1)) ((unIs (lwU its f)).map (·.1))).cps.toList) = false,
  ∃ (us : List (Int × Nat)) (cs : List (Str × Tok)), (lwU its f).toList = us.map intV ∧ (lwN its f).toList = cs.map strV ∧ cs.length = us.length ∧ us ≠ [] ∧ us.length ≤ 20 ∧ (∀ u ∈ us, 0 ≤ u.1 ∧ u.1 ≤ 2) ∧ (∀ c ∈ cs, c.1.length ≤ 1000),
  0 ≤ (0 : Int), (0 : Int) < (lwR ns ks f).size, (lwR ns ks f).size ≤ 1000, strV (unV ((lwR ns ks f).getD (0 : Int).toNat .none)) = (lwR ns ks f).getD (0 : Int).toNat .none,
  ∃ (kk cu : List (Int × Nat)) (cs : List (Str × Tok)), (lwO its f).toList = kk.map intV ∧ kk.map (·.1) = ns.flatMap octL ∧ (lwC its f).toList = cu.map intV ∧ cu.map (·.1) = (List.range ns.length).map (fun i => (startN ns i : Int)) ∧
    (lwW ks f).toList = cs.map strV ∧ cs.length = ns.length ∧ (∀ c ∈ cs, NameOk c.1) ∧ ns ≠ [] ∧ ns.length ≤ 8 ∧ ∀ n ∈ ns, 0 ≤ n ∧ n < 262144,
  0 ≤ ((lwC its f).size : Int), ((lwC its f).size : Int) ≤ 1000, True, (lwC its f).size < 2 ^ 62,
  IntsP (lwO its f), 0 ≤ ((lwO its f).size : Int), ((lwO its f).size : Int) ≤ 1000, True, (lwO its f).size < 2 ^ 62,
  IntsP (lwD its f),
  LineAt (lwL its f) 0 ks ∧ ks.length ≤ 8 ∧ (∀ k ∈ ks, k < 7) ∧ (lwL its f).length ≠ 0 ∧ (lwL its f).length ≤ 1000000,
  ∃ l, (lwQ its f).toList = strValues l ∧ tooLong ((l.map (·.1)).toArray.foldl (· + ·.length + (⟨⟨[32]⟩⟩ : Str).length) 0) = false ∧ (glued (⟨⟨[32]⟩⟩ : Str) (l.map (·.1))).length ≤ sizeLine,
  NamesP (lwN its f), IntsP (lwD its f), IntsP (lwD its f),
  (slicePick its (partOf .none) (partOf (.int 8 (f 3))) none).size + (slicePick (lwX f) (partOf (.int its.size (f 11))) (partOf .none) none).size ≤ sizeLine,
  (lwX f).size ≤ 1000, IsPart (.int its.size (f 11)) (partOf (.int its.size (f 11))), IsPart .none (partOf .none),
  True, its.size < 2 ^ 62,
  its.size ≤ 1000, IsPart .none (partOf .none), IsPart (.int 8 (f 3)) (partOf (.int 8 (f 3)))]
theorem run_law (w : World) (a b : Bool) (sl : Nat) (its : Array Value) (ns : List Int) (ks : List Nat) (f : Nat → Nat) : RunIs (codeU (VWF w a b (lwCs w a b ns) 7 [] (lwFs w a b ks)) (simU (VWF w a b (lwCs w a b ns) 7 [] (lwFs w a b ks)) 408) none (.call (.ref 891) ⟨[.ref (sl + B)], []⟩) lwH (mk f 81) .base [(sl, listO its 0)] [] [])
    (lwP its ns ks f)
    (.ret (.ok (.ret (.bool true))) [(sl, listO its 0)]) := RunIs.of (by cases a <;> kernel_rfl)
end Mine
end

section
set_option maxRecDepth 100000
set_option linter.unusedVariables false
namespace Mine
open PySem PyProof.Rows PySem.W PySem.W.X
open PySem.Builtin PySem.Builtin.Str
theorem decK_len : ∀ (k n : Nat), (decK k n).length = k
  | 0, _ => rfl
  | k + 1, n => by show (decK k (gP n).2).length + 1 = _; rw [decK_len k]
theorem flat_int {σ : Type} (g : σ → Int) : ∀ (xs : List σ) (ts : List Nat), xs.length = ts.length → ∃ ys : List (Int × Nat), flatO (fun x t => [.int (g x) t]) xs ts = ys.map intV ∧ ys.map (·.1) = xs.map g
  | [], [], _ => ⟨[], rfl, rfl⟩
  | x :: r, t :: ts, h => by
    obtain ⟨ys, e1, e2⟩ := flat_int g r ts (by simpa using h)
    exact ⟨(g x, t) :: ys, by show Value.int (g x) t :: flatO _ r ts = _; rw [e1]; rfl, by show g x :: ys.map (·.1) = _; rw [e2]; rfl⟩
theorem flat_str {σ : Type} (g : σ → Str) : ∀ (xs : List σ) (ts : List Nat), xs.length = ts.length → ∃ ys : List (Str × Tok), flatO (fun x t => [.str (g x) t]) xs ts = ys.map strV ∧ ys.map (·.1) = xs.map g
  | [], [], _ => ⟨[], rfl, rfl⟩
  | x :: r, t :: ts, h => by
    obtain ⟨ys, e1, e2⟩ := flat_str g r ts (by simpa using h)
    exact ⟨(g x, t) :: ys, by show Value.str (g x) t :: flatO _ r ts = _; rw [e1]; rfl, by show g x :: ys.map (·.1) = _; rw [e2]; rfl⟩
theorem flat_oct : ∀ (xs : List (Int × Nat)) (ts : List Nat), xs.length = ts.length → ∃ ys : List (Int × Nat), flatO coOut xs ts = ys.map intV ∧ ys.map (·.1) = (xs.map fun x => mvI x.1).flatMap octL
  | [], [], _ => ⟨[], rfl, rfl⟩
  | x :: r, t :: ts, h => by
    obtain ⟨ys, e1, e2⟩ := flat_oct r ts (by simpa using h)
    refine ⟨withI (octL (mvI x.1)) (decK 3 t) ++ ys, ?_, ?_⟩
    · show (withI (octL (mvI x.1)) (decK 3 t)).map intV ++ flatO coOut r ts = _
      rw [e1, List.map_append]
    · rw [List.map_append, withI_fst, e2]; rfl
def posL : Nat → List Int → List Int
  | _, [] => []
  | j, o :: r => match decide (o > 127) with
    | true => (j : Int) :: posL (j + 1) r
    | false => posL (j + 1) r
theorem flat_pos : ∀ (os : List (Int × Nat)) (j : Nat) (ts : List Nat), os.length = ts.length → ∃ ys : List (Int × Nat), flatO kcO (enumL j os) ts = ys.map intV ∧ ys.map (·.1) = posL j (os.map (·.1))
  | [], j, [], _ => ⟨[], rfl, rfl⟩
  | x :: r, j, t :: ts, h => by
    obtain ⟨ys, e1, e2⟩ := flat_pos r (j + 1) ts (by simpa using h)
    show ∃ ys : List (Int × Nat), (match decide (x.1 > 127) with | true => [Value.int (j : Int) t] | false => []) ++ flatO kcO (enumL (j + 1) r) ts = ys.map intV ∧ ys.map (·.1) = match decide (x.1 > 127) with | true => (j : Int) :: posL (j + 1) (r.map (·.1)) | false => posL (j + 1) (r.map (·.1))
    rw [e1]
    cases decide (x.1 > 127) with
    | true => exact ⟨((j : Int), t) :: ys, rfl, by show (j : Int) :: ys.map (·.1) = _; rw [e2]⟩
    | false => exact ⟨ys, rfl, e2⟩
theorem posL_small : ∀ (t r : List Int) (j : Nat), (∀ x ∈ t, x ≤ 127) → posL j (t ++ r) = posL (j + t.length) r
  | [], r, j, _ => rfl
  | x :: t, r, j, h => by
    show (match decide (x > 127) with | true => (j : Int) :: posL (j + 1) (t ++ r) | false => posL (j + 1) (t ++ r)) = _
    have := h x (List.mem_cons_self ..)
    rw [decide_eq_false (by omega)]
    show posL (j + 1) (t ++ r) = _
    rw [posL_small t r (j + 1) fun y hy => h y (List.mem_cons_of_mem _ hy)]
    congr 1; simp only [List.length_cons]; omega
theorem octL_shape {n : Int} (h0 : 0 ≤ n) (h : n < 262144) : ∃ k0 t, octL n = k0 :: t ∧ k0 > 127 ∧ ∀ x ∈ t, x ≤ 127 := by
  unfold octL
  rw [Int.fmod_eq_emod_of_nonneg _ (by decide), Int.fmod_eq_emod_of_nonneg _ (by decide), Int.fmod_eq_emod_of_nonneg _ (by decide), Int.fdiv_eq_ediv_of_nonneg _ (by decide), Int.fdiv_eq_ediv_of_nonneg _ (by decide)]
  split
  · exact ⟨_, _, rfl, by omega, fun x hx => nomatch hx⟩
  · split
    · refine ⟨_, _, rfl, by omega, fun x hx => ?_⟩
      rw [List.mem_singleton.mp hx]; omega
    · refine ⟨_, _, rfl, by omega, fun x hx => ?_⟩
      simp only [List.mem_cons, List.not_mem_nil, or_false] at hx
      omega
theorem pos_starts : ∀ (ns : List Int) (j : Nat), (∀ n ∈ ns, 0 ≤ n ∧ n < 262144) → posL j (ns.flatMap octL) = (List.range ns.length).map (fun i => ((j + startN ns i : Nat) : Int))
  | [], j, _ => rfl
  | n :: ns, j, h => by
    obtain ⟨k0, t, e, h1, h2⟩ := octL_shape (h n (List.mem_cons_self ..)).1 (h n (List.mem_cons_self ..)).2
    have ih := pos_starts ns (j + (octL n).length) fun x hx => h x (List.mem_cons_of_mem _ hx)
    rw [List.flatMap_cons, List.length_cons, List.range_succ_eq_map, List.map_cons, List.map_map]
    have e0 : startN (n :: ns) 0 = 0 := rfl
    have e1 : ∀ i, startN (n :: ns) (i + 1) = (octL n).length + startN ns i := fun i => by unfold startN; rw [List.take_succ_cons, List.flatMap_cons, List.length_append]
    have e2 : posL j (octL n ++ ns.flatMap octL) = (j : Int) :: posL (j + (octL n).length) (ns.flatMap octL) := by
      rw [e]
      show (match decide (k0 > 127) with | true => (j : Int) :: posL (j + 1) (t ++ ns.flatMap octL) | false => posL (j + 1) (t ++ ns.flatMap octL)) = _
      rw [decide_eq_true h1]
      show (j : Int) :: posL (j + 1) (t ++ ns.flatMap octL) = _
      rw [posL_small t _ _ h2]
      have : j + 1 + t.length = j + (k0 :: t).length := by simp only [List.length_cons]; omega
      rw [this]
    rw [e2, ih, e0]
    congr 1
    refine List.map_congr_left fun i _ => ?_
    show _ = ((j + startN (n :: ns) (i + 1) : Nat) : Int)
    rw [e1, Nat.add_assoc]
/-! the line of the quoted names -/
noncomputable def lineL : List Nat → List Nat
  | [] => []
  | [k] => qtL k
  | k :: r => qtL k ++ 32 :: lineL r
theorem chars_at {s : Str} : ∀ (l pre post : List Nat), s.cps.toList = pre ++ (l ++ post) → CharsAt s pre.length l
  | [], _, _, _ => trivial
  | c :: l, pre, post, h => by
    refine ⟨⟨by omega, ?_⟩, ?_⟩
    · rw [Int.toNat_natCast, h]; simp
    · have := chars_at l (pre ++ [c]) post (by rw [h]; simp)
      have e : ((pre ++ [c]).length : Int) = (pre.length : Int) + 1 := by simp
      rw [e] at this
      exact this
theorem line_at {s : Str} : ∀ (ks pre : List Nat), ks ≠ [] → s.cps.toList = pre ++ lineL ks → LineAt s pre.length ks
  | [], _, h, _ => absurd rfl h
  | [k], pre, _, h => by
    refine ⟨chars_at (qtL k) pre [] (by rw [h, List.append_nil]; rfl), ?_⟩
    rw [adv_eq, len_list, h, List.length_append]
    show _ = ((pre.length + (qtL k).length : Nat) : Int)
    omega
  | k :: k' :: r, pre, _, h => by
    have h' : s.cps.toList = pre ++ (qtL k ++ 32 :: lineL (k' :: r)) := h
    refine ⟨chars_at (qtL k) pre _ h', ⟨by rw [adv_eq]; omega, ?_⟩, ?_⟩
    · rw [adv_eq]
      have : ((pre.length : Int) + ((qtL k).length : Nat)).toNat = (pre ++ qtL k).length := by rw [List.length_append]; omega
      rw [this, h', ← List.append_assoc]
      simp
    · have := line_at (s := s) (k' :: r) (pre ++ qtL k ++ [32]) (by simp) (by rw [h']; simp)
      have e : ((pre ++ qtL k ++ [32]).length : Int) = adv pre.length (qtL k).length + 1 := by rw [adv_eq]; simp only [List.length_append, List.length_singleton]; omega
      rw [e] at this
      exact this
noncomputable abbrev spS : Str := (⟨⟨[32]⟩⟩ : Str)
theorem glued_line : ∀ ks : List Nat, ks ≠ [] → (glued spS (ks.map qt)).cps.toList = lineL ks
  | [], h => absurd rfl h
  | [k], _ => by rw [List.map_cons, List.map_nil, glued_one]; rfl
  | k :: k' :: r, _ => by
    have ih := glued_line (k' :: r) (by simp)
    rw [PySem.StrLaws.glued_eq_join] at ih ⊢
    show (qt k ++ spS ++ PySem.Str.join spS ((k' :: r).map qt)).cps.toList = _
    have e : (qt k ++ spS ++ PySem.Str.join spS ((k' :: r).map qt)).cps = (qt k).cps ++ spS.cps ++ (PySem.Str.join spS ((k' :: r).map qt)).cps := rfl
    rw [e, Array.toList_append, Array.toList_append, ih, List.append_assoc]
    rfl
theorem qt_len : ∀ k, k < 7 → 1 ≤ (qt k).length ∧ (qt k).length ≤ 10
  | 0, _ | 1, _ | 2, _ | 3, _ | 4, _ | 5, _ | 6, _ => by decide +kernel
  | k + 7, h => by omega
theorem lineL_len : ∀ ks : List Nat, ks ≠ [] → (∀ k ∈ ks, k < 7) → 1 ≤ (lineL ks).length ∧ (lineL ks).length ≤ 11 * ks.length
  | [], h, _ => absurd rfl h
  | [k], _, h => by
    have := qt_len k (h k (List.mem_cons_self ..))
    rw [len_list] at this
    show 1 ≤ (qt k).cps.toList.length ∧ (qt k).cps.toList.length ≤ 11
    omega
  | k :: k' :: r, _, h => by
    have := qt_len k (h k (List.mem_cons_self ..))
    rw [len_list] at this
    have ih := lineL_len (k' :: r) (by simp) fun x hx => h x (List.mem_cons_of_mem _ hx)
    show 1 ≤ (qtL k ++ 32 :: lineL (k' :: r)).length ∧ (qtL k ++ 32 :: lineL (k' :: r)).length ≤ _
    have : (qtL k).length = (qt k).cps.toList.length := rfl
    simp only [List.length_append, List.length_cons] at ih ⊢
    omega
theorem fold_le : ∀ (l : List Str) (a : Nat), (∀ s ∈ l, s.length ≤ 10) → l.foldl (fun a s => a + s.length + spS.length) a ≤ a + 11 * l.length
  | [], a, _ => Nat.le_refl _
  | s :: r, a, h => by
    have h1 := h s (List.mem_cons_self ..)
    have := fold_le r (a + s.length + spS.length) fun x hx => h x (List.mem_cons_of_mem _ hx)
    have e : spS.length = 1 := rfl
    rw [List.foldl_cons]
    simp only [List.length_cons]
    omega
/-! counts -/
theorem ct_len : ∀ (xs : List (Str × Tok)) (ts : List Nat), xs.length = ts.length → (flatO ctO xs ts).length = ((xs.map (·.1)).filter begS).length
  | [], [], _ => rfl
  | x :: r, t :: ts, h => by
    have ih := ct_len r ts (by simpa using h)
    show ((match begS x.1 with | true => [strV x] | false => []) ++ flatO ctO r ts).length = ((x.1 :: r.map (·.1)).filter begS).length
    cases hb : begS x.1 with
    | true => rw [List.filter_cons_of_pos hb]; simp [ih]
    | false => rw [List.filter_cons_of_neg (by rw [hb]; decide)]; simpa using ih
theorem sum_nat : ∀ (us : List Nat) (c : Int), sumI c (us.map Int.ofNat) = c + sumN us
  | [], c => by simp [sumI, sumN]
  | u :: r, c => by
    show sumI (c + (u : Int)) (r.map Int.ofNat) = c + ((u + sumN r : Nat) : Int)
    rw [sum_nat r]; omega
theorem cnt_nat (us : List Nat) : ∀ n, ((List.range n).filter fun i => goodI (rotL i (us.map Int.ofNat))).length = cntN us n
  | 0 => rfl
  | n + 1 => by
    have ih := cnt_nat us n
    have e : goodI (rotL n (us.map Int.ofNat)) = goodN 1 (us.drop n ++ us.take n) := by
      rw [← rotL_map]
      exact good_nat (rotL n us) 1
    rw [List.range_succ, List.filter_append, List.length_append, ih]
    show _ = cntN us n + (match goodN 1 (us.drop n ++ us.take n) with | true => 1 | false => 0)
    rw [← e]
    cases hg : goodI (rotL n (us.map Int.ofNat)) with
    | true => simp [hg]
    | false => simp [hg]
theorem cyc (us : List Int) (h4 : 4 ≤ us.length) (h8 : us.length ≤ 8) (hu : ∀ u ∈ us, 0 ≤ u ∧ u ≤ 2) :
    ((((List.range us.length).filter fun i => goodI (rotL i us)).length : Nat) : Int) = match decide ((us.length : Int) - sumI 0 us > 0) with | true => (us.length : Int) - sumI 0 us | false => 0 := by
  obtain ⟨vs, rfl⟩ : ∃ vs : List Nat, us = vs.map Int.ofNat := ⟨us.map Int.toNat, by
    rw [List.map_map]
    refine (List.map_id us).symm.trans (List.map_congr_left fun u h => ?_)
    have := (hu u h).1
    show u = ((u.toNat : Nat) : Int)
    omega⟩
  rw [List.length_map] at h4 h8 ⊢
  have hv : ∀ u ∈ vs, u ≤ 2 := fun u h => by
    have := (hu (Int.ofNat u) (List.mem_map.mpr ⟨u, h, rfl⟩)).2
    have e : (Int.ofNat u) = (u : Int) := rfl
    omega
  rw [cnt_nat, sum_nat]
  have hc : chkN vs = true := by
    have key : ∀ n, allW n [] = true → vs.length = n → chkN vs = true := fun n ha hl => by
      have := allW_ok n [] ha vs.reverse (by rw [List.length_reverse, hl]) fun u h => hv u (List.mem_reverse.mp h)
      rw [List.reverse_reverse, List.append_nil] at this
      exact this
    match hl : vs.length, h4, h8 with
    | 4, _, _ => exact key 4 cyc4 hl
    | 5, _, _ => exact key 5 cyc5 hl
    | 6, _, _ => exact key 6 cyc6 hl
    | 7, _, _ => exact key 7 cyc7 hl
    | 8, _, _ => exact key 8 cyc8 hl
    | n + 9, _, q => omega
    | 0, q, _ | 1, q, _ | 2, q, _ | 3, q, _ => omega
  have hc : cntN vs vs.length = vs.length - sumN vs := Nat.eq_of_beq_eq_true hc
  rw [hc]
  by_cases q : (vs.length : Int) - (0 + (sumN vs : Int)) > 0
  · rw [decide_eq_true q]
    show _ = (vs.length : Int) - (0 + (sumN vs : Int))
    omega
  · rw [decide_eq_false q]
    show _ = (0 : Int)
    omega
end Mine
end

section
set_option maxRecDepth 100000
set_option linter.unusedVariables false
namespace Mine
open PySem PySem.Spec PySem.Calls PyProof.Rows PySem.W PySem.W.X
open PySem.Builtin PySem.Builtin.Str PySem.Builtin.Int
noncomputable def drI (l : List Int) : List Int := l.take 8 ++ ([9, 100, 4098, 4170] : List Int).drop l.length
theorem drI_len (l : List Int) : 4 ≤ (drI l).length ∧ (drI l).length ≤ 8 := by
  unfold drI
  rw [List.length_append, List.length_take, List.length_drop]
  show 4 ≤ min 8 l.length + (4 - l.length) ∧ min 8 l.length + (4 - l.length) ≤ 8
  omega
noncomputable def nsOf (l : List Int) : List Int := (drI l).map fun x => mvI x
noncomputable def nmOf (l : List Int) : List Str := (drI l).map fun x => nm (wh x).toNat
noncomputable def ksOf (l : List Int) : List Nat := (nmOf l).map kOf
theorem wh8 (x : Int) : (wh x).toNat < 8 := by have := wh_lt x; omega
theorem nmOf_mem {l : List Int} {c : Str} (h : c ∈ nmOf l) : ∃ k, k < 8 ∧ c = nm k := by
  obtain ⟨x, _, rfl⟩ := List.mem_map.mp h
  exact ⟨_, wh8 x, rfl⟩
theorem ks_nm (l : List Int) : (ksOf l).map nm = nmOf l := by
  unfold ksOf
  rw [List.map_map]
  refine (List.map_congr_left fun c hc => ?_).trans (List.map_id _)
  obtain ⟨k, h, rfl⟩ := nmOf_mem hc
  exact (kOf_nm k h).1
theorem ks_lt (l : List Int) : ∀ k ∈ ksOf l, k < 7 := by
  intro k hk
  obtain ⟨c, hc, rfl⟩ := List.mem_map.mp hk
  obtain ⟨j, h, rfl⟩ := nmOf_mem hc
  exact (kOf_nm j h).2.1
theorem nm_name : ∀ k, k < 8 → NameOk (nm k)
  | 0, _ | 1, _ | 2, _ | 3, _ | 4, _ | 5, _ | 6, _ | 7, _ => by unfold NameOk NoSl; decide +kernel
  | k + 8, h => by omega
theorem nm_short : ∀ k, k < 8 → (nm k).length ≤ 4
  | 0, _ | 1, _ | 2, _ | 3, _ | 4, _ | 5, _ | 6, _ | 7, _ => by decide +kernel
  | k + 8, h => by omega
theorem word_str : ∀ (ks ts : List Nat), ks.length = ts.length → ∃ ws : List (Str × Tok), wordV ks ts = ws.map strV ∧ ws.map (·.1) = ks.map nm
  | [], [], _ => ⟨[], rfl, rfl⟩
  | k :: r, t :: ts, h => by
    obtain ⟨ws, e1, e2⟩ := word_str r ts (by simpa using h)
    exact ⟨(nm k, t) :: ws, by show Value.str (nm k) t :: wordV r ts = _; rw [e1]; rfl, by show nm k :: ws.map (·.1) = _; rw [e2]; rfl⟩
theorem glued_short : ∀ (ps : List Str), (∀ p ∈ ps, p.length ≤ 4) → (glued sl ps).length ≤ 5 * ps.length
  | [], _ => Nat.zero_le _
  | [p], h => by
    have := h p (List.mem_cons_self ..)
    rw [glued_one]; simp only [List.length_singleton]; omega
  | p :: q :: r, h => by
    have h1 := h p (List.mem_cons_self ..)
    have h2 := glued_short (q :: r) fun x hx => h x (List.mem_cons_of_mem _ hx)
    rw [len_list] at h1 h2 ⊢
    rw [glued_two]
    simp only [List.length_append, List.length_cons] at h2 ⊢
    omega
theorem round_short {cs : List Str} {ns : List Int} (hl : cs.length = ns.length) (h8 : ns.length ≤ 8) (hn : ∀ n ∈ ns, 0 ≤ n) (hc : ∀ c ∈ cs, c.length ≤ 4) : (roundTxt cs ns).length ≤ 1000000 := by
  unfold roundTxt
  have h1 := nRun_mem (hereS :: rdT cs ns) []
  have h2 := nRun_len (hereS :: rdT cs ns) []
  have h3 := (rdT_len cs ns hn hl).2
  have := glued_short (nRun [] (hereS :: rdT cs ns)) fun p hp => by
    rcases h1 p hp with h | h
    · exact nomatch h
    · rcases List.mem_cons.mp h with rfl | h
      · decide
      · rcases rdT_mem cs ns p h with rfl | h
        · decide
        · exact hc p h
  simp only [List.length_cons, List.length_nil] at h2
  omega
theorem rotL_zero {α : Type} (l : List α) : rotL 0 l = l := by unfold rotL; simp
theorem arr_of {a : Array Value} {l : List Value} (h : a.toList = l) : a = ⟨l⟩ := by cases a; exact congrArg _ h
theorem unA_of {a : Array Value} {l : List (Str × Tok)} (h : a.toList = l.map strV) : unA a = l := by unfold unA; rw [h, unV_map]
theorem unIs_of {a : Array Value} {l : List (Int × Nat)} (h : a.toList = l.map intV) : unIs a = l := by unfold unIs; rw [h, unI_map]
theorem size_of {α : Type} {a : Array Value} {l : List α} {g : α → Value} (h : a.toList = l.map g) : a.size = l.length := by rw [← Array.length_toList, h, List.length_map]
theorem ne_of4 {α : Type} {l : List α} {m : Nat} (e : l.length = m) (h : 4 ≤ m) : l ≠ [] := fun q => by
  rw [q] at e
  rw [← e] at h
  exact absurd h (by rw [List.length_nil]; decide)
theorem le_of8 {n m : Nat} (B : Nat) (e : n = m) (h : m ≤ 8) (hB : 8 ≤ B) : n ≤ B := by rw [e]; exact Nat.le_trans h hB
theorem lt62 {n B : Nat} (h : n ≤ B) (hB : B < 2 ^ 62) : n < 2 ^ 62 := Nat.lt_of_le_of_lt h hB
theorem lwP_ok {its : Array Value} {xs0 : List (Int × Nat)} (hits : its.toList = xs0.map intV) (h63 : xs0.length ≤ 63) (f : Nat → Nat) : Alls (lwP its (nsOf (xs0.map (·.1))) (ksOf (xs0.map (·.1))) f) := by
  generalize hints : xs0.map (·.1) = il
  have dl := drI_len il
  have hisz : its.size = xs0.length := size_of hits
  have sz : sizeLine = 16777216 := by decide
  have el : il.length = xs0.length := by rw [← hints, List.length_map]
  -- drawn
  have s1 : slicePick its (partOf .none) (partOf (.int 8 (f 3))) none = (its.toList.take 8).toArray := slicePick_upto' its 8
  have s2 : slicePick (lwX f) (partOf (.int its.size (f 11))) (partOf .none) none = ((lwX f).toList.drop its.size).toArray := slicePick_from' (lwX f) its.size
  obtain ⟨xs, hD, hX⟩ : ∃ xs : List (Int × Nat), (lwD its f).toList = xs.map intV ∧ xs.map (·.1) = drI il := by
    refine ⟨xs0.take 8 ++ ([(9, f 6), (100, f 7), (4098, f 8), (4170, f 9)] : List (Int × Nat)).drop xs0.length, ?_, ?_⟩
    · unfold lwD
      rw [s1, s2, Array.toList_append, hits, hisz, List.map_append, List.map_take, List.map_drop]
      rfl
    · unfold drI
      rw [List.map_append, List.map_take, List.map_drop, hints, el]
      rfl
  have uD := unIs_of hD
  have lx : xs.length = (drI il).length := by rw [← hX, List.length_map]
  have nD := size_of hD
  have hne : xs ≠ [] := ne_of4 lx dl.1
  have iD : IntsP (lwD its f) := ⟨xs, hD, hne, le_of8 300 lx dl.2 (by decide)⟩
  -- ups
  obtain ⟨us, hU, hU1⟩ : ∃ us : List (Int × Nat), (lwU its f).toList = us.map intV ∧ us.map (·.1) = (nsOf il).map upsI := by
    obtain ⟨ys, a, b⟩ := flat_int (fun x : Int × Nat => upsI (mvI x.1)) xs (decK xs.length (f 19)) (by rw [decK_len])
    refine ⟨ys, ?_, ?_⟩
    · unfold lwU; rw [uD]; exact a
    · rw [b]; unfold nsOf; rw [← hX, List.map_map, List.map_map]; rfl
  have uU := unIs_of hU
  have ln : (nsOf il).length = (drI il).length := by unfold nsOf; rw [List.length_map]
  have lu : us.length = (drI il).length := by rw [← List.length_map (f := (·.1)) (as := us), hU1, List.length_map, ln]
  have nne : nsOf il ≠ [] := ne_of4 ln dl.1
  have hns : ∀ n ∈ nsOf il, 0 ≤ n ∧ n < 262144 := fun n hn => by
    obtain ⟨x, _, rfl⟩ := List.mem_map.mp hn
    exact mv_ok x
  have hub : ∀ u ∈ (nsOf il).map upsI, 0 ≤ u ∧ u ≤ 2 := fun u h => by
    obtain ⟨n, hn, rfl⟩ := List.mem_map.mp h
    exact ups_small (hns n hn).1
  have hus : ∀ u ∈ us, 0 ≤ u.1 ∧ u.1 ≤ 2 := fun u h => hub u.1 (by rw [← hU1]; exact List.mem_map.mpr ⟨u, h, rfl⟩)
  -- names
  obtain ⟨cs, hN, hN1⟩ : ∃ cs : List (Str × Tok), (lwN its f).toList = cs.map strV ∧ cs.map (·.1) = nmOf il := by
    obtain ⟨ys, a, b⟩ := flat_str (fun x : Int × Nat => nm (wh x.1).toNat) xs (decK xs.length (f 25)) (by rw [decK_len])
    refine ⟨ys, ?_, ?_⟩
    · unfold lwN; rw [uD]; exact a
    · rw [b]; unfold nmOf; rw [← hX, List.map_map]; rfl
  have uN := unA_of hN
  have lm : (nmOf il).length = (drI il).length := by unfold nmOf; rw [List.length_map]
  have lc : cs.length = (drI il).length := by rw [← List.length_map (f := (·.1)) (as := cs), hN1, lm]
  have hcs : ∀ c ∈ cs, ∃ k, k < 8 ∧ c.1 = nm k := fun c h => nmOf_mem (by rw [← hN1]; exact List.mem_map.mpr ⟨c, h, rfl⟩)
  -- quotes, line
  obtain ⟨qs, hQ, hQ1⟩ : ∃ qs : List (Str × Tok), (lwQ its f).toList = qs.map strV ∧ qs.map (·.1) = (ksOf il).map qt := by
    obtain ⟨ys, a, b⟩ := flat_str (fun x : Str × Tok => qtS x.1) cs (decK cs.length (f 32)) (by rw [decK_len])
    refine ⟨ys, ?_, ?_⟩
    · unfold lwQ; rw [uN]; exact a
    · rw [b]; unfold ksOf; rw [← hN1, List.map_map, List.map_map]; rfl
  have lk : (ksOf il).length = (drI il).length := by unfold ksOf; rw [List.length_map, lm]
  have kne : ksOf il ≠ [] := ne_of4 lk dl.1
  have hL : lwL its f = glued spS ((ksOf il).map qt) := by
    unfold lwL
    rw [hQ, List.map_map, ← hQ1]
    rfl
  have gl := glued_line (ksOf il) kne
  have ll := lineL_len (ksOf il) kne (ks_lt il)
  have hLl : (lwL its f).length = (lineL (ksOf il)).length := by rw [hL, len_list, gl]
  have lat : LineAt (lwL its f) 0 (ksOf il) := line_at (ksOf il) [] kne (by rw [hL, gl]; rfl)
  -- words
  obtain ⟨ws, hW, hW1⟩ : ∃ ws : List (Str × Tok), (lwW (ksOf il) f).toList = ws.map strV ∧ ws.map (·.1) = nmOf il := by
    obtain ⟨ys, a, b⟩ := word_str (ksOf il) (decK (ksOf il).length (f 36)) (by rw [decK_len])
    exact ⟨ys, a, by rw [b, ks_nm]⟩
  have uW := unA_of hW
  have lw : ws.length = (drI il).length := by rw [← List.length_map (f := (·.1)) (as := ws), hW1, lm]
  have hws : ∀ c ∈ ws, NameOk c.1 := fun c h => by
    obtain ⟨k, hk, e⟩ := nmOf_mem (l := il) (c := c.1) (by rw [← hW1]; exact List.mem_map.mpr ⟨c, h, rfl⟩)
    rw [e]; exact nm_name k hk
  -- octets, cuts
  obtain ⟨os, hO, hO1⟩ : ∃ os : List (Int × Nat), (lwO its f).toList = os.map intV ∧ os.map (·.1) = (nsOf il).flatMap octL := by
    obtain ⟨ys, a, b⟩ := flat_oct xs (decK xs.length (f 42)) (by rw [decK_len])
    refine ⟨ys, ?_, ?_⟩
    · unfold lwO; rw [uD]; exact a
    · rw [b]; unfold nsOf; rw [← hX, List.map_map]; rfl
  have uO := unIs_of hO
  have nO := size_of hO
  have lo : os.length = ((nsOf il).flatMap octL).length := by rw [← hO1, List.length_map]
  have lo2 := flat_len (nsOf il)
  have lo8 : os.length ≤ 24 := by rw [lo]; exact Nat.le_trans lo2 (by rw [ln]; exact Nat.mul_le_mul_left 3 dl.2)
  have one : os ≠ [] := fun e => by
    have : (nsOf il).flatMap octL = [] := by rw [← hO1, e]; rfl
    cases hq : nsOf il with
    | nil => exact absurd hq nne
    | cons n r =>
      rw [hq, List.flatMap_cons] at this
      have := (List.append_eq_nil_iff.mp this).1
      have h1 := (octL_len n).1
      rw [this] at h1; simp at h1
  have iO : IntsP (lwO its f) := ⟨os, hO, one, Nat.le_trans lo8 (by decide)⟩
  obtain ⟨cu, hC, hC1⟩ : ∃ cu : List (Int × Nat), (lwC its f).toList = cu.map intV ∧ cu.map (·.1) = (List.range (nsOf il).length).map (fun i => (startN (nsOf il) i : Int)) := by
    obtain ⟨ys, a, b⟩ := flat_pos os 0 (decK os.length (f 53)) (by rw [decK_len])
    refine ⟨ys, ?_, ?_⟩
    · unfold lwC kcL; rw [uO]; exact a
    · rw [b, hO1, pos_starts _ _ hns]
      refine List.map_congr_left fun i _ => ?_
      rw [Nat.zero_add]
  have nC := size_of hC
  have lcu : cu.length = (drI il).length := by rw [← List.length_map (f := (·.1)) (as := cu), hC1, List.length_map, List.length_range, ln]
  -- rounds
  obtain ⟨rs, hR, hR1⟩ : ∃ rs : List (Str × Tok), (lwR (nsOf il) (ksOf il) f).toList = rs.map strV ∧ rs.map (·.1) = (List.range (nsOf il).length).map (fun i => roundTxt (rotL i (nmOf il)) (rotL i (nsOf il))) := by
    obtain ⟨ys, a, b⟩ := flat_str (fun i : Nat => roundTxt (rotL i (nmOf il)) (rotL i (nsOf il))) (List.range (nsOf il).length) (decK (nsOf il).length (f 64)) (by rw [decK_len, List.length_range])
    refine ⟨ys, ?_, b⟩
    unfold lwR rdL
    rw [uW, hW1]
    exact a
  have uR := unA_of hR
  have nR := size_of hR
  have lr : rs.length = (drI il).length := by rw [← List.length_map (f := (·.1)) (as := rs), hR1, List.length_map, List.length_range, ln]
  have tx : ∀ i, roundTxt (rotL i (nmOf il)) (rotL i (nsOf il)) = placeT (rotL i (nmOf il)) (rotL i ((nsOf il).map upsI)) := fun i => by
    unfold roundTxt placeT
    rw [round_place _ _ (by rw [rotL_len, rotL_len, lm, ln]) (fun n h => (hns n (rotL_mem h)).1) (fun c h => by obtain ⟨k, hk, e⟩ := nmOf_mem (rotL_mem h); rw [e]; exact (nm_name k hk).2.2.2), rotL_map]
  have hrs : ∀ c ∈ rs, c.1.length ≤ 1000000 := fun c h => by
    have : c.1 ∈ (List.range (nsOf il).length).map (fun i => roundTxt (rotL i (nmOf il)) (rotL i (nsOf il))) := by rw [← hR1]; exact List.mem_map.mpr ⟨c, h, rfl⟩
    obtain ⟨i, _, e⟩ := List.mem_map.mp this
    rw [← e]
    exact round_short (by rw [rotL_len, rotL_len, lm, ln]) (by rw [rotL_len, ln]; exact dl.2) (fun n h => (hns n (rotL_mem h)).1) (fun c h => by obtain ⟨k, hk, e⟩ := nmOf_mem (rotL_mem h); rw [e]; exact nm_short k hk)
  have rne : rs ≠ [] := ne_of4 lr dl.1
  -- the first round
  obtain ⟨r0, hr0, er0⟩ : ∃ r0 : Str × Tok, (lwR (nsOf il) (ksOf il) f).getD (0 : Int).toNat .none = strV r0 ∧ r0.1 = roundTxt (nmOf il) (nsOf il) := by
    cases hrs' : rs with
    | nil => exact absurd hrs' rne
    | cons r0 rest =>
      refine ⟨r0, ?_, ?_⟩
      · rw [arr_of hR, hrs']; rfl
      · rw [hrs'] at hR1
        cases hq : (nsOf il).length with
        | zero => exact absurd (List.eq_nil_of_length_eq_zero hq) nne
        | succ n =>
          rw [hq, List.range_succ_eq_map] at hR1
          have : r0.1 = roundTxt (rotL 0 (nmOf il)) (rotL 0 (nsOf il)) := (List.cons.inj hR1).1
          rw [rotL_zero, rotL_zero] at this
          exact this
  -- told
  have nT : (lwT (nsOf il) (ksOf il) f).size = ((List.range ((nsOf il).map upsI).length).filter fun i => goodI (rotL i ((nsOf il).map upsI))).length := by
    have : (lwT (nsOf il) (ksOf il) f).size = (flatO ctO (unA (lwR (nsOf il) (ksOf il) f)) (decK (unA (lwR (nsOf il) (ksOf il) f)).length (f 73))).length := rfl
    rw [this, uR, ct_len _ _ (by rw [decK_len]), hR1, List.filter_map, List.length_map, List.length_map]
    refine congrArg List.length (List.filter_congr fun i _ => ?_)
    show begS (roundTxt (rotL i (nmOf il)) (rotL i (nsOf il))) = _
    rw [tx i]
    exact beg_place _ _ (by rw [rotL_len, rotL_len, List.length_map, lm, ln]) (ne_of4 ((rotL_len ..).trans ((List.length_map _).trans ln)) dl.1) fun c h => nmOf_mem (rotL_mem h)
  have cy := cyc ((nsOf il).map upsI) (by rw [List.length_map, ln]; exact dl.1) (by rw [List.length_map, ln]; exact dl.2) hub
  have nT8 : (lwT (nsOf il) (ksOf il) f).size ≤ 8 := by
    rw [nT]
    have := List.length_filter_le (fun i => goodI (rotL i ((nsOf il).map upsI))) (List.range ((nsOf il).map upsI).length)
    exact Nat.le_trans this (by rw [List.length_range, List.length_map, ln]; exact dl.2)
  have bu : us.length ≤ 20 := le_of8 20 lu dl.2 (by decide)
  have bR : (lwR (nsOf il) (ksOf il) f).size ≤ 8 := le_of8 8 (nR.trans lr) dl.2 (by decide)
  have bC : (lwC its f).size ≤ 8 := le_of8 8 (nC.trans lcu) dl.2 (by decide)
  have bO : (lwO its f).size ≤ 24 := by rw [nO]; exact lo8
  have bL : (lwL its f).length ≤ 88 := by rw [hLl]; exact Nat.le_trans ll.2 (by rw [lk]; exact Nat.mul_le_mul_left 11 dl.2)
  have bi : its.size ≤ 63 := by rw [hisz]; exact h63
  refine ⟨?_, ⟨us, hU, fun u h => ⟨(hus u h).1, Int.le_trans (hus u h).2 (by decide)⟩, Nat.le_trans bu (by decide)⟩, trivial, lt62 (le_of8 8 (nD.trans lx) dl.2 (by decide)) (by decide), trivial, lt62 nT8 (by decide), ⟨rs, hR, rne, le_of8 300 lr dl.2 (by decide), hrs⟩, trivial, ?_,
    ⟨us, cs, hU, hN, lc.trans lu.symm, ne_of4 lu dl.1, bu, hus, fun c h => by obtain ⟨k, hk, e⟩ := hcs c h; rw [e]; exact Nat.le_trans (nm_short k hk) (by decide)⟩,
    Int.le_refl _, by rw [nR, lr]; exact Int.ofNat_lt.mpr (Nat.lt_of_lt_of_le (by decide) dl.1), Nat.le_trans bR (by decide), ?_,
    ⟨os, cu, ws, hO, hO1, hC, hC1, hW, lw.trans ln.symm, hws, nne, le_of8 8 ln dl.2 (by decide), hns⟩,
    Int.natCast_nonneg _, Int.ofNat_le.mpr (Nat.le_trans bC (by decide)), trivial, lt62 bC (by decide), iO, Int.natCast_nonneg _, Int.ofNat_le.mpr (Nat.le_trans bO (by decide)), trivial, lt62 bO (by decide), iD,
    ⟨lat, le_of8 8 lk dl.2 (by decide), ks_lt il, by rw [hLl]; exact Nat.ne_of_gt ll.1, Nat.le_trans bL (by decide)⟩, ⟨qs, hQ, ?_, ?_⟩, ⟨cs, hN, ne_of4 lc dl.1, le_of8 300 lc dl.2 (by decide), hcs⟩, iD, iD, ?_,
    (show (4 : Nat) ≤ 1000 by decide), .int _ _, .none, trivial, lt62 bi (by decide), Nat.le_trans bi (by decide), .none, .int _ _, trivial⟩
  · rw [nD, uU, hU1, nT, cy, lx, List.length_map, ln]
    exact beq_self_eq_true _
  · rw [hr0, uN, hN1, uU, hU1]
    have e := tx 0
    rw [rotL_zero, rotL_zero, rotL_zero] at e
    have e3 : (unV (strV r0)).1 = r0.1 := rfl
    rw [e3, er0, e]
    exact bne_self_eq_false _
  · rw [hr0]; rfl
  · have hq : ∀ s ∈ qs.map (·.1), s.length ≤ 10 := fun s h => by
      rw [hQ1] at h
      obtain ⟨k, hk, rfl⟩ := List.mem_map.mp h
      exact (qt_len k (ks_lt il k hk)).2
    have := fold_le (qs.map (·.1)) 0 hq
    have e : (qs.map (·.1)).length = (drI il).length := by rw [hQ1, List.length_map, lk]
    unfold tooLong
    rw [List.foldl_toArray']
    · refine decide_eq_false (Nat.not_lt.mpr (Nat.le_trans this ?_))
      rw [e, Nat.zero_add]
      exact Nat.le_trans (Nat.mul_le_mul_left 11 dl.2) (by rw [sz]; decide)
    · rfl
  · rw [hQ1, ← hL, sz]; exact Nat.le_trans bL (by decide)
  · rw [s1, s2]
    have e : (lwX f).toList.length = 4 := rfl
    rw [List.size_toArray, List.size_toArray, List.length_take, List.length_drop, e, sz]
    exact Nat.le_trans (Nat.add_le_add (Nat.min_le_left ..) (Nat.sub_le ..)) (by decide)
end Mine
end

section
set_option maxRecDepth 100000
set_option linter.unusedVariables false
namespace Mine
open PySem PySem.Spec PySem.Calls PyProof.Rows PySem.W PySem.W.X

abbrev StepTy := (Code → Sem Fin) → Program → World → SharedT → Thread → Option (SharedT × Thread)
noncomputable def impEndsG (st : StepTy) (ae : Thread → Option (List Value)) (den : Code → Sem Fin) (p : Program) (w : World) (n : Nat) : SharedT → Thread → Option SharedT :=
  Nat.rec (motive := fun _ => SharedT → Thread → Option SharedT) (fun _ _ => none) (fun _ ih s t => match ae t with
    | some l => match l with
      | [] => some s
      | _ :: _ => none
    | none => match st den p w s t with
      | some r => ih r.1 r.2
      | none => none) n
noncomputable def topRunG (st : StepTy) (ok : Nat → Option Value → Thread → Bool) (den : Code → Sem Fin) (p : Program) (w : World) (n₀ : Nat) (ann : Option Value) (n : Nat) : SharedT → Thread → Option SharedT :=
  Nat.rec (motive := fun _ => SharedT → Thread → Option SharedT) (fun _ _ => none) (fun _ ih s t => match through t with
    | true => some s
    | false => match ok n₀ ann t with
      | false => none
      | true => match st den p w s t with
        | some r => ih r.1 r.2
        | none => none) n
theorem impEndsG_of {tb : String → Option Builtin} {p : Program} {w : World} : ∀ (n : Nat) {s s' : SharedT} {t : Thread}, impEndsG stepT Thread.atExitBegin (denote tb) p w n s t = some s' → importEnds tb p w n s.abs t = some s'.abs
  | 0, _, _, _, h => by cases h
  | n + 1, s, s', t, h => by
    have h' : (match Thread.atExitBegin t with
      | some l => (match l with
        | [] => some s
        | _ :: _ => none)
      | none => match stepT (denote tb) p w s t with
        | some r => impEndsG stepT Thread.atExitBegin (denote tb) p w n r.1 r.2
        | none => none) = some s' := h
    unfold importEnds
    cases he : t.atExitBegin with
    | some l =>
      rw [he] at h'
      cases l with
      | nil => cases h'; rfl
      | cons => cases h'
    | none =>
      rw [he] at h'
      dsimp only at h' ⊢
      cases hs : stepT (denote tb) p w s t with
      | none => rw [hs] at h'; cases h'
      | some r => rw [hs] at h'; rw [stepT_spec hs]; exact impEndsG_of n h'
theorem topRunG_of {tb : String → Option Builtin} {p : Program} {w : World} {n₀ : Nat} {ann : Option Value} : ∀ (n : Nat) {s s' : SharedT} {t : Thread}, topRunG stepT stepOk (denote tb) p w n₀ ann n s t = some s' → topRun tb p w n₀ ann n s.abs t = some s'.abs
  | 0, _, _, _, h => by cases h
  | n + 1, s, s', t, h => by
    have h' : (match through t with
      | true => some s
      | false => match stepOk n₀ ann t with
        | false => none
        | true => match stepT (denote tb) p w s t with
          | some r => topRunG stepT stepOk (denote tb) p w n₀ ann n r.1 r.2
          | none => none) = some s' := h
    unfold topRun
    cases he : through t with
    | true => rw [he] at h'; cases h'; rfl
    | false =>
      rw [he] at h'
      dsimp only at h' ⊢
      cases hk : stepOk n₀ ann t with
      | false => rw [hk] at h'; cases h'
      | true =>
        rw [hk] at h'
        dsimp only at h' ⊢
        cases hs : stepT (denote tb) p w s t with
        | none => rw [hs] at h'; cases h'
        | some r => rw [hs] at h'; rw [stepT_spec hs]; exact topRunG_of n h'

noncomputable def toBT : List Obj → BT → Nat → Option BT
  | [], t, _ => some t
  | o :: r, t, n => match ((t.ins n o).get n).isSome with
    | true => toBT r (t.ins n o) (n + 1)
    | false => none
noncomputable def toT (s : Shared) : Option SharedT := match toBT s.heap.objs.toList .nil 0 with
  | some t => some ⟨t, s.heap.objs.size, s.heap.life, s.gens, s.drawn, s.toks, s.os⟩
  | none => none
theorem toBT_get : ∀ {l : List Obj} {t t' : BT} {n : Nat}, toBT l t n = some t' → (∀ i, i < n → t'.get i = t.get i) ∧ ∀ (j : Nat) (o : Obj), l[j]? = some o → t'.get (n + j) = some o
  | [], t, t', n, h => by
    cases h
    exact ⟨fun _ _ => rfl, fun _ _ e => by simp at e⟩
  | o :: r, t, t', n, h => by
    unfold toBT at h
    cases hk : ((t.ins n o).get n).isSome with
    | false => rw [hk] at h; cases h
    | true =>
      rw [hk] at h
      obtain ⟨a, b⟩ := toBT_get h
      refine ⟨fun i hi => ?_, fun j o' e => ?_⟩
      · rw [a i (by omega), BT.get_ins o t n hk, if_neg (by omega)]
      · cases j with
        | zero =>
          have : o = o' := by simpa using e
          subst this
          rw [Nat.add_zero, a n (by omega), BT.get_ins o t n hk, if_pos rfl]
        | succ j =>
          have e' : r[j]? = some o' := by simpa using e
          have := b j o' e'
          rwa [show n + 1 + j = n + (j + 1) by omega] at this
theorem toT_abs {s : Shared} {sT : SharedT} (h : toT s = some sT) : sT.abs = s := by
  unfold toT at h
  cases hb : toBT s.heap.objs.toList .nil 0 with
  | none => rw [hb] at h; cases h
  | some t =>
    rw [hb] at h
    cases h
    have q := (toBT_get hb).2
    have : absHeap t s.heap.objs.size s.heap.life = s.heap := by
      revert q
      generalize s.heap = H
      intro q
      obtain ⟨objs, life⟩ := H
      show Heap.mk _ _ = Heap.mk _ _
      congr 1
      apply Array.ext_getElem?
      intro i
      have z := absHeap_at t objs.size life i
      unfold absHeap at z
      rw [z]
      by_cases hi : i < objs.size
      · rw [if_pos hi]
        have e : objs.toList[i]? = some objs[i] := by simp [hi]
        have := q i _ e
        rw [Nat.zero_add] at this
        rw [this]
        simp [hi]
      · rw [if_neg hi]
        simp [hi]
    show Shared.mk _ _ _ _ _ = s
    rw [this]

noncomputable abbrev stT : StepTy := PySem.W.Fast.tw10156331382660048174
noncomputable abbrev okT := PySem.W.Fast.tw6613529449190102663
noncomputable abbrev aeT := PySem.W.Fast.tw3805553451399329143
noncomputable def S00 (os : OsState) : SharedT := ⟨.nil, 0, {}, #[], {}, 1, os⟩
noncomputable def T00 : Thread := ⟨PySem.W.Fast.tw2477092760451715423 (opening pwT), .builtin "boot" {}, default, []⟩
noncomputable def fencedT (w : World) (os : OsState) : Option SharedT := match impEndsG stT aeT denT (opening pwT) w 1100 (S00 os) T00 with
  | some s => match PySem.W.Fast.tw14289696077712309145 pwT s.abs with
    | some s' => toT s'
    | none => none
  | none => none
noncomputable def kAs4 : List Nat := 4 :: kAs
noncomputable def headPipe (w : World) (os : OsState) : Option (Nat × Option Obj × Option Obj × Nat × Nat × List (Option Obj) × Nat × Bool) := match fencedT w os with
  | some s => match topRunG stT okT denT pwT w 34 (some (.ref 6)) 6000 s (topStub pwT) with
    | some s' => some (s.n, s.tree.get 2, s.tree.get 3, s.gens.size, s'.n, kAs.map s'.tree.get, s'.gens.size, Nat.ble 1 s'.toks)
    | none => none
  | none => none
theorem head_pipe (w : World) (os : OsState) : headPipe w os = some (34, some (i2 w.params), some (i3 w.params), 0, 892, (kFrag w.params).map (fun p => some p.2), 0, true) := by
  kernel_rfl
end Mine
end

section
set_option maxRecDepth 100000
set_option linter.unusedVariables false
namespace Mine
open PySem PySem.Spec PySem.Calls PyProof.Rows PySem.W PySem.W.X

abbrev pw : Program := PySem.Challenge.pw_pd0201_01
theorem pwT_eq' : pwT = pw := pwT_eq
theorem stT_eq : stT = stepT := PySem.W.Fast.te10156331382660048174.symm
theorem okT_eq : okT = stepOk := PySem.W.Fast.te6613529449190102663.symm
theorem aeT_eq : aeT = Thread.atExitBegin := PySem.W.Fast.te3805553451399329143.symm
theorem denT_eq' : denT = denote treeTable := by rw [denT_eq, table_eq_tree]

/-- what the top leaves, for every world -/
structure TopLeft (w : World) (s s₀ s₁ : Shared) : Prop where
  imp : importEnds treeTable (opening pw) w 1100 (start (opening pw)).1 (start (opening pw)).2 = some s
  fence : fenceModules? pw s = some s₀
  run : topRun treeTable pw w 34 (some (.ref 6)) 6000 s₀ (topStub pw) = some s₁
  size₀ : s₀.heap.objs.size = 34
  o2 : s₀.heap.get? 2 = some (i2 w.params)
  o3 : s₀.heap.get? 3 = some (i3 w.params)
  gens₀ : s₀.gens = #[]
  size₁ : s₁.heap.objs.size = 892
  frag : AllIn' s₁.heap (kFrag w.params)
  gens₁ : s₁.gens = #[]
  toks₁ : 1 ≤ s₁.toks
theorem abs_at {t : SharedT} {a : Nat} {o : Obj} (h : a < t.n) (g : t.tree.get a = some o) (al : alive o = some o) : t.abs.heap.get? a = some o := (abs_get h g).trans al
theorem frag_alive (P : Params) : (kFrag P).map (fun p => alive p.2) = (kFrag P).map (fun p => some p.2) := by kernel_rfl
theorem frag_low : ∀ (P : Params), (kFrag P).all (fun p => Nat.blt p.1 892) = true := fun P => by kernel_rfl
theorem frag_as : ∀ (P : Params), kAs = (kFrag P).map (·.1) := fun P => by kernel_rfl

theorem top_left (w : World) : ∃ s s₀ s₁, TopLeft w s s₀ s₁ := by
  have h := head_pipe w (start (opening pw)).1.os
  unfold headPipe fencedT at h
  rw [stT_eq, aeT_eq, okT_eq, denT_eq', pwT_eq'] at h
  cases h1 : impEndsG stepT Thread.atExitBegin (denote treeTable) (opening pw) w 1100 (S00 (start (opening pw)).1.os) T00 with
  | none => rw [h1] at h; cases h
  | some sT =>
    rw [h1] at h
    dsimp only at h
    rw [← show @fenceModules? = PySem.W.Fast.tw14289696077712309145 from PySem.W.Fast.te14289696077712309145] at h
    cases h2 : fenceModules? pw sT.abs with
    | none => rw [h2] at h; cases h
    | some s₀ =>
      rw [h2] at h
      dsimp only at h
      cases h3 : toT s₀ with
      | none => rw [h3] at h; cases h
      | some s₀T =>
        rw [h3] at h
        dsimp only at h
        cases h4 : topRunG stepT stepOk (denote treeTable) pw w 34 (some (.ref 6)) 6000 s₀T (topStub pw) with
        | none => rw [h4] at h; cases h
        | some s₁T =>
          rw [h4] at h
          have h := Option.some.inj h
          simp only [Prod.mk.injEq] at h
          obtain ⟨a1, a2, a3, a4, a5, a6, a7, a8⟩ := h
          have e0 := toT_abs h3
          have i := impEndsG_of _ h1
          have r := topRunG_of _ h4
          rw [e0] at r
          have t0 : T00 = (start (opening pw)).2 := by
            unfold T00
            rw [pwT_eq', ← PySem.W.Fast.te2477092760451715423]
            rfl
          rw [t0] at i
          refine ⟨sT.abs, s₀, s₁T.abs, ⟨i, h2, r, ?_, ?_, ?_, ?_, ?_, ?_, ?_, ?_⟩⟩
          · rw [← e0, ← a1]; exact absHeap_size _ _ _
          · rw [← e0]; exact abs_at (by rw [a1]; decide) a2 rfl
          · rw [← e0]; exact abs_at (by rw [a1]; decide) a3 rfl
          · rw [← e0]; exact Array.eq_empty_of_size_eq_zero a4
          · rw [← a5]; exact absHeap_size _ _ _
          · intro p hp
            have hg : s₁T.tree.get p.1 = some p.2 := by
              rw [frag_as w.params, List.map_map] at a6
              have := List.map_inj_left.mp a6 p hp
              exact this
            have ha : alive p.2 = some p.2 := List.map_inj_left.mp (frag_alive w.params) p hp
            have hl := Nat.le_of_ble_eq_true (List.all_eq_true.mp (frag_low w.params) p hp)
            exact abs_at (by rw [a5]; exact hl) hg ha
          · exact Array.eq_empty_of_size_eq_zero a7
          · exact Nat.le_of_ble_eq_true a8
end Mine
end

section
set_option maxRecDepth 100000
set_option linter.unusedVariables false
namespace Mine
open PySem PySem.Spec PySem.Calls PyProof.Rows PySem.W PySem.W.X

abbrev rwO : OpenLaw := PySem.Challenge.rw_pd0201_01
abbrev CallTy : Prop := ∀ (w : World) (hT : Heap) (s : Shared) (ns : List Int) (vs : List Value), TopK w hT → (∀ b o, hT.get? b = some o → s.heap.get? b = some o) → s.heap.get? 892 = some { cls := .type "list", data := .seq vs.toArray } → 0 < s.toks → IntsAre vs ns →
  ns.length ≤ 63 → s.gens = #[] →
  wpAny (model pw w) callerA (call (.ref 891) [.ref 892]) (fun v s' => v = .bool true ∧ (∀ b o, s.heap.get? b = some o → s'.heap.get? b = some o) ∧ s'.os = s.os ∧ s'.gens = #[]) (fun _ _ => False) s
theorem mods_eq (w : World) (h₀ h₁ : Heap) (e2 : h₀.get? 2 = some (i2 w.params)) (e3 : h₀.get? 3 = some (i3 w.params)) (f2 : h₁.get? 2 = some (k2 w.params)) (f3 : h₁.get? 3 = some (k3 w.params)) :
    (staticsOk (importedModules pw.main.body) h₀ h₁ && namesBound pw h₁ && laidKept h₀ h₁ && h₁.accountedOkI (importedModules pw.main.body) && h₁.isNs mainGlobals && h₁.isNs cStatics && (h₁.nsMap cStatics "sys.recursionlimit").isNone && h₀.isNs mainGlobals && (h₀.nsMap mainGlobals "__annotations__" == some (.ref 6))) = true := by
  unfold staticsOk namesBound laidKept Heap.accountedOkI Heap.isNs Heap.nsKeys Heap.nsMap
  simp only [show cStatics = 2 from rfl, show mainGlobals = 3 from rfl, e2, e3, f2, f3]
  rw [← pwT_eq']
  kernel_rfl
theorem blt_eq (w : World) (h₁ : Heap) (f0 : h₁.get? 0 = some (k0 w.params)) : h₁.isNs builtinsNs = true ∧ h₁.bltView = bltViewBooted := by
  unfold Heap.bltView Heap.nsPairs Heap.isNs
  simp only [show builtinsNs = 0 from rfl, f0]
  exact ⟨by kernel_rfl, by kernel_rfl⟩
theorem law_fn (w : World) (h₁ : Heap) (f3 : h₁.get? 3 = some (k3 w.params)) : h₁.nsMap mainGlobals "law" = some (.ref 891) ∧ h₁.nsMap mainGlobals "__builtins__" = some (.ref 4) := by
  unfold Heap.nsMap
  simp only [show mainGlobals = 3 from rfl, f3]
  exact ⟨by kernel_rfl, by kernel_rfl⟩
theorem law_def : pw.theDef "law" = some (fnA (tS 51), fnB (tS 51), fnS (tS 51)) := by
  rw [← pwT_eq']
  kernel_rfl
theorem law_kw : kwWritten? (fnA (tS 51)).kwonlyargs (fnA (tS 51)).kw_defaults = some [] ∧ (fnA (tS 51)).defaults = [] := ⟨by kernel_rfl, by kernel_rfl⟩
theorem opens_ok : (opensWell pw && (frees rwO.row.toRowW && rwO.row.toRowW.within.isEmpty)) = true := by
  show (opensWell pw && _) = true
  rw [← pwT_eq']
  kernel_rfl
theorem frag_mem (P : Params) : (0, k0 P) ∈ kFrag P ∧ (2, k2 P) ∈ kFrag P ∧ (3, k3 P) ∈ kFrag P ∧ (4, k4 P) ∈ kFrag P ∧ (891, k891 P) ∈ kFrag P :=
  ⟨List.mem_of_getElem? (i := 0) rfl, List.mem_of_getElem? (i := 1) rfl, List.mem_of_getElem? (i := 2) rfl, List.mem_of_getElem? (i := 3) rfl, List.mem_of_getElem? (i := 69) rfl⟩
theorem pw_bare : pw.bare := by
  rw [← pwT_eq']
  refine ⟨by kernel_rfl, by kernel_rfl, by kernel_rfl, by kernel_rfl, by kernel_rfl, by kernel_rfl⟩
theorem law_holds (call : CallTy) : PySem.Challenge.rw_pd0201_01.Holds := by
  refine olaw fun said => ?_
  have hok := opens_ok
  obtain ⟨o1, k5⟩ := Bool.and_eq_true_iff.mp hok
  obtain ⟨k5, k6⟩ := Bool.and_eq_true_iff.mp k5
  obtain ⟨hsame, hu, ha, hap, hm⟩ := frees_parts k5
  have hw : rwO.row.toRowW.promised := by w_witness2
  refine ⟨said, hw, ⟨⟨pw_bare, o1, rfl⟩, hw.witness, fun w => ?_⟩⟩
  obtain ⟨s, s₀, s₁, T⟩ := top_left w
  have imp := T.imp
  rw [← table_eq_tree] at imp
  have A := AfterImport.of_importEnds imp
  refine ⟨⟨s, A⟩, fun s' hs' => ?_⟩
  obtain rfl : s' = s := AfterImport.unique hs' A
  refine ⟨s₀, T.fence, T.gens₀, s₁, ?_⟩
  have fm := frag_mem w.params
  have f0 := T.frag _ fm.1
  have f2 := T.frag _ fm.2.1
  have f3 := T.frag _ fm.2.2.1
  have f4 := T.frag _ fm.2.2.2.1
  have f891 := T.frag _ fm.2.2.2.2
  have hm := mods_eq w s₀.heap s₁.heap T.o2 T.o3 f2 f3
  simp only [Bool.and_eq_true, Option.isNone_iff_eq_none, beq_iff_eq] at hm
  obtain ⟨⟨⟨⟨⟨⟨⟨⟨m1, m2⟩, m3⟩, m4⟩, m5⟩, m6⟩, m7⟩, m8⟩, m9⟩ := hm
  have hb := blt_eq w s₁.heap f0
  have hl := law_fn w s₁.heap f3
  have z : s₀.asleep := Shared.asleep_of_life (fence_lifeW T.fence) A.life
  have run := T.run
  rw [← table_eq_tree] at run
  obtain ⟨a, l, os, fr⟩ := topRun_spec _ _ _ _ z run
  have z₁ : s₁.asleep := Shared.asleep_of_life l z
  have hT : TopRan pw w s₀ s₁ := ⟨a, l, Shared.rest_eq os, fun b o hb hn => fr b o (by have := Heap.lt_size hb; rw [T.size₀] at this; exact this) (fun q => hn (.inl q)) (fun q => hn (.inr (.inl q))) (fun q => hn (.inr (.inr (((Pin.globalOf_eq m8 _).trans m9).trans q)))) hb,
    Heap.accountedI_of_ok m4, statics_of_ok m1, Pin.keysAreStrs_of m5, fun x hx => (Pin.builtinOf_eq hb.1 x).trans (Heap.of_bltView hb.1 hb.2 x hx), ⟨4, k4 w.params, (Pin.globalOf_eq m5 _).trans hl.2, f4, rfl, rfl⟩, fun g hg => by rw [T.gens₁] at hg; simp at hg, names_of_bound m2, laid_of_kept m3⟩
  have nl : s₁.heap.NoLimit := ⟨_, .of_isNs m6, m7⟩
  have TK : TopK w s₁.heap := ⟨T.size₁, T.frag, nl⟩
  refine ⟨hT, fun n hn => ?_, (fun x hx => nomatch hx), (fun x hx => nomatch hx), ?_⟩
  · have : n ∈ [Str.ofString "law"] := hn
    have : n = "law" := by simpa using this
    subst this
    exact ⟨891, k891 w.params, _, _, _, _, (Pin.globalOf_eq m5 _).trans hl.1, f891, rfl, law_def, by kernel_rfl, by kernel_rfl, rfl, rfl, rfl, rfl, rfl, rfl, .inl ⟨law_kw.2, rfl⟩, [], law_kw.1, .inl ⟨rfl, rfl⟩⟩
  · refine ClaimW.callFrom_of_specG (c := rwO.row.toRowW.claim) (tree := fun vs => do match ← nsGet mainNs "law" with
      | some f => do ret (← PySem.call f vs)
      | none => unsupported "claim.caller:no-such-global") z₁ T.gens₁ fun args hpre hlay ord hord => ?_
    have hhas : ∀ c fs, rwO.row.toRowW.records.fields? c = some fs → (classAt s₁.heap c).isSome = true := fun c fs h => by cases h
    obtain ⟨⟨vs, s₂⟩, hlaid⟩ := Option.isSome_iff_exists.mp (layAllW_isSome (P := w.params) (ord := ord) (fun c h => by cases h) args rwO.row.toRowW.args s₁ (pre_splitW hpre).1)
    have keeps := layAllW_keeps _ _ _ hlaid
    have hal := layAllW_rest _ _ _ hlaid
    obtain ⟨as, hrd, hin, hold⟩ := reads_layAllW hord _ _ _ hlaid hlay s₂.heap (fun _ _ e => e)
    have L : Laid rwO.row.toRowW.records w s₁ s₂ args vs as := ⟨⟨ord, hord, hlaid⟩, hrd, hin, hold, keeps, hal.1.trans T.gens₁, hal.2.2.1⟩
    refine ⟨vs, s₂, hlaid, ?_⟩
    have hi := ident_freeW hu ha hap
    have hwl := L.well
    have hlo := L.low (by rw [T.size₁]; decide)
    have hpre0 := hpre
    have hlay0 := hlay
    have hrd0 := hrd
    wrow_args hpre hlay hrd hwl hlo
    rename_i ns _ _ _ _ _ _ _ a vals _ hL _ _ _ hI _ _ _
    have hlen : ns.length ≤ 63 := by
      have q : ¬ ((63 : Nat) : Int) < (ns.length : Int) := by assumption
      omega
    have ha892 : a = 892 := (script_at L).1.trans T.size₁
    subst ha892
    have hobj := script_obj L hL
    have htk : 0 < s₂.toks := Nat.lt_of_lt_of_le T.toks₁ (script_toks L rfl)
    have hm3 : s₂.heap.Ns mainGlobals (s₁.heap.nsMap mainGlobals) := (Heap.Ns.of_isNs m5).keeps keeps
    refine wpAny_bind (wpAny_nsGet hm3 ?_)
    rw [hl.1]
    refine wpAny_bind (wpAny_mono (call w s₁.heap s₂ ns vals TK keeps hobj htk hI hlen L.gens) (fun v s' g => ?_) (fun _ _ x => x.elim))
    obtain ⟨rfl, g1, g2, g3⟩ := g
    have gg : GoodWG rwO.row.toRowW.claim (classAt s₁.heap) (ExcName.means s₁.heap) [ofPy (PyData.list (ns.map PyData.int))] s₂ (.ok (.ret (.bool true))) s' :=
      ⟨.inl ⟨_, .bool true, [], rfl, fun _ => rfl, ReadsW.bool true, postW_of (r := rwO.row.toRowW) (X := true == true) rfl (w_eq_bool (w_res rfl) w_lit) rfl, fun _ => ⟨List.nodup_nil, fun _ hm => (nomatch hm)⟩⟩, OldK.of_keep g1, g2, AllBare.of_eq g3⟩
    have zz := GoodWG.laid (c := rwO.row.toRowW.claim) hsame rfl hi L gg
    exact wpAny_pure ⟨_, rfl, zz.1, zz.2.1, zz.2.2, fun q => nomatch q⟩
end Mine
end

section
set_option maxRecDepth 100000
set_option linter.unusedVariables false
namespace Mine
open PySem PySem.Spec PySem.Calls PyProof.Rows PySem.W PySem.W.X
section
variable {w : World} {a b : Bool} {hT : Heap}
theorem lwCs_ok (TK : TopK (WW w a b) hT) (ns : List Int) : Cons pwT' (WW w a b) hT (lwCs w a b ns) :=
  ⟨lslice_ok, llen_ok (g := fun n => (n : Int)) (p := fun _ => True) (fun _ _ => rfl), ladd_ok, cu_ok TK, cn_ok TK, cq_ok TK, sjoin_ok, co_ok TK, kc_ok TK, ct_ok TK, flL_ok TK ns, riter_ok, place_ok TK, lgetX_ok, sne_ok, sum_ok TK, max_ok TK, ieq_ok, trivial⟩
end
theorem law_seg {w : World} {a b : Bool} {hT : Heap} (TK : TopK (WW w a b) hT) (sl : Nat) {its : Array Value} {xs0 : List (Int × Nat)} (hits : its.toList = xs0.map intV) (h63 : xs0.length ≤ 63) :
    SegOkF pwT' (WW w a b) hT 7 0 [] (.call (.ref 891) ⟨[.ref (sl + B)], []⟩) [(sl, listO its 0)] (fun _ => (.ok (.ret (.bool true)), [(sl, listO its 0)])) :=
  by
  have C := lwCs_ok TK (nsOf (xs0.map (·.1)))
  have F : ConsF pwT' (WW w a b) hT (lwFs w a b (ksOf (xs0.map (·.1)))) := ⟨split_fok TK _, trivial⟩
  have ha := fun f => lwP_ok hits h63 f
  have H := run_law w a b sl its (nsOf (xs0.map (·.1))) (ksOf (xs0.map (·.1)))
  generalize nsOf (xs0.map (·.1)) = ns at C ha H
  generalize ksOf (xs0.map (·.1)) = ks at F ha H
  have h7 : 1 ≤ 7 := by decide
  have G := @SegOkF.of_run (WW w a b) hT (lwCs w a b ns) 7 [] (lwFs w a b ks) 408 (.call (.ref 891) ⟨[.ref (sl + B)], []⟩) lwH 81 0 [(sl, listO its 0)] (fun _ => (.ok (.ret (.bool true)), [(sl, listO its 0)])) (lwP its ns ks) (fun _ => .ok (.ret (.bool true))) (fun _ => [(sl, listO its 0)]) TK C F h7
  have G2 := G H ha (fun f => ⟨[], rfl, rfl⟩)
  exact G2
theorem ints_of : ∀ {vs : List Value} {ns : List Int}, IntsAre vs ns → ∃ xs : List (Int × Nat), vs = xs.map intV ∧ xs.map (·.1) = ns
  | _, _, .nil => ⟨[], rfl, rfl⟩
  | _, _, .cons _ _ h => by
    obtain ⟨xs, e1, e2⟩ := ints_of h
    exact ⟨(_, _) :: xs, by rw [e1]; rfl, by rw [← e2]; rfl⟩
theorem WW_self (w : World) : ∃ a b, WW w a b = w := ⟨w.params.followText "special-get-raises", w.params.followText "comprehension-iter-twice", by
  unfold WW
  rw [World.withFollow_self, World.withFollow_self]⟩
theorem call_ok : CallTy := by
  intro w hT s ns vs TK keeps hobj htk hI hlen hg
  obtain ⟨a, b, e⟩ := WW_self w
  obtain ⟨xs0, rfl, rfl⟩ := ints_of hI
  rw [List.length_map] at hlen
  rw [← e] at TK ⊢
  refine wpAny_call ?_
  obtain ⟨h, g, d, tk, os⟩ := s
  obtain ⟨tk, rfl⟩ : ∃ t, tk = t + 1 := ⟨tk - 1, by have : 0 < tk := htk; omega⟩
  have D : RepU hT h (fun q => q = 892) [(0, listO (xs0.map intV).toArray 0)] h := by
    refine ⟨keeps, ?_, Nat.le_refl _, ?_, ?_, ?_, fun _ _ e _ => e⟩
    · exact Nat.le_of_lt (Heap.lt_size hobj)
    · intro p hp
      rw [List.mem_singleton.mp hp]
      exact hobj
    · simp
    · intro p hp
      rw [List.mem_singleton.mp hp]
      exact .inl rfl
  refine law_seg TK 0 (its := (xs0.map intV).toArray) (xs0 := xs0) rfl hlen callerA h _ g d os _ h tk rfl rfl ?_ D fun xs hx => ?_
  · unfold Room
    decide
  intro h' t' D'
  refine ⟨rfl, fun q o hq => ?_, rfl, hg⟩
  by_cases hb : q = 892
  · subst hb
    have := D'.at' (0, listO (xs0.map intV).toArray 0) (List.mem_singleton.mpr rfl)
    have z : h'.get? 892 = some (listO (xs0.map intV).toArray 0) := this
    rw [z, ← hq]
    exact hobj.symm
  · exact D'.keep q o hq hb
theorem all_done : PySem.Challenge.rw_pd0201_01.Holds := law_holds call_ok
end Mine
end

theorem PySem.Challenge.cw_pd0201_01_holds : PySem.Challenge.rw_pd0201_01.Holds := by
  exact Mine.all_done
