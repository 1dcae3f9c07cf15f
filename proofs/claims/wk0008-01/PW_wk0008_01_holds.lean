import PyProof.Rows.All
import Wide.All
import OpenK.AllK
import Wide.FinOn
import Lean
import PySem.Challenge.RW_wk0008_01
set_option Elab.async false
set_option linter.all false
set_option maxRecDepth 100000
set_option maxHeartbeats 8000000
open PySem PySem.W PySem.W.X
namespace Mine
noncomputable abbrev LG := List (Addr × Obj)
noncomputable abbrev NN := List (Nat × Nat)
section
noncomputable abbrev pw : Program := PySem.Challenge.pw_wk0008_01
noncomputable abbrev D : Code → Sem Fin := PySem.W.Fast.tw11892475500146522536 PySem.W.Fast.tw14364793385576792824
theorem D_eq : D = denote table := by
  unfold D
  rw [← PySem.W.Fast.te11892475500146522536, ← PySem.W.Fast.te14364793385576792824, PySem.table_eq_tree]
noncomputable abbrev quietT : Code → Bool := PySem.W.ZFast.zw17772548960776305114
theorem quietT_eq : Code.quiet = quietT := PySem.W.ZFast.ze17772548960776305114
noncomputable abbrev N0 : Nat := 228
noncomputable def flag (b : Bool) (f : String → Bool) (r : String) : Bool := match Nat.beq (PySem.code r) (PySem.code "special-get-raises") with
  | true => b
  | false => f r
noncomputable def wld (w : World) (b : Bool) : World := { w with params := { w.params with followText := flag b w.params.followText } }
theorem wld_eq (w : World) : wld w (w.params.followText "special-get-raises") = w := by
  obtain ⟨dr, p⟩ := w
  have : flag (p.followText "special-get-raises") p.followText = p.followText := by
    funext r
    unfold flag
    split
    · rename_i h
      rw [PySem.code_inj _ _ (Nat.eq_of_beq_eq_true h)]
    · rfl
  show (⟨dr, { p with followText := flag (p.followText "special-get-raises") p.followText }⟩ : World) = ⟨dr, p⟩
  rw [this]
structure Cx where
  w₀ : World
  b : Bool
  h₀ : Heap
  g : Array GenState
  d : Drawn
  os : OsState
noncomputable def Cx.w (X : Cx) : World := wld X.w₀ X.b
noncomputable def Cx.set (X : Cx) (b : Bool) : Cx := ⟨X.w₀, b, X.h₀, X.g, X.d, X.os⟩
theorem Cx.both (X : Cx) {P : Cx → Prop} (h : P (X.set true)) (h' : P (X.set false)) : P X :=
  match X, h, h' with
  | ⟨_, true, _, _, _, _⟩, h, _ => h
  | ⟨_, false, _, _, _, _⟩, _, h => h
noncomputable def Keep (M : List Addr) (h h' : Heap) : Prop := ∀ b o, b ∉ M → h.get? b = some o → h'.get? b = some o
theorem Keep.refl (M : List Addr) (h : Heap) : Keep M h h := fun _ _ _ e => e
theorem Keep.trans {M M' : List Addr} {h h' h'' : Heap} (a : Keep M h h') (b : Keep M' h' h'') : Keep (M' ++ M) h h'' := fun x o n e =>
  b x o (fun q => n (List.mem_append_left _ q)) (a x o (fun q => n (List.mem_append_right _ q)) e)
theorem Keep.mono {M M' : List Addr} {h h' : Heap} (a : Keep M h h') (s : ∀ x ∈ M, x ∈ M') : Keep M' h h' := fun x o n e => a x o (fun q => n (s x q)) e
structure Base (X : Cx) (s : Shared) : Prop where
  old : ∀ b o, b < N0 → X.h₀.get? b = some o → s.heap.get? b = some o
  gens : s.gens = X.g
  drawn : s.drawn = X.d
  os : s.os = X.os
structure Rep (X : Cx) (n k : Nat) (T : LG) (s : Shared) : Prop where
  base : Base X s
  size : s.heap.objs.size = n
  toks : s.toks = k
  big : N0 ≤ n
  own : ∀ p ∈ T, s.heap.get? p.1 = some p.2
  nd : (T.map (·.1)).Nodup
  low : ∀ p ∈ T, N0 ≤ p.1
noncomputable def Fine (ρ : Nat) (A : Around) : Prop := A.handled = none ∧ A.depth + ρ ≤ 900 ∧ A.units + 10 * ρ ≤ 9000
structure Fx where
  c : Code
  hd : Option Value
  k : Result → Sem Fin
inductive Oc where
    | o (j : Nat)
    | e
    | v (x : Value) (k' : Nat) (js : List Nat)
    | g (fine : Bool) (x : Result) (k' : Nat) (js : List Nat) (us : List (Nat × Obj)) (ns : List Obj)
    | room (m : String)
    | frame
    | head
    | comps (m : String)
structure Out where
  ok : Bool
  κ : List Fx
  cc : Code
  t : Sem Fin
  n : Nat
  k : Nat
  T : LG
  L : List Addr
  R : List Addr
  c : Nat
  M : List Nat
  C : List Prop
  Z : List (List (Code × Pos) → Sem Fin)
  Y : List (List (Code × Pos) → Sem Fin)
noncomputable def finOf : Sem Fin → Option Fin
  | .pure f => some f
  | _ => none
noncomputable def hdl : List Fx → Option Value
  | [] => none
  | f :: r => match f.hd with
    | some v => some v
    | none => hdl r
noncomputable def nth : LG → Nat → Option (Addr × Obj)
  | [], _ => none
  | p :: r, j => match j with
    | 0 => some p
    | j + 1 => nth r j
noncomputable def put : LG → Nat → Obj → LG
  | [], _, _ => []
  | p :: r, j, o => match j with
    | 0 => (p.1, o) :: r
    | j + 1 => p :: put r j o
noncomputable def sel (T : LG) : List Nat → Option (LG)
  | [] => some []
  | j :: r => match nth T j with
    | some p => match sel T r with
      | some l => some (p :: l)
      | none => none
    | none => none
noncomputable def ups (T : LG) : List (Nat × Obj) → Option (LG)
  | [] => some []
  | u :: r => match nth T u.1 with
    | some p => match ups T r with
      | some l => some ((p.1, u.2) :: l)
      | none => none
    | none => none
noncomputable def puts (T : LG) : List (Nat × Obj) → LG
  | [] => T
  | u :: r => puts (put T u.1 u.2) r
noncomputable def made (n : Nat) (T : LG) : List Obj → Nat × LG
  | [] => (n, T)
  | o :: r => made (n + 1) ((n, o) :: T) r
noncomputable def live : List Obj → Bool
  | [] => true
  | o :: r => match o.isFreed with
    | true => false
    | false => live r
noncomputable def CutB (X : Cx) (c : Code) (x : Value) (P : LG) (k k' : Nat) : Prop :=
  ∀ A s, Base X s → s.toks = k → (∀ p ∈ P, s.heap.get? p.1 = some p.2) → codeAny (model pw X.w) A c (fun r s' => r = .ok (.ret x) ∧ s' = { s with toks := k' }) s
noncomputable def CutG (X : Cx) (ρ : Nat) (fine : Bool) (c : Code) (x : Result) (P : LG) (n k k' : Nat) (U : LG) (N : List Obj) : Prop :=
  ∀ A s, (A.handled = none ∧ (fine = true → Fine ρ A)) → Base X s → s.heap.objs.size = n → N0 ≤ n → s.toks = k → (∀ p ∈ P, s.heap.get? p.1 = some p.2) →
    codeAny (model pw X.w) A c (fun r s' => r = x ∧ ∃ h', s' = { s with heap := h', toks := k' } ∧ h'.objs.size = n + N.length ∧ (∀ p ∈ U, h'.get? p.1 = some p.2) ∧ (∀ i o, N[i]? = some o → h'.get? (n + i) = some o) ∧
      Keep (U.map (·.1)) s.heap h') s
noncomputable def AllP : List Prop → Prop
  | [] => True
  | p :: r => p ∧ AllP r
noncomputable def wtC : Code → Nat
  | .builtin id _ => match Nat.beq (PySem.code id) (PySem.code "claim.caller") with
    | true => 400
    | false => 6
  | _ => 1
noncomputable def plainC (c : Code) : Bool := Nat.ble (wtC c) 6
noncomputable def thin : Nat → List Fx → Bool
  | _, [] => true
  | m, f :: r => match Nat.ble (wtC f.c) m with
    | true => thin (m - wtC f.c) r
    | false => false
noncomputable def short : Nat → List Fx → Bool
  | _, [] => true
  | 0, _ => false
  | m + 1, _ :: r => short m r
noncomputable def roomTree (m : String) (q : List (Code × Pos) → Sem Fin) (st : List (Code × Pos)) : Sem Fin := if (st.map (·.1.cUnits)).sum ≥ cLine then .unsupported m else q []
noncomputable def behindLoad (o : Obj) : Sem Fin → Sem Fin
  | .load _ _ f => f o
  | t => t
noncomputable def stackOf (st : List (Code × Pos)) : Sem Fin → Sem Fin
  | .stack f => f st
  | t => t
noncomputable def frameTree (t : Sem Fin) (st : List (Code × Pos)) : Sem Fin := stackOf st (PySem.W.R.bindR (PySem.W.Fast.tw15066281185411960212 0) fun _ => t)
noncomputable def pos0 : Pos := ⟨0, 0, 0, 0⟩
noncomputable def posOf : List (Code × Pos) → Pos
  | [] => pos0
  | a :: _ => a.2
noncomputable def tlOf : List (Code × Pos) → List (Code × Pos)
  | [] => []
  | _ :: r => r
noncomputable def headTree (cc : Code) (q : List (Code × Pos) → Sem Fin) (st : List (Code × Pos)) : Sem Fin := q ((cc, posOf st) :: tlOf st)
noncomputable def constTree (t : Sem Fin) (_ : List (Code × Pos)) : Sem Fin := t
noncomputable def compTree (m : String) (cc : Code) (t : Sem Fin) (_ : List (Code × Pos)) : Sem Fin := if ((cc.env?).map (·.frame) != (cc.env?).map (·.frame)) = true then .unsupported m else t
noncomputable def note (c j : Nat) (M : List Nat) : List Nat := match Nat.blt j c with
  | true => M
  | false => match M.elem (j - c) with
    | true => M
    | false => (j - c) :: M
noncomputable def notes (c : Nat) : List (Nat × Obj) → List Nat → List Nat
  | [], M => M
  | u :: r, M => notes c r (note c u.1 M)
noncomputable def adr (B : List Addr) (M : List Nat) : List Addr := M.filterMap fun i => B[i]?
noncomputable def run (X : Cx) (kt : KT) (ρ : Nat) (D : Code → Sem Fin) (qt : Code → Bool) : Nat → List Oc → List Fx → Code → Sem Fin → Nat → Nat → LG → List Addr → List Addr → Nat → List Nat → List Prop → List (List (Code × Pos) → Sem Fin) → List (List (Code × Pos) → Sem Fin) → Out
  | 0 => fun _ κ cc t n k T L R c M C Z Y => ⟨true, κ, cc, t, n, k, T, L, R, c, M, C, Z, Y⟩
  | m + 1 => fun os κ cc t n k T L R c M C Z Y =>
    match t with
    | .pure fin => match fin with
      | .done fl => match κ with
        | [] => ⟨false, κ, cc, t, n, k, T, L, R, c, M, C, Z, Y⟩
        | f :: r => run X kt ρ D qt m os r f.c (f.k (.ok fl)) n k T L R c M C Z Y
      | .again c' => match qt c' with
        | true => run X kt ρ D qt m os κ c' (D c') n k T L R c M C Z Y
        | false => ⟨false, κ, cc, t, n, k, T, L, R, c, M, C, Z, Y⟩
    | .raise e => match κ with
      | [] => ⟨false, κ, cc, t, n, k, T, L, R, c, M, C, Z, Y⟩
      | f :: r => run X kt ρ D qt m os r f.c (f.k (.error e)) n k T L R c M C Z Y
    | .rule _ q => run X kt ρ D qt m os κ cc (q ()) n k T L R c M C Z Y
    | .at _ q => run X kt ρ D qt m os κ cc (q ()) n k T L R c M C Z Y
    | .point _ q => run X kt ρ D qt m os κ cc (q ()) n k T L R c M C Z Y
    | .ask q => run X kt ρ D qt m os κ cc (q ⟨pw, X.w.params⟩) n k T L R c M C Z Y
    | .fresh q => run X kt ρ D qt m os κ cc (q k) n (k + 1) T L R c M C Z Y
    | .handled own q => match own with
      | false => run X kt ρ D qt m os κ cc (q (hdl κ)) n k T L R c M C Z Y
      | true => ⟨false, κ, cc, t, n, k, T, L, R, c, M, C, Z, Y⟩
    | .load a _ q => match os with
      | .o j :: os' => match j with
        | 0 => match Nat.blt a N0 with
          | true => match kt.get a with
            | some o => run X kt ρ D qt m os' κ cc (q o) n k T L R c M C Z Y
            | none => ⟨false, κ, cc, t, n, k, T, L, R, c, M, C, Z, Y⟩
          | false => ⟨false, κ, cc, t, n, k, T, L, R, c, M, C, Z, Y⟩
        | j + 1 => match nth T j with
          | some p => run X kt ρ D qt m os' κ cc (q p.2) n k T (a :: L) (p.1 :: R) c M C Z Y
          | none => ⟨false, κ, cc, t, n, k, T, L, R, c, M, C, Z, Y⟩
      | _ => ⟨false, κ, cc, t, n, k, T, L, R, c, M, C, Z, Y⟩
    | .alloc o q => match o.isFreed with
      | true => ⟨false, κ, cc, t, n, k, T, L, R, c, M, C, Z, Y⟩
      | false => run X kt ρ D qt m os κ cc (q n) (n + 1) k ((n, o) :: T) L R (c + 1) M C Z Y
    | .update a _ f q => match os with
      | .o j :: os' => match j with
        | 0 => ⟨false, κ, cc, t, n, k, T, L, R, c, M, C, Z, Y⟩
        | j + 1 => match nth T j with
          | some p => match (f p.2).isFreed with
            | true => ⟨false, κ, cc, t, n, k, T, L, R, c, M, C, Z, Y⟩
            | false => run X kt ρ D qt m os' κ cc (q ()) n k (put T j (f p.2)) (a :: L) (p.1 :: R) c (note c j M) C Z Y
          | none => ⟨false, κ, cc, t, n, k, T, L, R, c, M, C, Z, Y⟩
      | _ => ⟨false, κ, cc, t, n, k, T, L, R, c, M, C, Z, Y⟩
    | .call cd hd _ _ q => match os with
      | .e :: os' => match okMark hd with
        | true => run X kt ρ D qt m os' (⟨cc, hd, q⟩ :: κ) cd (D cd) n k T L R c M C Z Y
        | false => ⟨false, κ, cc, t, n, k, T, L, R, c, M, C, Z, Y⟩
      | .v x k' js :: os' => match hd with
        | none => match sel T js with
          | some P => run X kt ρ D qt m os' κ cc (q (.ok (.ret x))) n k' T L R c M (CutB X cd x P k k' :: C) Z Y
          | none => ⟨false, κ, cc, t, n, k, T, L, R, c, M, C, Z, Y⟩
        | some _ => ⟨false, κ, cc, t, n, k, T, L, R, c, M, C, Z, Y⟩
      | .g fine x k' js us ns :: os' => match hd, hdl κ, !fine || (plainC cc && thin 60 κ) with
        | none, none, true => match sel T js, ups T us with
          | some P, some U => run X kt ρ D qt m os' κ cc (q x) (made n (puts T us) ns).1 k' (made n (puts T us) ns).2 L R (c + ns.length) (notes c us M) (CutG X ρ fine cd x P n k k' U ns :: C) Z Y
          | _, _ => ⟨false, κ, cc, t, n, k, T, L, R, c, M, C, Z, Y⟩
        | _, _, _ => ⟨false, κ, cc, t, n, k, T, L, R, c, M, C, Z, Y⟩
      | _ => ⟨false, κ, cc, t, n, k, T, L, R, c, M, C, Z, Y⟩
    | .stack q => match os with
      | .room w :: os' => match short 60 κ with
        | true => run X kt ρ D qt m os' κ cc (q []) n k T L R c M C (q :: Z) (roomTree w q :: Y)
        | false => ⟨false, κ, cc, t, n, k, T, L, R, c, M, C, Z, Y⟩
      | .frame :: os' => match plainC cc && thin 60 κ with
        | true => match kt.get 2 with
          | some o => run X kt ρ D qt m os' κ cc (behindLoad o (q [])) n k T L R c M C (q :: Z) (frameTree (behindLoad o (q [])) :: Y)
          | none => ⟨false, κ, cc, t, n, k, T, L, R, c, M, C, Z, Y⟩
        | false => ⟨false, κ, cc, t, n, k, T, L, R, c, M, C, Z, Y⟩
      | .head :: os' => run X kt ρ D qt m os' κ cc (q [(cc, pos0)]) n k T L R c M C (headTree cc q :: Z) (constTree (q [(cc, pos0)]) :: Y)
      | .comps w :: os' => run X kt ρ D qt m os' κ cc (q []) n k T L R c M C (headTree cc q :: Z) (compTree w cc (q []) :: Y)
      | _ => ⟨false, κ, cc, t, n, k, T, L, R, c, M, C, Z, Y⟩
    | _ => ⟨false, κ, cc, t, n, k, T, L, R, c, M, C, Z, Y⟩
noncomputable def ar (A : Around) : List Fx → Around
  | [] => A
  | f :: r => ((ar A r).under f.c).mark f.hd
noncomputable def End (X : Cx) (A : Around) (R : Result → Shared → Prop) : List Fx → Result → Shared → Prop
  | [] => R
  | f :: r => fun res s => wpAt (model pw X.w) ((ar A r).under f.c) f.c (f.k res)
      (fun fin s' => match fin with
        | .done fl => End X A R r (.ok fl) s'
        | .again c' => c'.quiet = true ∧ codeAny (model pw X.w) (ar A r) c' (End X A R r) s')
      (fun e s' => End X A R r (.error e) s') s
noncomputable def Mean (X : Cx) (A : Around) (R : Result → Shared → Prop) (κ : List Fx) (cc : Code) (t : Sem Fin) (s : Shared) : Prop :=
  wpAt (model pw X.w) ((ar A κ).under cc) cc t
      (fun fin s' => match fin with
        | .done fl => End X A R κ (.ok fl) s'
        | .again c' => c'.quiet = true ∧ codeAny (model pw X.w) (ar A κ) c' (End X A R κ) s')
      (fun e s' => End X A R κ (.error e) s') s
section
variable {X : Cx} {A : Around} {c : Code} {α : Type} {Q : α → Shared → Prop} {E : Value → Shared → Prop} {s : Shared}
theorem y_pure {a : α} (h : Q a s) : wpAt (model pw X.w) A c (Sem.pure a) Q E s := wpAt_of_wpAny (x_pure h)
theorem y_raise {e : Value} (h : E e s) : wpAt (model pw X.w) A c (Sem.raise e : Sem α) Q E s := wpAt_of_wpAny (x_raise h)
theorem y_rule {t : String} {k : Unit → Sem α} (h : wpAt (model pw X.w) A c (k ()) Q E s) : wpAt (model pw X.w) A c (.rule t k) Q E s := fun Γ p hc hΓ => h Γ p hc hΓ
theorem y_at {q : Pos} {k : Unit → Sem α} (h : wpAt (model pw X.w) A c (k ()) Q E s) : wpAt (model pw X.w) A c (.at q k) Q E s := fun Γ _ hc hΓ => h Γ q hc hΓ
theorem y_point {l : List Value} {k : Unit → Sem α} (h : wpAt (model pw X.w) A c (k ()) Q E s) : wpAt (model pw X.w) A c (.point l k) Q E s := fun Γ p hc hΓ => h Γ p hc hΓ
theorem y_ask {k : Setting → Sem α} (h : wpAt (model pw X.w) A c (k ⟨pw, X.w.params⟩) Q E s) : wpAt (model pw X.w) A c (.ask k) Q E s := fun Γ p hc hΓ => h Γ p hc hΓ
theorem y_fresh {k : Tok → Sem α} (h : wpAt (model pw X.w) A c (k s.toks) Q E { s with toks := s.toks + 1 }) : wpAt (model pw X.w) A c (.fresh k) Q E s := fun Γ p hc hΓ => h Γ p hc hΓ
theorem y_handled {k : Option Value → Sem α} (h : wpAt (model pw X.w) A c (k A.handled) Q E s) : wpAt (model pw X.w) A c (.handled false k) Q E s := wpAt_bind (m := handled) (f := k) (wpAt_of_wpAny (wpAny_handled h))
theorem y_load {a : Addr} {q : Option Value} {k : Obj → Sem α} {o : Obj} (ho : s.heap.get? a = some o) (h : wpAt (model pw X.w) A c (k o) Q E s) : wpAt (model pw X.w) A c (.load a q k) Q E s :=
  wpAt_bind (m := loadPart a q) (f := k) (wpAt_of_wpAny (wpAny_loadPart ho h))
theorem y_call {c' : Code} {hd : Option Value} {g : Bool} {l : List Value} {k : Result → Sem α} (h : codeAny (model pw X.w) (A.mark hd) c' (fun r s' => wpAt (model pw X.w) A c (k r) Q E s') s) (hnb : hd ≠ some byPass) :
    wpAt (model pw X.w) A c (.call c' hd g l k) Q E s := fun Γ p hc hΓ => wpCode_mono (fun _ _ q => q Γ p hc hΓ) (h _ p rfl (hΓ.enter c' hd p hnb))
theorem y_code {R : Result → Shared → Prop} (h : wpAt (model pw X.w) (A.under c) c (denote table c) (fun fin s' => match fin with | .done f => R (.ok f) s' | .again c' => c'.quiet = true ∧ codeAny (model pw X.w) A c' R s') (fun e s' => R (.error e) s') s) :
    codeAny (model pw X.w) A c R s := codeAny_of_treeAt h
end
section
variable {X : Cx} {A : Around} {R : Result → Shared → Prop}
theorem Mean.step {κ : List Fx} {cc : Code} {t t' : Sem Fin} {s s' : Shared}
    (h : ∀ (Q : Fin → Shared → Prop) (E : Value → Shared → Prop), wpAt (model pw X.w) ((ar A κ).under cc) cc t' Q E s' → wpAt (model pw X.w) ((ar A κ).under cc) cc t Q E s)
    (x : Mean X A R κ cc t' s') : Mean X A R κ cc t s := h _ _ x
theorem Mean.done {f : Fx} {r : List Fx} {cc : Code} {fl : Flow} {s : Shared} (x : Mean X A R r f.c (f.k (.ok fl)) s) : Mean X A R (f :: r) cc (.pure (.done fl)) s := y_pure x
theorem Mean.raise {f : Fx} {r : List Fx} {cc : Code} {e : Value} {s : Shared} (x : Mean X A R r f.c (f.k (.error e)) s) : Mean X A R (f :: r) cc (.raise e) s := y_raise x
theorem Mean.code {κ : List Fx} {cc : Code} {s : Shared} (x : Mean X A R κ cc (D cc) s) : codeAny (model pw X.w) (ar A κ) cc (End X A R κ) s := by
  unfold Mean at x
  rw [D_eq] at x
  exact y_code x
theorem Mean.again {κ : List Fx} {cc c' : Code} {s : Shared} (hq : quietT c' = true) (x : Mean X A R κ c' (D c') s) : Mean X A R κ cc (.pure (.again c')) s :=
  y_pure ⟨by rw [quietT_eq]; exact hq, Mean.code x⟩
theorem Mean.call {κ : List Fx} {cc c : Code} {hd : Option Value} {g : Bool} {l : List Value} {q : Result → Sem Fin} {s : Shared} (hnb : hd ≠ some byPass)
    (x : codeAny (model pw X.w) (((ar A κ).under cc).mark hd) c (fun res s' => Mean X A R κ cc (q res) s') s) : Mean X A R κ cc (.call c hd g l q) s := y_call x hnb
theorem okMark_ne {hd : Option Value} (h : okMark hd = true) : hd ≠ some byPass := by
  intro e
  subst e
  simp [okMark] at h
theorem ar_handled (hA : A.handled = none) : ∀ κ : List Fx, (ar A κ).handled = hdl κ
  | [] => hA
  | f :: r => by
    show (f.hd.or ((ar A r).under f.c).handled) = hdl (f :: r)
    show (f.hd.or (ar A r).handled) = hdl (f :: r)
    rw [ar_handled hA r]
    show f.hd.or (hdl r) = match f.hd with | some v => some v | none => hdl r
    cases f.hd <;> rfl
theorem nth_mem : ∀ {T : LG} {j : Nat} {p : Addr × Obj}, nth T j = some p → p ∈ T
  | [], _, _, h => by cases h
  | q :: r, 0, p, h => by cases h; exact .head _
  | q :: r, j + 1, p, h => .tail _ (nth_mem (T := r) h)
theorem put_addr : ∀ {T : LG} {j : Nat} {o : Obj}, (put T j o).map (·.1) = T.map (·.1)
  | [], _, _ => rfl
  | q :: r, 0, o => rfl
  | q :: r, j + 1, o => by
    show q.1 :: (put r j o).map (·.1) = q.1 :: r.map (·.1)
    rw [put_addr]
theorem put_mem : ∀ {T : LG} {j : Nat} {o : Obj} {p : Addr × Obj}, nth T j = some p → (T.map (·.1)).Nodup → ∀ q ∈ put T j o, (q = (p.1, o)) ∨ (q ∈ T ∧ q.1 ≠ p.1)
  | [], _, _, _, h, _, _, _ => by cases h
  | x :: r, 0, o, p, h, nd, q, hq => by
    cases h
    rcases List.mem_cons.mp hq with e | e
    · exact .inl e
    · refine .inr ⟨.tail _ e, fun z => ?_⟩
      have := (List.nodup_cons.mp nd).1
      exact this (List.mem_map.mpr ⟨q, e, z⟩)
  | x :: r, j + 1, o, p, h, nd, q, hq => by
    rcases List.mem_cons.mp hq with e | e
    · subst e
      refine .inr ⟨.head _, fun z => ?_⟩
      have := (List.nodup_cons.mp nd).1
      exact this (List.mem_map.mpr ⟨p, nth_mem (T := r) h, z.symm⟩)
    · rcases put_mem (T := r) h (List.nodup_cons.mp nd).2 q e with y | y
      · exact .inl y
      · exact .inr ⟨.tail _ y.1, y.2⟩
theorem Base.keep {M : List Addr} {s : Shared} {h' : Heap} {k' : Nat} (B : Base X s) (K : Keep M s.heap h') (hM : ∀ a ∈ M, N0 ≤ a) : Base X { s with heap := h', toks := k' } :=
  ⟨fun b o hb e => K b o (fun z => absurd (hM b z) (Nat.not_le.mpr hb)) (B.old b o hb e), B.gens, B.drawn, B.os⟩
theorem Rep.lt {n k : Nat} {T : LG} {s : Shared} (H : Rep X n k T s) {p : Addr × Obj} (hp : p ∈ T) : p.1 < n := H.size ▸ Heap.lt_size (H.own p hp)
theorem Rep.fresh {n k : Nat} {T : LG} {s : Shared} (H : Rep X n k T s) (k' : Nat) : Rep X n k' T { s with toks := k' } :=
  ⟨⟨H.base.old, H.base.gens, H.base.drawn, H.base.os⟩, H.size, rfl, H.big, H.own, H.nd, H.low⟩
theorem Rep.alloc {n k : Nat} {T : LG} {s : Shared} (H : Rep X n k T s) {o : Obj} (hf : o.isFreed = false) : Rep X (n + 1) k ((n, o) :: T) { s with heap := s.heap.push o } := by
  refine ⟨⟨fun b o' hb e => Heap.get?_push_of_some _ (H.base.old b o' hb e), H.base.gens, H.base.drawn, H.base.os⟩, by rw [Heap.size_push, H.size], H.toks, Nat.le_succ_of_le H.big, fun p hp => ?_, ?_, fun p hp => ?_⟩
  · rcases List.mem_cons.mp hp with e | e
    · subst e
      rw [← H.size]
      exact Heap.get?_push_size _ hf
    · exact Heap.get?_push_of_some _ (H.own p e)
  · refine List.nodup_cons.mpr ⟨fun z => ?_, H.nd⟩
    obtain ⟨q, hq, e⟩ := List.mem_map.mp z
    exact absurd (H.lt hq) (by rw [e]; exact Nat.lt_irrefl _)
  · rcases List.mem_cons.mp hp with e | e
    · subst e; exact H.big
    · exact H.low p e
theorem Rep.update {n k : Nat} {T : LG} {s : Shared} (H : Rep X n k T s) {j : Nat} {p : Addr × Obj} (hj : nth T j = some p) {f : Obj → Obj} (hf : (f p.2).isFreed = false) :
    Rep X n k (put T j (f p.2)) { s with heap := s.heap.update p.1 f } ∧ Keep [p.1] s.heap (s.heap.update p.1 f) := by
  have hs : Heap.SameBut p.1 s.heap (s.heap.update p.1 f) := Heap.SameBut.update ..
  have hp := nth_mem hj
  have kp : Keep [p.1] s.heap (s.heap.update p.1 f) := fun b o hb e => (hs.2 b fun z => hb (by rw [z]; exact .head _)).trans e
  refine ⟨⟨H.base.keep (k' := s.toks) kp fun a ha => ?_, hs.1.trans H.size, H.toks, H.big, fun q hq => ?_, by rw [put_addr]; exact H.nd, fun q hq => ?_⟩, kp⟩
  · rw [List.mem_singleton] at ha; subst ha; exact H.low p hp
  · rcases put_mem hj H.nd q hq with e | e
    · subst e
      first | exact Heap.get?_update_self f (H.own p hp) hf | exact Heap.get?_update_self _ (H.own p hp) hf
    · exact (hs.2 q.1 e.2).trans (H.own q e.1)
  · rcases put_mem hj H.nd q hq with e | e
    · subst e; exact H.low p hp
    · exact H.low q e.1
theorem sel_mem {T : LG} : ∀ {js : List Nat} {P : LG}, sel T js = some P → ∀ p ∈ P, p ∈ T
  | [], P, h, p, hp => by cases h; cases hp
  | j :: r, P, h, p, hp => by
    unfold sel at h
    cases e1 : nth T j with
    | none => rw [e1] at h; cases h
    | some q =>
      rw [e1] at h
      cases e2 : sel T r with
      | none => rw [e2] at h; cases h
      | some l =>
        rw [e2] at h
        cases h
        rcases List.mem_cons.mp hp with e | e
        · subst e; exact nth_mem e1
        · exact sel_mem e2 p e
theorem ups_low {T : LG} (hl : ∀ p ∈ T, N0 ≤ p.1) : ∀ {us : List (Nat × Obj)} {U : LG}, ups T us = some U → ∀ a ∈ U.map (·.1), N0 ≤ a
  | [], U, h, a, ha => by cases h; cases ha
  | u :: r, U, h, a, ha => by
    unfold ups at h
    cases e1 : nth T u.1 with
    | none => rw [e1] at h; cases h
    | some q =>
      rw [e1] at h
      cases e2 : ups T r with
      | none => rw [e2] at h; cases h
      | some l =>
        rw [e2] at h
        cases h
        rcases List.mem_cons.mp ha with e | e
        · subst e; exact hl q (nth_mem e1)
        · exact ups_low hl e2 a e
theorem nth_put {T : LG} : ∀ {i j : Nat} {o : Obj}, i ≠ j → nth (put T j o) i = nth T i := by
  induction T with
  | nil => intros; rfl
  | cons p r ih =>
    intro i j o h
    cases i with
    | zero =>
      cases j with
      | zero => exact absurd rfl h
      | succ j => rfl
    | succ i =>
      cases j with
      | zero => rfl
      | succ j => exact ih (fun e => h (by rw [e]))
theorem nth_put_addr {T : LG} : ∀ {i j : Nat} {o : Obj}, (nth (put T j o) i).map (·.1) = (nth T i).map (·.1) := by
  induction T with
  | nil => intros; rfl
  | cons p r ih =>
    intro i j o
    cases i with
    | zero => cases j <;> rfl
    | succ i => cases j with
      | zero => rfl
      | succ j => exact ih
theorem puts_addr : ∀ {us : List (Nat × Obj)} {T : LG}, (puts T us).map (·.1) = T.map (·.1)
  | [], _ => rfl
  | u :: r, T => by
    show (puts (put T u.1 u.2) r).map (·.1) = _
    rw [puts_addr, put_addr]
theorem puts_mem : ∀ {us : List (Nat × Obj)} {T : LG} {U : LG}, ups T us = some U → (T.map (·.1)).Nodup → ∀ q ∈ puts T us, (q ∈ T ∧ q.1 ∉ U.map (·.1)) ∨ q ∈ U
  | [], T, U, h, nd, q, hq => by cases h; exact .inl ⟨hq, fun z => nomatch z⟩
  | u :: r, T, U, h, nd, q, hq => by
    unfold ups at h
    cases e1 : nth T u.1 with
    | none => rw [e1] at h; cases h
    | some p =>
      rw [e1] at h
      cases e2 : ups T r with
      | none => rw [e2] at h; cases h
      | some l =>
        rw [e2] at h
        cases h
        have e3 : ups (put T u.1 u.2) r = some l := by
          have key : ∀ (us : List (Nat × Obj)), ups (put T u.1 u.2) us = ups T us := by
            intro us
            induction us with
            | nil => rfl
            | cons v w ih =>
              unfold ups
              rw [ih]
              have := nth_put_addr (T := T) (i := v.1) (j := u.1) (o := u.2)
              cases hx : nth T v.1 with
              | none => rw [hx] at this; cases hy : nth (put T u.1 u.2) v.1 with
                | none => rfl
                | some _ => rw [hy] at this; cases this
              | some x => rw [hx] at this; cases hy : nth (put T u.1 u.2) v.1 with
                | none => rw [hy] at this; cases this
                | some y =>
                  rw [hy] at this
                  have exy : y.1 = x.1 := Option.some.inj this
                  dsimp only
                  rw [exy]
          rw [key]; exact e2
        have hq' : q ∈ puts (put T u.1 u.2) r := hq
        rcases puts_mem e3 (by rw [put_addr]; exact nd) q hq' with y | y
        · rcases put_mem e1 nd q y.1 with z | z
          · subst z; exact .inr (.head _)
          · refine .inl ⟨z.1, fun w => ?_⟩
            rcases List.mem_cons.mp w with w | w
            · exact z.2 w
            · exact y.2 w
        · exact .inr (.tail _ y)
theorem made_mem : ∀ {ns : List Obj} {n : Nat} {T : LG} {q : Addr × Obj}, q ∈ (made n T ns).2 → q ∈ T ∨ ∃ i, ns[i]? = some q.2 ∧ q.1 = n + i
  | [], _, _, _, h => .inl h
  | o :: r, n, T, q, h => by
    rcases made_mem (ns := r) (n := n + 1) (T := (n, o) :: T) h with e | ⟨i, e1, e2⟩
    · rcases List.mem_cons.mp e with e | e
      · subst e; exact .inr ⟨0, rfl, rfl⟩
      · exact .inl e
    · exact .inr ⟨i + 1, e1, e2.trans (show (n + 1 + i : Nat) = n + (i + 1) by omega)⟩
theorem made_size : ∀ {ns : List Obj} {n : Nat} {T : LG}, (made n T ns).1 = n + ns.length
  | [], _, _ => rfl
  | o :: r, n, T => by
    show (made (n + 1) ((n, o) :: T) r).1 = n + (r.length + 1)
    rw [made_size]; omega
theorem made_nd : ∀ {ns : List Obj} {n : Nat} {T : LG}, (T.map (·.1)).Nodup → (∀ p ∈ T, p.1 < n) → ((made n T ns).2.map (·.1)).Nodup
  | [], _, _, h, _ => h
  | o :: r, n, T, h, hl => by
    refine made_nd (ns := r) (n := n + 1) (T := (n, o) :: T) (List.nodup_cons.mpr ⟨fun z => ?_, h⟩) fun p hp => ?_
    · obtain ⟨q, hq, e⟩ := List.mem_map.mp z
      exact absurd (hl q hq) (by rw [e]; exact Nat.lt_irrefl _)
    · rcases List.mem_cons.mp hp with e | e
      · subst e; exact Nat.lt_succ_self _
      · exact Nat.lt_succ_of_lt (hl p e)
theorem Rep.cut {n k k' : Nat} {T U : LG} {us : List (Nat × Obj)} {N : List Obj} {s : Shared} {h' : Heap} (H : Rep X n k T s) (hU : ups T us = some U) (hs : h'.objs.size = n + N.length)
    (h1 : ∀ p ∈ U, h'.get? p.1 = some p.2) (h2 : ∀ i o, N[i]? = some o → h'.get? (n + i) = some o) (K : Keep (U.map (·.1)) s.heap h') :
    Rep X (made n (puts T us) N).1 k' (made n (puts T us) N).2 { s with heap := h', toks := k' } := by
  have hlt : ∀ p ∈ puts T us, p.1 < n := fun p hp => by
    have : p.1 ∈ T.map (·.1) := by rw [← puts_addr (us := us)]; exact List.mem_map_of_mem hp
    obtain ⟨q, hq, e⟩ := List.mem_map.mp this
    rw [← e]; exact H.lt hq
  have hlow : ∀ p ∈ puts T us, N0 ≤ p.1 := fun p hp => by
    have : p.1 ∈ T.map (·.1) := by rw [← puts_addr (us := us)]; exact List.mem_map_of_mem hp
    obtain ⟨q, hq, e⟩ := List.mem_map.mp this
    rw [← e]; exact H.low q hq
  refine ⟨H.base.keep K (ups_low H.low hU), by rw [made_size]; exact hs, rfl, by rw [made_size]; exact Nat.le_add_right_of_le H.big, fun p hp => ?_, made_nd (by rw [puts_addr]; exact H.nd) hlt, fun p hp => ?_⟩
  · rcases made_mem hp with e | ⟨i, e1, e2⟩
    · rcases puts_mem hU H.nd p e with y | y
      · exact K p.1 p.2 y.2 (H.own p y.1)
      · exact h1 p y
    · rw [e2]; exact h2 i p.2 e1
  · rcases made_mem hp with e | ⟨i, e1, e2⟩
    · exact hlow p e
    · rw [e2]; exact Nat.le_add_right_of_le H.big
structure Grows (L R : List Addr) (C : List Prop) (Z Y : List (List (Code × Pos) → Sem Fin)) (o : Out) : Prop where
  lr : ∃ l r, o.L = l ++ L ∧ o.R = r ++ R ∧ l.length = r.length
  zy : ∃ l r, o.Z = l ++ Z ∧ o.Y = r ++ Y ∧ l.length = r.length
  c : ∃ l, o.C = l ++ C
section
variable {L R : List Addr} {C : List Prop} {Z Y : List (List (Code × Pos) → Sem Fin)} {o : Out}
theorem Grows.stop (h1 : o.L = L) (h2 : o.R = R) (h4 : o.C = C) (h5 : o.Z = Z) (h6 : o.Y = Y) : Grows L R C Z Y o := ⟨⟨[], [], h1, h2, rfl⟩, ⟨[], [], h5, h6, rfl⟩, ⟨[], h4⟩⟩
theorem Grows.addr {a b : Addr} (h : Grows (a :: L) (b :: R) C Z Y o) : Grows L R C Z Y o := by
  obtain ⟨⟨l, r, h1, h2, h3⟩, h4, h5⟩ := h
  exact ⟨⟨l ++ [a], r ++ [b], by simp [h1], by simp [h2], by simp [h3]⟩, h4, h5⟩
theorem Grows.tree {a b : List (Code × Pos) → Sem Fin} (h : Grows L R C (a :: Z) (b :: Y) o) : Grows L R C Z Y o := by
  obtain ⟨h4, ⟨l, r, h1, h2, h3⟩, h5⟩ := h
  exact ⟨h4, ⟨l ++ [a], r ++ [b], by simp [h1], by simp [h2], by simp [h3]⟩, h5⟩
theorem Grows.cut {p : Prop} (h : Grows L R (p :: C) Z Y o) : Grows L R C Z Y o := by
  obtain ⟨h1, h2, ⟨l, h5⟩⟩ := h
  exact ⟨h1, h2, ⟨l ++ [p], by simp [h5]⟩⟩
theorem Grows.eqs (h : Grows L R C Z Y o) (e : o.L = o.R) : L = R := by
  obtain ⟨⟨l, r, h1, h2, h3⟩, _, _⟩ := h
  rw [h1, h2] at e
  exact (List.append_inj e h3).2
theorem Grows.trees (h : Grows L R C Z Y o) (e : o.Z = o.Y) : Z = Y := by
  obtain ⟨_, ⟨l, r, h1, h2, h3⟩, _⟩ := h
  rw [h1, h2] at e
  exact (List.append_inj e h3).2
theorem Grows.cuts (h : Grows L R C Z Y o) (e : AllP o.C) : AllP C := by
  obtain ⟨_, _, ⟨l, h5⟩⟩ := h
  rw [h5] at e
  clear h5
  induction l with
  | nil => exact e
  | cons p r ih => exact ih e.2
end
theorem grows (kt : KT) (ρ : Nat) (D : Code → Sem Fin) (qt : Code → Bool) : ∀ (m : Nat) (os : List Oc) (κ : List Fx) (cc : Code) (t : Sem Fin) (n k : Nat) (T : LG) (L R : List Addr) (c : Nat) (M : List Nat) (C : List Prop) (Z Y : List (List (Code × Pos) → Sem Fin)),
    Grows L R C Z Y (run X kt ρ D qt m os κ cc t n k T L R c M C Z Y) := by
  intro m
  induction m with
  | zero => intro os κ cc t n k T L R c M C Z Y; exact .stop rfl rfl rfl rfl rfl
  | succ m ih =>
    intro os κ cc t n k T L R c M C Z Y
    unfold run
    repeat' (first | exact ih _ _ _ _ _ _ _ _ _ _ _ _ _ _ | exact (ih _ _ _ _ _ _ _ _ _ _ _ _ _ _).addr | exact (ih _ _ _ _ _ _ _ _ _ _ _ _ _ _).tree | exact (ih _ _ _ _ _ _ _ _ _ _ _ _ _ _).cut | exact .stop rfl rfl rfl rfl rfl | split)
structure Inv (n₀ : Nat) (B : List Addr) (c : Nat) (T : LG) : Prop where
  is : ∃ l, T.map (·.1) = l ++ B ∧ l.length = c ∧ ∀ a ∈ l, n₀ ≤ a
theorem nth_map : ∀ {T : LG} {j : Nat} {p : Addr × Obj}, nth T j = some p → (T.map (·.1))[j]? = some p.1
  | [], _, _, h => by cases h
  | q :: r, 0, p, h => by cases h; rfl
  | q :: r, j + 1, p, h => nth_map (T := r) h
theorem note_sub {c j : Nat} {M : List Nat} {i : Nat} (h : i ∈ M) : i ∈ note c j M := by
  unfold note
  split
  · exact h
  · split
    · exact h
    · exact .tail _ h
theorem adr_sub {B : List Addr} {M M' : List Nat} (h : ∀ i ∈ M, i ∈ M') : ∀ a ∈ adr B M, a ∈ adr B M' := by
  intro a ha
  obtain ⟨i, hi, e⟩ := List.mem_filterMap.mp ha
  exact List.mem_filterMap.mpr ⟨i, h i hi, e⟩
theorem Inv.noted {n₀ : Nat} {B : List Addr} {c : Nat} {T : LG} (I : Inv n₀ B c T) {j : Nat} {p : Addr × Obj} (hp : nth T j = some p) (M : List Nat) : n₀ ≤ p.1 ∨ p.1 ∈ adr B (note c j M) := by
  obtain ⟨l, e, hl, hn⟩ := I.is
  have h := nth_map hp
  rw [e] at h
  by_cases q : j < c
  · left
    rw [List.getElem?_append_left (by omega)] at h
    exact hn p.1 (List.mem_of_getElem? h)
  · right
    rw [List.getElem?_append_right (by omega), hl] at h
    have hb : Nat.blt j c = false := by
      cases z : Nat.blt j c with
      | false => rfl
      | true => exact absurd (blt_true z) q
    refine List.mem_filterMap.mpr ⟨j - c, ?_, h⟩
    unfold note
    rw [hb]
    dsimp only
    split
    · rename_i z
      exact List.elem_iff.mp z
    · exact .head _
theorem Inv.put {n₀ : Nat} {B : List Addr} {c : Nat} {T : LG} (I : Inv n₀ B c T) (j : Nat) (o : Obj) : Inv n₀ B c (put T j o) := by
  obtain ⟨l, e, r⟩ := I.is
  exact ⟨l, by rw [put_addr]; exact e, r⟩
theorem Inv.alloc {n₀ : Nat} {B : List Addr} {c : Nat} {T : LG} (I : Inv n₀ B c T) {n : Nat} (h : n₀ ≤ n) (o : Obj) : Inv n₀ B (c + 1) ((n, o) :: T) := by
  obtain ⟨l, e, hl, hn⟩ := I.is
  refine ⟨n :: l, by rw [List.map_cons, e]; rfl, by rw [List.length_cons, hl], fun a ha => ?_⟩
  rcases List.mem_cons.mp ha with q | q
  · subst q; exact h
  · exact hn a q
theorem Inv.puts {n₀ : Nat} {B : List Addr} {c : Nat} {T : LG} (I : Inv n₀ B c T) (us : List (Nat × Obj)) : Inv n₀ B c (puts T us) := by
  obtain ⟨l, e, r⟩ := I.is
  exact ⟨l, by rw [puts_addr]; exact e, r⟩
theorem Inv.made {n₀ : Nat} {B : List Addr} : ∀ {ns : List Obj} {c : Nat} {T : LG} {n : Nat}, Inv n₀ B c T → n₀ ≤ n → Inv n₀ B (c + ns.length) (made n T ns).2
  | [], _, _, _, I, _ => I
  | o :: r, c, T, n, I, h => by
    have := Inv.made (ns := r) (I.alloc h o) (Nat.le_succ_of_le h)
    rw [List.length_cons, show c + (r.length + 1) = c + 1 + r.length by omega]
    exact this
theorem notes_sub : ∀ {us : List (Nat × Obj)} {c : Nat} {M : List Nat} {i : Nat}, i ∈ M → i ∈ notes c us M
  | [], _, _, _, h => h
  | u :: r, c, M, i, h => notes_sub (us := r) (note_sub h)
theorem Inv.noteds {n₀ : Nat} {B : List Addr} {c : Nat} {T : LG} (I : Inv n₀ B c T) : ∀ {us : List (Nat × Obj)} {U : LG}, ups T us = some U → ∀ (M : List Nat), ∀ a ∈ U.map (·.1), n₀ ≤ a ∨ a ∈ adr B (notes c us M)
  | [], U, h, M, a, ha => by cases h; cases ha
  | u :: r, U, h, M, a, ha => by
    unfold ups at h
    cases e1 : nth T u.1 with
    | none => rw [e1] at h; cases h
    | some p =>
      rw [e1] at h
      cases e2 : ups T r with
      | none => rw [e2] at h; cases h
      | some l =>
        rw [e2] at h
        cases h
        rcases List.mem_cons.mp ha with e | e
        · subst e
          rcases I.noted e1 M with z | z
          · exact .inl z
          · exact .inr (adr_sub (M := note c u.1 M) (fun i hi => notes_sub hi) _ z)
        · exact I.noteds e2 _ a e
theorem frames_le (c : Code) : c.frames ≤ 3 := by
  unfold Code.frames
  split <;> first | decide | (split <;> decide)
theorem units_le (c : Code) : c.cUnits ≤ 10 := by
  have := frames_le c
  unfold Code.cUnits
  split <;> omega
theorem ar_units (A : Around) : ∀ κ : List Fx, (ar A κ).units ≤ A.units + 10 * κ.length
  | [] => Nat.le_add_right ..
  | f :: r => by
    have h := ar_units A r
    have h2 := units_le f.c
    show (ar A r).units + f.c.cUnits ≤ A.units + 10 * (r.length + 1)
    omega
theorem short_le : ∀ {m : Nat} {κ : List Fx}, short m κ = true → κ.length ≤ m
  | _, [], _ => Nat.zero_le _
  | 0, _ :: _, h => by cases h
  | m + 1, _ :: r, h => Nat.succ_le_succ (short_le (κ := r) h)
theorem wtC_pos (c : Code) : 1 ≤ wtC c := by
  unfold wtC
  split
  · split <;> decide
  · decide
theorem weight_one {c : Code} (hn : ∀ id a, c ≠ .builtin id a) : c.weight ≤ 1 := by
  have hf : c.frames ≤ 1 := by
    unfold Code.frames
    split <;> first | (exfalso; exact hn _ _ rfl) | (split <;> decide)
  have hc : c.isCreation = false := by unfold Code.isCreation; split <;> first | (exfalso; exact hn _ _ rfl) | rfl
  have hg : c.isGuard = false := by unfold Code.isGuard; split <;> first | (exfalso; exact hn _ _ rfl) | rfl
  have hk : c.isCaller = false := by unfold Code.isCaller; split <;> first | (exfalso; exact hn _ _ rfl) | rfl
  simp [Code.weight, hc, hg, hk]
  exact hf
theorem weight_bi (id : String) (a : Args) : (Code.builtin id a).weight ≤ wtC (.builtin id a) := by
  have hf := frames_le (.builtin id a)
  have h2 : (if (Code.builtin id a).isCreation then 1 else 0) ≤ 1 := by split <;> decide
  have h3 : (if (Code.builtin id a).isGuard then 1 else 0) ≤ 1 := by split <;> decide
  show (Code.builtin id a).frames + (if (Code.builtin id a).isCreation then 1 else 0) + (if (Code.builtin id a).isGuard then 1 else 0) + (if (Code.builtin id a).isCaller then claimMargin else 0) ≤ wtC (.builtin id a)
  by_cases e : id = "claim.caller"
  · have h4 : (if (Code.builtin id a).isCaller then claimMargin else 0) ≤ 300 := by split <;> decide
    have : wtC (.builtin id a) = 400 := by
      subst e
      unfold wtC
      simp
    omega
  · have hk : (Code.builtin id a).isCaller = false := by
      unfold Code.isCaller
      split
      · rename_i h'
        cases h'
        exact absurd rfl e
      · rfl
    have h4 : (if (Code.builtin id a).isCaller then claimMargin else 0) = 0 := by rw [hk]; rfl
    have : 6 ≤ wtC (.builtin id a) := by
      unfold wtC
      split
      · rename_i h; cases h; split <;> decide
      · rename_i h; exact absurd rfl (h _ _)
    omega
theorem weight_wt (c : Code) : c.weight ≤ wtC c := by
  by_cases h : ∃ id a, c = .builtin id a
  · obtain ⟨id, a, rfl⟩ := h
    exact weight_bi id a
  · exact Nat.le_trans (weight_one fun id a e => h ⟨id, a, e⟩) (wtC_pos c)
theorem weight_le {c : Code} (h : plainC c = true) : c.weight ≤ 6 := Nat.le_trans (weight_wt c) (Nat.le_of_ble_eq_true h)
theorem thin_cons {m : Nat} {f : Fx} {r : List Fx} (h : thin m (f :: r) = true) : thin (m - wtC f.c) r = true ∧ wtC f.c ≤ m := by
  unfold thin at h
  split at h
  · rename_i hn; exact ⟨h, Nat.le_of_ble_eq_true hn⟩
  · cases h
theorem thin_depth (A : Around) : ∀ {κ : List Fx} {m : Nat}, thin m κ = true → (ar A κ).depth ≤ A.depth + m
  | [], _, _ => Nat.le_add_right ..
  | f :: r, m, h => by
    have h1 := thin_depth A (thin_cons h).1
    have h2 := (thin_cons h).2
    have h3 := weight_wt f.c
    show (ar A r).depth + f.c.weight ≤ A.depth + m
    omega
theorem thin_len : ∀ {κ : List Fx} {m : Nat}, thin m κ = true → κ.length ≤ m
  | [], _, _ => Nat.zero_le _
  | f :: r, m, h => by
    have h1 := thin_len (thin_cons h).1
    have h2 := (thin_cons h).2
    have h3 := wtC_pos f.c
    show r.length + 1 ≤ m
    omega
theorem room_step {A : Around} {cc : Code} {q : List (Code × Pos) → Sem Fin} {w : String} (hz : q = roomTree w q) (hu : A.units < cLine) {s : Shared} {Q : Fin → Shared → Prop} {E : Value → Shared → Prop}
    (h : wpAt (model pw X.w) A cc (q []) Q E s) : wpAt (model pw X.w) A cc (.stack q) Q E s := by
  intro Γ p hc hΓ
  show Sem.wp _ Γ (q ((Γ.code, p) :: Γ.below)) _ _ p s
  have hs : (((Γ.code, p) :: Γ.below).map (·.1.cUnits)).sum = Γ.units := unitsOf_cons _ _ _
  have hl : ¬ (((Γ.code, p) :: Γ.below).map (·.1.cUnits)).sum ≥ cLine := by
    rw [hs]
    exact Nat.not_le.mpr (Nat.lt_of_le_of_lt hΓ.2.2.2.2 hu)
  have e : q ((Γ.code, p) :: Γ.below) = q [] := by
    have := congrFun hz ((Γ.code, p) :: Γ.below)
    unfold roomTree at this
    rw [if_neg hl] at this
    exact this
  rw [e]
  exact h Γ p hc hΓ
theorem head_step {A : Around} {cc : Code} {q : List (Code × Pos) → Sem Fin} (hz : headTree cc q = constTree (q [(cc, pos0)])) {s : Shared} {Q : Fin → Shared → Prop} {E : Value → Shared → Prop}
    (h : wpAt (model pw X.w) A cc (q [(cc, pos0)]) Q E s) : wpAt (model pw X.w) A cc (.stack q) Q E s := by
  intro Γ p hc hΓ
  show Sem.wp _ Γ (q ((Γ.code, p) :: Γ.below)) _ _ p s
  have e : q ((Γ.code, p) :: Γ.below) = q [(cc, pos0)] := by
    have := congrFun hz ((cc, p) :: Γ.below)
    rw [hc]
    exact this
  rw [e]
  exact h Γ p hc hΓ
theorem comps_step {A : Around} {cc : Code} {m : String} {q : List (Code × Pos) → Sem Fin} {t : Sem Fin} (hz : headTree cc q = compTree m cc t) {s : Shared} {Q : Fin → Shared → Prop} {E : Value → Shared → Prop}
    (h : wpAt (model pw X.w) A cc t Q E s) : wpAt (model pw X.w) A cc (.stack q) Q E s := by
  intro Γ p hc hΓ
  show Sem.wp _ Γ (q ((Γ.code, p) :: Γ.below)) _ _ p s
  have e : q ((Γ.code, p) :: Γ.below) = t := by
    have := congrFun hz ((cc, p) :: Γ.below)
    rw [hc]
    refine this.trans ?_
    unfold compTree
    rw [if_neg (by simp)]
  rw [e]
  exact h Γ p hc hΓ
theorem frame_tree (t : Sem Fin) : Sem.stack (frameTree t) = (enterFrame >>= fun _ => t) := by
  have e : frameTree t = fun st => stackOf st (enterFrame >>= fun _ => t) := by
    funext st
    unfold frameTree
    rw [← PySem.W.R.bindR_eq, ← PySem.W.Fast.te15066281185411960212]
    rfl
  rw [e]
  rfl
theorem frame_step {A : Around} {cc : Code} {q : List (Code × Pos) → Sem Fin} {t : Sem Fin} (hz : q = frameTree t) (hd : A.depth < recursionLimit) {s : Shared} (hl : s.heap.NoLimit) {Q : Fin → Shared → Prop} {E : Value → Shared → Prop}
    (h : wpAt (model pw X.w) A cc t Q E s) : wpAt (model pw X.w) A cc (.stack q) Q E s := by
  rw [hz, frame_tree]
  exact wpAt_bind (wpAt_of_wpAny (wpAny_enterFrame hl hd h))
structure KtOk (X : Cx) (kt : KT) : Prop where
  at_ : ∀ a o, kt.get a = some o → X.h₀.get? a = some o
  noLimit : X.h₀.NoLimit
theorem run_sound {kt : KT} {ρ : Nat} (hk : KtOk X kt) (hA : Fine (ρ + 70) A) {s₀ : Shared} {B : List Addr} : ∀ (m : Nat) (os : List Oc) (κ : List Fx) (cc : Code) (t : Sem Fin) (n k : Nat) (T : LG) (L Rr : List Addr) (c : Nat) (M : List Nat) (C : List Prop) (Z Y : List (List (Code × Pos) → Sem Fin)) (s : Shared) (o : Out),
    run X kt ρ D quietT m os κ cc t n k T L Rr c M C Z Y = o → o.ok = true → o.L = o.R → o.Z = o.Y → AllP o.C → Rep X n k T s → (s₀.heap.objs.size ≤ n ∧ Inv s₀.heap.objs.size B c T ∧ Keep (adr B M) s₀.heap s.heap) →
    (∀ s', Rep X o.n o.k o.T s' → s₀.heap.objs.size ≤ o.n → Keep (adr B o.M) s₀.heap s'.heap → Mean X A R o.κ o.cc o.t s') → Mean X A R κ cc t s := by
  intro m
  induction m with
  | zero =>
    intro os κ cc t n k T L Rr c M C Z Y s o e ok eq zq cs H K F
    subst e
    exact F s H K.1 K.2.2
  | succ m ih =>
    intro os κ cc t n k T L Rr c M C Z Y s o e ok eq zq cs H K F
    have bad : ∀ {P : Prop}, (⟨false, κ, cc, t, n, k, T, L, Rr, c, M, C, Z, Y⟩ : Out) = o → P := fun z => by subst z; cases ok
    cases t with
    | pure fin =>
      cases fin with
      | done fl =>
        cases κ with
        | nil => exact bad e
        | cons f r => exact Mean.done (ih _ _ _ _ _ _ _ _ _ _ _ _ _ _ s o e ok eq zq cs H K F)
      | again c' =>
        cases hq : quietT c' with
        | true => simp only [run, hq] at e; exact Mean.again hq (ih _ _ _ _ _ _ _ _ _ _ _ _ _ _ s o e ok eq zq cs H K F)
        | false => simp only [run, hq] at e; exact bad e
    | raise x =>
      cases κ with
      | nil => exact bad e
      | cons f r => exact Mean.raise (ih _ _ _ _ _ _ _ _ _ _ _ _ _ _ s o e ok eq zq cs H K F)
    | rule tag q => exact Mean.step (fun _ _ h => y_rule h) (ih _ _ _ _ _ _ _ _ _ _ _ _ _ _ s o e ok eq zq cs H K F)
    | «at» p q => exact Mean.step (fun _ _ h => y_at h) (ih _ _ _ _ _ _ _ _ _ _ _ _ _ _ s o e ok eq zq cs H K F)
    | point l q => exact Mean.step (fun _ _ h => y_point h) (ih _ _ _ _ _ _ _ _ _ _ _ _ _ _ s o e ok eq zq cs H K F)
    | ask q => exact Mean.step (fun _ _ h => y_ask h) (ih _ _ _ _ _ _ _ _ _ _ _ _ _ _ s o e ok eq zq cs H K F)
    | fresh q =>
      refine Mean.step (s' := { s with toks := s.toks + 1 }) (fun _ _ h => y_fresh h) ?_
      rw [H.toks]
      exact ih _ _ _ _ _ _ _ _ _ _ _ _ _ _ _ o e ok eq zq cs (H.fresh (k + 1)) K F
    | handled own q =>
      cases own with
      | true => exact bad e
      | false =>
        refine Mean.step (fun _ _ h => y_handled h) ?_
        rw [show ((ar A κ).under cc).handled = (ar A κ).handled from rfl, ar_handled hA.1]
        exact ih _ _ _ _ _ _ _ _ _ _ _ _ _ _ s o e ok eq zq cs H K F
    | load a p q =>
      cases os with
      | nil => exact bad e
      | cons oc os' =>
        cases oc with
        | o j =>
          cases j with
          | zero =>
            cases hb : Nat.blt a N0 with
            | false => simp only [run, hb] at e; exact bad e
            | true =>
              cases ho : kt.get a with
              | none => simp only [run, hb, ho] at e; exact bad e
              | some ob =>
                simp only [run, hb, ho] at e
                exact Mean.step (fun _ _ h => y_load (H.base.old a ob (blt_true hb) (hk.at_ a ob ho)) h) (ih _ _ _ _ _ _ _ _ _ _ _ _ _ _ s o e ok eq zq cs H K F)
          | succ j =>
            cases hp : nth T j with
            | none => simp only [run, hp] at e; exact bad e
            | some p =>
              simp only [run, hp] at e
              have ea : a = p.1 := by
                have G := grows (X := X) kt ρ D quietT m os' κ cc (q p.2) n k T (a :: L) (p.1 :: Rr) c M C Z Y
                rw [e] at G
                exact (List.cons.inj (G.eqs eq)).1
              exact Mean.step (fun _ _ h => y_load (by rw [ea]; exact H.own p (nth_mem hp)) h) (ih _ _ _ _ _ _ _ _ _ _ _ _ _ _ s o e ok eq zq cs H K F)
        | _ => exact bad e
    | alloc ob q =>
      cases hf : ob.isFreed with
      | true => simp only [run, hf] at e; exact bad e
      | false =>
        simp only [run, hf] at e
        refine Mean.step (t' := q n) (s' := { s with heap := s.heap.push ob }) (fun _ _ h => ?_) (ih _ _ _ _ _ _ _ _ _ _ _ _ _ _ _ o e ok eq zq cs (H.alloc hf) ⟨Nat.le_succ_of_le K.1, K.2.1.alloc K.1 ob, fun b o' hb e' => Heap.get?_push_of_some _ (K.2.2 b o' hb e')⟩ F)
        exact wpAt_bind (m := alloc ob) (f := q) (wpAt_of_wpAny (wpAny_alloc (by rw [H.size]; exact h)))
    | update a p f q =>
      cases os with
      | nil => exact bad e
      | cons oc os' =>
        cases oc with
        | o j =>
          cases j with
          | zero => exact bad e
          | succ j =>
            cases hp : nth T j with
            | none => simp only [run, hp] at e; exact bad e
            | some p =>
              cases hf : (f p.2).isFreed with
              | true => simp only [run, hp, hf] at e; exact bad e
              | false =>
                simp only [run, hp, hf] at e
                have ea : a = p.1 := by
                  have G := grows (X := X) kt ρ D quietT m os' κ cc (q ()) n k (put T j (f p.2)) (a :: L) (p.1 :: Rr) c (note c j M) C Z Y
                  rw [e] at G
                  exact (List.cons.inj (G.eqs eq)).1
                obtain ⟨H', K'⟩ := H.update hp hf
                subst ea
                refine Mean.step (t' := q ()) (s' := { s with heap := s.heap.update p.1 f }) (fun _ _ h => wpAt_bind (m := updatePart p.1 _ f) (f := q) (wpAt_of_wpAny (wpAny_updatePart (H.own p (nth_mem hp)) h))) (ih _ _ _ _ _ _ _ _ _ _ _ _ _ _ _ o e ok eq zq cs H' ⟨K.1, K.2.1.put j (f p.2), ?_⟩ F)
                refine fun b o' hb e' => K' b o' (fun z => ?_) (K.2.2 b o' (fun z => hb (adr_sub (fun i hi => note_sub hi) _ z)) e')
                rw [List.mem_singleton] at z
                subst z
                rcases K.2.1.noted hp M with y | y
                · exact absurd (Heap.lt_size e') (Nat.not_lt.mpr y)
                · exact hb y
        | _ => exact bad e
    | call cd hd gd l q =>
      cases os with
      | nil => exact bad e
      | cons oc os' =>
        cases oc with
        | e =>
          cases hm : okMark hd with
          | false => simp only [run, hm] at e; exact bad e
          | true =>
            simp only [run, hm] at e
            exact Mean.call (okMark_ne hm) (Mean.code (κ := ⟨cc, hd, q⟩ :: κ) (ih _ _ _ _ _ _ _ _ _ _ _ _ _ _ s o e ok eq zq cs H K F))
        | v x k' js =>
          cases hd with
          | some _ => exact bad e
          | none =>
            cases hs : sel T js with
            | none => simp only [run, hs] at e; exact bad e
            | some P =>
              simp only [run, hs] at e
              have G := grows (X := X) kt ρ D quietT m os' κ cc (q (.ok (.ret x))) n k' T L Rr c M (CutB X cd x P k k' :: C) Z Y
              rw [e] at G
              refine Mean.call (hd := none) (by intro z; cases z) (codeAny_mono ((G.cuts cs).1 _ s H.base H.toks fun p hp => H.own p (sel_mem hs p hp)) fun r s' z => ?_)
              obtain ⟨rfl, rfl⟩ := z
              exact ih _ _ _ _ _ _ _ _ _ _ _ _ _ _ _ o e ok eq zq cs (H.fresh k') K F
        | g fine x k' js us ns =>
          cases hd with
          | some _ => exact bad e
          | none =>
            cases hh : hdl κ with
            | some _ => simp only [run, hh] at e; exact bad e
            | none =>
              cases hf : (!fine || (plainC cc && thin 60 κ)) with
              | false => simp only [run, hh, hf] at e; exact bad e
              | true =>
                cases hs : sel T js with
                | none => simp only [run, hh, hf, hs] at e; exact bad e
                | some P =>
                  cases hu : ups T us with
                  | none => simp only [run, hh, hf, hs, hu] at e; exact bad e
                  | some U =>
                    simp only [run, hh, hf, hs, hu] at e
                    have G := grows (X := X) kt ρ D quietT m os' κ cc (q x) (made n (puts T us) ns).1 k' (made n (puts T us) ns).2 L Rr (c + ns.length) (notes c us M) (CutG X ρ fine cd x P n k k' U ns :: C) Z Y
                    rw [e] at G
                    have har := ar_handled hA.1 κ
                    refine Mean.call (hd := none) (by intro z; cases z) (codeAny_mono ((G.cuts cs).1 _ s ⟨?_, fun hfine => ⟨?_, ?_, ?_⟩⟩ H.base H.size H.big H.toks fun p hp => H.own p (sel_mem hs p hp)) fun r s' z => ?_)
                    · show ((none : Option Value).or (ar A κ).handled) = none
                      rw [har, hh]; rfl
                    · show ((none : Option Value).or (ar A κ).handled) = none
                      rw [har, hh]; rfl
                    · subst hfine
                      have hf' : plainC cc = true ∧ thin 60 κ = true := by simpa using hf
                      have h1 := thin_depth A hf'.2
                      have h3 := weight_le hf'.1
                      have h2 := hA.2.1
                      show (ar A κ).depth + cc.weight + ρ ≤ 900
                      omega
                    · subst hfine
                      have hf' : plainC cc = true ∧ thin 60 κ = true := by simpa using hf
                      have h1 := ar_units A κ
                      have h3 := thin_len hf'.2
                      have h4 := units_le cc
                      have h2 := hA.2.2
                      show (ar A κ).units + cc.cUnits + 10 * ρ ≤ 9000
                      omega
                    · obtain ⟨rfl, h', rfl, z1, z2, z3, z4⟩ := z
                      refine ih _ _ _ _ _ _ _ _ _ _ _ _ _ _ _ o e ok eq zq cs (H.cut hu z1 z2 z3 z4) ⟨by rw [made_size]; exact Nat.le_add_right_of_le K.1, (K.2.1.puts us).made K.1, ?_⟩ F
                      refine fun b o' hb e' => z4 b o' (fun z => ?_) (K.2.2 b o' (fun z => hb (adr_sub (fun i hi => notes_sub hi) _ z)) e')
                      rcases K.2.1.noteds hu M b z with y | y
                      · exact absurd (Heap.lt_size e') (Nat.not_lt.mpr y)
                      · exact hb y
        | _ => exact bad e
    | stack q =>
      cases os with
      | nil => exact bad e
      | cons oc os' =>
        cases oc with
        | room w =>
          cases hs : short 60 κ with
          | false => simp only [run, hs] at e; exact bad e
          | true =>
            simp only [run, hs] at e
            have G := grows (X := X) kt ρ D quietT m os' κ cc (q []) n k T L Rr c M C (q :: Z) (roomTree w q :: Y)
            rw [e] at G
            have hu := ar_units A κ
            have hl := short_le hs
            have hA2 := hA.2.2
            exact Mean.step (fun _ _ h => room_step (List.cons.inj (G.trees zq)).1 (by show (ar A κ).units + cc.cUnits < 9900; have := units_le cc; omega) h) (ih _ _ _ _ _ _ _ _ _ _ _ _ _ _ s o e ok eq zq cs H K F)
        | frame =>
          cases hs : (plainC cc && thin 60 κ) with
          | false => simp only [run, hs] at e; exact bad e
          | true =>
            cases ho : kt.get 2 with
            | none => simp only [run, hs, ho] at e; exact bad e
            | some ob =>
              simp only [run, hs, ho] at e
              have G := grows (X := X) kt ρ D quietT m os' κ cc (behindLoad ob (q [])) n k T L Rr c M C (q :: Z) (frameTree (behindLoad ob (q [])) :: Y)
              rw [e] at G
              have hs' : plainC cc = true ∧ thin 60 κ = true := by simpa using hs
              have hd := thin_depth A hs'.2
              have hw := weight_le hs'.1
              have hA2 := hA.2.1
              have hl : s.heap.NoLimit := Heap.NoLimit.at hk.noLimit fun o' ho' => H.base.old cStatics o' (by decide) ho'
              exact Mean.step (fun _ _ h => frame_step (List.cons.inj (G.trees zq)).1 (by show (ar A κ).depth + cc.weight < 1000; omega) hl h) (ih _ _ _ _ _ _ _ _ _ _ _ _ _ _ s o e ok eq zq cs H K F)
        | head =>
          have G := grows (X := X) kt ρ D quietT m os' κ cc (q [(cc, pos0)]) n k T L Rr c M C (headTree cc q :: Z) (constTree (q [(cc, pos0)]) :: Y)
          simp only [run] at e
          rw [e] at G
          exact Mean.step (fun _ _ h => head_step (List.cons.inj (G.trees zq)).1 h) (ih _ _ _ _ _ _ _ _ _ _ _ _ _ _ s o e ok eq zq cs H K F)
        | comps w =>
          have G := grows (X := X) kt ρ D quietT m os' κ cc (q []) n k T L Rr c M C (headTree cc q :: Z) (compTree w cc (q []) :: Y)
          simp only [run] at e
          rw [e] at G
          exact Mean.step (fun _ _ h => comps_step (List.cons.inj (G.trees zq)).1 h) (ih _ _ _ _ _ _ _ _ _ _ _ _ _ _ s o e ok eq zq cs H K F)
        | _ => exact bad e
    | _ => exact bad e
end
end
section
noncomputable abbrev evalT : Expr → Env → Sem Value := PySem.W.Fast.tw14044960220447912780
noncomputable abbrev execsT : List Stmt → Env → Sem Flow := PySem.W.Fast.tw12563942051412417395
noncomputable abbrev isTrueT : Expr → Env → Sem Value → Sem Bool := PySem.W.Fast.tw15418851999007992765
noncomputable abbrev assignT : Expr → Env → Value → Sem Unit := PySem.W.Fast.tw17772580674575903948
theorem evalT_eq : eval = evalT := PySem.W.Fast.te14044960220447912780
theorem execsT_eq : execs = execsT := PySem.W.Fast.te12563942051412417395
theorem isTrueT_eq : PySem.isTrue = isTrueT := PySem.W.Fast.te15418851999007992765
theorem assignT_eq : assign = assignT := PySem.W.Fast.te17772580674575903948
noncomputable def pickO : List Nat → LG → LG
  | [], _ => []
  | j :: r, T => match nth T j with
    | some p => p :: pickO r T
    | none => pickO r T
noncomputable def restO : Nat → LG → LG
  | 0, T => T
  | _ + 1, [] => []
  | m + 1, _ :: r => restO m r
noncomputable def ordO (js : List Nat) (m : Nat) (T : LG) : LG := pickO js T ++ restO m T
noncomputable def okO : List Nat → Nat → Bool
  | [], _ => true
  | j :: r, m => match Nat.blt j m with
    | true => match r.elem j with
      | true => false
      | false => okO r m
    | false => false
theorem pickO_mem : ∀ {js : List Nat} {T : LG} {p : Addr × Obj}, p ∈ pickO js T → ∃ j ∈ js, nth T j = some p
  | [], _, _, h => by cases h
  | j :: r, T, p, h => by
    unfold pickO at h
    cases e : nth T j with
    | none => rw [e] at h; obtain ⟨i, hi, z⟩ := pickO_mem h; exact ⟨i, .tail _ hi, z⟩
    | some q =>
      rw [e] at h
      rcases List.mem_cons.mp h with y | y
      · subst y; exact ⟨j, .head _, e⟩
      · obtain ⟨i, hi, z⟩ := pickO_mem y; exact ⟨i, .tail _ hi, z⟩
theorem mem_nth : ∀ {T : LG} {p : Addr × Obj}, p ∈ T → ∃ j, nth T j = some p
  | [], _, h => by cases h
  | q :: r, p, h => by
    rcases List.mem_cons.mp h with y | y
    · subst y; exact ⟨0, rfl⟩
    · obtain ⟨j, z⟩ := mem_nth y; exact ⟨j + 1, z⟩
theorem restO_mem : ∀ {m : Nat} {T : LG} {p : Addr × Obj}, p ∈ restO m T → ∃ j, m ≤ j ∧ nth T j = some p
  | 0, T, p, h => by
    unfold restO at h
    obtain ⟨j, z⟩ := mem_nth h
    exact ⟨j, Nat.zero_le _, z⟩
  | m + 1, [], p, h => by cases h
  | m + 1, q :: r, p, h => by
    obtain ⟨j, hj, z⟩ := restO_mem (m := m) (T := r) h
    exact ⟨j + 1, Nat.succ_le_succ hj, z⟩
theorem nth_inj : ∀ {T : LG} {i j : Nat} {p q : Addr × Obj}, (T.map (·.1)).Nodup → nth T i = some p → nth T j = some q → p.1 = q.1 → i = j
  | [], _, _, _, _, _, h, _, _ => by cases h
  | x :: r, 0, 0, _, _, _, _, _, _ => rfl
  | x :: r, 0, j + 1, p, q, nd, h, h', e => by
    cases h
    exact absurd (List.mem_map.mpr ⟨q, nth_mem (T := r) h', e.symm⟩) (List.nodup_cons.mp nd).1
  | x :: r, i + 1, 0, p, q, nd, h, h', e => by
    cases h'
    exact absurd (List.mem_map.mpr ⟨p, nth_mem (T := r) h, e⟩) (List.nodup_cons.mp nd).1
  | x :: r, i + 1, j + 1, p, q, nd, h, h', e => by rw [nth_inj (T := r) (List.nodup_cons.mp nd).2 h h' e]
theorem pickO_nd {T : LG} {m : Nat} (nd : (T.map (·.1)).Nodup) : ∀ {js : List Nat}, okO js m = true → ((pickO js T).map (·.1)).Nodup
  | [], _ => List.nodup_nil
  | j :: r, h => by
    unfold okO at h
    cases e1 : Nat.blt j m with
    | false => rw [e1] at h; cases h
    | true =>
      rw [e1] at h
      cases e2 : r.elem j with
      | true => rw [e2] at h; cases h
      | false =>
        rw [e2] at h
        have ih := pickO_nd nd (js := r) h
        unfold pickO
        cases e : nth T j with
        | none => exact ih
        | some p =>
          refine List.nodup_cons.mpr ⟨fun z => ?_, ih⟩
          obtain ⟨q, hq, eq⟩ := List.mem_map.mp z
          obtain ⟨i, hi, hn⟩ := pickO_mem hq
          have := nth_inj nd hn e eq
          subst this
          rw [List.elem_iff.mpr hi] at e2
          cases e2
theorem okO_lt {m : Nat} : ∀ {js : List Nat}, okO js m = true → ∀ j ∈ js, j < m
  | [], _, _, h => by cases h
  | i :: r, h, j, hj => by
    unfold okO at h
    cases e1 : Nat.blt i m with
    | false => rw [e1] at h; cases h
    | true =>
      rw [e1] at h
      cases e2 : r.elem i with
      | true => rw [e2] at h; cases h
      | false =>
        rw [e2] at h
        rcases List.mem_cons.mp hj with y | y
        · subst y; exact blt_true e1
        · exact okO_lt h j y
theorem restO_sub : ∀ {m : Nat} {T : LG}, (restO m T).Sublist T
  | 0, T => by unfold restO; exact List.Sublist.refl _
  | m + 1, [] => List.nil_sublist _
  | m + 1, q :: r => (restO_sub (m := m) (T := r)).cons q
theorem Rep.of_nd {X : Cx} {n k : Nat} {T T' : LG} {s : Shared} (H : Rep X n k T s) (h : ∀ p ∈ T', p ∈ T) (nd : (T'.map (·.1)).Nodup) : Rep X n k T' s :=
  ⟨H.base, H.size, H.toks, H.big, fun p hp => H.own p (h p hp), nd, fun p hp => H.low p (h p hp)⟩
theorem ordO_mem {js : List Nat} {m : Nat} {T : LG} {p : Addr × Obj} (h : p ∈ ordO js m T) : p ∈ T := by
  rcases List.mem_append.mp h with y | y
  · obtain ⟨_, _, z⟩ := pickO_mem y; exact nth_mem z
  · exact restO_sub.subset y
theorem Rep.ord {X : Cx} {n k : Nat} {T : LG} {s : Shared} (H : Rep X n k T s) {js : List Nat} {m : Nat} (h : okO js m = true) : Rep X n k (ordO js m T) s := by
  refine H.of_nd (fun p => ordO_mem) ?_
  unfold ordO
  rw [List.map_append]
  refine List.nodup_append.mpr ⟨pickO_nd H.nd h, (restO_sub.map (·.1)).nodup H.nd, ?_⟩
  intro a ha b hb e
  subst e
  obtain ⟨p, hp, e1⟩ := List.mem_map.mp ha
  obtain ⟨q, hq, e2⟩ := List.mem_map.mp hb
  obtain ⟨i, hi, z1⟩ := pickO_mem hp
  obtain ⟨j, hj, z2⟩ := restO_mem hq
  have := nth_inj H.nd z1 z2 (e1.trans e2.symm)
  have := okO_lt h i hi
  omega
theorem Rep.perm {X : Cx} {n k : Nat} {T T' : LG} {s : Shared} (H : Rep X n k T s) (h : T.Perm T') : Rep X n k T' s :=
  H.of_nd (fun _ hp => h.mem_iff.mpr hp) ((h.map (·.1)).nodup_iff.mp H.nd)
theorem Rep.sub {X : Cx} {n k : Nat} {T T' : LG} {s : Shared} (H : Rep X n k T s) (h : T'.Sublist T) : Rep X n k T' s :=
  H.of_nd (fun _ hp => h.subset hp) ((h.map (·.1)).nodup H.nd)
noncomputable def callOf : Sem Fin → Option Code
  | .call c none _ _ _ => some c
  | _ => none
noncomputable def nextOf (r : Result) : Sem Fin → Sem Fin
  | .call _ _ _ _ q => q r
  | t => t
noncomputable def Out.next (o : Out) (r : Result) : Sem Fin := nextOf r o.t
structure Res where
  ok : Bool
  bot : Bool
  thin : Bool
  fin : Option Fin
  call : Option Code
  n : Nat
  k : Nat
  T : LG
  C : List Prop
  L : List Addr
  Z : List (List (Code × Pos) → Sem Fin)
  stk : Bool
noncomputable def isStk : Sem Fin → Bool
  | .stack _ => true
  | _ => false
noncomputable def Out.res (js : List Nat) (m : Nat) (o : Out) : Res := ⟨o.ok && okO js m, o.κ.isEmpty, plainC o.cc && thin 60 o.κ && (hdl o.κ).isNone, finOf o.t, callOf o.t, o.n, o.k, ordO js m o.T, o.C, o.L, o.Z, isStk o.t⟩
noncomputable def Out.ends (o : Out) (fin : Fin) (n k : Nat) (T : LG) (C : List Prop) : Res := ⟨true, true, true, some fin, none, n, k, T, C, o.R, o.Y, false⟩
noncomputable def Out.at (o : Out) (b : Bool) (c : Code) (n k : Nat) (T : LG) (C : List Prop) : Res := ⟨true, b, true, none, some c, n, k, T, C, o.R, o.Y, false⟩
noncomputable def Out.on (o : Out) (b : Bool) (n k : Nat) (T : LG) (C : List Prop) : Res := ⟨true, b, true, none, none, n, k, T, C, o.R, o.Y, true⟩
noncomputable abbrev go (X : Cx) (kt : KT) (ρ m : Nat) (os : List Oc) (κ : List Fx) (cc : Code) (t : Sem Fin) (n k : Nat) (T : LG) : Out := run X kt ρ D quietT m os κ cc t n k T [] [] 0 [] [] [] []
noncomputable abbrev goC (X : Cx) (kt : KT) (ρ m : Nat) (os : List Oc) (c : Code) (n k : Nat) (T : LG) : Out := go X kt ρ m os [] c (D c) n k T
noncomputable abbrev goN (X : Cx) (kt : KT) (ρ m : Nat) (os : List Oc) (o : Out) (r : Result) (n k : Nat) (T : LG) : Out := go X kt ρ m os o.κ o.cc (o.next r) n k T
noncomputable def Ran (X : Cx) (kt : KT) (ρ : Nat) (κ : List Fx) (cc : Code) (t : Sem Fin) (n k : Nat) (T : LG) (o : Out) (js : List Nat) (mm : Nat) (r : Res) : Prop :=
  ∃ m os, go X kt ρ m os κ cc t n k T = o ∧ o.res js mm = r
noncomputable def RunE (X : Cx) (kt : KT) (ρ : Nat) (κ : List Fx) (cc : Code) (t : Sem Fin) (n k : Nat) (T : LG) (js : List Nat) (mm : Nat) (fin : Fin) (n' k' : Nat) (T' : LG) (C : List Prop) : Prop :=
  ∃ o, Ran X kt ρ κ cc t n k T o js mm (o.ends fin n' k' T' C)
theorem RunE.mk {X : Cx} {kt : KT} {ρ n k n' k' mm : Nat} {κ : List Fx} {cc : Code} {t : Sem Fin} {T T' : LG} {js : List Nat} {fin : Fin} {C : List Prop} (m : Nat) (os : List Oc)
    (h : (go X kt ρ m os κ cc t n k T).res js mm = (go X kt ρ m os κ cc t n k T).ends fin n' k' T' C) : RunE X kt ρ κ cc t n k T js mm fin n' k' T' C := ⟨_, m, os, rfl, h⟩
theorem Ran.m {X : Cx} {kt : KT} {ρ n k mm m : Nat} {κ : List Fx} {cc : Code} {t : Sem Fin} {T : LG} {js : List Nat} {os : List Oc} {r : Res} (h : (go X kt ρ m os κ cc t n k T).res js mm = r) : Ran X kt ρ κ cc t n k T (go X kt ρ m os κ cc t n k T) js mm r :=
  ⟨m, os, rfl, h⟩
theorem Ran.mC {X : Cx} {kt : KT} {ρ n k mm m : Nat} {c : Code} {T : LG} {js : List Nat} {os : List Oc} {r : Res} (h : (goC X kt ρ m os c n k T).res js mm = r) : Ran X kt ρ [] c (D c) n k T (goC X kt ρ m os c n k T) js mm r :=
  ⟨m, os, rfl, h⟩
theorem Ran.mN {X : Cx} {kt : KT} {ρ n k mm m : Nat} {o : Out} {q : Result} {T : LG} {js : List Nat} {os : List Oc} {r : Res} (h : (goN X kt ρ m os o q n k T).res js mm = r) : Ran X kt ρ o.κ o.cc (o.next q) n k T (goN X kt ρ m os o q n k T) js mm r :=
  ⟨m, os, rfl, h⟩
theorem AllP.nil : AllP [] := trivial
theorem AllP.cons {p : Prop} {r : List Prop} (h : p) (t : AllP r) : AllP (p :: r) := ⟨h, t⟩
section
variable {X : Cx} {A : Around} {R : Result → Shared → Prop} {kt : KT} {ρ n k n' k' : Nat} {T T' : LG} {C' : List Prop} {s : Shared} {js : List Nat} {mm : Nat} {κ : List Fx} {cc c : Code} {t : Sem Fin} {o : Out} {m : Nat} {os : List Oc}
structure Tells (X : Cx) (A : Around) (R : Result → Shared → Prop) (κ : List Fx) (cc : Code) (t : Sem Fin) (s : Shared) : Prop where
  open_ : Mean X A R κ cc t s
theorem startC {c : Code} (h : Tells X A R [] c (D c) s) : codeAny (model pw X.w) A c R s := Mean.code h.open_
theorem ran_core {b1 b2 b3 : Bool} {x : Option Fin} {y : Option Code} {L : List Addr} {Z : List (List (Code × Pos) → Sem Fin)} (ho : go X kt ρ m os κ cc t n k T = o) (e : o.res js mm = ⟨true, b1, b2, x, y, n', k', T', C', L, Z, b3⟩) (eL : L = o.R) (eZ : Z = o.Y)
    (hk : KtOk X kt) (hA : Fine (ρ + 70) A) (hC : AllP C') (H : Rep X n k T s)
    (F : ∀ s', Rep X n' k' T' s' → Mean X A R o.κ o.cc o.t s') :
    Mean X A R κ cc t s := by
  simp only [Out.res, Res.mk.injEq] at e
  obtain ⟨e1, _, _, _, _, e4, e5, e6, e8, e9, e10, _⟩ := e
  obtain ⟨e1, e1'⟩ := Bool.and_eq_true_iff.mp e1
  refine run_sound (s₀ := s) (B := T.map (·.1)) hk hA m os κ cc t n k T [] [] 0 [] [] [] [] s o ho e1 (e9.trans eL) (e10.trans eZ) (e8 ▸ hC) H ⟨Nat.le_of_eq H.size, ⟨[], rfl, rfl, fun _ h => nomatch h⟩, Keep.refl _ _⟩ fun s' H' h' K' => ?_
  rw [e4, e5] at H'
  have H'' := H'.ord e1'
  rw [e6] at H''
  exact F s' H''
theorem ran {fl : Flow} (e : RunE X kt ρ κ cc t n k T js mm (.done fl) n' k' T' C')
    (hk : KtOk X kt) (hA : Fine (ρ + 70) A) (hC : AllP C') (H : Rep X n k T s) (F : ∀ s', Rep X n' k' T' s' → R (.ok fl) s') :
    Tells X A R κ cc t s := by
  refine ⟨?_⟩
  obtain ⟨o, m, os, ho, e⟩ := e
  refine ran_core ho e rfl rfl hk hA hC H fun s' H' => ?_
  have e3 : finOf o.t = some (.done fl) := congrArg Res.fin e
  have e2 : o.κ = [] := List.isEmpty_iff.mp (congrArg Res.bot e)
  rw [e2]
  cases ht : o.t with
  | pure f =>
    rw [ht] at e3
    cases e3
    exact y_pure (F s' H')
  | _ => rw [ht] at e3; cases e3
theorem ranAgain {c' : Code} (e : RunE X kt ρ κ cc t n k T js mm (.again c') n' k' T' C') (hq : c'.quiet = true)
    (hk : KtOk X kt) (hA : Fine (ρ + 70) A) (hC : AllP C') (H : Rep X n k T s) (F : ∀ s', Rep X n' k' T' s' → codeAny (model pw X.w) A c' R s') :
    Tells X A R κ cc t s := by
  refine ⟨?_⟩
  obtain ⟨o, m, os, ho, e⟩ := e
  refine ran_core ho e rfl rfl hk hA hC H fun s' H' => ?_
  have e3 : finOf o.t = some (.again c') := congrArg Res.fin e
  have e2 : o.κ = [] := List.isEmpty_iff.mp (congrArg Res.bot e)
  rw [e2]
  cases ht : o.t with
  | pure f =>
    rw [ht] at e3
    cases e3
    exact y_pure ⟨hq, F s' H'⟩
  | _ => rw [ht] at e3; cases e3
theorem paused {b1 : Bool} (e : Ran X kt ρ κ cc t n k T o js mm (o.at b1 c n' k' T' C'))
    (hk : KtOk X kt) (hA : Fine (ρ + 70) A) (hC : AllP C') (H : Rep X n k T s)
    (F : ∀ s' A', Fine ρ A' → Rep X n' k' T' s' → codeAny (model pw X.w) A' c (fun r s'' => Tells X A R o.κ o.cc (o.next r) s'') s') :
    Tells X A R κ cc t s := by
  refine ⟨?_⟩
  obtain ⟨m, os, ho, e⟩ := e
  refine ran_core ho e rfl rfl hk hA hC H fun s' H' => ?_
  have e3 : callOf o.t = some c := congrArg Res.call e
  have e2 : (plainC o.cc && thin 60 o.κ && (hdl o.κ).isNone) = true := congrArg Res.thin e
  obtain ⟨e2, e2''⟩ := Bool.and_eq_true_iff.mp e2
  have e2' := Bool.and_eq_true_iff.mp e2
  have z := fun A' a b => codeAny_mono (F s' A' a b) fun _ _ h => h.open_
  unfold Out.next at z
  cases ht : o.t with
  | call c' hd g l q =>
    rw [ht] at e3 z
    cases hd with
    | some _ => cases e3
    | none =>
      cases e3
      refine Mean.call (hd := none) (by intro w; cases w) (z _ ⟨?_, ?_, ?_⟩ H')
      · show ((none : Option Value).or (ar A o.κ).handled) = none
        rw [ar_handled hA.1, Option.isNone_iff_eq_none.mp e2'']; rfl
      · have h1 := thin_depth A e2'.2
        have h3 := weight_le e2'.1
        have h2 := hA.2.1
        show (ar A o.κ).depth + o.cc.weight + ρ ≤ 900
        omega
      · have h1 := ar_units A o.κ
        have h3 := thin_len e2'.2
        have h4 := units_le o.cc
        have h2 := hA.2.2
        show (ar A o.κ).units + o.cc.cUnits + 10 * ρ ≤ 9000
        omega
  | _ => rw [ht] at e3; cases e3
end
section
variable {X : Cx} {A : Around} {R : Result → Shared → Prop} {kt : KT} {ρ n k n' k' : Nat} {T T' : LG} {C' : List Prop} {s : Shared} {js : List Nat} {mm : Nat} {κ : List Fx} {cc c : Code} {t : Sem Fin} {o : Out} {m : Nat} {os : List Oc}
theorem pausedS {b1 : Bool} (e : Ran X kt ρ κ cc t n k T o js mm (o.on b1 n' k' T' C'))
    (hk : KtOk X kt) (hA : Fine (ρ + 70) A) (hC : AllP C') (H : Rep X n k T s) (F : ∀ s', Rep X n' k' T' s' → Tells X A R o.κ o.cc o.t s') : Tells X A R κ cc t s := by
  refine ⟨?_⟩
  obtain ⟨m, os, ho, e⟩ := e
  exact ran_core ho e rfl rfl hk hA hC H fun s' H' => (F s' H').open_
end
noncomputable abbrev compsT : Sem (List Env) := PySem.W.Fast.tw15119167023480647312
theorem comps_nil (k : List Env → Sem Fin) : stackOf [] (PySem.W.R.bindR compsT k) = k [] := by kernel_rfl
theorem Tells.comps {X : Cx} {A : Around} {R : Result → Shared → Prop} {κ : List Fx} {cc : Code} {t : Sem Fin} {s : Shared} (ht : ∃ k, t = PySem.W.R.bindR compsT k) (hcc : ∃ body env, cc = .func body env) (h : Tells X A R κ cc (stackOf [] t) s) : Tells X A R κ cc t s := by
  obtain ⟨k, rfl⟩ := ht
  obtain ⟨body, env, rfl⟩ := hcc
  rw [comps_nil] at h
  refine ⟨?_⟩
  rw [show PySem.W.R.bindR compsT k = (comprehensionsAround >>= k) by rw [PySem.W.Fast.te15119167023480647312, ← PySem.W.R.bindR_eq]; rfl]
  exact wpAt_bind (ks_wpAt_noComps h.open_)
noncomputable def Does (X : Cx) (ρ : Nat) (c : Code) (n k : Nat) (T : LG) (post : Result → Nat → Nat → LG → Prop) : Prop :=
  ∀ A s F, Fine ρ A → Rep X n k (T ++ F) s → codeAny (model pw X.w) A c (fun r s' => ∃ n' k' T', post r n' k' T' ∧ Rep X n' k' (T' ++ F) s') s
theorem Does.use {X : Cx} {ρ : Nat} {c : Code} {n k : Nat} {T : LG} {post : Result → Nat → Nat → LG → Prop} (h : Does X ρ c n k T post) {A : Around} {s : Shared} {F : LG} {R : Result → Shared → Prop}
    (hA : Fine ρ A) (H : Rep X n k (T ++ F) s) (q : ∀ r n' k' T' s', post r n' k' T' → Rep X n' k' (T' ++ F) s' → R r s') : codeAny (model pw X.w) A c R s :=
  codeAny_mono (h A s F hA H) fun r s' z => by
    obtain ⟨n', k', T', z1, z2⟩ := z
    exact q r n' k' T' s' z1 z2
noncomputable def DoesK (X : Cx) (ρ : Nat) (c : Code) (n k : Nat) (T : LG) (P : (Result → Nat → Nat → LG → Prop) → Prop) : Prop :=
  ∀ ⦃A : Around⦄ ⦃s : Shared⦄ ⦃F : LG⦄ ⦃R : Result → Shared → Prop⦄, Fine ρ A → Rep X n k (T ++ F) s → P (fun r n' k' T' => ∀ s', Rep X n' k' (T' ++ F) s' → R r s') → codeAny (model pw X.w) A c R s
theorem Does.k {X : Cx} {ρ : Nat} {c : Code} {n k : Nat} {T : LG} {post : Result → Nat → Nat → LG → Prop} {P : (Result → Nat → Nat → LG → Prop) → Prop} (h : Does X ρ c n k T post)
    (e : ∀ K, P K → ∀ r n' k' T', post r n' k' T' → K r n' k' T') : DoesK X ρ c n k T P :=
  fun _ _ _ _ hA H q => codeAny_mono (h _ _ _ hA H) fun r s' z => by
    obtain ⟨n', k', T', z1, z2⟩ := z
    exact e _ q r n' k' T' z1 s' z2
theorem Fine.mono {ρ ρ' : Nat} {A : Around} (h : Fine ρ A) (l : ρ' ≤ ρ) : Fine ρ' A := ⟨h.1, by have := h.2.1; omega, by have := h.2.2; omega⟩
end
section
open PySem.Calls PyProof.Rows
noncomputable abbrev bi (id : String) (as : List Value) : Code := .call (.builtin id) ⟨as, []⟩
section
variable {X : Cx} {k : Nat} {a b : Int} {t u : Tok}
theorem cut_slot {T : String} {name : Str} {id : String} {B : Builtin} {self : Value} {rest : List Value} {m : Made} {v : Value} {k' : Nat} (slot : Slot T name id) (hT : ∀ s : Shared, s.TypeIs self T)
    (entry : entryFor table id = some B) (args : argsOk id ⟨self :: rest, []⟩) (g : Gives (B ⟨self :: rest, []⟩) m)
    (hm : ∀ (Q : Value → Shared → Prop) (s : Shared), s.toks = k → Q v { s with toks := k' } → m.post Q s) : CutB X (bi id (self :: rest)) v [] k k' := by
  intro A s _ hk _
  refine codeAny_call_builtin slot.plain entry (slot.check _ _ _ _ _ _ _ _ (hT s) args ?_)
  exact g pw X.w A (fun r s' => r = .ok (.ret v) ∧ s' = { s with toks := k' }) s (hm _ s hk ⟨rfl, rfl⟩)
theorem post_int {i : Int} (Q : Value → Shared → Prop) (s : Shared) (h : s.toks = k) (q : Q (.int i k) { s with toks := k + 1 }) : (Made.int i).post Q s := by
  subst h; exact q
theorem post_val {v : Value} (Q : Value → Shared → Prop) (s : Shared) (h : s.toks = k) (q : Q v { s with toks := k }) : (Made.val v).post Q s := by
  subst h; exact q
theorem c_eq {d : Bool} (h : (a == b) = d) : CutB X (bi "int.__eq__" [.int a t, .int b u]) (.bool d) [] k k := by
  subst h; exact cut_slot F.slot_int_eq (fun s => typeIs_int s a t) F.entry_int_eq (F.args_int_eq_2 _ _) (AutoIntG7.int___eq___int_int_0 a t b u) post_val
theorem c_ne {d : Bool} (h : (a != b) = d) : CutB X (bi "int.__ne__" [.int a t, .int b u]) (.bool d) [] k k := by
  subst h; exact cut_slot F.slot_int_ne (fun s => typeIs_int s a t) F.entry_int_ne (F.args_int_ne_2 _ _) (AutoIntG6.int___ne___int_int_0 a t b u) post_val
theorem c_lt {d : Bool} (h : decide (a < b) = d) : CutB X (bi "int.__lt__" [.int a t, .int b u]) (.bool d) [] k k := by
  subst h; exact cut_slot F.slot_int_lt (fun s => typeIs_int s a t) F.entry_int_lt (F.args_int_lt_2 _ _) (AutoIntG1.int___lt___int_int_0 a t b u) post_val
theorem c_ge {d : Bool} (h : decide (a ≥ b) = d) : CutB X (bi "int.__ge__" [.int a t, .int b u]) (.bool d) [] k k := by
  subst h; exact cut_slot F.slot_int_ge (fun s => typeIs_int s a t) F.entry_int_ge (F.args_int_ge_2 _ _) (AutoIntG9.int___ge___int_int_0 a t b u) post_val
theorem c_bool {d : Bool} (h : (a != 0) = d) : CutB X (bi "int.__bool__" [.int a t]) (.bool d) [] k k := by
  subst h; exact cut_slot F.slot_int_bool (fun s => typeIs_int s a t) F.entry_int_bool (F.args_int_bool_1 _) (AutoIntG0.int___bool___int_0 a t) post_val
theorem c_add : CutB X (bi "int.__add__" [.int a t, .int b u]) (.int (a + b) k) [] k (k + 1) :=
  cut_slot F.slot_int_add (fun s => typeIs_int s a t) F.entry_int_add (F.args_int_add_2 _ _) (AutoIntG4.int___add___int_int_0 a t b u) post_int
theorem c_sub : CutB X (bi "int.__sub__" [.int a t, .int b u]) (.int (a - b) k) [] k (k + 1) :=
  cut_slot F.slot_int_sub (fun s => typeIs_int s a t) F.entry_int_sub (F.args_int_sub_2 _ _) (AutoIntG9.int___sub___int_int_0 a t b u) post_int
theorem c_mod (h : (b == 0) = false) : CutB X (bi "int.__mod__" [.int a t, .int b u]) (.int (a.fmod b) k) [] k (k + 1) :=
  cut_slot F.slot_int_mod (fun s => typeIs_int s a t) F.entry_int_mod (F.args_int_mod_2 _ _) (AutoIntG6.int___mod___int_int_1 a t b u (by simp [h])) post_int
theorem c_floordiv (h : (b == 0) = false) (h' : Builtin.divisionGoesByPylong a b = false) : CutB X (bi "int.__floordiv__" [.int a t, .int b u]) (.int (a.fdiv b) k) [] k (k + 1) :=
  cut_slot F.slot_int_floordiv (fun s => typeIs_int s a t) F.entry_int_floordiv (F.args_int_floordiv_2 _ _) (AutoIntG4.int___floordiv___int_int_1 a t b u (by simp [h]) (by simp [h'])) post_int
theorem gives_and : Gives (Builtin.«int.__and__» ⟨[.int a t, .int b u], []⟩) (.int (Builtin.bitAnd a b)) :=
  .of_wp fun M A E s Q h => show wpAny _ _ (do ret (← mkInt (Builtin.bitAnd a b))) _ _ s from wpAny_ret_mkInt h
theorem gives_or : Gives (Builtin.«int.__or__» ⟨[.int a t, .int b u], []⟩) (.int (Builtin.bitOr a b)) :=
  .of_wp fun M A E s Q h => show wpAny _ _ (do ret (← mkInt (Builtin.bitOr a b))) _ _ s from wpAny_ret_mkInt h
theorem c_and : CutB X (bi "int.__and__" [.int a t, .int b u]) (.int (Builtin.bitAnd a b) k) [] k (k + 1) :=
  cut_slot slot_int_and (fun s => typeIs_int s a t) entry_int_and (args_int_and _ _) gives_and post_int
theorem c_or : CutB X (bi "int.__or__" [.int a t, .int b u]) (.int (Builtin.bitOr a b) k) [] k (k + 1) :=
  cut_slot slot_int_or (fun s => typeIs_int s a t) entry_int_or (args_int_or _ _) gives_or post_int
theorem gives_rshift (hn : 0 ≤ b) : Gives (Builtin.«int.__rshift__» ⟨[.int a t, .int b u], []⟩) (.int (a.fdiv (2 ^ b.toNat))) := by
  by_cases hb : b ≥ (Builtin.Int.intBits a : Int)
  · have e : a.fdiv (2 ^ b.toNat) = (if a < 0 then (-1 : Int) else 0) := fdiv_pow_of_bits (by omega)
    rw [e]
    exact AutoIntG9.int___rshift___int_int_1 a t b u (by omega) hb
  · exact AutoIntG0.int___rshift___int_int_2 a t b u (by omega) hb
theorem c_rshift (hn : 0 ≤ b) : CutB X (bi "int.__rshift__" [.int a t, .int b u]) (.int (a.fdiv (2 ^ b.toNat)) k) [] k (k + 1) :=
  cut_slot F.slot_int_rshift (fun s => typeIs_int s a t) F.entry_int_rshift (F.args_int_rshift_2 _ _) (gives_rshift hn) post_int
end
end
section
open PySem.Calls PyProof.Rows
noncomputable def lst (vs : List Value) (e : Nat) : Obj := ⟨.type "list", none, .seq ⟨vs⟩ e, #[]⟩
noncomputable def tup (vs : List Value) : Obj := ⟨.type "tuple", none, .seq ⟨vs⟩ 0, #[]⟩
noncomputable def frm (es : List DictEntry) (e : Nat) : Obj := ⟨.type "frame", none, .dict ⟨es⟩ e, #[]⟩
noncomputable def dct (es : List DictEntry) (e : Nat) : Obj := ⟨.type "dict", none, .dict ⟨es⟩ e, #[]⟩
noncomputable def cel (v : Option Value) : Obj := ⟨.type "cell", none, .cell v, #[]⟩
noncomputable def fld (c : String) (vs : List Value) : Obj := ⟨.type c, none, .fields ⟨vs⟩, #[]⟩
noncomputable abbrev iv (x t : Nat) : Value := .int (.ofNat x) t
noncomputable def hS (X : Cx) (x : Str) : Int := if x.cps.isEmpty then 0 else reduceHash (X.w.params.strHash x.cps)
noncomputable def en (X : Cx) (x : Str) (t : Nat) (v : Value) : DictEntry := ⟨hS X x, .str x t, v⟩
noncomputable def ivs (xs : NN) : List Value := xs.map fun p => iv p.1 p.2
noncomputable def zvs (xs : List (Int × Nat)) : List Value := xs.map fun p => .int p.1 p.2
noncomputable def dcs (ds : List (Nat × Nat × Nat)) : List DictEntry := ds.map fun d => ⟨hashInt (.ofNat d.1), .int (.ofNat d.1) d.2.1, .ref d.2.2⟩
noncomputable def acc (D : Addr) (vs : List Value) (e : Nat) : Obj := ⟨.ref 131, some D, .seq ⟨vs⟩ e, #[]⟩
noncomputable def sd (x : Nat) : Str := ⟨#[48 + x]⟩
noncomputable def rfs (xs : List Addr) : List Value := xs.map .ref
noncomputable abbrev lit (l i : Nat) : Obj := fld "list_iterator" [.ref l, .int (.ofNat i) 0]
noncomputable abbrev rit (x left : Nat) : Obj := fld "range_iterator" [.int (.ofNat x) 0, .int (.ofNat left) 0, .int (.ofNat 1) 0]
noncomputable def nx (l : List Stmt) (i : Nat) : Stmt := (l[i]?).getD (.Pass ⟨0, 0, 0, 0⟩)
noncomputable def st (i : Nat) : Stmt := nx pw.main.body i
noncomputable def fB : Stmt → List Stmt
  | .FunctionDef _ _ b .. => b
  | _ => []
noncomputable def noScope : Scope := ⟨.function, [], false, false, []⟩
noncomputable def fS : Stmt → Scope
  | .FunctionDef _ _ _ _ _ _ s _ _ _ => s
  | _ => noScope
noncomputable def noE : Expr := .Constant .none 0 ⟨0, 0, 0, 0⟩
noncomputable def forT : Stmt → Expr
  | .For t _ _ _ _ => t
  | _ => noE
noncomputable def forB : Stmt → List Stmt
  | .For _ _ b _ _ => b
  | _ => []
noncomputable def whT : Stmt → Expr
  | .While t _ _ _ => t
  | _ => noE
noncomputable def whB : Stmt → List Stmt
  | .While _ b _ _ => b
  | _ => []
noncomputable def asE : Stmt → Expr
  | .Assign _ v _ => v
  | _ => noE
noncomputable def cpS : Expr → Scope
  | .ListComp _ _ s _ => s
  | _ => noScope
noncomputable def envF (i fa cd : Nat) (L : Addr) (cells : List (Str × Addr)) (q : String) : Env :=
  { scope := fS (st i), locals := L, globals := 3, cells := cells, qual := Str.ofString q, func := some fa, code := .ref cd, frame := some L, builtins := 0 }
end
noncomputable def clB : Stmt → List Stmt
  | .ClassDef _ _ _ b .. => b
  | _ => []
noncomputable def aS (i : Nat) : Stmt := nx (clB (st 7)) i
noncomputable def fP : Stmt → Arguments
  | .FunctionDef _ a .. => a
  | _ => { posonlyargs := [], args := [], vararg := none, kwonlyargs := [], kw_defaults := [], kwarg := none, defaults := [] }
noncomputable def qq (l : List Nat) : Str := ⟨⟨l⟩⟩
noncomputable def qe (P : Params) (l : List Nat) (t : Nat) (v : Value) : DictEntry := ⟨PyData.keyHash P (qq l), .str (qq l) t, v⟩
noncomputable def cutF : Str := qq [47,99,108,97,105,109,47,99,117,116,46,112,121]
noncomputable def fo (nm ql : List Nat) (s : Stmt) (cl : List (Str × Addr)) (df : Value) (mn : List Nat) (mt c : Nat) (ct : Value) : Obj := ⟨.type SZ.s7174869446012820540x8, none, .func { name := qq nm, qualname := qq ql, params := fP s, body := .stmts (fB s), scope := fS s, globals := 3, closure := cl, defaults := df, kwdefaults := .none, pyModule := .str (qq mn) mt, code := .ref c, closureTuple := ct }, #[]⟩
noncomputable def co (nm ql : List Nat) (t0 t1 t2 ln ac fl a b : Nat) (v12 v13 v14 v15 : Value) (x t3 : Nat) : Obj := ⟨.type SZ.s5856160107412720595x4, none, .fields #[.str (qq nm) t0, .str (qq ql) t1, .str cutF t2, .int ln 0, .int ac 0, .int 0 0, .int 0 0, .int fl 0, .ref a, .bool true, .int 181 0, .ref b, v12, v13, v14, v15, .int x 0, .int ln 0, .str cutF t3], #[]⟩
noncomputable def k0 (P : Params) : Obj := { cls := .type SZ.s14018661285674007319x4, data := .dict #[qe P [95,95,110,97,109,101,95,95] 1 (.str (qq [98,117,105,108,116,105,110,115]) 160), qe P [95,95,100,111,99,95,95] 2 (.builtin "builtins.__doc__:str#opaque"), qe P [95,95,112,97,99,107,97,103,101,95,95] 3 (.builtin "builtins.__package__:str#opaque"), qe P [95,95,108,111,97,100,101,114,95,95] 4 (.builtin "builtins.__loader__:shared#opaque"), qe P [95,95,115,112,101,99,95,95] 5 (.builtin SZ.s11665532747177232413x24), qe P [95,95,98,117,105,108,100,95,99,108,97,115,115,95,95] 6 (.builtin SZ.s15183661809925369436x15), qe P [95,95,105,109,112,111,114,116,95,95] 7 (.builtin SZ.s13915890719876406383x10), qe P [97,98,115] 8 (.builtin SZ.s13459172003223722735x3), qe P [97,108,108] 9 (.builtin SZ.s10557405761357834076x3), qe P [97,110,121] 10 (.builtin SZ.s4233737765568776869x3), qe P [97,115,99,105,105] 11 (.builtin SZ.s2508922471967985374x5), qe P [98,105,110] 12 (.builtin SZ.s15574269061696679450x3), qe P [98,114,101,97,107,112,111,105,110,116] 13 (.builtin SZ.s6016482663378992977x10), qe P [99,97,108,108,97,98,108,101] 14 (.builtin SZ.s5596568736180474577x8), qe P [99,104,114] 15 (.builtin SZ.s2839554839881490554x3), qe P [99,111,109,112,105,108,101] 16 (.builtin SZ.s725004073602090463x7), qe P [100,101,108,97,116,116,114] 17 (.builtin SZ.s9436932552931045734x7), qe P [100,105,114] 18 (.builtin SZ.s2754603736356183583x3), qe P [100,105,118,109,111,100] 19 (.builtin SZ.s15185746759980889043x6), qe P [101,118,97,108] 20 (.builtin SZ.s8192189862530294059x4), qe P [101,120,101,99] 21 (.builtin SZ.s7038307821325472102x4), qe P [102,111,114,109,97,116] 22 (.builtin SZ.s5662562618415449548x6), qe P [103,101,116,97,116,116,114] 23 (.builtin SZ.s15281542589158584767x7), qe P [103,108,111,98,97,108,115] 24 (.builtin SZ.s17651547275483570877x7), qe P [104,97,115,97,116,116,114] 25 (.builtin SZ.s4036449017235975746x7), qe P [104,97,115,104] 26 (.builtin SZ.s8879979712987360175x4), qe P [104,101,120] 27 (.builtin SZ.s1801250619170735830x3), qe P [105,100] 28 (.builtin SZ.s17659931425627118568x2), qe P [105,110,112,117,116] 29 (.builtin SZ.s6063217899685152688x5), qe P [105,115,105,110,115,116,97,110,99,101] 30 (.builtin SZ.s8008927332132565319x10), qe P [105,115,115,117,98,99,108,97,115,115] 31 (.builtin SZ.s3544116645089599534x10), qe P [105,116,101,114] 32 (.builtin SZ.s13761710972054866084x4), qe P [97,105,116,101,114] 33 (.builtin SZ.s12896375587409280029x5), qe P [108,101,110] 34 (.builtin SZ.s13014049009108672802x3), qe P [108,111,99,97,108,115] 35 (.builtin SZ.s13935586738268321596x6), qe P [109,97,120] 36 (.builtin SZ.s8200498257699607233x3), qe P [109,105,110] 37 (.builtin SZ.s14114244577727609259x3), qe P [110,101,120,116] 38 (.builtin SZ.s1499430450269397089x4), qe P [97,110,101,120,116] 39 (.builtin SZ.s8755793994789770505x5), qe P [111,99,116] 40 (.builtin SZ.s15725212667919936108x3), qe P [111,114,100] 41 (.builtin SZ.s15791221867095933363x3), qe P [112,111,119] 42 (.builtin SZ.s81309575031448614x3), qe P [112,114,105,110,116] 43 (.builtin SZ.s8069831620301644142x5), qe P [114,101,112,114] 44 (.builtin SZ.s10061844253413749634x4), qe P [114,111,117,110,100] 45 (.builtin SZ.s9496514870978017513x5), qe P [115,101,116,97,116,116,114] 46 (.builtin SZ.s8899691144933366716x7), qe P [115,111,114,116,101,100] 47 (.builtin SZ.s15201008993051130160x6), qe P [115,117,109] 48 (.builtin SZ.s741896355592496720x3), qe P [118,97,114,115] 49 (.builtin SZ.s17925004256654032244x4), qe P [78,111,110,101] 50 (.none), qe P [69,108,108,105,112,115,105,115] 51 (.ellipsis), qe P [78,111,116,73,109,112,108,101,109,101,110,116,101,100] 52 (.notImplemented), qe P [70,97,108,115,101] 53 (.bool false), qe P [84,114,117,101] 54 (.bool true), qe P [98,111,111,108] 55 (.type SZ.s11695548795398191787x4), qe P [109,101,109,111,114,121,118,105,101,119] 56 (.type SZ.s4156966113859768872x10), qe P [98,121,116,101,97,114,114,97,121] 57 (.type SZ.s9501651726347032510x9), qe P [98,121,116,101,115] 58 (.type SZ.s15722918466584999320x5), qe P [99,108,97,115,115,109,101,116,104,111,100] 59 (.type SZ.s591115383303110208x11), qe P [99,111,109,112,108,101,120] 60 (.type SZ.s15721156781594690315x7), qe P [100,105,99,116] 61 (.type SZ.s14018661285674007319x4), qe P [101,110,117,109,101,114,97,116,101] 62 (.type SZ.s14340494229221121180x9), qe P [102,105,108,116,101,114] 63 (.type SZ.s13429844117177748173x6), qe P [102,108,111,97,116] 64 (.type SZ.s16463266125957815391x5), qe P [102,114,111,122,101,110,115,101,116] 65 (.type SZ.s4922535414793169389x9), qe P [112,114,111,112,101,114,116,121] 66 (.type SZ.s8101838861749082086x8), qe P [105,110,116] 67 (.type SZ.s7066276694103001551x3), qe P [108,105,115,116] 68 (.type SZ.s9222952809800978799x4), qe P [109,97,112] 69 (.type SZ.s462964344163437139x3), qe P [111,98,106,101,99,116] 70 (.type SZ.s2742458400755230247x6), qe P [114,97,110,103,101] 71 (.type SZ.s1438033511350832697x5), qe P [114,101,118,101,114,115,101,100] 72 (.type SZ.s14365286008749172514x8), qe P [115,101,116] 73 (.type SZ.s3642769012341782148x3), qe P [115,108,105,99,101] 74 (.type SZ.s4674234679698826739x5), qe P [115,116,97,116,105,99,109,101,116,104,111,100] 75 (.type SZ.s16656946322747308186x12), qe P [115,116,114] 76 (.type SZ.s10796804682411823810x3), qe P [115,117,112,101,114] 77 (.type SZ.s4290257624100764138x5), qe P [116,117,112,108,101] 78 (.type SZ.s2766695959194262286x5), qe P [116,121,112,101] 79 (.type SZ.s17162191345867700912x4), qe P [122,105,112] 80 (.type SZ.s14339709457334898076x3), qe P [95,95,100,101,98,117,103,95,95] 81 (.bool true), qe P [66,97,115,101,69,120,99,101,112,116,105,111,110] 82 (.type SZ.s4278001404047624695x13), qe P [66,97,115,101,69,120,99,101,112,116,105,111,110,71,114,111,117,112] 83 (.type SZ.s6585700554429387442x18), qe P [69,120,99,101,112,116,105,111,110] 84 (.type SZ.s5946037652744460706x9), qe P [71,101,110,101,114,97,116,111,114,69,120,105,116] 85 (.type SZ.s7410770068591931388x13), qe P [75,101,121,98,111,97,114,100,73,110,116,101,114,114,117,112,116] 86 (.type SZ.s11817881795495490833x17), qe P [83,121,115,116,101,109,69,120,105,116] 87 (.type SZ.s15679963881808890155x10), qe P [65,114,105,116,104,109,101,116,105,99,69,114,114,111,114] 88 (.type SZ.s3871700062485845797x15), qe P [65,115,115,101,114,116,105,111,110,69,114,114,111,114] 89 (.type SZ.s7689518266570723881x14), qe P [65,116,116,114,105,98,117,116,101,69,114,114,111,114] 90 (.type SZ.s9001593270443806431x14), qe P [66,117,102,102,101,114,69,114,114,111,114] 91 (.type SZ.s6882542574934516792x11), qe P [69,79,70,69,114,114,111,114] 92 (.type SZ.s14403400214490484960x8), qe P [73,109,112,111,114,116,69,114,114,111,114] 93 (.type SZ.s14457978657717015782x11), qe P [76,111,111,107,117,112,69,114,114,111,114] 94 (.type SZ.s1753610191782819921x11), qe P [77,101,109,111,114,121,69,114,114,111,114] 95 (.type SZ.s14119380538032626715x11), qe P [78,97,109,101,69,114,114,111,114] 96 (.type SZ.s11437920000406562045x9), qe P [79,83,69,114,114,111,114] 97 (.type SZ.s10852414792293593619x7), qe P [82,101,102,101,114,101,110,99,101,69,114,114,111,114] 98 (.type SZ.s14816307405966870543x14), qe P [82,117,110,116,105,109,101,69,114,114,111,114] 99 (.type SZ.s8682627914449686677x12), qe P [83,116,111,112,65,115,121,110,99,73,116,101,114,97,116,105,111,110] 100 (.type SZ.s4428170145600203450x18), qe P [83,116,111,112,73,116,101,114,97,116,105,111,110] 101 (.type SZ.s5991306692159431302x13), qe P [83,121,110,116,97,120,69,114,114,111,114] 102 (.type SZ.s16067994140765818257x11), qe P [83,121,115,116,101,109,69,114,114,111,114] 103 (.type SZ.s2327743974964600596x11), qe P [84,121,112,101,69,114,114,111,114] 104 (.type SZ.s2804747833354056582x9), qe P [86,97,108,117,101,69,114,114,111,114] 105 (.type SZ.s6070975301684473832x10), qe P [87,97,114,110,105,110,103] 106 (.type SZ.s14270485950484850486x7), qe P [70,108,111,97,116,105,110,103,80,111,105,110,116,69,114,114,111,114] 107 (.type SZ.s12041534306414923332x18), qe P [79,118,101,114,102,108,111,119,69,114,114,111,114] 108 (.type SZ.s2531307568338490285x13), qe P [90,101,114,111,68,105,118,105,115,105,111,110,69,114,114,111,114] 109 (.type SZ.s631175304937289666x17), qe P [66,121,116,101,115,87,97,114,110,105,110,103] 110 (.type SZ.s5144983644357021410x12), qe P [68,101,112,114,101,99,97,116,105,111,110,87,97,114,110,105,110,103] 111 (.type SZ.s18039099521571816885x18), qe P [69,110,99,111,100,105,110,103,87,97,114,110,105,110,103] 112 (.type SZ.s6011586214260557989x15), qe P [70,117,116,117,114,101,87,97,114,110,105,110,103] 113 (.type SZ.s5430567037509283100x13), qe P [73,109,112,111,114,116,87,97,114,110,105,110,103] 114 (.type SZ.s8117915138073963741x13), qe P [80,101,110,100,105,110,103,68,101,112,114,101,99,97,116,105,111,110,87,97,114,110,105,110,103] 115 (.type SZ.s3423317712779056401x25), qe P [82,101,115,111,117,114,99,101,87,97,114,110,105,110,103] 116 (.type SZ.s2007317383269046180x15), qe P [82,117,110,116,105,109,101,87,97,114,110,105,110,103] 117 (.type SZ.s17481586968713580700x14), qe P [83,121,110,116,97,120,87,97,114,110,105,110,103] 118 (.type SZ.s2450899226349176912x13), qe P [85,110,105,99,111,100,101,87,97,114,110,105,110,103] 119 (.type SZ.s16626165730633575011x14), qe P [85,115,101,114,87,97,114,110,105,110,103] 120 (.type SZ.s14288496050688921416x11), qe P [66,108,111,99,107,105,110,103,73,79,69,114,114,111,114] 121 (.type SZ.s5735081916595925998x15), qe P [67,104,105,108,100,80,114,111,99,101,115,115,69,114,114,111,114] 122 (.type SZ.s3865607918536308442x17), qe P [67,111,110,110,101,99,116,105,111,110,69,114,114,111,114] 123 (.type SZ.s13337502604062700212x15), qe P [70,105,108,101,69,120,105,115,116,115,69,114,114,111,114] 124 (.type SZ.s13114017843053701147x15), qe P [70,105,108,101,78,111,116,70,111,117,110,100,69,114,114,111,114] 125 (.type SZ.s17467278006356818441x17), qe P [73,110,116,101,114,114,117,112,116,101,100,69,114,114,111,114] 126 (.type SZ.s17722149559621369488x16), qe P [73,115,65,68,105,114,101,99,116,111,114,121,69,114,114,111,114] 127 (.type SZ.s7855274175708717672x17), qe P [78,111,116,65,68,105,114,101,99,116,111,114,121,69,114,114,111,114] 128 (.type SZ.s13351283678309829046x18), qe P [80,101,114,109,105,115,115,105,111,110,69,114,114,111,114] 129 (.type SZ.s6668348653404991179x15), qe P [80,114,111,99,101,115,115,76,111,111,107,117,112,69,114,114,111,114] 130 (.type SZ.s12913350958174193794x18), qe P [84,105,109,101,111,117,116,69,114,114,111,114] 131 (.type SZ.s16115879512475548326x12), qe P [73,110,100,101,110,116,97,116,105,111,110,69,114,114,111,114] 132 (.type SZ.s15920661018069861047x16), qe P [95,73,110,99,111,109,112,108,101,116,101,73,110,112,117,116,69,114,114,111,114] 133 (.type SZ.s10779130036587390575x21), qe P [73,110,100,101,120,69,114,114,111,114] 134 (.type SZ.s7801419657504700863x10), qe P [75,101,121,69,114,114,111,114] 135 (.type SZ.s1688129525768580628x8), qe P [77,111,100,117,108,101,78,111,116,70,111,117,110,100,69,114,114,111,114] 136 (.type SZ.s1031832959479892071x19), qe P [78,111,116,73,109,112,108,101,109,101,110,116,101,100,69,114,114,111,114] 137 (.type SZ.s8991790508128307865x19), qe P [80,121,116,104,111,110,70,105,110,97,108,105,122,97,116,105,111,110,69,114,114,111,114] 138 (.type SZ.s14539662485746970245x23), qe P [82,101,99,117,114,115,105,111,110,69,114,114,111,114] 139 (.type SZ.s11643622729373238714x14), qe P [85,110,98,111,117,110,100,76,111,99,97,108,69,114,114,111,114] 140 (.type SZ.s3386828779285465597x17), qe P [85,110,105,99,111,100,101,69,114,114,111,114] 141 (.type SZ.s13042696260734638735x12), qe P [66,114,111,107,101,110,80,105,112,101,69,114,114,111,114] 142 (.type SZ.s18239426817015966623x15), qe P [67,111,110,110,101,99,116,105,111,110,65,98,111,114,116,101,100,69,114,114,111,114] 143 (.type SZ.s1270395311379034370x22), qe P [67,111,110,110,101,99,116,105,111,110,82,101,102,117,115,101,100,69,114,114,111,114] 144 (.type SZ.s10696252587037064777x22), qe P [67,111,110,110,101,99,116,105,111,110,82,101,115,101,116,69,114,114,111,114] 145 (.type SZ.s7852717498200857586x20), qe P [84,97,98,69,114,114,111,114] 146 (.type SZ.s6377248116197321094x8), qe P [85,110,105,99,111,100,101,68,101,99,111,100,101,69,114,114,111,114] 147 (.type SZ.s3834378056692298002x18), qe P [85,110,105,99,111,100,101,69,110,99,111,100,101,69,114,114,111,114] 148 (.type SZ.s17586630440231065808x18), qe P [85,110,105,99,111,100,101,84,114,97,110,115,108,97,116,101,69,114,114,111,114] 149 (.type SZ.s15234114252648025395x21), qe P [69,120,99,101,112,116,105,111,110,71,114,111,117,112] 150 (.type SZ.s8496462677383758984x14), qe P [69,110,118,105,114,111,110,109,101,110,116,69,114,114,111,114] 151 (.type SZ.s10852414792293593619x7), qe P [73,79,69,114,114,111,114] 152 (.type SZ.s10852414792293593619x7), qe P [111,112,101,110] 153 (.builtin SZ.s16789243406116112673x4), qe P [113,117,105,116] 154 (.builtin SZ.s14400166428656793546x20), qe P [101,120,105,116] 155 (.builtin SZ.s5857708277339239366x20), qe P [99,111,112,121,114,105,103,104,116] 156 (.builtin "builtins.copyright#opaque"), qe P [99,114,101,100,105,116,115] 157 (.builtin "builtins.credits#opaque"), qe P [108,105,99,101,110,115,101] 158 (.builtin "builtins.license#opaque"), qe P [104,101,108,112] 159 (.builtin SZ.s7804999707787243718x20)] 159 }
noncomputable def k2 (P : Params) : Obj := { cls := .none, data := .dict #[] }
noncomputable def k3 (P : Params) : Obj := { cls := .type SZ.s14018661285674007319x4, data := .dict #[qe P [95,95,110,97,109,101,95,95] 165 (.str (qq [108,97,119,95,119,107,48,48,48,56,95,48,49]) 361), qe P [95,95,100,111,99,95,95] 166 (.none), qe P [95,95,112,97,99,107,97,103,101,95,95] 167 (.none), qe P [95,95,108,111,97,100,101,114,95,95] 168 (.builtin SZ.s7097527257260152453x26), qe P [95,95,115,112,101,99,95,95] 169 (.none), qe P [95,95,97,110,110,111,116,97,116,105,111,110,115,95,95] 170 (.ref 6), qe P [95,95,98,117,105,108,116,105,110,115,95,95] 171 (.ref 4), qe P [95,95,102,105,108,101,95,95] 173 (.str (qq [47,99,108,97,105,109,47,99,117,116,46,112,121]) 172), qe P [95,95,99,97,99,104,101,100,95,95] 174 (.none), qe P [95,119,97,108,108] 193 (.ref 21), qe P [95,85,110,107,110,111,119,110] 222 (.ref 38), qe P [85,78,75,78,79,87,78] 223 (.ref 44), qe P [95,103,101,116,95,110,97,109,101,95,105,110,102,111] 233 (.ref 51), qe P [69,77,80,84,89,83,84,82,73,78,71] 237 (.str (qq []) 236), qe P [95,65,99,99,117,109,117,108,97,116,111,114] 333 (.ref 131), qe P [69,78,68,77,65,82,75,69,82] 337 (.int 0 336), qe P [78,84,95,79,70,70,83,69,84] 339 (.int 256 338), qe P [73,83,84,69,82,77,73,78,65,76] 346 (.ref 142), qe P [73,83,78,79,78,84,69,82,77,73,78,65,76] 353 (.ref 149), qe P [73,83,69,79,70] 360 (.ref 156), qe P [95,108,97,119,95,99,101,108,108,115] 372 (.ref 163), qe P [95,108,97,119,95,100,114,97,119,110] 383 (.ref 170), qe P [95,108,97,119,95,115,121,109,98,111,108,115] 395 (.ref 177), qe P [95,108,97,119,95,114,101,97,100] 406 (.ref 184), qe P [95,108,97,119,95,110,101,97,114] 416 (.ref 191), qe P [95,108,97,119,95,108,101,115,115] 424 (.ref 198), qe P [95,108,97,119,95,112,101,101,108] 430 (.ref 203), qe P [95,108,97,119,95,99,108,111,99,107] 436 (.ref 208), qe P [95,108,97,119,95,104,111,108,100] 446 (.ref 215), qe P [95,108,97,119,95,112,108,97,121] 452 (.ref 220), qe P [108,97,119] 467 (.ref 227)] 31 }
noncomputable def k50 (P : Params) : Obj := co [95,103,101,116,95,110,97,109,101,95,105,110,102,111] [95,103,101,116,95,110,97,109,101,95,105,110,102,111] 224 225 226 10 2 11 45 46 (.none) (.ref 47) (.ref 48) (.ref 49) 231 232
noncomputable def k51 (P : Params) : Obj := fo [95,103,101,116,95,110,97,109,101,95,105,110,102,111] [95,103,101,116,95,110,97,109,101,95,105,110,102,111] (st 4) [] (.none) [99,112,121,51,49,51,46,100,105,115] 194 50 (.none)
noncomputable def k55 (P : Params) : Obj := { cls := .type SZ.s15660640913423913556x4, data := .cell (some (.ref 131)) }
noncomputable def k60 (P : Params) : Obj := { cls := .type SZ.s2766695959194262286x5, data := .seq #[.int 0 250] }
noncomputable def k67 (P : Params) : Obj := co [95,95,105,110,105,116,95,95] [95,65,99,99,117,109,117,108,97,116,111,114,46,95,95,105,110,105,116,95,95] 251 252 253 20 2 3 62 63 (.none) (.ref 64) (.ref 65) (.ref 66) 257 258
noncomputable def k68 (P : Params) : Obj := fo [95,95,105,110,105,116,95,95] [95,65,99,99,117,109,117,108,97,116,111,114,46,95,95,105,110,105,116,95,95] (aS 0) [((qq [95,95,99,108,97,115,115,95,95]), 55)] (.ref 60) [99,112,121,51,49,51,46,101,109,97,105,108,46,104,101,97,100,101,114] 234 67 (.ref 61)
noncomputable def k74 (P : Params) : Obj := co [112,117,115,104] [95,65,99,99,117,109,117,108,97,116,111,114,46,112,117,115,104] 260 261 262 24 3 3 69 70 (.none) (.ref 71) (.ref 72) (.ref 73) 266 267
noncomputable def k75 (P : Params) : Obj := fo [112,117,115,104] [95,65,99,99,117,109,117,108,97,116,111,114,46,112,117,115,104] (aS 1) [] (.none) [99,112,121,51,49,51,46,101,109,97,105,108,46,104,101,97,100,101,114] 234 74 (.none)
noncomputable def k76 (P : Params) : Obj := { cls := .type SZ.s2766695959194262286x5, data := .seq #[.int 0 269] }
noncomputable def k82 (P : Params) : Obj := co [112,111,112,95,102,114,111,109] [95,65,99,99,117,109,117,108,97,116,111,114,46,112,111,112,95,102,114,111,109] 270 271 272 27 2 3 77 78 (.none) (.ref 79) (.ref 80) (.ref 81) 276 277
noncomputable def k83 (P : Params) : Obj := fo [112,111,112,95,102,114,111,109] [95,65,99,99,117,109,117,108,97,116,111,114,46,112,111,112,95,102,114,111,109] (aS 2) [] (.ref 76) [99,112,121,51,49,51,46,101,109,97,105,108,46,104,101,97,100,101,114] 234 82 (.none)
noncomputable def k127 (P : Params) : Obj := co [112,97,114,116,95,99,111,117,110,116] [95,65,99,99,117,109,117,108,97,116,111,114,46,112,97,114,116,95,99,111,117,110,116] 316 317 318 49 1 3 122 123 (.none) (.ref 124) (.ref 125) (.ref 126) 321 322
noncomputable def k128 (P : Params) : Obj := fo [112,97,114,116,95,99,111,117,110,116] [95,65,99,99,117,109,117,108,97,116,111,114,46,112,97,114,116,95,99,111,117,110,116] (aS 8) [((qq [95,95,99,108,97,115,115,95,95]), 55)] (.none) [99,112,121,51,49,51,46,101,109,97,105,108,46,104,101,97,100,101,114] 234 127 (.ref 121)
noncomputable def k130 (P : Params) : Obj := { cls := .type SZ.s14018661285674007319x4, data := .dict #[qe P [95,95,109,111,100,117,108,101,95,95] 245 (.str (qq [99,112,121,51,49,51,46,101,109,97,105,108,46,104,101,97,100,101,114]) 234), qe P [95,95,102,105,114,115,116,108,105,110,101,110,111,95,95] 249 (.int 18 248), qe P [95,95,105,110,105,116,95,95] 259 (.ref 68), qe P [112,117,115,104] 268 (.ref 75), qe P [112,111,112,95,102,114,111,109] 278 (.ref 83), qe P [112,111,112] 286 (.ref 91), qe P [95,95,108,101,110,95,95] 293 (.ref 98), qe P [95,95,115,116,114,95,95] 300 (.ref 105), qe P [114,101,115,101,116] 308 (.ref 113), qe P [105,115,95,111,110,108,121,119,115] 315 (.ref 120), qe P [112,97,114,116,95,99,111,117,110,116] 323 (.ref 128), qe P [95,95,115,116,97,116,105,99,95,97,116,116,114,105,98,117,116,101,115,95,95] 325 (.ref 129), qe P [95,95,100,105,99,116,95,95] 328 (.ref 132), qe P [95,95,119,101,97,107,114,101,102,95,95] 330 (.ref 133), qe P [95,95,100,111,99,95,95] 331 (.none)] 5 }
noncomputable def k131 (P : Params) : Obj := { cls := .type SZ.s17162191345867700912x4, data := .cls { name := (qq [95,65,99,99,117,109,117,108,97,116,111,114]), bases := [.type SZ.s9222952809800978799x4], mro := [.ref 131, .type SZ.s9222952809800978799x4, .type SZ.s2742458400755230247x6], ns := 130, qualname := (qq [95,65,99,99,117,109,117,108,97,116,111,114]) }, slots := #[some (.ref 52), none, some (.str (qq [95,65,99,99,117,109,117,108,97,116,111,114]) 238), some (.str (qq [95,65,99,99,117,109,117,108,97,116,111,114]) 246), some (.builtin SZ.s896114127876100448x12), some (.bool true)] }
noncomputable def k141 (P : Params) : Obj := co [73,83,84,69,82,77,73,78,65,76] [73,83,84,69,82,77,73,78,65,76] 340 341 342 54 1 3 136 137 (.none) (.ref 138) (.ref 139) (.ref 140) 344 345
noncomputable def k142 (P : Params) : Obj := fo [73,83,84,69,82,77,73,78,65,76] [73,83,84,69,82,77,73,78,65,76] (st 11) [] (.none) [99,112,121,51,49,51,46,116,111,107,101,110] 334 141 (.none)
noncomputable def k148 (P : Params) : Obj := co [73,83,78,79,78,84,69,82,77,73,78,65,76] [73,83,78,79,78,84,69,82,77,73,78,65,76] 347 348 349 56 1 3 143 144 (.none) (.ref 145) (.ref 146) (.ref 147) 351 352
noncomputable def k149 (P : Params) : Obj := fo [73,83,78,79,78,84,69,82,77,73,78,65,76] [73,83,78,79,78,84,69,82,77,73,78,65,76] (st 12) [] (.none) [99,112,121,51,49,51,46,116,111,107,101,110] 334 148 (.none)
noncomputable def k155 (P : Params) : Obj := co [73,83,69,79,70] [73,83,69,79,70] 354 355 356 58 1 3 150 151 (.none) (.ref 152) (.ref 153) (.ref 154) 358 359
noncomputable def k156 (P : Params) : Obj := fo [73,83,69,79,70] [73,83,69,79,70] (st 13) [] (.none) [99,112,121,51,49,51,46,116,111,107,101,110] 334 155 (.none)
noncomputable def k162 (P : Params) : Obj := co [95,108,97,119,95,99,101,108,108,115] [95,108,97,119,95,99,101,108,108,115] 363 364 365 61 2 3 157 158 (.none) (.ref 159) (.ref 160) (.ref 161) 370 371
noncomputable def k163 (P : Params) : Obj := fo [95,108,97,119,95,99,101,108,108,115] [95,108,97,119,95,99,101,108,108,115] (st 15) [] (.none) [108,97,119,95,119,107,48,48,48,56,95,48,49] 361 162 (.none)
noncomputable def k169 (P : Params) : Obj := co [95,108,97,119,95,100,114,97,119,110] [95,108,97,119,95,100,114,97,119,110] 373 374 375 65 1 3 164 165 (.none) (.ref 166) (.ref 167) (.ref 168) 381 382
noncomputable def k170 (P : Params) : Obj := fo [95,108,97,119,95,100,114,97,119,110] [95,108,97,119,95,100,114,97,119,110] (st 16) [] (.none) [108,97,119,95,119,107,48,48,48,56,95,48,49] 361 169 (.none)
noncomputable def k176 (P : Params) : Obj := co [95,108,97,119,95,115,121,109,98,111,108,115] [95,108,97,119,95,115,121,109,98,111,108,115] 384 385 386 73 2 3 171 172 (.none) (.ref 173) (.ref 174) (.ref 175) 393 394
noncomputable def k177 (P : Params) : Obj := fo [95,108,97,119,95,115,121,109,98,111,108,115] [95,108,97,119,95,115,121,109,98,111,108,115] (st 17) [] (.none) [108,97,119,95,119,107,48,48,48,56,95,48,49] 361 176 (.none)
noncomputable def k183 (P : Params) : Obj := co [95,108,97,119,95,114,101,97,100] [95,108,97,119,95,114,101,97,100] 396 397 398 82 2 3 178 179 (.none) (.ref 180) (.ref 181) (.ref 182) 404 405
noncomputable def k184 (P : Params) : Obj := fo [95,108,97,119,95,114,101,97,100] [95,108,97,119,95,114,101,97,100] (st 18) [] (.none) [108,97,119,95,119,107,48,48,48,56,95,48,49] 361 183 (.none)
noncomputable def k190 (P : Params) : Obj := co [95,108,97,119,95,110,101,97,114] [95,108,97,119,95,110,101,97,114] 407 408 409 93 1 3 185 186 (.none) (.ref 187) (.ref 188) (.ref 189) 414 415
noncomputable def k191 (P : Params) : Obj := fo [95,108,97,119,95,110,101,97,114] [95,108,97,119,95,110,101,97,114] (st 19) [] (.none) [108,97,119,95,119,107,48,48,48,56,95,48,49] 361 190 (.none)
noncomputable def k197 (P : Params) : Obj := co [95,108,97,119,95,108,101,115,115] [95,108,97,119,95,108,101,115,115] 417 418 419 99 2 3 192 193 (.none) (.ref 194) (.ref 195) (.ref 196) 422 423
noncomputable def k198 (P : Params) : Obj := fo [95,108,97,119,95,108,101,115,115] [95,108,97,119,95,108,101,115,115] (st 20) [] (.none) [108,97,119,95,119,107,48,48,48,56,95,48,49] 361 197 (.none)
noncomputable def k202 (P : Params) : Obj := co [95,108,97,119,95,112,101,101,108] [95,108,97,119,95,112,101,101,108] 425 426 427 101 2 3 199 200 (.none) (.none) (.none) (.ref 201) 428 429
noncomputable def k203 (P : Params) : Obj := fo [95,108,97,119,95,112,101,101,108] [95,108,97,119,95,112,101,101,108] (st 21) [] (.none) [108,97,119,95,119,107,48,48,48,56,95,48,49] 361 202 (.none)
noncomputable def k207 (P : Params) : Obj := co [95,108,97,119,95,99,108,111,99,107] [95,108,97,119,95,99,108,111,99,107] 431 432 433 118 1 3 204 205 (.none) (.none) (.none) (.ref 206) 434 435
noncomputable def k208 (P : Params) : Obj := fo [95,108,97,119,95,99,108,111,99,107] [95,108,97,119,95,99,108,111,99,107] (st 22) [] (.none) [108,97,119,95,119,107,48,48,48,56,95,48,49] 361 207 (.none)
noncomputable def k214 (P : Params) : Obj := co [95,108,97,119,95,104,111,108,100] [95,108,97,119,95,104,111,108,100] 437 438 439 135 2 3 209 210 (.none) (.ref 211) (.ref 212) (.ref 213) 444 445
noncomputable def k215 (P : Params) : Obj := fo [95,108,97,119,95,104,111,108,100] [95,108,97,119,95,104,111,108,100] (st 23) [] (.none) [108,97,119,95,119,107,48,48,48,56,95,48,49] 361 214 (.none)
noncomputable def k219 (P : Params) : Obj := co [95,108,97,119,95,112,108,97,121] [95,108,97,119,95,112,108,97,121] 447 448 449 140 6 3 216 217 (.none) (.none) (.none) (.ref 218) 450 451
noncomputable def k220 (P : Params) : Obj := fo [95,108,97,119,95,112,108,97,121] [95,108,97,119,95,112,108,97,121] (st 24) [] (.none) [108,97,119,95,119,107,48,48,48,56,95,48,49] 361 219 (.none)
noncomputable def k226 (P : Params) : Obj := co [108,97,119] [108,97,119] 453 454 455 158 1 3 221 222 (.none) (.ref 223) (.ref 224) (.ref 225) 465 466
noncomputable def k227 (P : Params) : Obj := fo [108,97,119] [108,97,119] (st 25) [] (.none) [108,97,119,95,119,107,48,48,48,56,95,48,49] 361 226 (.none)
noncomputable def kAll (P : Params) : KT := (.node (some (k0 P)) (.node none (.node (some (k3 P)) (.node none (.node none (.node none (.node none (.node (some (k127 P)) .nil .nil) (.node (some (k191 P)) .nil .nil)) .nil) (.node none (.node none .nil (.node (some (k207 P)) .nil .nil)) .nil)) (.node none .nil (.node (some (k55 P)) (.node none .nil (.node (some (k215 P)) .nil .nil)) (.node none (.node (some (k183 P)) .nil .nil) .nil)))) (.node none (.node none (.node none (.node (some (k67 P)) (.node (some (k131 P)) .nil .nil) .nil) (.node none (.node (some (k163 P)) .nil .nil) (.node (some (k227 P)) .nil .nil))) (.node (some (k51 P)) (.node (some (k83 P)) .nil .nil) .nil)) (.node none (.node none (.node (some (k75 P)) .nil (.node (some (k203 P)) .nil .nil)) .nil) (.node none (.node none (.node (some (k155 P)) .nil .nil) (.node (some (k219 P)) .nil .nil)) .nil)))) (.node none (.node none (.node none .nil (.node none .nil (.node none (.node (some (k177 P)) .nil .nil) .nil))) (.node none (.node none .nil (.node none (.node (some (k169 P)) .nil .nil) .nil)) .nil)) (.node none (.node none (.node none (.node none .nil (.node (some (k197 P)) .nil .nil)) .nil) (.node none (.node none (.node (some (k149 P)) .nil .nil) .nil) .nil)) (.node none (.node none (.node none (.node (some (k141 P)) .nil .nil) .nil) .nil) .nil)))) (.node (some (k2 P)) (.node none (.node none (.node none (.node none (.node none (.node (some (k128 P)) .nil .nil) .nil) .nil) (.node none (.node none .nil (.node (some (k208 P)) .nil .nil)) (.node none (.node (some (k176 P)) .nil .nil) .nil))) (.node none .nil (.node none .nil (.node none (.node (some (k184 P)) .nil .nil) .nil)))) (.node none (.node none (.node none (.node (some (k68 P)) .nil .nil) .nil) (.node none (.node none (.node (some (k148 P)) .nil .nil) .nil) .nil)) (.node none (.node none (.node (some (k76 P)) .nil .nil) .nil) (.node (some (k60 P)) (.node none (.node (some (k156 P)) .nil .nil) (.node (some (k220 P)) .nil .nil)) .nil)))) (.node none (.node none (.node none (.node none (.node none (.node (some (k130 P)) .nil .nil) .nil) (.node none (.node (some (k162 P)) .nil .nil) (.node (some (k226 P)) .nil .nil))) (.node (some (k50 P)) (.node (some (k82 P)) .nil .nil) .nil)) (.node none (.node none (.node (some (k74 P)) .nil (.node (some (k202 P)) .nil .nil)) (.node none (.node (some (k170 P)) .nil .nil) .nil)) .nil)) (.node none (.node none (.node none (.node none .nil (.node (some (k198 P)) .nil .nil)) .nil) (.node none (.node none .nil (.node (some (k214 P)) .nil .nil)) .nil)) (.node none (.node none (.node none (.node (some (k142 P)) .nil .nil) .nil) .nil) (.node none .nil (.node none (.node (some (k190 P)) .nil .nil) .nil)))))))
noncomputable abbrev kt (X : Cx) : KT := kAll X.w.params
section
open PySem.Calls PyProof.Rows
section
variable {X : Cx} {k n ρ e : Nat} {t u : Tok}
theorem cut_any {T : String} {name : Str} {id : String} {B : Builtin} {self : Value} {rest : List Value} {A : Around} {s : Shared} {R : Result → Shared → Prop} (slot : Slot T name id) (hT : s.TypeIs self T)
    (entry : entryFor table id = some B) (args : argsOk id ⟨self :: rest, []⟩)
    (hc : wpAny (model pw X.w) A.in1 (B ⟨self :: rest, []⟩) (fun fin s' => ∃ v, fin = .done (.ret v) ∧ R (.ok (.ret v)) s') (fun x s' => R (.error x) s') s) : codeAny (model pw X.w) A (bi id (self :: rest)) R s := by
  refine codeAny_call_builtin slot.plain entry (slot.check _ _ _ _ _ _ _ _ hT args (wpAny_mono hc (fun fin s' h' => ?_) fun _ _ h' => h'))
  obtain ⟨v, rfl, hv⟩ := h'; exact hv
theorem meets_any {T : String} {name : Str} {id : String} {B : Builtin} {self : Value} {rest : List Value} {A : Around} {s : Shared} {R : Result → Shared → Prop} {S : PySem.Spec} (slot : Slot T name id) (hT : s.TypeIs self T)
    (entry : entryFor table id = some B) (args : argsOk id ⟨self :: rest, []⟩) (g : Meets (B ⟨self :: rest, []⟩) S) (h : S A R s) : codeAny (model pw X.w) A (bi id (self :: rest)) R s :=
  codeAny_call_builtin slot.plain entry (slot.check _ _ _ _ _ _ _ _ hT args (g pw X.w A R s h))
theorem lst_typeIs {s : Shared} {l : Addr} {vs : List Value} (h : s.heap.get? l = some (lst vs e)) : s.TypeIs (.ref l) "list" := ⟨_, h, rfl⟩
theorem fld_typeIs {s : Shared} {l : Addr} {c : String} {vs : List Value} (h : s.heap.get? l = some (fld c vs)) : s.TypeIs (.ref l) c := ⟨_, h, rfl⟩
theorem upd_ok {s : Shared} {a : Addr} {o o' : Obj} {f : Obj → Obj} (ho : s.heap.get? a = some o) (e : f o = o') (hf : o'.isFreed = false) :
    (s.heap.update a f).objs.size = s.heap.objs.size ∧ (s.heap.update a f).get? a = some o' ∧ Keep [a] s.heap (s.heap.update a f) := by
  have hs : Heap.SameBut a s.heap (s.heap.update a f) := Heap.SameBut.update ..
  subst e
  exact ⟨hs.1, Heap.get?_update_self f ho hf, fun b o hb e => (hs.2 b fun z => hb (by rw [z]; exact .head _)).trans e⟩
theorem g_upd {s : Shared} {a : Addr} {o o' : Obj} {f : Obj → Obj} {x : Result} (ho : s.heap.get? a = some o) (e : f o = o') (hf : o'.isFreed = false) (hn : s.heap.objs.size = n) (hk : s.toks = k) :
    x = x ∧ ∃ h', { s with heap := s.heap.update a f } = { s with heap := h', toks := k } ∧ h'.objs.size = n + ([] : List Obj).length ∧ (∀ p ∈ [(a, o')], h'.get? p.1 = some p.2) ∧ (∀ i o, ([] : List Obj)[i]? = some o → h'.get? (n + i) = some o) ∧
      Keep ([(a, o')].map (·.1)) s.heap h' := by
  obtain ⟨h1, h2, h3⟩ := upd_ok ho e hf
  refine ⟨rfl, _, by subst hk; rfl, h1.trans hn, fun p hp => ?_, fun i o z => (nomatch z), h3⟩
  rw [List.mem_singleton] at hp
  subst hp
  exact h2
theorem c_getZ {l : Addr} {vs : List Value} {z : Int} {x : Value} (h : vs[z.toNat]? = some x) (h0 : 0 ≤ z) (hi : z < 2 ^ 63) : CutB X (bi "list.__getitem__" [.ref l, .int z t]) x [(l, lst vs e)] k k := by
  intro A s _ hk hP
  have hl := hP _ (.head _)
  refine cut_any slot_list_getitem (lst_typeIs hl) entry_list_getitem (args_list_getitem _ _) ?_
  show wpAny _ _ (Builtin.List.listSubscript? (.int z t) >>= _) _ _ s
  refine wpAny_bind (wpAny_listSubscript_int (fitsIndex_of h0 hi) ?_)
  clear hi
  obtain ⟨i, rfl⟩ := Int.eq_ofNat_of_zero_le h0
  have h' : vs[i]? = some x := h
  show wpAny _ _ ((seqItemAt l i >>= fun r => pure (r.map (i, ·))) >>= _) _ _ s
  refine wpAny_bind (wpAny_bind (wpAny_seqItemAt hl rfl (wpAny_pure ?_)))
  rw [show (⟨vs⟩ : Array Value)[i]? = some x by simpa using h']
  have fin : (Except.ok (.ret x) : Result) = .ok (.ret x) ∧ s = { s with toks := k } := ⟨rfl, by subst hk; rfl⟩
  first
    | exact wpAny_bind (wpAny_pure (wpAny_pure ⟨x, rfl, fin⟩))
    | exact wpAny_pure ⟨x, rfl, fin⟩
theorem c_get {l : Addr} {vs : List Value} {i : Nat} {x : Value} (h : vs[i]? = some x) (hi : i < 1000) : CutB X (bi "list.__getitem__" [.ref l, iv i t]) x [(l, lst vs e)] k k :=
  c_getZ (z := Int.ofNat i) h (Int.natCast_nonneg i) (Int.lt_trans (Int.ofNat_lt.mpr hi) (by decide))
theorem c_setZ {l : Addr} {vs : List Value} {z : Int} {v : Value} (h : z.toNat < vs.length) (h0 : 0 ≤ z) (hi : z < 2 ^ 63) : CutG X ρ false (bi "list.__setitem__" [.ref l, .int z t, v]) (.ok (.ret .none)) [(l, lst vs e)] n k k [(l, lst (vs.set z.toNat v) e)] [] := by
  intro A s _ _ hn _ hk hP
  have hl := hP _ (.head _)
  refine cut_any slot_list_setitem (lst_typeIs hl) entry_list_setitem (args_list_setitem _ _ _) ?_
  show wpAny _ _ (Builtin.List.listSubscript? (.int z t) >>= _) _ _ s
  refine wpAny_bind (wpAny_listSubscript_int (fitsIndex_of h0 hi) ?_)
  clear hi
  obtain ⟨i, rfl⟩ := Int.eq_ofNat_of_zero_le h0
  have h' : i < vs.length := h
  show wpAny _ _ ((seqItemAt l i >>= fun r => pure (r.map (i, ·))) >>= _) _ _ s
  refine wpAny_bind (wpAny_bind (wpAny_seqItemAt hl rfl (wpAny_pure ?_)))
  rw [show (⟨vs⟩ : Array Value)[i]? = some vs[i] by simp [h']]
  show wpAny _ _ (setSeqItemAt l i v >>= _) _ _ s
  have fin := g_upd (o' := lst (vs.set i v) e) (f := Obj.mapSeq (·.setIfInBounds i v)) (x := .ok (.ret .none)) hl (by simp [lst, Obj.mapSeq]) rfl hn hk
  refine wpAny_bind (wpAny_setSeqItemAt hl rfl ?_)
  first
    | exact wpAny_bind (wpAny_pure (wpAny_pure ⟨.none, rfl, fin⟩))
    | exact wpAny_pure ⟨.none, rfl, fin⟩
theorem c_set {l : Addr} {vs : List Value} {i : Nat} {v : Value} (h : i < vs.length) (hi : i < 1000) : CutG X ρ false (bi "list.__setitem__" [.ref l, iv i t, v]) (.ok (.ret .none)) [(l, lst vs e)] n k k [(l, lst (vs.set i v) e)] [] :=
  c_setZ (z := Int.ofNat i) h (Int.natCast_nonneg i) (Int.lt_trans (Int.ofNat_lt.mpr hi) (by decide))
theorem c_app {l : Addr} {vs : List Value} {v : Value} (h : vs.length < 1000) : CutG X ρ false (bi "list.append" [.ref l, v]) (.ok (.ret .none)) [(l, lst vs e)] n k k [(l, lst (vs ++ [v]) (e + 1))] [] := by
  intro A s _ _ hn _ hk hP
  have hl := hP _ (.head _)
  refine cut_any slot_list_append (lst_typeIs hl) entry_list_append (args_list_append _ _) ?_
  have fin := g_upd (o' := lst (vs ++ [v]) (e + 1)) (f := Obj.mapSeq (·.push v)) (x := .ok (.ret .none)) hl (by simp [lst, Obj.mapSeq]) rfl hn hk
  show wpAny _ _ (updateSeq l (·.push v) >>= fun _ => ret .none) _ _ s
  have hz : (⟨vs⟩ : Array Value).size ≤ sizeLine := by
    show vs.length ≤ sizeLine
    rw [sizeLine_eq]; omega
  refine wpAny_bind (wpAny_updateSeq hl rfl (hz := hz) (_hz' := by rw [Array.size_push]; omega) (wpAny_pure ⟨.none, rfl, fin⟩))
theorem fun_any {id : String} {b : Builtin} {args : List Value} {A : Around} {s : Shared} {R : Result → Shared → Prop} (hk : builtinKind id = none) (hp : plainId id = true)
    (hb : entryFor table id = some b) (ha : argsOk id ⟨args, []⟩)
    (hc : wpAny (model pw X.w) A.in1 (b ⟨args, []⟩) (fun fin s' => ∃ v, fin = .done (.ret v) ∧ R (.ok (.ret v)) s') (fun x s' => R (.error x) s') s) : codeAny (model pw X.w) A (bi id args) R s := by
  refine codeAny_call_builtin hp hb ?_
  have hfin := wpAny_mono hc (Q' := fun fin s' => match fin with
      | .done f => R (.ok f) s'
      | .again c' => c'.quiet = true ∧ codeAny (model pw X.w) A c' R s')
    (fun fin s' h' => by obtain ⟨v, rfl, hv⟩ := h'; exact hv) fun _ _ h' => h'
  simp only [checkBuiltinCall, hk]
  cases hsig : Manifest.signature? id with
  | none => exact wpAny_pure hfin
  | some sig =>
    simp only [argsOk, hsig] at ha
    have h2 : Bind.checkArgs id sig ⟨args, []⟩ = pure () := ha
    show wpAny _ A.in1 (Bind.checkArgs id sig ⟨args, []⟩) _ _ s
    rw [h2]; exact wpAny_pure hfin
theorem c_len {l : Addr} {vs : List Value} (h : vs.length < 1000) : CutB X (bi "len" [.ref l]) (iv vs.length (k + 1)) [(l, lst vs e)] k (k + 2) := by
  intro A s _ hk hP
  have hl := hP _ (.head _)
  have hl' : s.heap.IsList l ⟨vs⟩ := ⟨_, hl, rfl, _, rfl⟩
  refine fun_any kind_len plain_len entry_len (args_len1 _) ?_
  refine wpAny_len_body_list hl' (by show ((vs.length : Nat) : Int) < 2 ^ 63; omega) ?_
  subst hk
  exact ⟨rfl, rfl⟩
theorem two_more {s : Shared} {h : Heap} {U : LG} {o1 o2 : Obj} {x : Result} (hn : h.objs.size = n) (hk : s.toks = k) (f1 : o1.isFreed = false) (f2 : o2.isFreed = false) (hU : ∀ p ∈ U, h.get? p.1 = some p.2) (K : Keep (U.map (·.1)) s.heap h) :
    x = x ∧ ∃ h', { s with heap := (h.push o1).push o2 } = { s with heap := h', toks := k } ∧ h'.objs.size = n + [o1, o2].length ∧ (∀ p ∈ U, h'.get? p.1 = some p.2) ∧ (∀ i o, [o1, o2][i]? = some o → h'.get? (n + i) = some o) ∧
      Keep (U.map (·.1)) s.heap h' := by
  refine ⟨rfl, (h.push o1).push o2, by rw [← hk], by rw [Heap.size_push, Heap.size_push, hn]; rfl, fun p hp => Heap.get?_push_of_some _ (Heap.get?_push_of_some _ (hU p hp)), fun i o z => ?_, fun b o hb e => Heap.get?_push_of_some _ (Heap.get?_push_of_some _ (K b o hb e))⟩
  match i with
  | 0 =>
    cases z
    refine Heap.get?_push_of_some _ ?_
    rw [← hn]; exact Heap.get?_push_size _ f1
  | 1 =>
    cases z
    have : n + 1 = (h.push o1).objs.size := by rw [Heap.size_push, hn]
    rw [this]; exact Heap.get?_push_size _ f2
  | i + 2 => simp at z
theorem c_next {it l : Addr} {vs : List Value} {i : Nat} {x : Value} (h : vs[i]? = some x) : CutG X ρ false (bi "list_iterator.__next__" [.ref it]) (.ok (.ret x)) [(it, lit l i), (l, lst vs e)] n k k [(it, lit l (i + 1))] [] := by
  intro A s _ _ hn _ hk hP
  have hi := hP _ (.head _)
  have hl := hP _ (.tail _ (.head _))
  refine cut_any slot_listiter_next (fld_typeIs hi) entry_listiter_next (args_listiter_next _) ?_
  show wpAny _ _ (field (.ref it) 0 >>= _) _ _ s
  refine wpAny_bind (wpAny_field hi rfl (x := .ref l) rfl ?_)
  show wpAny _ _ (if (Value.ref l == Value.none) = true then _ else _) _ _ s
  rw [if_neg (show ¬ ((Value.ref l == Value.none) = true) from Bool.false_ne_true)]
  show wpAny _ _ (field (.ref it) 1 >>= _) _ _ s
  refine wpAny_bind (wpAny_field hi rfl (x := .int (.ofNat i) 0) rfl ?_)
  show wpAny _ _ (seqItems? (.ref l) >>= _) _ _ s
  refine wpAny_bind (wpAny_seqItems hl rfl ?_)
  have e1 : (⟨vs⟩ : Array Value)[(Int.ofNat i).toNat]? = some x := by simpa using h
  simp only [e1]
  have fin := g_upd (o' := lit l (i + 1)) (f := Obj.mapFields (·.setIfInBounds 1 (rawInt (.ofNat i + 1)))) (x := .ok (.ret x)) hi (by simp [lit, fld, Obj.mapFields, rawInt]) rfl hn hk
  exact wpAny_bind (wpAny_setField hi rfl (by simp) (wpAny_pure ⟨x, rfl, fin⟩))
theorem c_end {it l : Addr} {vs : List Value} {i : Nat} (h : vs.length ≤ i) : CutG X ρ false (bi "list_iterator.__next__" [.ref it]) (.error (.ref (n + 1))) [(it, lit l i), (l, lst vs e)] n k k
    [(it, fld "list_iterator" [.none, .int (.ofNat i) 0])] [tup [], fld "StopIteration" [.ref n, .none, .none, .none, .bool false, .none]] := by
  intro A s hA _ hn _ hk hP
  have hi := hP _ (.head _)
  have hl := hP _ (.tail _ (.head _))
  refine cut_any slot_listiter_next (fld_typeIs hi) entry_listiter_next (args_listiter_next _) ?_
  show wpAny _ _ (field (.ref it) 0 >>= _) _ _ s
  refine wpAny_bind (wpAny_field hi rfl (x := .ref l) rfl ?_)
  show wpAny _ _ (if (Value.ref l == Value.none) = true then _ else _) _ _ s
  rw [if_neg (show ¬ ((Value.ref l == Value.none) = true) from Bool.false_ne_true)]
  show wpAny _ _ (field (.ref it) 1 >>= _) _ _ s
  refine wpAny_bind (wpAny_field hi rfl (x := .int (.ofNat i) 0) rfl ?_)
  show wpAny _ _ (seqItems? (.ref l) >>= _) _ _ s
  refine wpAny_bind (wpAny_seqItems hl rfl ?_)
  have e1 : (⟨vs⟩ : Array Value)[(Int.ofNat i).toNat]? = none := by simpa using h
  simp only [e1]
  obtain ⟨h1, h2, h3⟩ := upd_ok (o' := fld "list_iterator" [.none, .int (.ofNat i) 0]) (f := Obj.mapFields (·.setIfInBounds 0 .none)) hi (by simp [lit, fld, Obj.mapFields]) rfl
  refine wpAny_bind (wpAny_rule (wpAny_bind (wpAny_setField hi rfl (by simp) ?_)))
  show wpAny _ _ (newExc (.type "StopIteration") [] >>= _) _ _ _
  refine wpAny_bind ?_
  simp only [newExc, newTuple]
  refine wpAny_bind (wpAny_newObj_type ?_ (by size_fits))
  refine wpAny_bind (m := firstArgMember _ _) (wpAny_of_eq (a := Value.none) (by first | rfl | (simp only [firstArgMember]; rfl)) ?_)
  refine wpAny_newObj_type ?_ (by size_fits)
  simp only [raiseNew]
  refine wpAny_bind (wpAny_handled ?_)
  rw [show A.in1.handled = none from hA.1]
  refine wpAny_bind (wpAny_pure (wpAny_throw ?_))
  have fin := two_more (s := s) (h := s.heap.update it (Obj.mapFields (·.setIfInBounds 0 .none))) (U := [(it, fld "list_iterator" [.none, .int (.ofNat i) 0])]) (x := .error (.ref (n + 1)))
    (o1 := tup []) (o2 := fld "StopIteration" [.ref n, .none, .none, .none, .bool false, .none]) (h1.trans hn) hk rfl rfl (fun p hp => by rw [List.mem_singleton] at hp; subst hp; exact h2) h3
  have em : ownMembersOf (Value.type "StopIteration") [] = #[] := by kernel_rfl
  simp only [Heap.size_push, h1, hn, em, Array.append_empty]
  exact ⟨trivial, fin.2⟩
theorem c_rnext {it : Addr} {x left : Nat} (h : left ≠ 0) : CutG X ρ false (bi "range_iterator.__next__" [.ref it]) (.ok (.ret (iv x k))) [(it, rit x left)] n k (k + 1) [(it, rit (x + 1) (left - 1))] [] := by
  intro A s _ _ hn _ hk hP
  have hi := hP _ (.head _)
  obtain ⟨left, rfl⟩ : ∃ l, left = l + 1 := ⟨left - 1, by omega⟩
  refine meets_any F.slot_range_iterator_next (fld_typeIs hi) F.entry_range_iterator_next (F.args_range_iterator_next_1 _)
    (AutoRange.range_iterator___next___range_iterator_1 it (.ofNat x) (.ofNat (left + 1)) (.ofNat 1) (by show ¬ ((left : Int) + 1) ≤ 0; omega)) ⟨hi, ?_⟩
  obtain ⟨h1, h2, h3⟩ := upd_ok (o' := fld "range_iterator" [.int (.ofNat (x + 1)) 0, .int (.ofNat (left + 1)) 0, .int (.ofNat 1) 0]) (f := Obj.mapFields (·.setIfInBounds 0 (rawInt (.ofNat x + .ofNat 1)))) hi (by simp [fld, Obj.mapFields, rawInt]) rfl
  have hs2 : Heap.SameBut it (s.heap.update it (Obj.mapFields (·.setIfInBounds 0 (rawInt (.ofNat x + .ofNat 1))))) _ := Heap.SameBut.update _ it (Obj.mapFields (·.setIfInBounds 1 (rawInt (.ofNat (left + 1) - 1))))
  subst hk
  refine ⟨rfl, _, rfl, hs2.1.trans (h1.trans hn), fun p hp => ?_, fun i o z => (nomatch z), fun b o hb e => (hs2.2 b fun z => hb (by rw [z]; exact .head _)).trans (h3 b o hb e)⟩
  rw [List.mem_singleton] at hp
  subst hp
  rw [Heap.get?_update_self _ h2 rfl]
  simp [fld, Obj.mapFields, rawInt]
theorem c_rend {it : Addr} {x : Nat} : CutG X ρ false (bi "range_iterator.__next__" [.ref it]) (.error (.ref (n + 1))) [(it, rit x 0)] n k k
    [] [tup [], fld "StopIteration" [.ref n, .none, .none, .none, .bool false, .none]] := by
  intro A s hA _ hn _ hk hP
  have hit := hP _ (.head _)
  refine cut_any F.slot_range_iterator_next (fld_typeIs hit) F.entry_range_iterator_next (F.args_range_iterator_next_1 _) ?_
  show wpAny _ _ (field (.ref it) 0 >>= _) _ _ s
  refine wpAny_bind (wpAny_field hit rfl (x := rawInt x) rfl ?_)
  show wpAny _ _ (field (.ref it) 1 >>= _) _ _ s
  refine wpAny_bind (wpAny_field hit rfl (x := rawInt 0) rfl ?_)
  show wpAny _ _ (field (.ref it) 2 >>= _) _ _ s
  refine wpAny_bind (wpAny_field hit rfl (x := rawInt 1) rfl ?_)
  show wpAny _ _ (if (0 : Int) ≤ 0 then _ else _) _ _ s
  rw [if_pos (by decide)]
  refine wpAny_bind (wpAny_rule ?_)
  refine wpAny_bind ?_
  show wpAny _ _ (newExc (.type "StopIteration") [] >>= _) _ _ _
  refine wpAny_bind ?_
  simp only [newExc, newTuple]
  refine wpAny_bind (wpAny_newObj_type ?_ (by size_fits))
  refine wpAny_bind (m := firstArgMember _ _) (wpAny_of_eq (a := Value.none) (by first | rfl | (simp only [firstArgMember]; rfl)) ?_)
  refine wpAny_newObj_type ?_ (by size_fits)
  simp only [raiseNew]
  refine wpAny_bind (wpAny_handled ?_)
  first | rw [show A.in1.handled = none from hA.1] | rw [hA.1]
  refine wpAny_bind (wpAny_pure (wpAny_throw ?_))
  have fin := two_more (s := s) (h := s.heap) (U := []) (x := .error (.ref (n + 1)))
    (o1 := tup []) (o2 := fld "StopIteration" [.ref n, .none, .none, .none, .bool false, .none]) hn hk rfl rfl (fun p hp => (nomatch hp)) (Keep.refl _ _)
  have em : ownMembersOf (Value.type "StopIteration") [] = #[] := by kernel_rfl
  simp only [Heap.size_push, hn, em, Array.append_empty]
  exact ⟨trivial, fin.2⟩
end
end
section
open PySem.Calls PyProof.Rows
section
variable {X : Cx} {k n ρ e : Nat} {t u : Tok} {a b : Nat}
theorem c_addN : CutB X (bi "int.__add__" [iv a t, iv b u]) (iv (a + b) k) [] k (k + 1) := c_add
theorem c_subN (h : b ≤ a) : CutB X (bi "int.__sub__" [iv a t, iv b u]) (iv (a - b) k) [] k (k + 1) := by
  have := @c_sub X k (.ofNat a) (.ofNat b) t u
  rwa [show (Int.ofNat a - Int.ofNat b : Int) = Int.ofNat (a - b) from (Int.ofNat_sub h).symm] at this
theorem bitAnd_nat' : Builtin.bitAnd (a : Int) (b : Int) = ((a &&& b : Nat) : Int) := by
  unfold Builtin.bitAnd
  rw [decide_eq_true (Int.natCast_nonneg a), decide_eq_true (Int.natCast_nonneg b)]
  rfl
theorem bitAnd_nat : Builtin.bitAnd (.ofNat a) (.ofNat b) = .ofNat (a &&& b) := bitAnd_nat'
theorem bitNot_nat : Builtin.bitNot (.ofNat a) = .negSucc a := by
  show -(a : Int) - 1 = Int.negSucc a
  omega
theorem bitNot_neg : Builtin.bitNot (.negSucc a) = .ofNat a := by
  show -(Int.negSucc a) - 1 = (a : Int)
  omega
theorem bitOr_nat : Builtin.bitOr (.ofNat a) (.ofNat b) = .ofNat (a ||| b) := by
  unfold Builtin.bitOr
  rw [bitNot_nat, bitNot_nat]
  unfold Builtin.bitAnd
  rw [decide_eq_false (by omega : ¬ (0 : Int) ≤ Int.negSucc a), decide_eq_false (by omega : ¬ (0 : Int) ≤ Int.negSucc b)]
  simp only [bitNot_neg]
  show Builtin.bitNot (Builtin.bitNot (.ofNat (a ||| b))) = _
  rw [bitNot_nat, bitNot_neg]
theorem c_andN : CutB X (bi "int.__and__" [iv a t, iv b u]) (iv (a &&& b) k) [] k (k + 1) := by
  have := @c_and X k (.ofNat a) (.ofNat b) t u
  rwa [bitAnd_nat] at this
theorem c_orN : CutB X (bi "int.__or__" [iv a t, iv b u]) (iv (a ||| b) k) [] k (k + 1) := by
  have := @c_or X k (.ofNat a) (.ofNat b) t u
  rwa [bitOr_nat] at this
theorem c_rshiftN : CutB X (bi "int.__rshift__" [iv a t, iv b u]) (iv (a >>> b) k) [] k (k + 1) := by
  have := @c_rshift X k (.ofNat a) (.ofNat b) t u (Int.natCast_nonneg b)
  rwa [show (Int.ofNat a).fdiv (2 ^ (Int.ofNat b).toNat) = Int.ofNat (a >>> b) by
    rw [Nat.shiftRight_eq_div_pow]
    show (Int.ofNat a).fdiv (2 ^ b) = _
    rw [show (2 ^ b : Int) = Int.ofNat (2 ^ b) by simp]
    exact Int.ofNat_fdiv a (2 ^ b) |>.symm] at this
theorem gives_shl : ∀ b : Nat, b < 7 → Gives (Builtin.«int.__lshift__» ⟨[iv 1 t, iv b u], []⟩) (.int (.ofNat (1 <<< b)))
  | 0, _ | 1, _ | 2, _ | 3, _ | 4, _ | 5, _ | 6, _ => .of_wp fun M A E s Q h => show wpAny _ _ (do ret (← mkInt _)) _ _ s from wpAny_ret_mkInt h
  | n + 7, h => absurd h (by omega)
theorem c_shl (h : b < 7) : CutB X (bi "int.__lshift__" [iv 1 t, iv b u]) (iv (1 <<< b) k) [] k (k + 1) :=
  cut_slot F.slot_int_lshift (fun s => typeIs_int s 1 t) F.entry_int_lshift (F.args_int_lshift_2 _ _) (gives_shl b h) post_int
theorem c_modN (h : b ≠ 0) : CutB X (bi "int.__mod__" [iv a t, iv b u]) (iv (a % b) k) [] k (k + 1) := by
  have := @c_mod X k (.ofNat a) (.ofNat b) t u (by rw [beq_eq_false_iff_ne]; intro z; exact h (Int.ofNat.inj z))
  rwa [show (Int.ofNat a).fmod (Int.ofNat b) = Int.ofNat (a % b) from Int.fmod_eq_emod_of_nonneg (Int.ofNat a) (Int.natCast_nonneg b : (0 : Int) ≤ (b : Int))] at this
theorem c_modZ {z : Int} (h : b ≠ 0) : CutB X (bi "int.__mod__" [.int z t, iv b u]) (iv (z % (b : Int)).toNat k) [] k (k + 1) := by
  have := @c_mod X k z (.ofNat b) t u (by rw [beq_eq_false_iff_ne]; intro z; exact h (Int.ofNat.inj z))
  rwa [show z.fmod (Int.ofNat b) = Int.ofNat (z % (b : Int)).toNat by
    have q := Int.fmod_eq_emod_of_nonneg z (Int.natCast_nonneg b : (0 : Int) ≤ (b : Int))
    refine (show z.fmod (Int.ofNat b) = z % (b : Int) from q).trans ?_
    have := Int.emod_nonneg z (b := (b : Int)) (by omega)
    show z % (b : Int) = ((z % (b : Int)).toNat : Int)
    omega] at this
theorem c_divN (h : b ≠ 0) (h' : b < 1000) : CutB X (bi "int.__floordiv__" [iv a t, iv b u]) (iv (a / b) k) [] k (k + 1) := by
  have := @c_floordiv X k (.ofNat a) (.ofNat b) t u (by rw [beq_eq_false_iff_ne]; intro z; exact h (Int.ofNat.inj z)) (PyProof.noPylong_small (by show b < _; omega))
  rwa [show (Int.ofNat a).fdiv (Int.ofNat b) = Int.ofNat (a / b) from (Int.ofNat_fdiv a b).symm] at this
theorem c_eqT (h : a = b) : CutB X (bi "int.__eq__" [iv a t, iv b u]) (.bool true) [] k k := c_eq (by subst h; simp)
theorem c_eqF (h : a ≠ b) : CutB X (bi "int.__eq__" [iv a t, iv b u]) (.bool false) [] k k := c_eq (by rw [beq_eq_false_iff_ne]; intro z; exact h (Int.ofNat.inj z))
theorem c_neT (h : a ≠ b) : CutB X (bi "int.__ne__" [iv a t, iv b u]) (.bool true) [] k k := c_ne (by rw [bne_iff_ne]; intro z; exact h (Int.ofNat.inj z))
theorem c_neF (h : a = b) : CutB X (bi "int.__ne__" [iv a t, iv b u]) (.bool false) [] k k := c_ne (by subst h; simp)
theorem c_ltT (h : a < b) : CutB X (bi "int.__lt__" [iv a t, iv b u]) (.bool true) [] k k := c_lt (decide_eq_true (Int.ofNat_lt.mpr h))
theorem c_ltF (h : b ≤ a) : CutB X (bi "int.__lt__" [iv a t, iv b u]) (.bool false) [] k k := c_lt (decide_eq_false (fun z => absurd (Int.ofNat_lt.mp z) (Nat.not_lt.mpr h)))
theorem c_geT (h : b ≤ a) : CutB X (bi "int.__ge__" [iv a t, iv b u]) (.bool true) [] k k := c_ge (decide_eq_true (Int.ofNat_le.mpr h))
theorem c_geF (h : a < b) : CutB X (bi "int.__ge__" [iv a t, iv b u]) (.bool false) [] k k := c_ge (decide_eq_false (fun z => absurd (Int.ofNat_le.mp z) (Nat.not_le.mpr h)))
theorem c_boolT (h : a ≠ 0) : CutB X (bi "int.__bool__" [iv a t]) (.bool true) [] k k := c_bool (by rw [bne_iff_ne]; intro z; exact h (Int.ofNat.inj z))
theorem c_boolF (h : a = 0) : CutB X (bi "int.__bool__" [iv a t]) (.bool false) [] k k := c_bool (by subst h; rfl)
theorem c_eqZ {x y : Int} {d : Bool} (h : (x == y) = d) : CutB X (bi "int.__eq__" [.int x t, .int y u]) (.bool d) [] k k := c_eq h
theorem ivs_get {xs : NN} {i y v : Nat} (h : xs[i]? = some (y, v)) : (ivs xs)[i]? = some (iv y v) := by simp [ivs, h]
theorem rfs_get {xs : List Nat} {i y : Nat} (h : xs[i]? = some y) : (rfs xs)[i]? = some (.ref y) := by simp [rfs, h]
theorem ivs_len {xs : NN} : (ivs xs).length = xs.length := by simp [ivs]
theorem rfs_len {xs : List Nat} : (rfs xs).length = xs.length := by simp [rfs]
theorem c_getI {l : Addr} {xs : NN} {i y v : Nat} (h : xs[i]? = some (y, v)) (hi : i < 1000) : CutB X (bi "list.__getitem__" [.ref l, iv i t]) (iv y v) [(l, lst (ivs xs) e)] k k := c_get (ivs_get h) hi
theorem c_getR {l : Addr} {xs : List Nat} {i y : Nat} (h : xs[i]? = some y) (hi : i < 1000) : CutB X (bi "list.__getitem__" [.ref l, iv i t]) (.ref y) [(l, lst (rfs xs) e)] k k := c_get (rfs_get h) hi
theorem c_setI {l : Addr} {xs : NN} {i y v : Nat} (h : i < xs.length) (hi : i < 1000) : CutG X ρ false (bi "list.__setitem__" [.ref l, iv i t, iv y v]) (.ok (.ret .none)) [(l, lst (ivs xs) e)] n k k [(l, lst (ivs (xs.set i (y, v))) e)] [] := by
  have := @c_set X k n ρ e t l (ivs xs) i (iv y v) (by rw [ivs_len]; exact h) hi
  rwa [show (ivs xs).set i (iv y v) = ivs (xs.set i (y, v)) by simp [ivs, List.map_set]] at this
theorem c_appI {l : Addr} {xs : NN} {y v : Nat} (h : xs.length < 1000) : CutG X ρ false (bi "list.append" [.ref l, iv y v]) (.ok (.ret .none)) [(l, lst (ivs xs) e)] n k k [(l, lst (ivs (xs ++ [(y, v)])) (e + 1))] [] := by
  have := @c_app X k n ρ e l (ivs xs) (iv y v) (by rw [ivs_len]; exact h)
  rwa [show ivs xs ++ [iv y v] = ivs (xs ++ [(y, v)]) by simp [ivs]] at this
theorem c_appR {l : Addr} {xs : List Nat} {y : Nat} (h : xs.length < 1000) : CutG X ρ false (bi "list.append" [.ref l, .ref y]) (.ok (.ret .none)) [(l, lst (rfs xs) e)] n k k [(l, lst (rfs (xs ++ [y])) (e + 1))] [] := by
  have := @c_app X k n ρ e l (rfs xs) (.ref y) (by rw [rfs_len]; exact h)
  rwa [show rfs xs ++ [.ref y] = rfs (xs ++ [y]) by simp [rfs]] at this
theorem c_lenI {l : Addr} {xs : NN} (h : xs.length < 1000) : CutB X (bi "len" [.ref l]) (iv xs.length (k + 1)) [(l, lst (ivs xs) e)] k (k + 2) := by
  have := @c_len X k e l (ivs xs) (by rw [ivs_len]; exact h)
  rwa [ivs_len] at this
theorem c_lenR {l : Addr} {xs : List Nat} (h : xs.length < 1000) : CutB X (bi "len" [.ref l]) (iv xs.length (k + 1)) [(l, lst (rfs xs) e)] k (k + 2) := by
  have := @c_len X k e l (rfs xs) (by rw [rfs_len]; exact h)
  rwa [rfs_len] at this
theorem c_nextI {it l : Addr} {xs : NN} {i y v : Nat} (h : xs[i]? = some (y, v)) : CutG X ρ false (bi "list_iterator.__next__" [.ref it]) (.ok (.ret (iv y v))) [(it, lit l i), (l, lst (ivs xs) e)] n k k [(it, lit l (i + 1))] [] := c_next (ivs_get h)
theorem c_nextR {it l : Addr} {xs : List Nat} {i y : Nat} (h : xs[i]? = some y) : CutG X ρ false (bi "list_iterator.__next__" [.ref it]) (.ok (.ret (.ref y))) [(it, lit l i), (l, lst (rfs xs) e)] n k k [(it, lit l (i + 1))] [] := c_next (rfs_get h)
theorem c_endI {it l : Addr} {xs : NN} {i : Nat} (h : xs.length ≤ i) : CutG X ρ false (bi "list_iterator.__next__" [.ref it]) (.error (.ref (n + 1))) [(it, lit l i), (l, lst (ivs xs) e)] n k k
    [(it, fld "list_iterator" [.none, .int (.ofNat i) 0])] [tup [], fld "StopIteration" [.ref n, .none, .none, .none, .bool false, .none]] := c_end (by rw [ivs_len]; exact h)
theorem c_endR {it l : Addr} {xs : List Nat} {i : Nat} (h : xs.length ≤ i) : CutG X ρ false (bi "list_iterator.__next__" [.ref it]) (.error (.ref (n + 1))) [(it, lit l i), (l, lst (rfs xs) e)] n k k
    [(it, fld "list_iterator" [.none, .int (.ofNat i) 0])] [tup [], fld "StopIteration" [.ref n, .none, .none, .none, .bool false, .none]] := c_end (by rw [rfs_len]; exact h)
end
end
section
noncomputable def nearEnv (L : Addr) : Env := envF 19 191 190 L [] "_law_near.<locals>."
noncomputable def nearLoop (L it : Addr) : Code := .forLoop (forT (nx (fB (st 19)) 1)) (.ref it) (forB (nx (fB (st 19)) 1)) [] (nearEnv L)
noncomputable def cellsEnv (L : Addr) : Env := envF 15 163 162 L [] "_law_cells.<locals>."
noncomputable def cellsLoop (L it : Addr) : Code := .forLoop (forT (nx (fB (st 15)) 0)) (.ref it) (forB (nx (fB (st 15)) 0)) [] (cellsEnv L)
noncomputable def drawnEnv (L : Addr) : Env := envF 16 170 169 L [] "_law_drawn.<locals>."
noncomputable def drawnLoop (L it : Addr) : Code := .forLoop (forT (nx (fB (st 16)) 1)) (.ref it) (forB (nx (fB (st 16)) 1)) [] (drawnEnv L)
noncomputable def symEnv (L : Addr) : Env := envF 17 177 176 L [] "_law_symbols.<locals>."
noncomputable def symLoop (L it : Addr) : Code := .forLoop (forT (nx (fB (st 17)) 2)) (.ref it) (forB (nx (fB (st 17)) 2)) [] (symEnv L)
noncomputable def readEnv (L : Addr) : Env := envF 18 184 183 L [] "_law_read.<locals>."
noncomputable def readLoop (L it : Addr) : Code := .forLoop (forT (nx (fB (st 18)) 2)) (.ref it) (forB (nx (fB (st 18)) 2)) [] (readEnv L)
section
variable (X : Cx) (ρ : Nat)
noncomputable abbrev RE (κ : List Fx) (cc : Code) (t : Sem Fin) (n k : Nat) (T : LG) (js : List Nat) (mm : Nat) (fin : Fin) (n' k' : Nat) (T' : LG) (C : List Prop) : Prop := RunE X (kt X) ρ κ cc t n k T js mm fin n' k' T' C
noncomputable abbrev REC (c : Code) (n k : Nat) (T : LG) (js : List Nat) (mm : Nat) (fin : Fin) (n' k' : Nat) (T' : LG) (C : List Prop) : Prop := RunE X (kt X) ρ [] c (D c) n k T js mm fin n' k' T' C
noncomputable abbrev REN (o : Out) (r : Result) (n k : Nat) (T : LG) (js : List Nat) (mm : Nat) (fin : Fin) (n' k' : Nat) (T' : LG) (C : List Prop) : Prop := RunE X (kt X) ρ o.κ o.cc (o.next r) n k T js mm fin n' k' T' C
noncomputable abbrev RA (κ : List Fx) (cc : Code) (t : Sem Fin) (n k : Nat) (T : LG) (o : Out) (js : List Nat) (mm : Nat) (b : Bool) (c : Code) (n' k' : Nat) (T' : LG) (C : List Prop) : Prop := Ran X (kt X) ρ κ cc t n k T o js mm (o.at b c n' k' T' C)
noncomputable abbrev RAC (c' : Code) (n k : Nat) (T : LG) (o : Out) (js : List Nat) (mm : Nat) (b : Bool) (c : Code) (n' k' : Nat) (T' : LG) (C : List Prop) : Prop := Ran X (kt X) ρ [] c' (D c') n k T o js mm (o.at b c n' k' T' C)
noncomputable abbrev RAN (o' : Out) (r : Result) (n k : Nat) (T : LG) (o : Out) (js : List Nat) (mm : Nat) (b : Bool) (c : Code) (n' k' : Nat) (T' : LG) (C : List Prop) : Prop := Ran X (kt X) ρ o'.κ o'.cc (o'.next r) n k T o js mm (o.at b c n' k' T' C)
end
end
section
open PySem.Calls PyProof.Rows
section
variable {X : Cx} {k n ρ e : Nat} {t u : Tok}
theorem one_more {s : Shared} {h : Heap} {U : LG} {o1 : Obj} {x : Result} (hn : h.objs.size = n) (hk : s.toks = k) (f1 : o1.isFreed = false) (hU : ∀ p ∈ U, h.get? p.1 = some p.2) (K : Keep (U.map (·.1)) s.heap h) :
    x = x ∧ ∃ h', { s with heap := h.push o1 } = { s with heap := h', toks := k } ∧ h'.objs.size = n + [o1].length ∧ (∀ p ∈ U, h'.get? p.1 = some p.2) ∧ (∀ i o, [o1][i]? = some o → h'.get? (n + i) = some o) ∧
      Keep (U.map (·.1)) s.heap h' := by
  refine ⟨rfl, h.push o1, by rw [← hk], by rw [Heap.size_push, hn]; rfl, fun p hp => Heap.get?_push_of_some _ (hU p hp), fun i o z => ?_, fun b o hb e => Heap.get?_push_of_some _ (K b o hb e)⟩
  match i with
  | 0 =>
    cases z
    rw [← hn]; exact Heap.get?_push_size _ f1
  | i + 1 => simp at z
theorem c_slice {l sl : Addr} {vs : List Value} {vl vu : Value} {lo hi : Option Int} (pl : IsPart vl lo) (pu : IsPart vu hi) (hsz : vs.length < 1000) :
    CutG X ρ false (bi "list.__getitem__" [.ref l, .ref sl]) (.ok (.ret (.ref n))) [(l, lst vs e), (sl, fld "slice" [vl, vu, .none])] n k k [] [lst (slicePick ⟨vs⟩ lo hi none).toList 0] := by
  intro A s _ _ hn _ hk hP
  have hl := hP _ (.head _)
  have hos := hP _ (.tail _ (.head _))
  have hTs : s.TypeIs (.ref sl) "slice" := fld_typeIs hos
  have h0 : (none : Option Int) ≠ some 0 := by intro h; cases h
  refine cut_any slot_list_getitem (lst_typeIs hl) entry_list_getitem (args_list_getitem _ _) ?_
  show wpAny _ _ (Builtin.List.listSubscript? (.ref sl) >>= _) _ _ s
  refine wpAny_bind ?_
  unfold Builtin.List.listSubscript?
  refine wpAny_bind (wpAny_specialOf hTs slice_no_index ?_)
  simp only [Option.isNone_none, if_true]
  refine wpAny_pure ?_
  show wpAny _ _ (typeOf (.ref sl) >>= _) _ _ s
  refine wpAny_bind (wpAny_typeOf hTs ?_)
  rw [if_neg (by decide)]
  rw [listSliceParts_eq]
  have hstep : ¬ ((rawPart none == rawInt 0) = true) := Bool.false_ne_true
  refine wpAny_bind (wpAny_bind (wpAny_field hos rfl (x := .none) rfl (wpAny_bind (wpAny_listPart IsPart.none ?_))))
  rw [if_neg hstep]
  refine wpAny_bind (wpAny_field hos rfl (x := vl) rfl (wpAny_bind (wpAny_listPart pl ?_)))
  refine wpAny_bind (wpAny_field hos rfl (x := vu) rfl (wpAny_bind (wpAny_listPart pu (wpAny_pure ?_))))
  refine wpAny_bind (m := Builtin.List.listItems (.ref l)) ?_
  unfold Builtin.List.listItems
  refine wpAny_bind (wpAny_seqItems hl rfl (wpAny_pure ?_))
  refine wpAny_bind (wpAny_of_eq (sliceIndices_raw lo hi none _ h0) ?_)
  have fin := one_more (s := s) (h := s.heap) (U := []) (o1 := lst (slicePick ⟨vs⟩ lo hi none).toList 0) (x := .ok (.ret (.ref n))) hn hk rfl (fun _ h => nomatch h) (Keep.refl _ _)
  refine wpAny_bind (wpAny_newObj_type (wpAny_pure ⟨_, rfl, ?_⟩) (Nat.le_trans (slicePick_size_le ⟨vs⟩ lo hi none) (by show vs.length ≤ sizeLine; rw [sizeLine_eq]; omega)))
  rw [hn]
  exact fin
theorem c_takeZ {l sl : Addr} {vs : List (Int × Nat)} {b : Nat} (hsz : vs.length < 1000) :
    CutG X ρ false (bi "list.__getitem__" [.ref l, .ref sl]) (.ok (.ret (.ref n))) [(l, lst (zvs vs) e), (sl, fld "slice" [.none, iv b t, .none])] n k k [] [lst (zvs (vs.take b)) 0] := by
  have := @c_slice X k n ρ e l sl (zvs vs) .none (iv b t) none (some (.ofNat b)) .none (.int _ _) (by simpa [zvs] using hsz)
  rwa [show (slicePick ⟨zvs vs⟩ none (some (.ofNat b)) none).toList = zvs (vs.take b) by
    rw [show (Int.ofNat b) = ((b : Nat) : Int) from rfl, slicePick_upto']
    simp [zvs, List.map_take]] at this
theorem zvs_get {xs : List (Int × Nat)} {i v : Nat} {y : Int} (h : xs[i]? = some (y, v)) : (zvs xs)[i]? = some (.int y v) := by simp [zvs, h]
theorem zvs_len {xs : List (Int × Nat)} : (zvs xs).length = xs.length := by simp [zvs]
theorem c_nextZ {it l : Addr} {xs : List (Int × Nat)} {i v : Nat} {y : Int} (h : xs[i]? = some (y, v)) : CutG X ρ false (bi "list_iterator.__next__" [.ref it]) (.ok (.ret (.int y v))) [(it, lit l i), (l, lst (zvs xs) e)] n k k [(it, lit l (i + 1))] [] := c_next (zvs_get h)
theorem c_endZ {it l : Addr} {xs : List (Int × Nat)} {i : Nat} (h : xs.length ≤ i) : CutG X ρ false (bi "list_iterator.__next__" [.ref it]) (.error (.ref (n + 1))) [(it, lit l i), (l, lst (zvs xs) e)] n k k
    [(it, fld "list_iterator" [.none, .int (.ofNat i) 0])] [tup [], fld "StopIteration" [.ref n, .none, .none, .none, .bool false, .none]] := c_end (by rw [zvs_len]; exact h)
theorem new_any {id : String} {b : Builtin} {args : List Value} {A : Around} {s : Shared} {R : Result → Shared → Prop} {S : PySem.Spec} (hp : plainId id = true)
    (hb : entryFor table id = some b) (hcheck : checkBuiltinCall id ⟨args, []⟩ = pure ()) (g : Meets (b ⟨args, []⟩) S) (h : S A R s) : codeAny (model pw X.w) A (bi id args) R s := by
  refine codeAny_call_builtin hp hb ?_
  rw [hcheck]
  exact wpAny_pure (g pw X.w A R s h)
noncomputable abbrev enu (it i : Nat) (old tupl : Value) (out : Bool) : Obj := fld "enumerate" [tupl, .bool out, .ref it, iv i 0, .none, old]
theorem c_enum {l : Addr} {vs : List Value} :
    CutG X ρ false (bi "enumerate.__new__" [.type "enumerate", .ref l]) (.ok (.ret (.ref (n + 1)))) [(l, lst vs e)] n k k [] [lit l 0, enu n 0 .none .none false] := by
  intro A s _ _ hn _ hk hP
  have hl := hP _ (.head _)
  refine new_any (by kernel_rfl) F.entry_enumerate_new (F.newCall_enumerate_1 _) (meets_enumerate_new l ⟨vs⟩ e) ⟨hl, ?_⟩
  have fin := two_more (s := s) (h := s.heap) (U := []) (o1 := lit l 0) (o2 := enu n 0 .none .none false) (x := .ok (.ret (.ref (n + 1)))) hn hk rfl rfl (fun _ h => nomatch h) (Keep.refl _ _)
  rw [Heap.size_push, hn]
  exact fin
theorem c_cat {l m : Addr} {vs us : List Value} {e' : Nat} (h : vs.length + us.length < 1000) :
    CutG X ρ false (bi "list.__add__" [.ref l, .ref m]) (.ok (.ret (.ref n))) [(l, lst vs e), (m, lst us e')] n k k [] [lst (vs ++ us) 0] := by
  intro A s _ _ hn _ hk hP
  have hl := hP _ (.head _)
  have hm := hP _ (.tail _ (.head _))
  refine meets_any F.slot_list_add (lst_typeIs hl) F.entry_list_add (F.args_list_add_2 _ _) (AutoSeq1.list___add___list_list_0 l ⟨vs⟩ e m ⟨us⟩ e' (by show vs.length + us.length ≤ sizeLine; rw [sizeLine_eq]; omega)) ⟨hl, hm, ?_⟩
  have fin := one_more (s := s) (h := s.heap) (U := []) (o1 := lst (vs ++ us) 0) (x := .ok (.ret (.ref n))) hn hk rfl (fun _ h => nomatch h) (Keep.refl _ _)
  rw [hn]
  simpa [lst] using fin
end
end
noncomputable def cpEnv (e : Expr) (out : Env) (ns : Addr) (cells : List (Str × Addr)) : Env := { scope := { cpS e with names := (cpS e).names.map fun p => if p.2 == .free && (out.kindOf p.1 == some .cell) then (p.1, .cell) else p }, locals := ns, globals := out.globals, cells, qual := out.qual, func := none, code := out.code, frame := out.frame, builtins := out.builtins }
noncomputable def cpElt : Expr → Expr
  | .ListComp e .. => e
  | _ => noE
noncomputable def exE : Stmt → Expr
  | .Expr e _ => e
  | _ => noE
noncomputable def callArg : Expr → Nat → Expr
  | .Call _ as _ _, i => (as[i]?).getD noE
  | _, _ => noE
noncomputable def subV : Expr → Expr
  | .Subscript v _ _ => v
  | _ => noE
noncomputable def cpGen : Expr → Comprehension
  | .ListComp _ (g :: _) _ _ => g
  | _ => ⟨noE, noE, [], 0⟩
noncomputable def nmS : Expr → Str
  | .Name x _ => x
  | _ => ⟨#[]⟩
noncomputable def nmP : Expr → Pos
  | .Name _ p => p
  | e => e.pos
noncomputable def cmpL : Expr → Expr
  | .Compare l _ _ _ => l
  | _ => noE
noncomputable def cmpR : Expr → Expr
  | .Compare _ _ (r :: _) _ => r
  | _ => noE
noncomputable def cpIf (e : Expr) : Expr := (cpGen e).ifs.headD noE
noncomputable def ifT : Stmt → Expr
  | .If t _ _ _ => t
  | _ => noE
noncomputable def ifB : Stmt → List Stmt
  | .If _ b _ _ => b
  | _ => []
noncomputable def boX : Expr → Nat → Expr
  | .BoolOp _ vs _, i => (vs[i]?).getD noE
  | _, _ => noE
noncomputable def peelEnv (L cl cs co cu : Addr) : Env := envF 21 203 202 L [("u", cu), ("over", co), ("seen", cs), ("left", cl)] "_law_peel.<locals>."
noncomputable def peelW : List Stmt := whB (nx (fB (st 21)) 2)
noncomputable def peelLoop (L cl cs co cu : Addr) : Code := .whileLoop (whT (nx (fB (st 21)) 2)) peelW [] (peelEnv L cl cs co cu)
noncomputable def c1 : Expr := asE (nx peelW 0)
noncomputable def c2 : Expr := asE (nx peelW 1)
noncomputable def c3 : Expr := asE (nx peelW 2)
noncomputable def c4 : Expr := asE (nx (forB (nx peelW 4)) 0)
noncomputable def c5 : Expr := asE (nx peelW 5)
noncomputable def c6 : Expr := subV (callArg (callArg (exE (nx (forB (nx peelW 8)) 0)) 1) 0)
noncomputable def goneLoop (it L cl cs co cu : Addr) : Code := .forLoop (forT (nx peelW 8)) (.ref it) (forB (nx peelW 8)) [] (peelEnv L cl cs co cu)
noncomputable def c6Env (ns L cl cs co cu : Addr) : Env := cpEnv c6 (peelEnv L cl cs co cu) ns [("over", co)]
noncomputable def c1Env (ns L cl cs co cu : Addr) : Env := cpEnv c1 (peelEnv L cl cs co cu) ns [("left", cl)]
noncomputable def c2Env (ns L cl cs co cu : Addr) : Env := cpEnv c2 (peelEnv L cl cs co cu) ns [("left", cl)]
noncomputable def c3Env (ns L cl cs co cu : Addr) : Env := cpEnv c3 (peelEnv L cl cs co cu) ns [("seen", cs), ("left", cl)]
noncomputable def overLoop (it L cl cs co cu : Addr) : Code := .forLoop (forT (nx peelW 4)) (.ref it) (forB (nx peelW 4)) [] (peelEnv L cl cs co cu)
noncomputable def c4Env (ns L cl cs co cu : Addr) : Env := cpEnv c4 (peelEnv L cl cs co cu) ns [("u", cu), ("seen", cs)]
noncomputable def c5Env (ns L cl cs co cu : Addr) : Env := cpEnv c5 (peelEnv L cl cs co cu) ns [("over", co)]
section
noncomputable abbrev pyNextT : Value → Sem (Option Value) := PySem.W.Fast.tw9404975358583537561
noncomputable abbrev loadNameT : Env → Str → Sem Value := PySem.W.Fast.tw8468629109055619292
noncomputable abbrev isTypeT : Value → Sem Bool := PySem.W.Fast.tw10380811246957099773
noncomputable abbrev starEachT : List Expr → Env → List (Bool × Sem Value) := PySem.W.Fast.tw13897175071876407860
theorem pyNextT_eq : pyNext = pyNextT := PySem.W.Fast.te9404975358583537561
theorem loadNameT_eq : loadName = loadNameT := PySem.W.Fast.te8468629109055619292
theorem isTypeT_eq : isType = isTypeT := PySem.W.Fast.te10380811246957099773
theorem starEachT_eq : starEach = starEachT := PySem.W.Fast.te13897175071876407860
noncomputable abbrev getMethodT := @PySem.W.Fast.tw6042679816869820781
theorem getMethodT_eq : @getMethod = @getMethodT := PySem.W.Fast.te6042679816869820781
noncomputable abbrev callWithT := @PySem.W.Fast.tw8289420714989923916
theorem callWithT_eq : @callWith = @callWithT := PySem.W.Fast.te8289420714989923916
section
variable {X : Cx} {A : Around} {R : Result → Shared → Prop} {c : Code} {s : Shared} {α : Type}
theorem piece {m : Sem α} {f : α → Flow} (h : Tells X A R [] c (PySem.W.R.bindR m fun a => .pure (.done (f a))) s) :
    wpAt (model pw X.w) (A.under c) c m (fun a s' => R (.ok (f a)) s') (fun e s' => R (.error e) s') s := by
  intro Γ p hc hΓ
  have h1 : Sem.wp (model pw X.w) Γ (PySem.W.R.bindR m fun a => Sem.pure (Fin.done (f a))) _ _ p s := h.open_ Γ p hc hΓ
  rw [← PySem.W.R.bindR_eq] at h1
  have h2 : Sem.wp (model pw X.w) Γ (m >>= fun a => Sem.pure (Fin.done (f a))) _ _ p s := h1
  rw [Sem.wp_bind'] at h2
  exact Sem.wp_mono _ Γ m (fun a p' s' h' => h') (fun e p' s' h' => h') p s h2
variable {M : Model} {E : Value → Shared → Prop} {env : Env}
theorem wp_execs_app {Γ : Ctx} : ∀ {a b : List Stmt} {Q : Flow → Pos → Shared → Prop} {E : Value → Pos → Shared → Prop} {p : Pos} {s : Shared},
    Sem.wp M Γ (execs a env) (fun f p' s' => match f with | .next => Sem.wp M Γ (execs b env) Q E p' s' | f => Q f p' s') E p s → Sem.wp M Γ (execs (a ++ b) env) Q E p s
  | [], b, Q, E, p, s, h => h
  | st :: r, b, Q, E, p, s, h => by
    show Sem.wp M Γ (execs (st :: (r ++ b)) env) Q E p s
    rw [execs_cons, Sem.wp_bind'] at h ⊢
    refine Sem.wp_mono M Γ _ (fun f p' s' h' => ?_) (fun _ _ _ h' => h') _ _ h
    cases f with
    | next => exact wp_execs_app (a := r) (b := b) h'
    | _ => exact h'
theorem at_execs_app {a b : List Stmt} {Q : Flow → Shared → Prop} {s : Shared} (h : wpAt M A c (execs a env) (fun f s' => match f with | .next => wpAt M A c (execs b env) Q E s' | f => Q f s') E s) : wpAt M A c (execs (a ++ b) env) Q E s := fun Γ p hc hΓ => by
  refine wp_execs_app (Sem.wp_mono M Γ _ (fun f p' s' h' => ?_) (fun _ _ _ h' => h') _ _ (h Γ p hc hΓ))
  cases f with
  | next => exact h' Γ p' hc hΓ
  | _ => exact h'
theorem at_isTrue_Compare1 {l r : Expr} {op : CmpOp} {pos : Pos} {whole : Sem Value} {Q : Bool → Shared → Prop}
    (h : wpAt M A c (eval l env) (fun a s₁ => wpAt M A c (eval r env) (fun b s₂ => wpAny M A (compareOp op a b)
      (fun c s₃ => wpAny M A (truthy c) Q E s₃) E s₂) E s₁) E s)
    (hm : behindInMarks op r = false := by with_unfolding_all rfl) : wpAt M A c (isTrue (.Compare l [op] [r] pos) env whole) Q E s := fun Γ p hc hΓ => by
  simp only [isTrue_Compare1, markedBehindIn_of_false hm, Sem.wp_bind', Sem.wp_holding, Sem.wp_cmd_standAt, Sem.wp_operate]
  exact Sem.wp_mono M Γ _ (fun a p₁ s₁ h₁ => Sem.wp_mono M Γ _ (fun b _ s₂ h₂ => Sem.wp_mono M Γ _ (fun c p₃ s₃ h₃ => h₃ Γ p₃ hΓ)
    (fun _ _ _ h' => h') _ _ (h₂ Γ _ hΓ)) (fun _ _ _ h' => h') _ _ (h₁ Γ p₁ hc hΓ)) (fun _ _ _ h' => h') _ _ (h Γ p hc hΓ)
noncomputable def nextIn (x : Str) (px : Pos) (env : Env) (it : Value) : Sem Flow := pyNext it >>= fun r => match r with
  | none => Sem.pure Flow.brk
  | some v => assign (.Name x px) env v >>= fun _ => Sem.pure (Flow.ret v)
noncomputable def nextInT (x : Str) (px : Pos) (env : Env) (it : Value) : Sem Flow := PySem.W.R.bindR (pyNextT it) fun r => match r with
  | none => Sem.pure Flow.brk
  | some v => PySem.W.R.bindR (assignT (.Name x px) env v) fun _ => Sem.pure (Flow.ret v)
theorem nextIn_eq : nextIn = nextInT := by
  unfold nextIn nextInT
  rw [pyNextT_eq, assignT_eq, ← PySem.W.R.bindR_eq]
  rfl
noncomputable def emitIn (elt : Expr) (env : Env) (acc : Value) : Sem Flow := eval elt env >>= fun w => call (.builtin "list.append") [acc, w] >>= fun _ => Sem.pure Flow.next
noncomputable def emitInT (elt : Expr) (env : Env) (acc : Value) : Sem Flow := PySem.W.R.bindR (evalT elt env) fun w => PySem.W.R.bindR (call (.builtin "list.append") [acc, w]) fun _ => Sem.pure Flow.next
theorem emitIn_eq : emitIn = emitInT := by
  unfold emitIn emitInT
  rw [evalT_eq, ← PySem.W.R.bindR_eq]
  rfl
theorem nextIn_bind {β : Type} {x : Str} {px : Pos} {it : Value} (Z : Sem β) (Y : Value → Sem β) :
    (pyNext it >>= fun r => match r with | none => Z | some v => assign (.Name x px) env v >>= fun _ => Y v) = (nextIn x px env it >>= fun f => match f with | .ret v => Y v | _ => Z) := by
  unfold nextIn
  rw [bind_assoc]
  congr 1
  funext r
  cases r with
  | none => rfl
  | some v =>
    show _ = ((assign (.Name x px) env v >>= fun _ => Sem.pure (Flow.ret v)) >>= _)
    rw [bind_assoc]
    rfl
theorem while_at {test : Expr} {body : List Stmt} {R : Result → Shared → Prop} (hq : (Code.whileLoop test body [] env).quiet = true)
    (h : wpAt (model pw X.w) (A.under (.whileLoop test body [] env)) (.whileLoop test body [] env) (isTrue test env (eval test env)) (fun b s₁ => b = true ∧ wpAt (model pw X.w) (A.under (.whileLoop test body [] env)) (.whileLoop test body [] env) (execs body env)
      (fun f s' => match f with | .next | .cont => codeAny (model pw X.w) A (.whileLoop test body [] env) R s' | .brk => R (.ok .next) s' | .ret v => R (.ok (.ret v)) s') (fun _ _ => False) s₁) (fun _ _ => False) s) :
    codeAny (model pw X.w) A (.whileLoop test body [] env) R s := by
  refine codeAny_of_treeAt ?_
  show wpAt _ _ _ ((whileTurn test body [] env).onRaise _) _ _ s
  refine ks_wpAt_onRaise ?_
  unfold whileTurn
  refine wpAt_bind (wpAt_mono h (fun b s₁ h₁ => ?_) fun _ _ z => z.elim)
  obtain ⟨rfl, h₁⟩ := h₁
  refine wpAt_bind (wpAt_mono h₁ (fun f s₂ h₂ => ?_) fun _ _ z => z.elim)
  cases f with
  | next => exact wpAt_of_wpAny (wpAny_pure ⟨hq, h₂⟩)
  | cont => exact wpAt_of_wpAny (wpAny_pure ⟨hq, h₂⟩)
  | brk => exact wpAt_of_wpAny (wpAny_pure h₂)
  | ret v => exact wpAt_of_wpAny (wpAny_pure h₂)
theorem for_at {x : Str} {px : Pos} {it : Value} {body : List Stmt} {R : Result → Shared → Prop} {c : Code} (hc : c = .forLoop (.Name x px) it body [] env) (hq : c.quiet = true)
    (h : wpAt (model pw X.w) (A.under c) c (nextIn x px env it) (fun f s₁ => match f with
      | .ret _ => wpAt (model pw X.w) (A.under c) c (execs body env)
        (fun f s' => match f with | .next | .cont => codeAny (model pw X.w) A c R s' | .brk => R (.ok .next) s' | .ret v => R (.ok (.ret v)) s') (fun _ _ => False) s₁
      | _ => codeAny (model pw X.w) A (.block [] env) R s₁) (fun _ _ => False) s) :
    codeAny (model pw X.w) A c R s := by
  subst hc
  refine codeAny_of_treeAt ?_
  show wpAt _ _ _ ((forTurn (.Name x px) it body [] env).onRaise _) _ _ s
  refine ks_wpAt_onRaise ?_
  have e : forTurn (.Name x px) it body [] env = (standAt px >>= fun _ => (pyNext it).onRaise (fun _ => standAt { px with line := 0 }) >>= fun r => match r with
      | none => again (.block [] env)
      | some v => assign (.Name x px) env v >>= fun _ => execs body env >>= fun f => match f with
        | .next | .cont => again (.forLoop (.Name x px) it body [] env)
        | .brk => pure (.done .next)
        | .ret v => pure (.done (.ret v))) := by rfl
  rw [e]
  refine wpAt_bind (wpAt_of_wpAny (wpAny_standAt ?_))
  intro Γ p hc hΓ
  have h1 := h Γ p hc hΓ
  unfold nextIn at h1
  rw [Sem.wp_bind'] at h1 ⊢
  rw [Sem.wp_onRaise]
  refine Sem.wp_mono _ Γ _ (fun r p' s' h' => ?_) (fun _ _ _ z => z.elim) _ _ h1
  cases r with
  | none => exact ⟨rfl, h'⟩
  | some v =>
    have h2 : Sem.wp _ Γ (assign (.Name x px) env v >>= fun _ => Sem.pure (Flow.ret v)) _ _ p' s' := h'
    show Sem.wp _ Γ (assign (.Name x px) env v >>= _) _ _ p' s'
    rw [Sem.wp_bind'] at h2 ⊢
    refine Sem.wp_mono _ Γ _ (fun _ p₂ s₂ h₂ => ?_) (fun _ _ _ z => z.elim) _ _ h2
    have h3 := (show wpAt _ _ _ (execs body env) _ _ s₂ from h₂) Γ p₂ hc hΓ
    rw [Sem.wp_bind']
    refine Sem.wp_mono _ Γ _ (fun f p₃ s₃ h₃ => ?_) (fun _ _ _ z => z.elim) _ _ h3
    cases f with
    | next => exact ⟨hq, h₃⟩
    | cont => exact ⟨hq, h₃⟩
    | brk => exact h₃
    | ret v => exact h₃
theorem comp_at {elt iter cnd : Expr} {x : Str} {px : Pos} {sc : Scope} {pos : Pos} {it acc : Value} {R : Result → Shared → Prop} {c : Code} (hc : c = .compLoop (.ListComp elt [⟨.Name x px, iter, [cnd], 0⟩] sc pos) 0 it acc env) (hq : c.quiet = true)
    (h : wpAt (model pw X.w) (A.under c) c (nextIn x px env it) (fun f s₁ => match f with
      | .ret _ => wpAt (model pw X.w) (A.under c) c (isTrue cnd env (eval cnd env))
        (fun b s₃ => if b = true then wpAt (model pw X.w) (A.under c) c (emitIn elt env acc) (fun _ s₅ => codeAny (model pw X.w) A c R s₅) (fun _ _ => False) s₃
          else codeAny (model pw X.w) A c R s₃) (fun _ _ => False) s₁
      | _ => R (.ok .next) s₁) (fun _ _ => False) s) :
    codeAny (model pw X.w) A c R s := by
  subst hc
  refine codeAny_of_treeAt ?_
  show wpAt _ _ _ ((compTurn (.ListComp elt [⟨.Name x px, iter, [cnd], 0⟩] sc pos) 0 it acc env).onRaise _) _ _ s
  refine ks_wpAt_onRaise ?_
  rw [compTurn_list]
  refine wpAt_bind (wpAt_of_wpAny (wpAny_standAt ?_))
  intro Γ p hc hΓ
  have h1 := h Γ p hc hΓ
  unfold nextIn at h1
  rw [Sem.wp_bind'] at h1 ⊢
  refine Sem.wp_mono _ Γ _ (fun r p' s' h' => ?_) (fun _ _ _ z => z.elim) _ _ h1
  cases r with
  | none => exact h'
  | some v =>
    have h2 : Sem.wp _ Γ (assign (.Name x px) env v >>= fun _ => Sem.pure (Flow.ret v)) _ _ p' s' := h'
    show Sem.wp _ Γ (assign (.Name x px) env v >>= _) _ _ p' s'
    rw [Sem.wp_bind'] at h2 ⊢
    refine Sem.wp_mono _ Γ _ (fun _ p₂ s₂ h₂ => ?_) (fun _ _ _ z => z.elim) _ _ h2
    refine (show wpAt _ _ _ (_ >>= _) _ _ s₂ from ?_) Γ p₂ hc hΓ
    refine wpAt_bind ?_
    rw [List.forIn_cons]
    simp only [List.forIn_nil, if_true]
    refine wpAt_bind (wpAt_bind (wpAt_mono h₂ (fun b s₃ h₃ => ?_) fun _ _ z => z.elim))
    refine wpAt_of_wpAny (wpAny_pure (wpAt_of_wpAny (wpAny_pure ?_)))
    cases b with
    | false => exact wpAt_of_wpAny (wpAny_pure ⟨hq, h₃⟩)
    | true =>
      show wpAt _ _ _ ((eval elt env >>= fun u => call (.builtin "list.append") [acc, u] >>= fun _ => pure ()) >>= fun _ => again _) _ _ _
      have e : ((eval elt env >>= fun u => call (.builtin "list.append") [acc, u] >>= fun _ => (pure () : Sem Unit)) >>= fun _ => again (.compLoop (.ListComp elt [⟨.Name x px, iter, [cnd], 0⟩] sc pos) 0 it acc env)) = (emitIn elt env acc >>= fun _ => again (.compLoop (.ListComp elt [⟨.Name x px, iter, [cnd], 0⟩] sc pos) 0 it acc env)) := by
        unfold emitIn
        rw [bind_assoc, bind_assoc]
        congr 1
        funext u
        rw [bind_assoc, bind_assoc]
        rfl
      rw [e]
      exact wpAt_bind (wpAt_mono h₃ (fun w s₅ h₅ => wpAt_of_wpAny (wpAny_pure ⟨hq, h₅⟩)) fun _ _ z => z.elim)
end
end
noncomputable def aEnv (i fa cd : Nat) (L : Addr) (q : String) : Env :=
  { scope := fS (aS i), locals := L, globals := 3, cells := [("__class__", 55)], qual := Str.ofString q, func := some fa, code := .ref cd, frame := some L, builtins := 0 }
noncomputable def pcEnv (L : Addr) : Env := aEnv 8 128 127 L "_Accumulator.part_count.<locals>."
noncomputable def inEnv (fa cd : Nat) (L : Addr) : Env := aEnv 0 fa cd L "_Accumulator.__init__.<locals>."
noncomputable def retE : Stmt → Expr
  | .Return (some e) _ => e
  | _ => noE
noncomputable def calP : Expr → Pos
  | .Call _ _ _ p => p
  | e => e.pos
noncomputable def calF : Expr → Expr
  | .Call f _ _ _ => f
  | _ => noE
noncomputable def attP : Expr → Pos
  | .Attribute _ _ p => p
  | e => e.pos
noncomputable def attO : Expr → Expr
  | .Attribute o _ _ => o
  | _ => noE
noncomputable def supC (env : Env) (first name : Str) (apos pos : Pos) (pl : Sem Bool) : Sem Value :=
  loadName env "super" >>= fun g => loadName env "__class__" >>= fun cls => loadName env first >>= fun self => isType cls >>= fun b =>
  (if g == .type "super" && b then call g [cls, self] else holding [cls, self] (call g [])) >>= fun ov =>
  standAt apos.atName >>= fun _ => holding [ov] (getMethod ov name pl) >>= fun fx => callWith pos fx.1 fx.2 [] []
noncomputable def supT (env : Env) (first name : Str) (apos pos : Pos) (pl : Sem Bool) : Sem Value :=
  PySem.W.R.bindR (loadNameT env "super") fun g => PySem.W.R.bindR (loadNameT env "__class__") fun cls => PySem.W.R.bindR (loadNameT env first) fun self => PySem.W.R.bindR (isTypeT cls) fun b =>
  PySem.W.R.bindR (if g == .type "super" && b then call g [cls, self] else holding [cls, self] (call g [])) fun ov =>
  PySem.W.R.bindR (standAt apos.atName) fun _ => PySem.W.R.bindR (holding [ov] (getMethodT ov name pl)) fun fx => callWithT pos fx.1 fx.2 [] []
theorem supC_eq : supC = supT := by
  unfold supC supT
  rw [loadNameT_eq, isTypeT_eq, getMethodT_eq, callWithT_eq, ← PySem.W.R.bindR_eq]
  rfl
noncomputable def supPl (e : Expr) (env : Env) : Sem Bool := do return (← importBound (attO (calF e)) env).getD true
noncomputable def supE (e : Expr) (name : Str) (env : Env) : Sem Value := supT env "self" name (attP (calF e)) (calP e) (supPl e env)
noncomputable def pcE : Expr := retE (nx (fB (aS 8)) 0)
noncomputable def inE : Expr := exE (nx (fB (aS 0)) 1)
noncomputable def holdB : List Stmt := fB (st 23)
noncomputable def holdEnv (L : Addr) : Env := envF 23 215 214 L [] "_law_hold.<locals>."
noncomputable def holdLoop (it L : Addr) : Code := .forLoop (forT (nx holdB 0)) (.ref it) (forB (nx holdB 0)) [] (holdEnv L)
noncomputable def playB : List Stmt := fB (st 24)
noncomputable def playEnv (L ct cr cc cta : Addr) : Env := envF 24 220 219 L [("turn", ct), ("room", cr), ("cop", cc), ("tables", cta)] "_law_play.<locals>."
noncomputable def playW : List Stmt := forB (nx playB 2)
noncomputable def playLoop (it L ct cr cc cta : Addr) : Code := .forLoop (forT (nx playB 2)) (.ref it) playW [] (playEnv L ct cr cc cta)
noncomputable def c11 : Expr := asE (nx playW 0)
noncomputable def c11Env (ns L ct cr cc cta : Addr) : Env := cpEnv c11 (playEnv L ct cr cc cta) ns [("turn", ct), ("tables", cta), ("room", cr), ("cop", cc)]
noncomputable def c11C (it acc ns L ct cr cc cta : Addr) : Code := .compLoop c11 0 (.ref it) (.ref acc) (c11Env ns L ct cr cc cta)
noncomputable def lawB : List Stmt := fB (st 25)
noncomputable def lawEnv : Env := envF 25 227 226 229 [] "law.<locals>."
noncomputable def lawC : Code := .func lawB lawEnv
section
open PySem.Calls PyProof.Rows
section
variable {X : Cx} {k n ρ e : Nat} {t u : Tok}
noncomputable def dfind : List (Nat × Nat × Nat) → Nat → Option Nat
  | [], _ => none
  | d :: r, u => if d.1 = u then some d.2.2 else dfind r u
theorem isInt_iv {a b t : Nat} : Value.isInt (Int.ofNat a) (iv b t) = decide (b = a) := by
  show ((Int.ofNat b) == (Int.ofNat a)) = _
  by_cases h : b = a
  · subst h; simp
  · rw [decide_eq_false h, beq_eq_false_iff_ne]
    intro z; exact h (Int.ofNat.inj z)
theorem dcs_find (ds : List (Nat × Nat × Nat)) (u : Nat) : findBy Value.isInt ⟨dcs ds⟩ (Int.ofNat u) = (dfind ds u).map Value.ref := by
  unfold findBy
  rw [List.find?_toArray]
  induction ds with
  | nil => rfl
  | cons d r ih =>
    have e : Value.isInt (Int.ofNat u) (iv d.1 d.2.1) = decide (d.1 = u) := isInt_iv
    show (List.find? _ (⟨hashInt (.ofNat d.1), iv d.1 d.2.1, .ref d.2.2⟩ :: dcs r)).map _ = _
    rw [List.find?_cons]
    simp only [e]
    unfold dfind
    by_cases h : d.1 = u
    · simp only [decide_eq_true h, if_pos h]; rfl
    · simp only [decide_eq_false h, if_neg h]; exact ih
theorem isInt_self (X : Cx) {x t : Nat} : (intKind pw X.w).is (Int.ofNat x) (iv x t) = true := by
  refine (isInt_iv (a := x) (b := x) (t := t)).trans ?_
  simp
theorem dcs_keys (ds : List (Nat × Nat × Nat)) (w : World) : KeysOf (intKind pw w) ⟨dcs ds⟩ := by
  intro en he
  rw [List.mem_toArray] at he
  obtain ⟨d, hd, rfl⟩ := List.mem_map.mp he
  exact ⟨.ofNat d.1, by show Value.isInt _ (iv d.1 d.2.1) = true; rw [isInt_iv]; simp, rfl⟩
theorem c_dget {l a x : Nat} {ds : List (Nat × Nat × Nat)} (h : dfind ds x = some a) : CutB X (bi "dict.__getitem__" [.ref l, iv x t]) (.ref a) [(l, dct (dcs ds) e)] k (k + 1) := by
  intro A s _ hk hP
  have hl := hP _ (.head _)
  refine cut_any slot_dict_getitem ⟨_, hl, rfl⟩ entry_dict_getitem (args_dict_getitem _ _) ?_
  show wpAny _ _ (dictGet l (iv x t) >>= _) _ _ s
  refine wpAny_bind (wpAny_dictGet_of (knd := intKind pw X.w) (k := .ofNat x) (f := fun z => findBy Value.isInt ⟨dcs ds⟩ z) ((isInt_self X)) ⟨_, _, _, hl, ⟨rfl, rfl, rfl⟩, rfl, dcs_keys ds X.w, fun _ => rfl⟩ ?_)
  rw [dcs_find, h]
  subst hk
  exact wpAny_pure ⟨_, rfl, rfl, rfl⟩
theorem c_dset {l a x : Nat} {ds : List (Nat × Nat × Nat)} (h : dfind ds x = none) (hl : ds.length < 1000) :
    CutG X ρ false (bi "dict.__setitem__" [.ref l, iv x t, .ref a]) (.ok (.ret .none)) [(l, dct (dcs ds) e)] n k (k + 1) [(l, dct (dcs (ds ++ [(x, t, a)])) (e + 1))] [] := by
  intro A s _ _ hn _ hk hP
  have ho := hP _ (.head _)
  have hkey : (intKind pw X.w).is (.ofNat x) (iv x t) = true := (isInt_self X)
  refine cut_any slot_dict_setitem ⟨_, ho, rfl⟩ entry_dict_setitem (args_dict_setitem _ _ _) ?_
  show wpAny _ _ (Builtin.Dict.notOrdered "__setitem__" ⟨[.ref l, iv x t, .ref a], []⟩ >>= _) _ _ s
  refine wpAny_bind (wpAny_notOrdered_dict (show s.TypeIs (.ref l) "dict" from ⟨_, ho, rfl⟩) ?_)
  show wpAny _ _ (dictSet l (iv x t) (.ref a) >>= _) _ _ s
  refine wpAny_bind ?_
  unfold dictSet
  try with_reducible refine wpAny_holding ?_
  refine wpAny_bind ((intKind pw X.w).pyHash hkey ?_)
  unfold dictSetHashed
  try with_reducible refine wpAny_holding ?_
  refine wpAny_bind (wpAny_dictFind_of (knd := intKind pw X.w) (s := { s with toks := s.toks + 1 }) hkey ho rfl (dcs_keys ds X.w) ?_)
  have hi : (⟨dcs ds⟩ : Array DictEntry).findIdx? (fun en => (intKind pw X.w).is (.ofNat x) en.key) = none := by
    have := dcs_find ds x
    rw [h, findBy_of_findIdx?] at this
    cases hq : (⟨dcs ds⟩ : Array DictEntry).findIdx? (fun en => Value.isInt (.ofNat x) en.key) with
    | none => exact hq
    | some i =>
      rw [hq] at this
      have hlt := (Array.findIdx?_eq_some_iff_findIdx_eq.mp hq).1
      simp only [Array.getElem?_eq_getElem hlt, Option.map_some, Option.map_none] at this
      exact nomatch this
  rw [hi]
  have fin := g_upd (o' := dct (dcs (ds ++ [(x, t, a)])) (e + 1)) (f := Obj.mapDictKeys (·.push ⟨hashInt (.ofNat x), iv x t, .ref a⟩)) (x := .ok (.ret .none)) ho (by simp [dct, Obj.mapDictKeys, dcs]) rfl hn rfl
  have hz : (⟨dcs ds⟩ : Array DictEntry).size ≤ sizeLine := by
    show (dcs ds).length ≤ sizeLine
    rw [sizeLine_eq]; simp [dcs]; omega
  refine wpAny_bind (wpAny_rule (wpAny_updateDictKeys (s := { s with toks := s.toks + 1 }) ho rfl (wpAny_pure ⟨.none, rfl, ?_⟩) (hz := hz) (hf := by rw [Array.size_push]; exact Nat.le_refl _)))
  obtain ⟨_, h', e1, e2⟩ := fin
  subst hk
  refine ⟨rfl, _, rfl, ?_⟩
  have e3 : h' = s.heap.update l (Obj.mapDictKeys (·.push ⟨hashInt (.ofNat x), iv x t, .ref a⟩)) := (congrArg Shared.heap e1).symm
  rw [e3] at e2
  exact e2
theorem ivs_ints : ∀ xs : NN, IntsAre (ivs xs) (xs.map fun p => Int.ofNat p.1)
  | [] => .nil
  | p :: r => .cons _ _ (ivs_ints r)
theorem map_ofNat_eq : ∀ {xs ys : NN}, (xs.map fun p => Int.ofNat p.1) = (ys.map fun p => Int.ofNat p.1) ↔ xs.map (·.1) = ys.map (·.1)
  | [], [] => by simp
  | [], _ :: _ => by simp
  | _ :: _, [] => by simp
  | p :: r, q :: w => by
    simp only [List.map_cons, List.cons.injEq]
    rw [map_ofNat_eq (xs := r) (ys := w)]
    exact ⟨fun ⟨a, b⟩ => ⟨Int.ofNat.inj a, b⟩, fun ⟨a, b⟩ => ⟨congrArg _ a, b⟩⟩
theorem eq_ints {A : Around} {E : Value → Shared → Prop} {Q : Bool → Shared → Prop} {s : Shared} {l m e e' : Nat} {xs ys : NN} (hl : s.heap.get? l = some (lst (ivs xs) e)) (hm : s.heap.get? m = some (lst (ivs ys) e')) (hu : A.units + 64 < cLine)
    (h : Q (decide (xs.map (·.1) = ys.map (·.1))) s) : wpAny (model pw X.w) A (compareOp .Eq (.ref l) (.ref m)) (fun c s₃ => wpAny (model pw X.w) A (truthy c) Q E s₃) E s := by
  refine eq_intsK ⟨_, hl, rfl, _, rfl⟩ (ivs_ints xs) ⟨_, hm, rfl, _, rfl⟩ (ivs_ints ys) hu (wpAny_truthy_bool ?_)
  rw [decide_eq_decide.mpr map_ofNat_eq]; exact h
theorem ne_ints {A : Around} {E : Value → Shared → Prop} {Q : Bool → Shared → Prop} {s : Shared} {l m e e' : Nat} {xs ys : NN} (hl : s.heap.get? l = some (lst (ivs xs) e)) (hm : s.heap.get? m = some (lst (ivs ys) e')) (hu : A.units + 64 < cLine)
    (h : Q (!decide (xs.map (·.1) = ys.map (·.1))) s) : wpAny (model pw X.w) A (compareOp .NotEq (.ref l) (.ref m)) (fun c s₃ => wpAny (model pw X.w) A (truthy c) Q E s₃) E s := by
  refine ne_intsK ⟨_, hl, rfl, _, rfl⟩ (ivs_ints xs) ⟨_, hm, rfl, _, rfl⟩ (ivs_ints ys) hu (wpAny_truthy_bool ?_)
  rw [decide_eq_decide.mpr map_ofNat_eq]; exact h
end
end
section
section
variable {X : Cx} {n k : Nat} {T F : LG} {s : Shared} {α : Type} {l : List α} {f : α → Addr × Obj} {i : Nat} {a : α}
theorem erase_perm : ∀ {l : List α} {i : Nat} {a : α}, l[i]? = some a → (l.map f).Perm (f a :: (l.eraseIdx i).map f)
  | [], i, a, h => by simp at h
  | x :: r, 0, a, h => by simp at h; subst h; exact List.Perm.refl _
  | x :: r, i + 1, a, h => by
    have := erase_perm (l := r) (i := i) (a := a) (by simpa using h)
    exact (this.cons (f x)).trans (List.Perm.swap ..)
theorem Rep.focus (H : Rep X n k (T ++ (l.map f ++ F)) s) (h : l[i]? = some a) : Rep X n k ((f a :: T) ++ ((l.eraseIdx i).map f ++ F)) s := by
  refine H.perm ?_
  rw [List.cons_append]
  exact (List.Perm.append_left T ((erase_perm h).append_right F)).trans List.perm_middle
theorem Rep.unfocus {p : Addr × Obj} (H : Rep X n k ((p :: T) ++ ((l.eraseIdx i).map f ++ F)) s) (h : l[i]? = some a) (hp : p = f a) : Rep X n k (T ++ (l.map f ++ F)) s := by
  subst hp
  refine H.perm ?_
  rw [List.cons_append]
  exact ((List.Perm.append_left T ((erase_perm h).append_right F)).trans List.perm_middle).symm
theorem Rep.enter {p : Addr × Obj} (H : Rep X n k ((p :: T) ++ (l.map f ++ F)) s) (hp : p = f a) : Rep X n k (T ++ ((l ++ [a]).map f ++ F)) s := by
  subst hp
  refine H.perm ?_
  rw [List.map_append, List.append_assoc, List.cons_append]
  refine List.perm_middle.symm.trans (List.Perm.append_left T ?_)
  exact List.perm_middle.symm
theorem Rep.cast (H : Rep X n k T s) {T' : LG} (h : T = T') : Rep X n k T' s := h ▸ H
theorem Does.mono {ρ ρ' : Nat} {c : Code} {post post' : Result → Nat → Nat → LG → Prop} (h : Does X ρ c n k T post) (l : ρ ≤ ρ') (q : ∀ r n' k' T', post r n' k' T' → post' r n' k' T') : Does X ρ' c n k T post' :=
  fun A s F hA H => codeAny_mono (h A s F (hA.mono l) H) fun r s' z => by
    obtain ⟨n', k', T', z1, z2⟩ := z
    exact ⟨n', k', T', q _ _ _ _ z1, z2⟩
end
structure PQ where
  a : Addr
  x : Nat
  y : Nat
  tx : Nat
  ty : Nat
noncomputable def PQ.o (p : PQ) : Addr × Obj := (p.a, tup [iv p.x p.tx, iv p.y p.ty])
noncomputable def PQ.v (p : PQ) : Nat × Nat := (p.x, p.y)
theorem get_some {α : Type} {l : List α} {i : Nat} (h : i < l.length) : ∃ x, l[i]? = some x := ⟨_, List.getElem?_eq_getElem h⟩
theorem getD_of {l : List Nat} {i x : Nat} (h : l[i]? = some x) : l.getD i 0 = x := by simp [List.getD, h]
end
section
noncomputable def Turn (X : Cx) (ρ : Nat) (c : Code) (I J : Nat → Nat → LG → Prop) : Prop := ∀ n k T, I n k T → ∀ A s F R, Fine ρ A → Rep X n k (T ++ F) s →
  (∀ n' k' T' s', J n' k' T' → Rep X n' k' (T' ++ F) s' → codeAny (model pw X.w) A c R s') → codeAny (model pw X.w) A c R s
section
variable {X : Cx} {ρ : Nat} {c : Code}
theorem loop {N : Nat} {I : Nat → Nat → Nat → LG → Prop} {post : Result → Nat → Nat → LG → Prop} (turn : ∀ i, i < N → Turn X ρ c (I i) (I (i + 1)))
    (fin : ∀ n k T, I N n k T → Does X ρ c n k T post) : ∀ (j i : Nat), j + i = N → ∀ n k T, I i n k T → Does X ρ c n k T post
  | 0, i, e, n, k, T, h => fin n k T ((show i = N by omega) ▸ h)
  | j + 1, i, e, n, k, T, h => fun A s F hA H => turn i (by omega) n k T h A s F _ hA H fun n' k' T' s' h' H' =>
    loop turn fin j (i + 1) (by omega) n' k' T' h' A s' F hA H'
theorem loopK {N : Nat} {I : Nat → Nat → Nat → LG → Prop} {F : LG} {R : Result → Shared → Prop} (turn : ∀ i, i < N → Turn X ρ c (I i) (I (i + 1)))
    (fin : ∀ n k T, I N n k T → ∀ A s, Fine ρ A → Rep X n k (T ++ F) s → codeAny (model pw X.w) A c R s) : ∀ (j i : Nat), j + i = N → ∀ n k T, I i n k T → ∀ A s, Fine ρ A → Rep X n k (T ++ F) s → codeAny (model pw X.w) A c R s
  | 0, i, e, n, k, T, h => fin n k T ((show i = N by omega) ▸ h)
  | j + 1, i, e, n, k, T, h => fun A s hA H => turn i (by omega) n k T h A s F _ hA H fun n' k' T' s' h' H' =>
    loopK turn fin j (i + 1) (by omega) n' k' T' h' A s' hA H'
theorem Rep.rot {n k : Nat} {s : Shared} {A B C F : LG} (H : Rep X n k (A ++ (B ++ (C ++ F))) s) : Rep X n k (A ++ (C ++ (B ++ F))) s :=
  H.perm (List.Perm.append_left A (by
    rw [← List.append_assoc, ← List.append_assoc]
    exact List.perm_append_comm.append_right F))
noncomputable def vfr (X : Cx) (x : Str) : Option (Nat × Nat × Nat) → Obj
  | none => dct [] 0
  | some (a, b, c) => dct [en X x a (iv b c)] 1
theorem Does.cons {n k : Nat} {T : LG} {post : Result → Nat → Nat → LG → Prop} {e : Expr} {d : Nat} {it acc : Value} {env : Env} (h : Does X ρ c n k T post) : Does X ρ c n k T post := h
theorem filter_next {α : Type} {p : α → Bool} {l : List α} {i : Nat} {a : α} (h : l[i]? = some a) : (l.take (i + 1)).filter p = (l.take i).filter p ++ (if p a then [a] else []) := by
  rw [List.take_add_one, List.filter_append, h]
  cases e : p a <;> simp [e]
theorem range_next {p : Nat → Bool} {i : Nat} : (List.range (i + 1)).filter p = (List.range i).filter p ++ (if p i then [i] else []) := by
  rw [List.range_succ, List.filter_append]
  cases e : p i <;> simp [e]
theorem take_next {α : Type} {l : List α} {i : Nat} {a : α} (h : l[i]? = some a) : l.take (i + 1) = l.take i ++ [a] := by
  rw [List.take_add_one, h]; rfl
theorem testBit_and {m n : Nat} : (m >>> n &&& 1 ≠ 0) ↔ m.testBit n = true := by
  unfold Nat.testBit
  rw [Nat.and_comm]
  simp
theorem comp_start_r {A : Around} {R : Result → Shared → Prop} {s : Shared} {e : Expr} {it : Addr} {acc : Value} {env : Env} {x lf : Nat} (he : ∃ elt t i ifs rest sc p, e = .ListComp elt (⟨t, i, ifs, 0⟩ :: rest) sc p) (hit : s.heap.get? it = some (rit x lf))
    (h : codeAny (model pw X.w) A (.compLoop e 0 (.ref it) acc env) R s) : codeAny (model pw X.w) A (.compStart e 0 (.ref it) acc env) R s := by
  obtain ⟨elt, t, i, ifs, rest, sc, p, rfl⟩ := he
  exact codeAny_compStart_list h (wpAny_pyIter_rangeiter (x := x) (left := lf) (step := 1) hit h)
theorem comp_start_l {A : Around} {R : Result → Shared → Prop} {s : Shared} {e : Expr} {it l : Addr} {acc : Value} {env : Env} {i : Nat} (he : ∃ elt t i ifs rest sc p, e = .ListComp elt (⟨t, i, ifs, 0⟩ :: rest) sc p) (hit : s.heap.get? it = some (lit l i))
    (h : codeAny (model pw X.w) A (.compLoop e 0 (.ref it) acc env) R s) : codeAny (model pw X.w) A (.compStart e 0 (.ref it) acc env) R s := by
  obtain ⟨elt, t, g, ifs, rest, sc, p, rfl⟩ := he
  exact codeAny_compStart_list h (wpAny_pyIter_listiter (l := l) (i := i) ⟨_, hit, rfl, rfl⟩ h)
end
end
section
open PySem.Calls PyProof.Rows
noncomputable def peekB {α : Type} : Nat → List Obj → Sem α → Option (α × List Addr)
  | 0, _, _ => none
  | m + 1, l, t => match t with
    | .pure x => some (x, [])
    | .rule _ q => peekB m l (q ())
    | .at _ q => peekB m l (q ())
    | .point _ q => peekB m l (q ())
    | .load b _ f => match l with
      | o :: r => match peekB m r (f o) with
        | some (x, as) => some (x, b :: as)
        | none => none
      | [] => none
    | _ => none
noncomputable def HasL (h : Heap) : List Addr → List Obj → Prop
  | a :: as, o :: os => h.get? a = some o ∧ HasL h as os
  | _, _ => True
theorem peek_sound {α : Type} {M : Model} {A : Around} {E : Value → Shared → Prop} {s : Shared} : ∀ {m : Nat} {l : List Obj} {t : Sem α} {x : α} {as : List Addr} {Q : α → Shared → Prop}, peekB m l t = some (x, as) → HasL s.heap as l → Q x s → wpAny M A t Q E s := by
  intro m
  induction m with
  | zero => intro l t x as Q h; cases h
  | succ m ih =>
    intro l t x as Q h hh hq
    cases t with
    | pure y => cases h; exact fun _ _ _ => hq
    | rule tag q => exact fun Γ p hΓ => ih (t := q ()) h hh hq Γ p hΓ
    | «at» p' q => exact fun Γ p hΓ => ih (t := q ()) h hh hq Γ p' hΓ
    | point v q => exact fun Γ p hΓ => ih (t := q ()) h hh hq Γ p hΓ
    | load b pt f =>
      cases l with
      | nil => cases h
      | cons o r =>
        unfold peekB at h
        cases e : peekB m r (f o) with
        | none => simp only [e] at h; cases h
        | some y =>
          obtain ⟨y1, y2⟩ := y
          simp only [e] at h
          cases h
          exact fun Γ p hΓ => ⟨o, hh.1, ih (t := f o) e hh.2 hq Γ p hΓ⟩
    | _ => cases h
noncomputable abbrev checkT := PySem.W.Fast.tw10254737850608025244
theorem checkT_eq : checkBuiltinCall = checkT := PySem.W.Fast.te10254737850608025244
noncomputable def o131 (X : Cx) : Obj := ((kt X).get 131).getD default
theorem o131_eq (X : Cx) : (kt X).get 131 = some (o131 X) := by obtain ⟨w, b, h, g, d, os⟩ := X; cases b <;> kernel_rfl!
section
variable {X : Cx} {k n ρ e : Nat} {t u : Tok}
theorem repr_str : ∀ x : Nat, x < 7 → Str.ofString (toString (Int.ofNat x)) = sd x
  | 0, _ | 1, _ | 2, _ | 3, _ | 4, _ | 5, _ | 6, _ => by decide
  | n + 7, h => absurd h (by omega)
theorem repr_ok : ∀ x : Nat, x < 7 → (Int.ofNat x).natAbs.log2 < 1920
  | 0, _ | 1, _ | 2, _ | 3, _ | 4, _ | 5, _ | 6, _ => by decide
  | n + 7, h => absurd h (by omega)
theorem c_repr {x : Nat} (h : x < 7) : CutB X (bi "int.__repr__" [iv x t]) (.str (sd x) k) [] k (k + 1) := by
  refine cut_slot F.slot_int_repr (fun s => typeIs_int s _ _) F.entry_int_repr (F.args_int_repr_1 _) (gives_int_repr (.ofNat x) t (repr_ok x h)) fun Q s hk q => ?_
  subst hk
  have := repr_str x h
  show (Str.ofString (toString (Int.ofNat x))).length ≤ sizeLine ∧ Q (.str (Str.ofString (toString (Int.ofNat x))) s.toks) _
  rw [this]; exact ⟨by rw [sizeLine_eq]; show 1 ≤ _; omega, q⟩
theorem acc_any (hk : KtOk X (kt X)) {id : String} {b : Builtin} {l D : Addr} {vs : List Value} {rest : List Value} {A : Around} {s : Shared} {R : Result → Shared → Prop} (hB : Base X s) (hl : s.heap.get? l = some (acc D vs e)) (hp : plainId id = true)
    (hb : entryFor table id = some b) (hc : peekB 20 [acc D vs e, o131 X] (checkT id ⟨.ref l :: rest, []⟩) = some ((), [l, 131]))
    (h : wpAny (model pw X.w) A.in1 (b ⟨.ref l :: rest, []⟩) (fun fin s' => ∃ v, fin = .done (.ret v) ∧ R (.ok (.ret v)) s') (fun x s' => R (.error x) s') s) : codeAny (model pw X.w) A (bi id (.ref l :: rest)) R s := by
  refine codeAny_call_builtin hp hb ?_
  rw [checkT_eq]
  refine peek_sound hc ⟨hl, hB.old 131 _ (by decide) (hk.at_ 131 _ (o131_eq X)), trivial⟩ ?_
  exact wpAny_mono h (fun fin s' h' => by obtain ⟨v, rfl, hv⟩ := h'; exact hv) fun _ _ h' => h'
theorem c_appA (hk : KtOk X (kt X)) {l D y : Addr} {vs : List Nat} (h : vs.length < 1000) : CutG X ρ false (bi "list.append" [.ref (l + 228), .ref y]) (.ok (.ret .none)) [(l + 228, acc D (rfs vs) e)] n k k [(l + 228, acc D (rfs (vs ++ [y])) (e + 1))] [] := by
  intro A s _ hB hn _ htk hP
  have hl := hP _ (.head _)
  refine acc_any hk hB hl (by kernel_rfl) entry_list_append (by obtain ⟨w, b, h, g, d, os⟩ := X; cases b <;> kernel_rfl!) ?_
  have fin := g_upd (o' := acc D (rfs (vs ++ [y])) (e + 1)) (f := Obj.mapSeq (·.push (.ref y))) (x := .ok (.ret .none)) hl (by simp [acc, Obj.mapSeq, rfs]) rfl hn htk
  show wpAny _ _ (updateSeq (l + 228) (·.push (.ref y)) >>= fun _ => ret .none) _ _ s
  have hz : (⟨rfs vs⟩ : Array Value).size ≤ sizeLine := by
    show (rfs vs).length ≤ sizeLine
    rw [sizeLine_eq, rfs_len]; omega
  refine wpAny_bind (wpAny_updateSeq hl rfl (hz := hz) (_hz' := by rw [Array.size_push]; omega) (wpAny_pure ⟨.none, rfl, fin⟩))
end
end
theorem sum1_e (X : Cx) (n k l e : Nat) (xs : NN) (F : LG) : REC X 0 (bi "sum" [.ref l]) n k ([(l, lst (ivs xs) e)] ++ F) [1, 0, 2] 3 (.again (.builtin "sum.loop" ⟨[.ref n, .ref (n+1), rawInt 0, rawInt 0], []⟩)) (n + 2) (k + 1) ([(n, lit l 0), ((n + 1), lst [(iv 0 k)] 0), (l, lst (ivs xs) e)] ++ F) [] := .mk 12 [.o 1, .o 1, .e, .o 1, .o 1] (by apply X.both <;> kernel_rfl!)
section
open PySem.Calls PyProof.Rows PySem.SeqAt
section
variable {X : Cx} {k n ρ e : Nat} {t u : Tok}
theorem c_lastZ {l : Addr} {vs : List Value} {x : Value} {z : Int} (hz : z = .negSucc 0) (h : vs[vs.length - 1]? = some x) : CutB X (bi "list.__getitem__" [.ref l, .int z t]) x [(l, lst vs e)] k k := by
  intro A s _ hk hP
  have hl := hP _ (.head _)
  refine cut_any slot_list_getitem (lst_typeIs hl) entry_list_getitem (args_list_getitem _ _) ?_
  show wpAny _ _ (Builtin.List.listSubscript? (.int z t) >>= _) _ _ s
  refine wpAny_bind (wpAny_listSubscript_int (by subst hz; decide) ?_)
  subst hz
  show wpAny _ _ ((Builtin.List.listItems (.ref l) >>= fun xs => pure ((seqIndex? (.negSucc 0) xs.size).bind fun j => xs[j]?.map (j, ·))) >>= _) _ _ s
  refine wpAny_bind (wpAny_bind ?_)
  unfold Builtin.List.listItems
  refine wpAny_bind (wpAny_seqItems hl rfl (wpAny_pure (wpAny_pure ?_)))
  have hlen : 0 < vs.length := by
    cases vs with
    | nil => cases h
    | cons a r => exact Nat.succ_pos _
  have e1 : seqIndex? (.negSucc 0) (⟨vs⟩ : Array Value).size = some (vs.length - 1) := by
    show seqIndex? (.negSucc 0) vs.length = _
    unfold seqIndex?
    simp
    omega
  have e2 : (⟨vs⟩ : Array Value)[vs.length - 1]? = some x := by simpa using h
  show wpAny _ _ (match (seqIndex? (.negSucc 0) (⟨vs⟩ : Array Value).size).bind fun j => (⟨vs⟩ : Array Value)[j]?.map (j, ·) with | some (_, x) => _ | none => _) _ _ s
  rw [e1]
  simp only [Option.bind_some, Option.getD, e2, Option.map_some]
  have fin : (Except.ok (.ret x) : Result) = .ok (.ret x) ∧ s = { s with toks := k } := ⟨rfl, by subst hk; rfl⟩
  first
    | exact wpAny_bind (wpAny_pure (wpAny_pure ⟨x, rfl, fin⟩))
    | exact wpAny_pure ⟨x, rfl, fin⟩
theorem c_last {l : Addr} {vs : List Value} {x : Value} (h : vs[vs.length - 1]? = some x) : CutB X (bi "list.__getitem__" [.ref l, .int (.negSucc 0) t]) x [(l, lst vs e)] k k := c_lastZ rfl h
theorem c_lastR {l : Addr} {vs : List Nat} {x : Nat} (h : vs[vs.length - 1]? = some x) : CutB X (bi "list.__getitem__" [.ref l, .int (.negSucc 0) t]) (.ref x) [(l, lst (rfs vs) e)] k k :=
  c_last (by rw [rfs_len]; exact rfs_get h)
theorem c_in {l x : Nat} {xs : NN} {d : Bool} (h : decide (x ∈ xs.map (·.1)) = d) : CutB X (bi "list.__contains__" [.ref l, iv x t]) (.bool d) [(l, lst (ivs xs) e)] k k := by
  intro A s _ hk hP
  have hl := hP _ (.head _)
  refine meets_any F.slot_list_contains (lst_typeIs hl) F.entry_list_contains (F.args_list_contains_2 _ _) (list_containsAt l ⟨ivs xs⟩ e none #[] (iv x t) (fun v => match v with | .int i _ => i == Int.ofNat x | _ => false)) ⟨hl, fun y hy => ?_, ?_⟩
  · have hy : y ∈ ivs xs := by simpa using hy
    obtain ⟨p, _, rfl⟩ := List.mem_map.mp hy
    exact EqAt.int_int _ _ _ _
  · subst hk
    refine ⟨?_, rfl⟩
    have e1 : ((⟨ivs xs⟩ : Array Value).any fun v => match v with | .int i _ => i == Int.ofNat x | _ => false) = d := by
      rw [← h, List.any_toArray, Bool.eq_iff_iff, List.any_eq_true, decide_eq_true_iff]
      constructor
      · rintro ⟨v, hv, e⟩
        obtain ⟨p, hp, rfl⟩ := List.mem_map.mp hv
        have e : (Int.ofNat p.1 == Int.ofNat x) = true := e
        exact List.mem_map.mpr ⟨p, hp, Int.ofNat.inj (eq_of_beq e)⟩
      · intro hx
        obtain ⟨p, hp, e⟩ := List.mem_map.mp hx
        exact ⟨iv p.1 p.2, List.mem_map.mpr ⟨p, hp, rfl⟩, by show (Int.ofNat p.1 == Int.ofNat x) = true; rw [e]; simp⟩
    rw [e1]
noncomputable def valI (xs : NN) (i : Nat) : Int := match xs[i]? with
  | some p => Int.ofNat p.1
  | none => 0
theorem preSum_eq (xs : NN) : ∀ j, j ≤ xs.length → preSum (valI xs) j = Int.ofNat ((xs.take j).map (·.1)).sum
  | 0, _ => rfl
  | j + 1, h => by
    obtain ⟨p, hp⟩ := get_some (l := xs) (i := j) (by omega)
    show preSum (valI xs) j + valI xs j = _
    rw [preSum_eq xs j (by omega), take_next hp, List.map_append, List.sum_append]
    unfold valI
    rw [hp]
    show (Int.ofNat _ + Int.ofNat _ : Int) = Int.ofNat (_ + (p.1 + 0))
    simp
theorem sum_take_le : ∀ (l : List Nat) (j : Nat), (l.take j).sum ≤ l.sum
  | [], j => by simp
  | a :: r, 0 => by simp
  | a :: r, j + 1 => by simp only [List.take_succ_cons, List.sum_cons]; have := sum_take_le r j; omega
theorem le_sum_mem : ∀ {l : List Nat} {a : Nat}, a ∈ l → a ≤ l.sum
  | [], _, h => by cases h
  | b :: r, a, h => by
    rw [List.sum_cons]
    rcases List.mem_cons.mp h with e | e
    · subst e; exact Nat.le_add_right _ _
    · exact Nat.le_trans (le_sum_mem e) (Nat.le_add_left _ _)
theorem sum_does (hk : KtOk X (kt X)) (l e n k : Nat) (xs : NN) (hs : (xs.map (·.1)).sum < 1000000) :
    DoesK X 70 (bi "sum" [.ref l]) n k [(l, lst (ivs xs) e)] (fun K => ∀ n' k' t, K (.ok (.ret (iv (xs.map (·.1)).sum t))) n' k' ([(l, lst (ivs xs) e)])) := by
  intro A s F R hA H qk
  refine startC (ranAgain (sum1_e ..) (plainId_quiet PySem.F.plain_sum_loop _) hk hA .nil H fun s1 H1 => ?_)
  have hn : l ≠ n := fun z => by
    have := H.lt (p := (l, lst (ivs xs) e)) (by simp)
    exact absurd this (by rw [← z]; exact Nat.lt_irrefl l)
  have hln : (l : Nat) < n := H.lt (p := (l, lst (ivs xs) e)) (by simp)
  have hi := H1.own (n, lit l 0) (by simp)
  have hst := H1.own (n + 1, lst [iv 0 k] 0) (by simp)
  have hl := H1.own (l, lst (ivs xs) e) (by simp)
  refine codeAny_sum_loop (Walks.list (show A.in1.handled = none from hA.1) n l hn ⟨ivs xs⟩) (valI xs) (fun i v hv => ?_) (fun j hj => ?_) (n + 1) (by simp only [List.mem_cons, List.not_mem_nil, or_false, not_or]; exact ⟨Nat.succ_ne_self n, Nat.ne_of_gt (Nat.lt_succ_of_lt hln)⟩) (ivs xs).length 0 s1 k 0 (by show (ivs xs).length - 0 = _; omega) (Nat.zero_le _) ⟨⟨_, hi, rfl, rfl⟩, ⟨_, hl, rfl, _, rfl⟩⟩ hst fun h' tk t' hkeep => ?_
  · have hv : (ivs xs)[i]? = some v := by simpa using hv
    unfold ivs at hv
    rw [List.getElem?_map] at hv
    unfold valI
    cases hx : xs[i]? with
    | none => rw [hx] at hv; cases hv
    | some p => rw [hx] at hv; cases hv; exact ⟨_, rfl⟩
  · have hj : j < (ivs xs).length := hj
    rw [ivs_len] at hj
    have h1 := preSum_eq xs (j + 1) (by omega)
    have h2 := sum_take_le (xs.map (·.1)) (j + 1)
    rw [← List.map_take] at h2
    obtain ⟨p, hp⟩ := get_some (l := xs) (i := j) (by omega)
    have h3 : p.1 ≤ (xs.map (·.1)).sum := le_sum_mem (List.mem_map_of_mem (List.mem_of_getElem? hp))
    refine ⟨?_, ?_⟩
    · unfold valI InLong
      rw [hp]
      show (-(2 ^ 63) ≤ ((p.1 : Nat) : Int) ∧ ((p.1 : Nat) : Int) < 2 ^ 63)
      omega
    · rw [h1]
      unfold InLong
      show (-(2 ^ 63) ≤ ((((xs.take (j + 1)).map (·.1)).sum : Nat) : Int) ∧ ((((xs.take (j + 1)).map (·.1)).sum : Nat) : Int) < 2 ^ 63)
      omega
  · have htot : preSum (valI xs) (⟨ivs xs⟩ : Array Value).size = Int.ofNat (xs.map (·.1)).sum := by
      show preSum (valI xs) (ivs xs).length = _
      rw [ivs_len, preSum_eq xs _ (Nat.le_refl _), List.take_length]
    rw [htot]
    have hN := H.big
    have keep : ∀ b o, b ≠ n → b ≠ n + 1 → s1.heap.get? b = some o → h'.get? b = some o := fun b o h1 h2 e => hkeep b o (by simpa using h1) h2 e
    have hsub : ∀ p ∈ ([(l, lst (ivs xs) e)] ++ F), p.1 ≠ n ∧ p.1 ≠ n + 1 := fun p hp => by
      have h1 := H.lt hp
      exact ⟨Nat.ne_of_lt h1, Nat.ne_of_lt (Nat.lt_succ_of_lt h1)⟩
    have own' : ∀ p ∈ ([(l, lst (ivs xs) e)] ++ F), h'.get? p.1 = some p.2 := fun p hp => keep _ _ (hsub p hp).1 (hsub p hp).2 (H1.own p (by
      rcases List.mem_append.mp hp with z | z
      · rw [List.mem_singleton] at z; subst z; simp
      · exact List.mem_append_right _ z))
    refine qk h'.objs.size tk t' _ ⟨⟨fun b o hb e => keep b o (Nat.ne_of_lt (Nat.lt_of_lt_of_le hb hN)) (Nat.ne_of_lt (Nat.lt_succ_of_lt (Nat.lt_of_lt_of_le hb hN))) (H1.base.old b o hb e), H1.base.gens, H1.base.drawn, H1.base.os⟩, rfl, rfl, ?_, own', H.nd, H.low⟩
    have h1 := Heap.lt_size (own' (l, lst (ivs xs) e) (by simp))
    have h2 := H.low (l, lst (ivs xs) e) (by simp)
    show N0 ≤ h'.objs.size
    exact Nat.le_trans h2 (Nat.le_of_lt h1)
end
end
section
open PySem.Calls PyProof.Rows
section
variable {X : Cx} {k n ρ e : Nat} {t u : Tok}
theorem c_nextA {it l D : Addr} {xs : List Nat} {i x : Nat} (h : xs[i]? = some x) : CutG X ρ false (bi "list_iterator.__next__" [.ref it]) (.ok (.ret (.ref x))) [(it, lit l i), (l, acc D (rfs xs) e)] n k k [(it, lit l (i + 1))] [] := by
  intro A s _ _ hn _ hk hP
  have hi := hP _ (.head _)
  have hl := hP _ (.tail _ (.head _))
  refine cut_any slot_listiter_next (fld_typeIs hi) entry_listiter_next (args_listiter_next _) ?_
  show wpAny _ _ (field (.ref it) 0 >>= _) _ _ s
  refine wpAny_bind (wpAny_field hi rfl (x := .ref l) rfl ?_)
  show wpAny _ _ (if (Value.ref l == Value.none) = true then _ else _) _ _ s
  rw [if_neg (show ¬ ((Value.ref l == Value.none) = true) from Bool.false_ne_true)]
  show wpAny _ _ (field (.ref it) 1 >>= _) _ _ s
  refine wpAny_bind (wpAny_field hi rfl (x := .int (.ofNat i) 0) rfl ?_)
  show wpAny _ _ (seqItems? (.ref l) >>= _) _ _ s
  refine wpAny_bind (wpAny_seqItems hl rfl ?_)
  have e1 : (⟨rfs xs⟩ : Array Value)[(Int.ofNat i).toNat]? = some (.ref x) := by simpa using rfs_get h
  simp only [e1]
  have fin := g_upd (o' := lit l (i + 1)) (f := Obj.mapFields (·.setIfInBounds 1 (rawInt (.ofNat i + 1)))) (x := .ok (.ret (.ref x))) hi (by simp [lit, fld, Obj.mapFields, rawInt]) rfl hn hk
  exact wpAny_bind (wpAny_setField hi rfl (by simp) (wpAny_pure ⟨.ref x, rfl, fin⟩))
theorem c_endA {it l D : Addr} {xs : List Nat} {i : Nat} (h : xs.length ≤ i) : CutG X ρ false (bi "list_iterator.__next__" [.ref it]) (.error (.ref (n + 1))) [(it, lit l i), (l, acc D (rfs xs) e)] n k k
    [(it, fld "list_iterator" [.none, .int (.ofNat i) 0])] [tup [], fld "StopIteration" [.ref n, .none, .none, .none, .bool false, .none]] := by
  intro A s hA _ hn _ hk hP
  have hi := hP _ (.head _)
  have hl := hP _ (.tail _ (.head _))
  refine cut_any slot_listiter_next (fld_typeIs hi) entry_listiter_next (args_listiter_next _) ?_
  show wpAny _ _ (field (.ref it) 0 >>= _) _ _ s
  refine wpAny_bind (wpAny_field hi rfl (x := .ref l) rfl ?_)
  show wpAny _ _ (if (Value.ref l == Value.none) = true then _ else _) _ _ s
  rw [if_neg (show ¬ ((Value.ref l == Value.none) = true) from Bool.false_ne_true)]
  show wpAny _ _ (field (.ref it) 1 >>= _) _ _ s
  refine wpAny_bind (wpAny_field hi rfl (x := .int (.ofNat i) 0) rfl ?_)
  show wpAny _ _ (seqItems? (.ref l) >>= _) _ _ s
  refine wpAny_bind (wpAny_seqItems hl rfl ?_)
  have e1 : (⟨rfs xs⟩ : Array Value)[(Int.ofNat i).toNat]? = none := by simpa [rfs] using h
  simp only [e1]
  obtain ⟨h1, h2, h3⟩ := upd_ok (o' := fld "list_iterator" [.none, .int (.ofNat i) 0]) (f := Obj.mapFields (·.setIfInBounds 0 .none)) hi (by simp [lit, fld, Obj.mapFields]) rfl
  refine wpAny_bind (wpAny_rule (wpAny_bind (wpAny_setField hi rfl (by simp) ?_)))
  show wpAny _ _ (newExc (.type "StopIteration") [] >>= _) _ _ _
  refine wpAny_bind ?_
  simp only [newExc, newTuple]
  refine wpAny_bind (wpAny_newObj_type ?_ (by size_fits))
  refine wpAny_bind (m := firstArgMember _ _) (wpAny_of_eq (a := Value.none) (by first | rfl | (simp only [firstArgMember]; rfl)) ?_)
  refine wpAny_newObj_type ?_ (by size_fits)
  simp only [raiseNew]
  refine wpAny_bind (wpAny_handled ?_)
  rw [show A.in1.handled = none from hA.1]
  refine wpAny_bind (wpAny_pure (wpAny_throw ?_))
  have fin := two_more (s := s) (h := s.heap.update it (Obj.mapFields (·.setIfInBounds 0 .none))) (U := [(it, fld "list_iterator" [.none, .int (.ofNat i) 0])]) (x := .error (.ref (n + 1)))
    (o1 := tup []) (o2 := fld "StopIteration" [.ref n, .none, .none, .none, .bool false, .none]) (h1.trans hn) hk rfl rfl (fun p hp => by rw [List.mem_singleton] at hp; subst hp; exact h2) h3
  have em : ownMembersOf (Value.type "StopIteration") [] = #[] := by kernel_rfl
  simp only [Heap.size_push, h1, hn, em, Array.append_empty]
  exact ⟨trivial, fin.2⟩
theorem sd_inj {a b : Nat} : ((sd a).cps.toList == (sd b).cps.toList) = decide (a = b) := by
  unfold sd
  by_cases h : a = b
  · subst h; simp
  · rw [decide_eq_false h]
    simp; omega
theorem c_seqT {a b : Nat} (h : a = b) : CutB X (bi "str.__eq__" [.str (sd a) t, .str (sd b) u]) (.bool true) [] k k := by
  have := sd_inj (a := a) (b := b)
  rw [decide_eq_true h] at this
  rw [← this]
  exact cut_slot F.slot_str_eq (fun s => typeIs_str s _ t) F.entry_str_eq (F.args_str_eq_2 _ _) (gives_str_eq _ _ t u) post_val
theorem c_seqF {a b : Nat} (h : a ≠ b) : CutB X (bi "str.__eq__" [.str (sd a) t, .str (sd b) u]) (.bool false) [] k k := by
  have := sd_inj (a := a) (b := b)
  rw [decide_eq_false h] at this
  rw [← this]
  exact cut_slot F.slot_str_eq (fun s => typeIs_str s _ t) F.entry_str_eq (F.args_str_eq_2 _ _) (gives_str_eq _ _ t u) post_val
end
end
section
open PySem.Calls PyProof.Rows
noncomputable abbrev rid (x left : Nat) : Obj := fld "range_iterator" [.int (.ofNat x) 0, .int (.ofNat left) 0, .int (.negSucc 0) 0]
section
variable {X : Cx} {k n ρ e : Nat} {t u v : Tok}
theorem size_down (a : Nat) : Builtin.Range.rangeSize (.ofNat a) (.ofNat 0) (.negSucc 0) = .ofNat a := by
  unfold Builtin.Range.rangeSize
  rw [if_neg (by decide)]
  show (if (a : Int) > ((0 : Nat) : Int) then ((a : Int) - ((0 : Nat) : Int) - 1) / 1 + 1 else 0) = (a : Int)
  rw [Int.ediv_one]
  split <;> omega
theorem c_riter {r : Addr} {a : Nat} (h : a < 1000) : CutG X ρ false (bi "range.__iter__" [.ref r]) (.ok (.ret (.ref n))) [(r, fld "range" [iv a t, iv 0 u, .int (.negSucc 0) v])] n k k [] [rid a a] := by
  intro A s _ _ hn _ hk hP
  have hi := hP _ (.head _)
  have hfit : ∀ z : Int, -2000 < z → z < 2000 → Builtin.Range.rangeFitsLong z = true := by
    intro z h1 h2
    unfold Builtin.Range.rangeFitsLong
    simp; omega
  have hsm : (Builtin.Range.rangeFitsLong (.ofNat a) && Builtin.Range.rangeFitsLong (.ofNat 0) && Builtin.Range.rangeFitsLong (.negSucc 0) && Builtin.Range.rangeFitsLong (Builtin.Range.rangeSize (.ofNat a) (.ofNat 0) (.negSucc 0)) && (Builtin.Range.rangeSize (.ofNat a) (.ofNat 0) (.negSucc 0) == 0 || if (.negSucc 0 : Int) > 0 then Builtin.Range.rangeFitsLong (.ofNat 0 + (.negSucc 0 - 1)) else Builtin.Range.rangeFitsLong (.ofNat 0 + (.negSucc 0 + 1)))) = true := by
    rw [size_down, hfit (.ofNat a) (by show (-2000 : Int) < (a : Int); omega) (by show (a : Int) < 2000; omega)]
    rw [hfit (.ofNat 0) (by decide) (by decide), hfit (.negSucc 0) (by decide) (by decide), if_neg (by decide), hfit (.ofNat 0 + (.negSucc 0 + 1)) (by decide) (by decide)]
    simp
  refine meets_any F.slot_range_iter (fld_typeIs hi) F.entry_range_iter (F.args_range_iter_1 _) (AutoRange.range___iter___range_1 r (.ofNat a) (.ofNat 0) (.negSucc 0) t u v (by rw [hsm]; decide)) ⟨hi, ?_⟩
  rw [hsm, size_down]
  have fin := one_more (s := s) (h := s.heap) (U := []) (o1 := rid a a) (x := .ok (.ret (.ref n))) hn hk rfl (fun _ h => nomatch h) (Keep.refl _ _)
  rw [hn]
  exact fin
theorem c_dnext {it : Addr} {x left : Nat} (h : left ≠ 0) (hx : x ≠ 0) : CutG X ρ false (bi "range_iterator.__next__" [.ref it]) (.ok (.ret (iv x k))) [(it, rid x left)] n k (k + 1) [(it, rid (x - 1) (left - 1))] [] := by
  intro A s _ _ hn _ hk hP
  have hi := hP _ (.head _)
  obtain ⟨left, rfl⟩ : ∃ l, left = l + 1 := ⟨left - 1, by omega⟩
  obtain ⟨x, rfl⟩ : ∃ l, x = l + 1 := ⟨x - 1, by omega⟩
  refine meets_any F.slot_range_iterator_next (fld_typeIs hi) F.entry_range_iterator_next (F.args_range_iterator_next_1 _)
    (AutoRange.range_iterator___next___range_iterator_1 it (.ofNat (x + 1)) (.ofNat (left + 1)) (.negSucc 0) (by show ¬ ((left : Int) + 1) ≤ 0; omega)) ⟨hi, ?_⟩
  have e0 : (Int.ofNat (x + 1) + .negSucc 0 : Int) = .ofNat x := by show ((x : Int) + 1) + (-1) = (x : Int); omega
  have e1 : (Int.ofNat (left + 1) - 1 : Int) = .ofNat left := by show ((left : Int) + 1) - 1 = (left : Int); omega
  rw [e0, e1]
  obtain ⟨h1, h2, h3⟩ := upd_ok (o' := fld "range_iterator" [.int (.ofNat x) 0, .int (.ofNat (left + 1)) 0, .int (.negSucc 0) 0]) (f := Obj.mapFields (·.setIfInBounds 0 (rawInt (.ofNat x)))) hi (by simp [fld, Obj.mapFields, rawInt]) rfl
  have hs2 : Heap.SameBut it (s.heap.update it (Obj.mapFields (·.setIfInBounds 0 (rawInt (.ofNat x))))) _ := Heap.SameBut.update _ it (Obj.mapFields (·.setIfInBounds 1 (rawInt (.ofNat left))))
  subst hk
  refine ⟨rfl, _, rfl, hs2.1.trans (h1.trans hn), fun p hp => ?_, fun i o z => (nomatch z), fun b o hb e => (hs2.2 b fun z => hb (by rw [z]; exact .head _)).trans (h3 b o hb e)⟩
  rw [List.mem_singleton] at hp
  subst hp
  rw [Heap.get?_update_self _ h2 rfl]
  simp [fld, Obj.mapFields, rawInt]
theorem c_dend {it : Addr} {x : Nat} : CutG X ρ false (bi "range_iterator.__next__" [.ref it]) (.error (.ref (n + 1))) [(it, rid x 0)] n k k
    [] [tup [], fld "StopIteration" [.ref n, .none, .none, .none, .bool false, .none]] := by
  intro A s hA _ hn _ hk hP
  have hit := hP _ (.head _)
  refine cut_any F.slot_range_iterator_next (fld_typeIs hit) F.entry_range_iterator_next (F.args_range_iterator_next_1 _) ?_
  show wpAny _ _ (field (.ref it) 0 >>= _) _ _ s
  refine wpAny_bind (wpAny_field hit rfl (x := rawInt x) rfl ?_)
  show wpAny _ _ (field (.ref it) 1 >>= _) _ _ s
  refine wpAny_bind (wpAny_field hit rfl (x := rawInt 0) rfl ?_)
  show wpAny _ _ (field (.ref it) 2 >>= _) _ _ s
  refine wpAny_bind (wpAny_field hit rfl (x := rawInt (.negSucc 0)) rfl ?_)
  show wpAny _ _ (if (0 : Int) ≤ 0 then _ else _) _ _ s
  rw [if_pos (by decide)]
  refine wpAny_bind (wpAny_rule ?_)
  refine wpAny_bind ?_
  show wpAny _ _ (newExc (.type "StopIteration") [] >>= _) _ _ _
  refine wpAny_bind ?_
  simp only [newExc, newTuple]
  refine wpAny_bind (wpAny_newObj_type ?_ (by size_fits))
  refine wpAny_bind (m := firstArgMember _ _) (wpAny_of_eq (a := Value.none) (by first | rfl | (simp only [firstArgMember]; rfl)) ?_)
  refine wpAny_newObj_type ?_ (by size_fits)
  simp only [raiseNew]
  refine wpAny_bind (wpAny_handled ?_)
  first | rw [show A.in1.handled = none from hA.1] | rw [hA.1]
  refine wpAny_bind (wpAny_pure (wpAny_throw ?_))
  have fin := two_more (s := s) (h := s.heap) (U := []) (x := .error (.ref (n + 1)))
    (o1 := tup []) (o2 := fld "StopIteration" [.ref n, .none, .none, .none, .bool false, .none]) hn hk rfl rfl (fun p hp => (nomatch hp)) (Keep.refl _ _)
  have em : ownMembersOf (Value.type "StopIteration") [] = #[] := by kernel_rfl
  simp only [Heap.size_push, hn, em, Array.append_empty]
  exact ⟨trivial, fin.2⟩
end
end
section
open PySem.Calls PyProof.Rows
noncomputable def peekT (X : Cx) {α : Type} : Nat → Nat → Sem α → Option (α × Nat)
  | 0, _, _ => none
  | m + 1, k, t => match t with
    | .pure x => some (x, k)
    | .rule _ q => peekT X m k (q ())
    | .at _ q => peekT X m k (q ())
    | .point _ q => peekT X m k (q ())
    | .fresh q => peekT X m (k + 1) (q k)
    | .ask q => peekT X m k (q ⟨pw, X.w.params⟩)
    | _ => none
theorem peekT_sound {X : Cx} {α : Type} {A : Around} {E : Value → Shared → Prop} : ∀ {m : Nat} {k k' : Nat} {t : Sem α} {x : α} {Q : α → Shared → Prop} {s : Shared}, peekT X m k t = some (x, k') → s.toks = k → Q x { s with toks := k' } → wpAny (model pw X.w) A t Q E s := by
  intro m
  induction m with
  | zero => intro k k' t x Q s h; cases h
  | succ m ih =>
    intro k k' t x Q s h hk hq
    subst hk
    cases t with
    | pure y => cases h; exact fun _ _ _ => hq
    | rule tag q => exact fun Γ p hΓ => ih (t := q ()) h rfl hq Γ p hΓ
    | «at» p' q => exact fun Γ p hΓ => ih (t := q ()) h rfl hq Γ p' hΓ
    | point v q => exact fun Γ p hΓ => ih (t := q ()) h rfl hq Γ p hΓ
    | fresh q => exact fun Γ p hΓ => ih (t := q s.toks) (s := { s with toks := s.toks + 1 }) h rfl hq Γ p hΓ
    | ask q => exact fun Γ p hΓ => ih (t := q ⟨pw, X.w.params⟩) h rfl hq Γ p hΓ
    | _ => cases h
noncomputable abbrev intNewT := PySem.W.Fast.tw11678526536113463801
theorem intNewT_eq : Builtin.«int.__new__» = intNewT := PySem.W.Fast.te11678526536113463801
section
variable {X : Cx} {k n ρ e : Nat} {t u v : Tok}
theorem intNew_peek (X : Cx) (k t : Nat) : ∀ x : Nat, x < 7 → peekT X 400 k (intNewT ⟨[.type "int", .str (sd x) t], []⟩) = some (.done (.ret (iv x k)), k + 1) := by
  obtain ⟨w, b, h, g, d, os⟩ := X
  intro x hx
  match x, hx with
  | 0, _ => kernel_rfl!
  | 1, _ => kernel_rfl!
  | 2, _ => kernel_rfl!
  | 3, _ => kernel_rfl!
  | 4, _ => kernel_rfl!
  | 5, _ => kernel_rfl!
  | 6, _ => kernel_rfl!
  | n + 7, h => exact absurd h (by omega)
theorem intNew_check (X : Cx) (k t : Nat) : ∀ x : Nat, x < 7 → peekT X 100 k (checkT "int.__new__" ⟨[.type "int", .str (sd x) t], []⟩) = some ((), k) := by
  obtain ⟨w, b, h, g, d, os⟩ := X
  intro x hx
  match x, hx with
  | 0, _ => kernel_rfl!
  | 1, _ => kernel_rfl!
  | 2, _ => kernel_rfl!
  | 3, _ => kernel_rfl!
  | 4, _ => kernel_rfl!
  | 5, _ => kernel_rfl!
  | 6, _ => kernel_rfl!
  | n + 7, h => exact absurd h (by omega)
theorem c_intS {x : Nat} (h : x < 7) : CutB X (bi "int.__new__" [.type "int", .str (sd x) t]) (iv x k) [] k (k + 1) := by
  intro A s _ hk _
  refine codeAny_call_builtin (by kernel_rfl) (entryFor_of_tree (by kernel_rfl) : entryFor table "int.__new__" = some Builtin.«int.__new__») ?_
  rw [checkT_eq, intNewT_eq]
  refine peekT_sound (intNew_check X k t x h) hk ?_
  refine peekT_sound (intNew_peek X k t x h) rfl ?_
  exact ⟨rfl, rfl⟩
theorem c_sneF {a b : Nat} (h : a = b) : CutB X (bi "str.__ne__" [.str (sd a) t, .str (sd b) u]) (.bool false) [] k k := by
  have := sd_inj (a := a) (b := b)
  rw [decide_eq_true h] at this
  have e : (!((sd a).cps.toList == (sd b).cps.toList)) = false := by rw [this]; rfl
  rw [← e]
  exact cut_slot F.slot_str_ne (fun s => typeIs_str s _ t) F.entry_str_ne (F.args_str_ne_2 _ _) (gives_str_ne _ _ t u) post_val
end
end
section
open PySem.Calls PyProof.Rows
section
variable {X : Cx} {k n ρ e : Nat} {t u v : Tok}
theorem c_popI {l x : Nat} {xs : NN} (h : xs.length < 1000) : CutG X ρ false (bi "list.pop" [.ref l]) (.ok (.ret (iv x t))) [(l, lst (ivs (xs ++ [(x, t)])) e)] n k k [(l, lst (ivs xs) (e + 1))] [] := by
  intro A s _ _ hn _ hk hP
  have hl := hP _ (.head _)
  have hsz : (⟨ivs (xs ++ [(x, t)])⟩ : Array Value).size = xs.length + 1 := by simp [ivs]
  refine meets_any F.slot_list_pop (lst_typeIs hl) F.entry_list_pop (F.args_list_pop_1 _) (MeetsSeq.list_pop_last l ⟨ivs (xs ++ [(x, t)])⟩ e (iv x t) ?_ ?_) ⟨hl, ?_⟩
  · rw [hsz]; simp [ivs]
  · rw [hsz, sizeLine_eq]; omega
  rw [hsz]
  have fin := g_upd (o' := lst (ivs xs) (e + 1)) (f := Obj.mapSeq (·.eraseIdxIfInBounds (xs.length + 1 - 1))) (x := .ok (.ret (iv x t))) hl ?_ rfl hn hk
  · exact fin
  · have e1 : (⟨ivs (xs ++ [(x, t)])⟩ : Array Value).eraseIdxIfInBounds (xs.length + 1 - 1) = ⟨ivs xs⟩ := by
      apply Array.ext'
      simp only [Array.eraseIdxIfInBounds, ivs, List.map_append, List.map_cons, List.map_nil]
      have h1 : xs.length + 1 - 1 = xs.length := rfl
      simp [List.eraseIdx_append_of_length_le]
    have e2 : ((⟨ivs xs⟩ : Array Value).size == (⟨ivs (xs ++ [(x, t)])⟩ : Array Value).size) = false := by simp [ivs]
    simp only [lst, Obj.mapSeq, e1, e2, Bool.false_eq_true, if_false]
theorem c_sliceA (hk : KtOk X (kt X)) {l D sl i : Nat} {vs : List Nat} (h : i ≤ vs.length) (hsz : vs.length < 1000) :
    CutG X ρ false (bi "list.__getitem__" [.ref (l + 228), .ref sl]) (.ok (.ret (.ref n))) [(l + 228, acc D (rfs vs) e), (sl, fld "slice" [iv i t, .none, .none])] n k k [] [lst (rfs (vs.drop i)) 0] := by
  intro A s _ hB hn _ hkk hP
  have hl := hP _ (.head _)
  have hos := hP _ (.tail _ (.head _))
  have hTs : s.TypeIs (.ref sl) "slice" := fld_typeIs hos
  have h0 : (none : Option Int) ≠ some 0 := by intro h; cases h
  refine acc_any hk hB hl (by kernel_rfl) entry_list_getitem (by obtain ⟨w, b, h, g, d, os⟩ := X; cases b <;> kernel_rfl!) ?_
  show wpAny _ _ (Builtin.List.listSubscript? (.ref sl) >>= _) _ _ s
  refine wpAny_bind ?_
  unfold Builtin.List.listSubscript?
  refine wpAny_bind (wpAny_specialOf hTs slice_no_index ?_)
  simp only [Option.isNone_none, if_true]
  refine wpAny_pure ?_
  show wpAny _ _ (typeOf (.ref sl) >>= _) _ _ s
  refine wpAny_bind (wpAny_typeOf hTs ?_)
  rw [if_neg (by decide)]
  rw [listSliceParts_eq]
  have hstep : ¬ ((rawPart none == rawInt 0) = true) := Bool.false_ne_true
  refine wpAny_bind (wpAny_bind (wpAny_field hos rfl (x := .none) rfl (wpAny_bind (wpAny_listPart IsPart.none ?_))))
  rw [if_neg hstep]
  refine wpAny_bind (wpAny_field hos rfl (x := iv i t) rfl (wpAny_bind (wpAny_listPart (.int _ _) ?_)))
  refine wpAny_bind (wpAny_field hos rfl (x := .none) rfl (wpAny_bind (wpAny_listPart IsPart.none (wpAny_pure ?_))))
  refine wpAny_bind (m := Builtin.List.listItems (.ref (l + 228))) ?_
  unfold Builtin.List.listItems
  refine wpAny_bind (wpAny_seqItems hl rfl (wpAny_pure ?_))
  refine wpAny_bind (wpAny_of_eq (sliceIndices_raw (some (.ofNat i)) none none _ h0) ?_)
  have hpick : slicePick ⟨rfs vs⟩ (some (.ofNat i)) none none = ⟨rfs (vs.drop i)⟩ := by
    rw [show (Int.ofNat i) = ((i : Nat) : Int) from rfl, slicePick_from _ _ (by simpa [rfs] using h)]
    simp [rfs, List.map_drop]
  have fin := one_more (s := s) (h := s.heap) (U := []) (o1 := lst (rfs (vs.drop i)) 0) (x := .ok (.ret (.ref n))) hn hkk rfl (fun _ h => nomatch h) (Keep.refl _ _)
  refine wpAny_bind (wpAny_newObj_type (wpAny_pure ⟨_, rfl, ?_⟩) (Nat.le_trans (slicePick_size_le ⟨rfs vs⟩ (some (.ofNat i)) none none) (by show (rfs vs).length ≤ sizeLine; rw [sizeLine_eq, rfs_len]; omega)))
  rw [hn]
  have fin2 := fin
  rw [show lst (rfs (vs.drop i)) 0 = ⟨.type "list", none, .seq (slicePick ⟨rfs vs⟩ (some (.ofNat i)) none none) 0, #[]⟩ by rw [hpick]; rfl] at fin2
  rw [show lst (rfs (vs.drop i)) 0 = ⟨.type "list", none, .seq (slicePick ⟨rfs vs⟩ (some (.ofNat i)) none none) 0, #[]⟩ by rw [hpick]; rfl]
  exact fin2
theorem c_setSliceA (hk : KtOk X (kt X)) {l D sl m i e' : Nat} {vs : List Nat} (h : i < vs.length) (hsz : vs.length < 1000) :
    CutG X ρ false (bi "list.__setitem__" [.ref (l + 228), .ref sl, .ref m]) (.ok (.ret .none)) [(l + 228, acc D (rfs vs) e), (sl, fld "slice" [iv i t, .none, .none]), (m, lst [] e')] n k k [(l + 228, acc D (rfs (vs.take i)) (e + 1))] [] := by
  intro A s _ hB hn _ hkk hP
  have hl := hP _ (.head _)
  have hos := hP _ (.tail _ (.head _))
  have hm := hP _ (.tail _ (.tail _ (.head _)))
  have hTs : s.TypeIs (.ref sl) "slice" := fld_typeIs hos
  have h0 : (none : Option Int) ≠ some 0 := by intro h; cases h
  have hne : l + 228 ≠ m := by
    intro z
    have h1 : s.heap.get? (l + 228) = some (lst [] e') := z ▸ hm
    rw [show s.heap.get? (l + 228) = some (acc D (rfs vs) e) from hl] at h1
    cases h1
  refine acc_any hk hB hl (by kernel_rfl) entry_list_setitem (by obtain ⟨w, b, h, g, d, os⟩ := X; cases b <;> kernel_rfl!) ?_
  show wpAny _ _ (Builtin.List.listSubscript? (.ref sl) >>= _) _ _ s
  refine wpAny_bind ?_
  unfold Builtin.List.listSubscript?
  refine wpAny_bind (wpAny_specialOf hTs slice_no_index ?_)
  simp only [Option.isNone_none, if_true]
  refine wpAny_pure ?_
  show wpAny _ _ (typeOf (.ref sl) >>= _) _ _ s
  refine wpAny_bind (wpAny_typeOf hTs ?_)
  rw [if_neg (by decide)]
  rw [listSliceParts_eq]
  have hstep : ¬ ((rawPart none == rawInt 0) = true) := Bool.false_ne_true
  refine wpAny_bind (wpAny_bind (wpAny_field hos rfl (x := .none) rfl (wpAny_bind (wpAny_listPart IsPart.none ?_))))
  rw [if_neg hstep]
  refine wpAny_bind (wpAny_field hos rfl (x := iv i t) rfl (wpAny_bind (wpAny_listPart (.int _ _) ?_)))
  refine wpAny_bind (wpAny_field hos rfl (x := .none) rfl (wpAny_bind (wpAny_listPart IsPart.none (wpAny_pure ?_))))
  have hsame : Builtin.List.listSameRef (.ref (l + 228)) (.ref m) = false := by
    show (l + 228 == m) = false
    simpa using hne
  rw [hsame, if_neg (by decide)]
  refine wpAny_bind (m := Builtin.List.listAllItems (.ref m) _) ?_
  unfold Builtin.List.listAllItems
  refine wpAny_bind (wpAny_typeOf (lst_typeIs hm) ?_)
  rw [if_pos (by decide)]
  unfold Builtin.List.listItems
  refine wpAny_bind (wpAny_seqItems hm rfl (wpAny_pure ?_))
  refine wpAny_bind (wpAny_bind (wpAny_seqItems hl rfl (wpAny_pure ?_)))
  refine wpAny_bind (wpAny_of_eq (sliceIndices_raw (some (.ofNat i)) none none _ h0) ?_)
  have hz : (⟨rfs vs⟩ : Array Value).size = vs.length := by simp [rfs]
  have hb : sliceBounds (some (.ofNat i)) none none (⟨rfs vs⟩ : Array Value).size = ((i : Int), ((vs.length : Nat) : Int), 1) := by
    rw [hz]
    unfold sliceBounds
    simp
    omega
  rw [hb]
  dsimp only
  rw [if_pos (by decide)]
  refine wpAny_bind (wpAny_rule ?_)
  have hlong : ¬ (Builtin.List.listTooLong ((⟨rfs vs⟩ : Array Value).size + (⟨[]⟩ : Array Value).size) = true) := by
    rw [hz]
    unfold Builtin.List.listTooLong
    rw [sizeLine_eq]
    simp; omega
  rw [if_neg hlong]
  have hmax : (max (i : Int) ((vs.length : Nat) : Int)).toNat = vs.length := by omega
  have hi : ((i : Int)).toNat = i := rfl
  rw [hmax, hi]
  have e1 : ((⟨rfs vs⟩ : Array Value).extract 0 i ++ (⟨[]⟩ : Array Value) ++ (⟨rfs vs⟩ : Array Value).extract vs.length) = ⟨rfs (vs.take i)⟩ := by
    apply Array.ext'
    simp [rfs, List.map_take]
  have e2 : ((⟨rfs (vs.take i)⟩ : Array Value).size == (⟨rfs vs⟩ : Array Value).size) = false := by
    simp [rfs]; omega
  have hobj : (acc D (rfs vs) e).mapSeq (fun xs => xs.extract 0 i ++ (⟨[]⟩ : Array Value) ++ xs.extract vs.length) = acc D (rfs (vs.take i)) (e + 1) := by
    simp only [acc, Obj.mapSeq, e1, e2, Bool.false_eq_true, if_false]
  have fin := g_upd (o' := acc D (rfs (vs.take i)) (e + 1)) (f := Obj.mapSeq (fun xs => xs.extract 0 i ++ (⟨[]⟩ : Array Value) ++ xs.extract vs.length)) (x := .ok (.ret .none)) hl hobj rfl hn hkk
  show wpAny _ _ (updateSeq (l + 228) _ >>= _) _ _ s
  refine wpAny_bind (wpAny_updateSeq hl rfl (hz := by rw [hz, sizeLine_eq]; omega) (_hz' := ?_) (wpAny_bind (wpAny_letGo (wpAny_pure ⟨.none, rfl, fin⟩))))
  rw [e1]
  show (rfs (vs.take i)).length ≤ _
  rw [rfs_len, List.length_take, sizeLine_eq]; omega
end
end
theorem lw0_e (X : Cx) (k eS : Nat) (vs : List (Int × Nat)) (F : LG) : REC X 490 (.call (.ref 227) ⟨[.ref 228], []⟩) 229 k ([(228, lst (zvs vs) eS)] ++ F) [0, 1] 2 (.again (lawC)) 230 (k + 1) ([(229, frm [en X "script" k (.ref 228)] 1), (228, lst (zvs vs) eS)] ++ F) [] := .mk 8 [.o 0, .o 0, .o 1, .o 1, .frame] (by kernel_rfl!)
noncomputable def lw1_o (X : Cx) (k kt1 eS : Nat) (vs : List (Int × Nat)) (F : LG) : Out := go X (kt X) 490 15 [.o 0, .o 1, .o 0] [] (lawC) (PySem.W.R.bindR (execsT (lawB.take 3) lawEnv) (fun f => .pure (.done f))) 230 k ([(229, frm [en X "script" kt1 (.ref 228)] 1), (228, lst (zvs vs) eS)] ++ F)
theorem lw1_e (X : Cx) (k kt1 eS : Nat) (vs : List (Int × Nat)) (F : LG) : RA X 490 [] (lawC) (PySem.W.R.bindR (execsT (lawB.take 3) lawEnv) (fun f => .pure (.done f))) 230 k ([(229, frm [en X "script" kt1 (.ref 228)] 1), (228, lst (zvs vs) eS)] ++ F) (lw1_o X k kt1 eS vs F) [2, 0, 1] 3 true (.call (.ref 163) ⟨[.ref 228, .ref 230], []⟩) 231 (k + 6) ([(228, lst (zvs vs) eS), (230, lst [(iv 249 k), (iv 0 (k + 1)), (iv 2 (k + 2)), (iv 14 (k + 3)), (iv 6 (k + 4)), (iv 35 (k + 5))] 0), (229, frm [en X "script" kt1 (.ref 228)] 1)] ++ F) [] := by delta lw1_o; exact .m (by kernel_rfl!)
noncomputable def lw2_o (X : Cx) (k kt1 eS : Nat) (vs : List (Int × Nat)) (n1 k1 : Nat) (xs : NN) (G1 : LG) (F : LG) (y1 y2 y3 y4 : Nat) : Out := goN X (kt X) 490 37 [.o 1, .o 1, .o 1, .o 2, .o 2, .o 2, .v (iv y1 y2) (k1 + 3) [1], .v (iv y3 (k1 + 4)) (k1 + 5) [], .v (iv y4 (k1 + 5)) (k1 + 6) [], .o 1, .o 1, .o 0, .o 1, .o 0] (lw1_o X k kt1 eS vs G1) (.ok (.ret (.ref 230))) n1 k1 ([(229, frm [en X "script" kt1 (.ref 228)] 1), (230, lst (ivs xs) 0)] ++ F)
theorem lw2_e (X : Cx) (k kt1 eS : Nat) (vs : List (Int × Nat)) (n1 k1 : Nat) (xs : NN) (G1 : LG) (F : LG) (y1 y2 y3 y4 : Nat) : RAN X 490 (lw1_o X k kt1 eS vs G1) (.ok (.ret (.ref 230))) n1 k1 ([(229, frm [en X "script" kt1 (.ref 228)] 1), (230, lst (ivs xs) 0)] ++ F) (lw2_o X k kt1 eS vs n1 k1 xs G1 F y1 y2 y3 y4) [1, 0] 2 true (.call (.ref 170) ⟨[.ref 230], []⟩) n1 (k1 + 7) ([(230, lst (ivs xs) 0), (229, frm [en X "script" kt1 (.ref 228), en X "cells" k1 (.ref 230), en X "first" (k1 + 6) (iv y4 (k1 + 5))] 3)] ++ F) [CutB X (bi "int.__add__" [(iv 1 (k1 + 1)), (iv y3 (k1 + 4))]) (iv y4 (k1 + 5)) [] (k1 + 5) (k1 + 6), CutB X (bi "int.__mod__" [(iv y1 y2), (iv 250 (k1 + 3))]) (iv y3 (k1 + 4)) [] (k1 + 4) (k1 + 5), CutB X (bi "list.__getitem__" [(.ref 230), (iv 0 (k1 + 2))]) (iv y1 y2) [(230, lst (ivs xs) 0)] (k1 + 3) (k1 + 3)] := by delta lw2_o; exact .mN (by kernel_rfl!)
theorem lw3_e (X : Cx) (k kt1 eS : Nat) (vs : List (Int × Nat)) (n1 k1 : Nat) (xs : NN) (G1 : LG) (y1 y2 y3 y4 : Nat) (G2 : LG) (n2 k2 P eP : Nat) (ps : List Nat) (F : LG) : REN X 490 (lw2_o X k kt1 eS vs n1 k1 xs G1 G2 y1 y2 y3 y4) (.ok (.ret (.ref P))) n2 k2 ([(229, frm [en X "script" kt1 (.ref 228), en X "cells" k1 (.ref 230), en X "first" (k1 + 6) (iv y4 (k1 + 5))] 3), (230, lst (ivs xs) 0), (P, lst (rfs ps) eP)] ++ F) [0, 2] 3 (.done (.next)) n2 (k2 + 1) ([(229, frm [en X "script" kt1 (.ref 228), en X "cells" k1 (.ref 230), en X "first" (k1 + 6) (iv y4 (k1 + 5)), en X "drawn" k2 (.ref P)] 4), (P, lst (rfs ps) eP)] ++ F) [] := .mk 8 [.o 1, .o 1] (by kernel_rfl!)
noncomputable def lw4_o (X : Cx) (n k kt1 kt2 kt3 kt4 f tf P eP : Nat) (ps : List Nat) (F : LG) : Out := go X (kt X) 490 10 [.o 0, .o 0, .o 1, .o 1, .o 0] [] (lawC) (PySem.W.R.bindR (evalT (cmpL (ifT (nx lawB 3))) lawEnv) (fun v => .pure (.done (.ret v)))) n k ([(229, frm [en X "script" kt1 (.ref 228), en X "cells" kt2 (.ref 230), en X "first" kt3 (iv f tf), en X "drawn" kt4 (.ref P)] 4), (P, lst (rfs ps) eP)] ++ F)
theorem lw4_e (X : Cx) (n k kt1 kt2 kt3 kt4 f tf P eP : Nat) (ps : List Nat) (F : LG) : RA X 490 [] (lawC) (PySem.W.R.bindR (evalT (cmpL (ifT (nx lawB 3))) lawEnv) (fun v => .pure (.done (.ret v)))) n k ([(229, frm [en X "script" kt1 (.ref 228), en X "cells" kt2 (.ref 230), en X "first" kt3 (iv f tf), en X "drawn" kt4 (.ref P)] 4), (P, lst (rfs ps) eP)] ++ F) (lw4_o X n k kt1 kt2 kt3 kt4 f tf P eP ps F) [1, 0] 2 true (.call (.ref 177) ⟨[.ref P, iv f tf], []⟩) n k ([(P, lst (rfs ps) eP), (229, frm [en X "script" kt1 (.ref 228), en X "cells" kt2 (.ref 230), en X "first" kt3 (iv f tf), en X "drawn" kt4 (.ref P)] 4)] ++ F) [] := by delta lw4_o; exact .m (by kernel_rfl!)
noncomputable def lw5_o (X : Cx) (n k kt1 kt2 kt3 kt4 f tf P eP : Nat) (ps : List Nat) (n1 k1 Y eY : Nat) (ys : NN) (G1 : LG) (F : LG) : Out := goN X (kt X) 490 5 [.o 1, .o 0] (lw4_o X n k kt1 kt2 kt3 kt4 f tf P eP ps G1) (.ok (.ret (.ref Y))) n1 k1 ([(229, frm [en X "script" kt1 (.ref 228), en X "cells" kt2 (.ref 230), en X "first" kt3 (iv f tf), en X "drawn" kt4 (.ref P)] 4), (Y, lst (ivs ys) eY), (P, lst (rfs ps) eP)] ++ F)
theorem lw5_e (X : Cx) (n k kt1 kt2 kt3 kt4 f tf P eP : Nat) (ps : List Nat) (n1 k1 Y eY : Nat) (ys : NN) (G1 : LG) (F : LG) : RAN X 490 (lw4_o X n k kt1 kt2 kt3 kt4 f tf P eP ps G1) (.ok (.ret (.ref Y))) n1 k1 ([(229, frm [en X "script" kt1 (.ref 228), en X "cells" kt2 (.ref 230), en X "first" kt3 (iv f tf), en X "drawn" kt4 (.ref P)] 4), (Y, lst (ivs ys) eY), (P, lst (rfs ps) eP)] ++ F) (lw5_o X n k kt1 kt2 kt3 kt4 f tf P eP ps n1 k1 Y eY ys G1 F) [1, 2, 0] 3 true (.call (.ref 184) ⟨[.ref Y, iv f tf], []⟩) n1 k1 ([(Y, lst (ivs ys) eY), (P, lst (rfs ps) eP), (229, frm [en X "script" kt1 (.ref 228), en X "cells" kt2 (.ref 230), en X "first" kt3 (iv f tf), en X "drawn" kt4 (.ref P)] 4)] ++ F) [] := by delta lw5_o; exact .mN (by kernel_rfl!)
theorem lw6_e (X : Cx) (n k kt1 kt2 kt3 kt4 f tf P eP : Nat) (ps : List Nat) (n1 k1 Y eY : Nat) (ys : NN) (G1 : LG) (n2 k2 Q eQ : Nat) (qs : List Nat) (G2 : LG) (F : LG) : REN X 490 (lw5_o X n k kt1 kt2 kt3 kt4 f tf P eP ps n1 k1 Y eY ys G1 G2) (.ok (.ret (.ref Q))) n2 k2 ([(229, frm [en X "script" kt1 (.ref 228), en X "cells" kt2 (.ref 230), en X "first" kt3 (iv f tf), en X "drawn" kt4 (.ref P)] 4), (Q, lst (rfs qs) eQ), (P, lst (rfs ps) eP)] ++ F) [1, 2, 0] 3 (.done (.ret (.ref Q))) n2 k2 ([(Q, lst (rfs qs) eQ), (P, lst (rfs ps) eP), (229, frm [en X "script" kt1 (.ref 228), en X "cells" kt2 (.ref 230), en X "first" kt3 (iv f tf), en X "drawn" kt4 (.ref P)] 4)] ++ F) [] := .mk 1 [] (by kernel_rfl!)
theorem lw7_e (X : Cx) (n k kt1 kt2 kt3 kt4 f tf P eP : Nat) (ps : List Nat) (Q eQ : Nat) (qs : List Nat) (F : LG) : RE X 490 [] (lawC) (PySem.W.R.bindR (evalT (cmpR (ifT (nx lawB 3))) lawEnv) (fun v => .pure (.done (.ret v)))) n k ([(229, frm [en X "script" kt1 (.ref 228), en X "cells" kt2 (.ref 230), en X "first" kt3 (iv f tf), en X "drawn" kt4 (.ref P)] 4), (Q, lst (rfs qs) eQ), (P, lst (rfs ps) eP)] ++ F) [1, 2, 0] 3 (.done (.ret (.ref P))) n k ([(Q, lst (rfs qs) eQ), (P, lst (rfs ps) eP), (229, frm [en X "script" kt1 (.ref 228), en X "cells" kt2 (.ref 230), en X "first" kt3 (iv f tf), en X "drawn" kt4 (.ref P)] 4)] ++ F) [] := .mk 2 [.o 1] (by kernel_rfl!)
noncomputable def lw8_o (X : Cx) (n k kt1 kt2 kt3 kt4 f tf P eP : Nat) (ps : List Nat) (F : LG) : Out := go X (kt X) 490 7 [.o 0, .o 1, .o 0] [] (lawC) (PySem.W.R.bindR (execsT ((lawB.drop 4).take 4) lawEnv) (fun f => .pure (.done f))) n k ([(229, frm [en X "script" kt1 (.ref 228), en X "cells" kt2 (.ref 230), en X "first" kt3 (iv f tf), en X "drawn" kt4 (.ref P)] 4), (P, lst (rfs ps) eP)] ++ F)
theorem lw8_e (X : Cx) (n k kt1 kt2 kt3 kt4 f tf P eP : Nat) (ps : List Nat) (F : LG) : RA X 490 [] (lawC) (PySem.W.R.bindR (execsT ((lawB.drop 4).take 4) lawEnv) (fun f => .pure (.done f))) n k ([(229, frm [en X "script" kt1 (.ref 228), en X "cells" kt2 (.ref 230), en X "first" kt3 (iv f tf), en X "drawn" kt4 (.ref P)] 4), (P, lst (rfs ps) eP)] ++ F) (lw8_o X n k kt1 kt2 kt3 kt4 f tf P eP ps F) [1, 0] 2 true (.call (.ref 191) ⟨[.ref P], []⟩) n k ([(P, lst (rfs ps) eP), (229, frm [en X "script" kt1 (.ref 228), en X "cells" kt2 (.ref 230), en X "first" kt3 (iv f tf), en X "drawn" kt4 (.ref P)] 4)] ++ F) [] := by delta lw8_o; exact .m (by kernel_rfl!)
noncomputable def lw9_o (X : Cx) (n k kt1 kt2 kt3 kt4 f tf P eP : Nat) (ps : List Nat) (n1 k1 N eN : Nat) (xs : NN) (G1 : LG) (F : LG) : Out := goN X (kt X) 490 14 [.o 1, .o 1, .o 0, .o 0, .o 0] (lw8_o X n k kt1 kt2 kt3 kt4 f tf P eP ps G1) (.ok (.ret (.ref N))) n1 k1 ([(229, frm [en X "script" kt1 (.ref 228), en X "cells" kt2 (.ref 230), en X "first" kt3 (iv f tf), en X "drawn" kt4 (.ref P)] 4), (P, lst (rfs ps) eP), (N, lst (ivs xs) eN)] ++ F)
theorem lw9_e (X : Cx) (n k kt1 kt2 kt3 kt4 f tf P eP : Nat) (ps : List Nat) (n1 k1 N eN : Nat) (xs : NN) (G1 : LG) (F : LG) : RAN X 490 (lw8_o X n k kt1 kt2 kt3 kt4 f tf P eP ps G1) (.ok (.ret (.ref N))) n1 k1 ([(229, frm [en X "script" kt1 (.ref 228), en X "cells" kt2 (.ref 230), en X "first" kt3 (iv f tf), en X "drawn" kt4 (.ref P)] 4), (P, lst (rfs ps) eP), (N, lst (ivs xs) eN)] ++ F) (lw9_o X n k kt1 kt2 kt3 kt4 f tf P eP ps n1 k1 N eN xs G1 F) [2, 1, 0] 3 true (.call (.ref 131) ⟨[], []⟩) n1 (k1 + 1) ([(N, lst (ivs xs) eN), (P, lst (rfs ps) eP), (229, frm [en X "script" kt1 (.ref 228), en X "cells" kt2 (.ref 230), en X "first" kt3 (iv f tf), en X "drawn" kt4 (.ref P), en X "near" k1 (.ref N)] 5)] ++ F) [] := by delta lw9_o; exact .mN (by kernel_rfl!)
noncomputable def lw10_o (X : Cx) (n k kt1 kt2 kt3 kt4 f tf P eP : Nat) (ps : List Nat) (n1 k1 N eN : Nat) (xs : NN) (G1 : LG) (m n2 k2 Dd eF kd td : Nat) (G2 : LG) (F : LG) : Out := goN X (kt X) 490 17 [.o 1, .o 1, .o 0, .o 1, .o 1, .o 0] (lw9_o X n k kt1 kt2 kt3 kt4 f tf P eP ps n1 k1 N eN xs G1 G2) (.ok (.ret (.ref (m + 229)))) n2 k2 ([(229, frm [en X "script" kt1 (.ref 228), en X "cells" kt2 (.ref 230), en X "first" kt3 (iv f tf), en X "drawn" kt4 (.ref P), en X "near" k1 (.ref N)] 5), (N, lst (ivs xs) eN), (m + 229, acc Dd [] eF), (Dd, dct [en X "_initial_size" kd (iv 0 td)] 1)] ++ F)
theorem lw10_e (X : Cx) (n k kt1 kt2 kt3 kt4 f tf P eP : Nat) (ps : List Nat) (n1 k1 N eN : Nat) (xs : NN) (G1 : LG) (m n2 k2 Dd eF kd td : Nat) (G2 : LG) (F : LG) : RAN X 490 (lw9_o X n k kt1 kt2 kt3 kt4 f tf P eP ps n1 k1 N eN xs G1 G2) (.ok (.ret (.ref (m + 229)))) n2 k2 ([(229, frm [en X "script" kt1 (.ref 228), en X "cells" kt2 (.ref 230), en X "first" kt3 (iv f tf), en X "drawn" kt4 (.ref P), en X "near" k1 (.ref N)] 5), (N, lst (ivs xs) eN), (m + 229, acc Dd [] eF), (Dd, dct [en X "_initial_size" kd (iv 0 td)] 1)] ++ F) (lw10_o X n k kt1 kt2 kt3 kt4 f tf P eP ps n1 k1 N eN xs G1 m n2 k2 Dd eF kd td G2 F) [1, 2, 3, 0] 4 true (.call (.ref 203) ⟨[.ref N, .ref (m + 229)], []⟩) n2 (k2 + 1) ([(N, lst (ivs xs) eN), ((m + 229), acc Dd [] eF), (Dd, dct [en X "_initial_size" kd (iv 0 td)] 1), (229, frm [en X "script" kt1 (.ref 228), en X "cells" kt2 (.ref 230), en X "first" kt3 (iv f tf), en X "drawn" kt4 (.ref P), en X "near" k1 (.ref N), en X "folds" k2 (.ref (m + 229))] 6)] ++ F) [] := by delta lw10_o; exact .mN (by kernel_rfl!)
noncomputable def lw11_o (X : Cx) (n k kt1 kt2 kt3 kt4 f tf P eP : Nat) (ps : List Nat) (n1 k1 N eN : Nat) (xs : NN) (G1 : LG) (m n2 k2 Dd eF kd td : Nat) (G2 : LG) (n3 k3 a M H eM eH eG : Nat) (ms hs : NN) (fs : List Nat) (G3 : LG) (F : LG) : Out := goN X (kt X) 490 68 [.o 7, .o 7, .o 7, .e, .o 7, .o 1, .o 1, .e, .o 1, .o 1, .o 1, .o 8, .o 1, .o 1, .o 1, .e, .o 1, .o 1, .o 1, .o 8, .o 1, .o 1, .o 1, .e, .o 1, .o 1, .o 1, .o 8, .o 1, .o 1, .o 1, .o 4, .o 4, .o 4, .o 4, .o 0, .o 4, .o 0] (lw10_o X n k kt1 kt2 kt3 kt4 f tf P eP ps n1 k1 N eN xs G1 m n2 k2 Dd eF kd td G2 G3) (.ok (.ret (.ref a))) n3 k3 ([(229, frm [en X "script" kt1 (.ref 228), en X "cells" kt2 (.ref 230), en X "first" kt3 (iv f tf), en X "drawn" kt4 (.ref P), en X "near" k1 (.ref N), en X "folds" k2 (.ref (m + 229))] 6), (N, lst (ivs xs) eN), (m + 229, acc Dd (rfs fs) eG), (Dd, dct [en X "_initial_size" kd (iv 0 td)] 1), (M, lst (ivs ms) eM), (H, lst (ivs hs) eH), (a, tup [.ref M, .ref H])] ++ F)
theorem lw11_e (X : Cx) (n k kt1 kt2 kt3 kt4 f tf P eP : Nat) (ps : List Nat) (n1 k1 N eN : Nat) (xs : NN) (G1 : LG) (m n2 k2 Dd eF kd td : Nat) (G2 : LG) (n3 k3 a M H eM eH eG : Nat) (ms hs : NN) (fs : List Nat) (G3 : LG) (F : LG) : RAN X 490 (lw10_o X n k kt1 kt2 kt3 kt4 f tf P eP ps n1 k1 N eN xs G1 m n2 k2 Dd eF kd td G2 G3) (.ok (.ret (.ref a))) n3 k3 ([(229, frm [en X "script" kt1 (.ref 228), en X "cells" kt2 (.ref 230), en X "first" kt3 (iv f tf), en X "drawn" kt4 (.ref P), en X "near" k1 (.ref N), en X "folds" k2 (.ref (m + 229))] 6), (N, lst (ivs xs) eN), (m + 229, acc Dd (rfs fs) eG), (Dd, dct [en X "_initial_size" kd (iv 0 td)] 1), (M, lst (ivs ms) eM), (H, lst (ivs hs) eH), (a, tup [.ref M, .ref H])] ++ F) (lw11_o X n k kt1 kt2 kt3 kt4 f tf P eP ps n1 k1 N eN xs G1 m n2 k2 Dd eF kd td G2 n3 k3 a M H eM eH eG ms hs fs G3 F) [4, 5, 6, 7, 8, 3] 10 true (.call (.ref 208) ⟨[.ref N], []⟩) (n3 + 3) (k3 + 2) ([(N, lst (ivs xs) eN), ((m + 229), acc Dd (rfs fs) eG), (Dd, dct [en X "_initial_size" kd (iv 0 td)] 1), (M, lst (ivs ms) eM), (H, lst (ivs hs) eH), (229, frm [en X "script" kt1 (.ref 228), en X "cells" kt2 (.ref 230), en X "first" kt3 (iv f tf), en X "drawn" kt4 (.ref P), en X "near" k1 (.ref N), en X "folds" k2 (.ref (m + 229)), en X "marks" k3 (.ref M), en X "hubs" (k3 + 1) (.ref H)] 8)] ++ F) [] := by delta lw11_o; exact .mN (by apply X.both <;> kernel_rfl!)
theorem lw12_e (X : Cx) (n k kt1 kt2 kt3 kt4 f tf P eP : Nat) (ps : List Nat) (n1 k1 N eN : Nat) (xs : NN) (G1 : LG) (m n2 k2 Dd eF kd td : Nat) (G2 : LG) (n3 k3 a M H eM eH eG : Nat) (ms hs : NN) (fs : List Nat) (G3 : LG) (n4 k4 Ta eT : Nat) (ts : List Nat) (G4 : LG) (F : LG) : REN X 490 (lw11_o X n k kt1 kt2 kt3 kt4 f tf P eP ps n1 k1 N eN xs G1 m n2 k2 Dd eF kd td G2 n3 k3 a M H eM eH eG ms hs fs G3 G4) (.ok (.ret (.ref Ta))) n4 k4 ([(229, frm [en X "script" kt1 (.ref 228), en X "cells" kt2 (.ref 230), en X "first" kt3 (iv f tf), en X "drawn" kt4 (.ref P), en X "near" k1 (.ref N), en X "folds" k2 (.ref (m + 229)), en X "marks" k3 (.ref M), en X "hubs" (k3 + 1) (.ref H)] 8), (N, lst (ivs xs) eN), (m + 229, acc Dd (rfs fs) eG), (Dd, dct [en X "_initial_size" kd (iv 0 td)] 1), (M, lst (ivs ms) eM), (H, lst (ivs hs) eH), (Ta, lst (rfs ts) eT)] ++ F) [0, 1, 2, 3, 4, 5, 6] 7 (.done (.next)) n4 (k4 + 1) ([(229, frm [en X "script" kt1 (.ref 228), en X "cells" kt2 (.ref 230), en X "first" kt3 (iv f tf), en X "drawn" kt4 (.ref P), en X "near" k1 (.ref N), en X "folds" k2 (.ref (m + 229)), en X "marks" k3 (.ref M), en X "hubs" (k3 + 1) (.ref H), en X "tables" k4 (.ref Ta)] 9), (N, lst (ivs xs) eN), ((m + 229), acc Dd (rfs fs) eG), (Dd, dct [en X "_initial_size" kd (iv 0 td)] 1), (M, lst (ivs ms) eM), (H, lst (ivs hs) eH), (Ta, lst (rfs ts) eT)] ++ F) [] := .mk 8 [.o 1, .o 1] (by apply X.both <;> kernel_rfl!)
theorem lw13_e (X : Cx) (n k kt1 kt2 kt3 kt4 kt5 kt6 kt7 kt8 kt9 f tf P eP N eN Fo Dd eF kd td M eM H eH Ta eT : Nat) (ps : List Nat) (xs ms hs : NN) (fs ts : List Nat) (F : LG) : RE X 490 [] (lawC) (PySem.W.R.bindR (evalT (cmpL (ifT (nx lawB 8))) lawEnv) (fun v => .pure (.done (.ret v)))) n k ([(229, frm [en X "script" kt1 (.ref 228), en X "cells" kt2 (.ref 230), en X "first" kt3 (iv f tf), en X "drawn" kt4 (.ref P), en X "near" kt5 (.ref N), en X "folds" kt6 (.ref (Fo + 228)), en X "marks" kt7 (.ref M), en X "hubs" kt8 (.ref H), en X "tables" kt9 (.ref Ta)] 9), (N, lst (ivs xs) eN), (Fo + 228, acc Dd (rfs fs) eF), (Dd, dct [en X "_initial_size" kd (iv 0 td)] 1), (M, lst (ivs ms) eM), (H, lst (ivs hs) eH), (Ta, lst (rfs ts) eT)] ++ F) [0, 1, 2, 3, 4, 5, 6] 7 (.done (.ret (.ref H))) n k ([(229, frm [en X "script" kt1 (.ref 228), en X "cells" kt2 (.ref 230), en X "first" kt3 (iv f tf), en X "drawn" kt4 (.ref P), en X "near" kt5 (.ref N), en X "folds" kt6 (.ref (Fo + 228)), en X "marks" kt7 (.ref M), en X "hubs" kt8 (.ref H), en X "tables" kt9 (.ref Ta)] 9), (N, lst (ivs xs) eN), ((Fo + 228), acc Dd (rfs fs) eF), (Dd, dct [en X "_initial_size" kd (iv 0 td)] 1), (M, lst (ivs ms) eM), (H, lst (ivs hs) eH), (Ta, lst (rfs ts) eT)] ++ F) [] := .mk 2 [.o 1] (by kernel_rfl!)
theorem lw14_e (X : Cx) (n k kt1 kt2 kt3 kt4 kt5 kt6 kt7 kt8 kt9 f tf P eP N eN Fo Dd eF kd td M eM H eH Ta eT : Nat) (ps : List Nat) (xs ms hs : NN) (fs ts : List Nat) (F : LG) : RE X 490 [] (lawC) (PySem.W.R.bindR (evalT (cmpR (ifT (nx lawB 8))) lawEnv) (fun v => .pure (.done (.ret v)))) n k ([(229, frm [en X "script" kt1 (.ref 228), en X "cells" kt2 (.ref 230), en X "first" kt3 (iv f tf), en X "drawn" kt4 (.ref P), en X "near" kt5 (.ref N), en X "folds" kt6 (.ref (Fo + 228)), en X "marks" kt7 (.ref M), en X "hubs" kt8 (.ref H), en X "tables" kt9 (.ref Ta)] 9), (N, lst (ivs xs) eN), (Fo + 228, acc Dd (rfs fs) eF), (Dd, dct [en X "_initial_size" kd (iv 0 td)] 1), (M, lst (ivs ms) eM), (H, lst (ivs hs) eH), (Ta, lst (rfs ts) eT)] ++ F) [0, 1, 2, 3, 4, 5, 6, 7] 8 (.done (.ret (.ref n))) (n + 1) k ([(n, lst [] 0), (229, frm [en X "script" kt1 (.ref 228), en X "cells" kt2 (.ref 230), en X "first" kt3 (iv f tf), en X "drawn" kt4 (.ref P), en X "near" kt5 (.ref N), en X "folds" kt6 (.ref (Fo + 228)), en X "marks" kt7 (.ref M), en X "hubs" kt8 (.ref H), en X "tables" kt9 (.ref Ta)] 9), (N, lst (ivs xs) eN), ((Fo + 228), acc Dd (rfs fs) eF), (Dd, dct [en X "_initial_size" kd (iv 0 td)] 1), (M, lst (ivs ms) eM), (H, lst (ivs hs) eH), (Ta, lst (rfs ts) eT)] ++ F) [] := .mk 2 [] (by kernel_rfl!)
theorem lw15_e (X : Cx) (n k kt1 kt2 kt3 kt4 kt5 kt6 kt7 kt8 kt9 f tf P eP N eN Fo Dd eF kd td M eM H eH Ta eT : Nat) (ps : List Nat) (xs ms hs : NN) (fs ts : List Nat) (W eW : Nat) (ws : NN) (F : LG) : RE X 490 [] (lawC) (PySem.W.R.bindR (execsT (ifB (nx lawB 8)) lawEnv) (fun f => .pure (.done f))) n k ([(229, frm [en X "script" kt1 (.ref 228), en X "cells" kt2 (.ref 230), en X "first" kt3 (iv f tf), en X "drawn" kt4 (.ref P), en X "near" kt5 (.ref N), en X "folds" kt6 (.ref (Fo + 228)), en X "marks" kt7 (.ref M), en X "hubs" kt8 (.ref H), en X "tables" kt9 (.ref Ta)] 9), (N, lst (ivs xs) eN), (Fo + 228, acc Dd (rfs fs) eF), (Dd, dct [en X "_initial_size" kd (iv 0 td)] 1), (M, lst (ivs ms) eM), (H, lst (ivs hs) eH), (Ta, lst (rfs ts) eT), (W, lst (ivs ws) eW)] ++ F) [0] 8 (.done (.ret (.bool true))) n (k + 3) ([(229, frm [en X "script" kt1 (.ref 228), en X "cells" kt2 (.ref 230), en X "first" kt3 (iv f tf), en X "drawn" kt4 (.ref P), en X "near" kt5 (.ref N), en X "folds" kt6 (.ref (Fo + 228)), en X "marks" kt7 (.ref M), en X "hubs" kt8 (.ref H), en X "tables" kt9 (.ref Ta)] 9)] ++ F) [CutB X (bi "list.__contains__" [(.ref W), (iv 127 k)]) (.bool false) [(W, lst (ivs ws) eW)] (k + 3) (k + 3), CutB X (bi "list.__getitem__" [(.ref Ta), (.int (.negSucc 0) (k + 2))]) (.ref W) [(Ta, lst (rfs ts) eT)] (k + 3) (k + 3)] := .mk 19 [.o 1, .e, .o 7, .o 7, .o 7, .v (.ref W) (k + 3) [6], .o 8, .o 8, .v (.bool false) (k + 3) [7]] (by kernel_rfl!)
noncomputable def lw16_o (X : Cx) (n k kt1 kt2 kt3 kt4 kt5 kt6 kt7 kt8 kt9 f tf P eP N eN Fo Dd eF kd td M eM H eH Ta eT : Nat) (ps : List Nat) (xs ms hs : NN) (fs ts : List Nat) (W eW c tc : Nat) (ws : NN) (F : LG) (y1 y2 y3 y4 y5 : Nat) : Out := go X (kt X) 490 75 [.o 1, .e, .o 7, .o 7, .o 7, .v (.ref W) (k + 3) [6], .o 8, .o 8, .v (.bool true) (k + 3) [7], .o 0, .o 0, .o 1, .v (iv y1 (k + 4)) (k + 5) [6], .o 0, .o 0, .o 1, .v (iv y2 (k + 6)) (k + 7) [4], .v (iv y3 (k + 8)) (k + 9) [], .v (.bool false) (k + 9) [], .o 0, .o 1, .o 1, .o 1, .o 1, .o 1, .o 1, .o 0, .o 0, .o 1, .v (iv y4 (k + 10)) (k + 11) [5], .v (iv y5 (k + 11)) (k + 12) [], .o 6, .o 6, .o 6, .v (iv c tc) (k + 12) [5], .o 1, .o 0] [] (lawC) (PySem.W.R.bindR (execsT (lawB.drop 9) lawEnv) (fun f => .pure (.done f))) n k ([(229, frm [en X "script" kt1 (.ref 228), en X "cells" kt2 (.ref 230), en X "first" kt3 (iv f tf), en X "drawn" kt4 (.ref P), en X "near" kt5 (.ref N), en X "folds" kt6 (.ref (Fo + 228)), en X "marks" kt7 (.ref M), en X "hubs" kt8 (.ref H), en X "tables" kt9 (.ref Ta)] 9), (N, lst (ivs xs) eN), (Fo + 228, acc Dd (rfs fs) eF), (Dd, dct [en X "_initial_size" kd (iv 0 td)] 1), (M, lst (ivs ms) eM), (H, lst (ivs hs) eH), (Ta, lst (rfs ts) eT), (W, lst (ivs ws) eW)] ++ F)
theorem lw16_e (X : Cx) (n k kt1 kt2 kt3 kt4 kt5 kt6 kt7 kt8 kt9 f tf P eP N eN Fo Dd eF kd td M eM H eH Ta eT : Nat) (ps : List Nat) (xs ms hs : NN) (fs ts : List Nat) (W eW c tc : Nat) (ws : NN) (F : LG) (y1 y2 y3 y4 y5 : Nat) : RA X 490 [] (lawC) (PySem.W.R.bindR (execsT (lawB.drop 9) lawEnv) (fun f => .pure (.done f))) n k ([(229, frm [en X "script" kt1 (.ref 228), en X "cells" kt2 (.ref 230), en X "first" kt3 (iv f tf), en X "drawn" kt4 (.ref P), en X "near" kt5 (.ref N), en X "folds" kt6 (.ref (Fo + 228)), en X "marks" kt7 (.ref M), en X "hubs" kt8 (.ref H), en X "tables" kt9 (.ref Ta)] 9), (N, lst (ivs xs) eN), (Fo + 228, acc Dd (rfs fs) eF), (Dd, dct [en X "_initial_size" kd (iv 0 td)] 1), (M, lst (ivs ms) eM), (H, lst (ivs hs) eH), (Ta, lst (rfs ts) eT), (W, lst (ivs ws) eW)] ++ F) (lw16_o X n k kt1 kt2 kt3 kt4 kt5 kt6 kt7 kt8 kt9 f tf P eP N eN Fo Dd eF kd td M eM H eH Ta eT ps xs ms hs fs ts W eW c tc ws F y1 y2 y3 y4 y5) [1, 6, 2, 4, 3, 7] 8 true (.call (.ref 220) ⟨[.ref N, .ref Ta, .ref (Fo + 228), .ref M, iv c tc, iv f tf], []⟩) n (k + 12) ([(N, lst (ivs xs) eN), (Ta, lst (rfs ts) eT), ((Fo + 228), acc Dd (rfs fs) eF), (M, lst (ivs ms) eM), (Dd, dct [en X "_initial_size" kd (iv 0 td)] 1), (W, lst (ivs ws) eW)] ++ F) [CutB X (bi "list.__getitem__" [(.ref H), (iv y5 (k + 11))]) (iv c tc) [(H, lst (ivs hs) eH)] (k + 12) (k + 12), CutB X (bi "int.__mod__" [(iv f tf), (iv y4 (k + 10))]) (iv y5 (k + 11)) [] (k + 11) (k + 12), CutB X (bi "len" [(.ref H)]) (iv y4 (k + 10)) [(H, lst (ivs hs) eH)] (k + 9) (k + 11), CutB X (bi "int.__ne__" [(iv y1 (k + 4)), (iv y3 (k + 8))]) (.bool false) [] (k + 9) (k + 9), CutB X (bi "int.__add__" [(iv y2 (k + 6)), (iv 2 (k + 7))]) (iv y3 (k + 8)) [] (k + 8) (k + 9), CutB X (bi "len" [(.ref M)]) (iv y2 (k + 6)) [(M, lst (ivs ms) eM)] (k + 5) (k + 7), CutB X (bi "len" [(.ref Ta)]) (iv y1 (k + 4)) [(Ta, lst (rfs ts) eT)] (k + 3) (k + 5), CutB X (bi "list.__contains__" [(.ref W), (iv 127 k)]) (.bool true) [(W, lst (ivs ws) eW)] (k + 3) (k + 3), CutB X (bi "list.__getitem__" [(.ref Ta), (.int (.negSucc 0) (k + 2))]) (.ref W) [(Ta, lst (rfs ts) eT)] (k + 3) (k + 3)] := by delta lw16_o; exact .m (by apply X.both <;> kernel_rfl!)
theorem lw17_e (X : Cx) (n k kt1 kt2 kt3 kt4 kt5 kt6 kt7 kt8 kt9 f tf P eP N eN Fo Dd eF kd td M eM H eH Ta eT : Nat) (ps : List Nat) (xs ms hs : NN) (fs ts : List Nat) (W eW c tc : Nat) (ws : NN) (G1 : LG) (y1 y2 y3 y4 y5 n1 k1 : Nat) (F : LG) : REN X 490 (lw16_o X n k kt1 kt2 kt3 kt4 kt5 kt6 kt7 kt8 kt9 f tf P eP N eN Fo Dd eF kd td M eM H eH Ta eT ps xs ms hs fs ts W eW c tc ws G1 y1 y2 y3 y4 y5) (.ok (.ret (.bool true))) n1 k1 ([] ++ F) [] 0 (.done (.ret (.bool true))) n1 k1 ([] ++ F) [] := .mk 1 [] (by apply X.both <;> kernel_rfl!)
noncomputable def cells1_o (X : Cx) (k eS : Nat) (vs : List (Int × Nat)) (xs : NN) (F : LG) : Out := goC X (kt X) 70 50 [.o 0, .o 0, .o 1, .o 1, .o 1, .o 1, .frame, .o 0, .o 0, .o 1, .o 3, .o 3, .o 3, .g false (.ok (.ret (.ref 233))) (k + 3) [2, 0] [] [lst (zvs (List.take 12 vs)) 0], .e, .g false (.ok (.ret (.ref 235))) (k + 3) [0] [] [lit 233 0, fld "enumerate" [.none, (.bool false), (.ref 234), (iv 0 0), .none, .none]], .o 1, .o 1, .e, .o 1, .o 1, .o 1, .o 1, .e, .o 1, .o 1] (.call (.ref 163) ⟨[.ref 228, .ref 230], []⟩) 231 k ([(228, lst (zvs vs) eS), (230, lst (ivs xs) 0)] ++ F)
theorem cells1_e (X : Cx) (k eS : Nat) (vs : List (Int × Nat)) (xs : NN) (F : LG) : RAC X 70 (.call (.ref 163) ⟨[.ref 228, .ref 230], []⟩) 231 k ([(228, lst (zvs vs) eS), (230, lst (ivs xs) 0)] ++ F) (cells1_o X k eS vs xs F) [4, 6, 0, 1, 2, 5] 7 true (cellsLoop 231 235) 236 (k + 3) ([(231, frm [en X "script" k (.ref 228), en X "row" (k + 1) (.ref 230)] 2), (230, lst (ivs xs) 0), (235, fld "enumerate" [.none, (.bool false), (.ref 234), (iv 0 0), .none, .none]), (234, lit 233 0), (233, lst (zvs (List.take 12 vs)) 0), (228, lst (zvs vs) eS)] ++ F) [CutG X 70 false (bi "enumerate.__new__" [(.type "enumerate"), (.ref 233)]) (.ok (.ret (.ref 235))) [(233, lst (zvs (List.take 12 vs)) 0)] 234 (k + 3) (k + 3) [] [lit 233 0, fld "enumerate" [.none, (.bool false), (.ref 234), (iv 0 0), .none, .none]], CutG X 70 false (bi "list.__getitem__" [(.ref 228), (.ref 232)]) (.ok (.ret (.ref 233))) [(228, lst (zvs vs) eS), (232, fld "slice" [.none, (iv 12 (k + 2)), .none])] 233 (k + 3) (k + 3) [] [lst (zvs (List.take 12 vs)) 0]] := by delta cells1_o; exact .mC (by apply X.both <;> kernel_rfl!)
theorem cellsA_e (X : Cx) (k kt1 kt2 : Nat) (vs : List (Int × Nat)) (xs : NN) (F : LG) (y1 y2 y3 y4 y5 y6 y7 : Nat) (z1 : NN) (i1 : Int) : REC X 0 (cellsLoop 231 235) 236 k ([(231, frm [en X "script" kt1 (.ref 228), en X "row" kt2 (.ref 230)] 2), (230, lst (ivs xs) 0), (235, enu 234 0 .none .none false), (234, lit 233 0), (233, lst (zvs vs) 0)] ++ F) [4, 5, 6, 7, 8] 9 (.again (cellsLoop 231 235)) 240 (k + 9) ([(231, frm [en X "script" kt1 (.ref 228), en X "row" kt2 (.ref 230), en X "place" (k + 1) (iv 0 k), en X "x" (k + 2) (.int (i1) y1)] 4), (230, lst (ivs z1) 0), (235, fld "enumerate" [.none, (.bool false), (.ref 234), (iv 1 0), .none, (.int (i1) y1)]), (234, lit 233 1), (233, lst (zvs vs) 0)] ++ F) [CutG X 0 false (bi "list.__setitem__" [(.ref 230), (iv y3 (k + 5)), (iv y7 (k + 8))]) (.ok (.ret .none)) [(230, lst (ivs xs) 0)] 240 (k + 9) (k + 9) [(230, lst (ivs z1) 0)] [], CutB X (bi "int.__add__" [(iv y4 y5), (iv y6 (k + 7))]) (iv y7 (k + 8)) [] (k + 8) (k + 9), CutB X (bi "int.__mod__" [(.int (i1) y1), (iv 1000 (k + 6))]) (iv y6 (k + 7)) [] (k + 7) (k + 8), CutB X (bi "list.__getitem__" [(.ref 230), (iv y3 (k + 5))]) (iv y4 y5) [(230, lst (ivs xs) 0)] (k + 6) (k + 6), CutB X (bi "int.__mod__" [(iv 0 k), (iv y2 (k + 4))]) (iv y3 (k + 5)) [] (k + 5) (k + 6), CutB X (bi "len" [(.ref 230)]) (iv y2 (k + 4)) [(230, lst (ivs xs) 0)] (k + 3) (k + 5), CutG X 0 false (bi "list_iterator.__next__" [(.ref 234)]) (.ok (.ret (.int (i1) y1))) [(234, lit 233 0), (233, lst (zvs vs) 0)] 236 k k [(234, lit 233 1)] []] := .mk 121 [.o 3, .e, .o 3, .o 3, .o 4, .g false (.ok (.ret (.int (i1) y1))) k [3, 4] [(3, lit 233 1)] [], .o 3, .o 3, .o 3, .o 3, .o 3, .o 3, .o 4, .o 4, .o 4, .o 4, .o 4, .o 4, .o 4, .o 4, .o 4, .o 4, .o 4, .o 1, .o 1, .o 1, .e, .o 1, .o 1, .o 1, .e, .o 1, .o 1, .o 1, .o 2, .o 1, .o 1, .o 1, .e, .o 1, .o 1, .o 1, .o 2, .o 1, .o 1, .o 1, .e, .o 1, .o 1, .o 1, .o 2, .o 1, .o 1, .o 1, .o 5, .o 5, .o 5, .o 5, .o 5, .o 5, .o 0, .o 0, .o 5, .v (iv y2 (k + 4)) (k + 5) [5], .v (iv y3 (k + 5)) (k + 6) [], .o 6, .o 6, .v (iv y4 y5) (k + 6) [5], .o 5, .v (iv y6 (k + 7)) (k + 8) [], .v (iv y7 (k + 8)) (k + 9) [], .o 6, .o 6, .g false (.ok (.ret .none)) (k + 9) [5] [(5, lst (ivs z1) 0)] []] (by apply X.both <;> kernel_rfl!)
theorem cellsB_e (X : Cx) (n k kt1 kt2 : Nat) (vs : List (Int × Nat)) (xs : NN) (F : LG) : REC X 0 (cellsLoop 231 235) n k ([(231, frm [en X "script" kt1 (.ref 228), en X "row" kt2 (.ref 230)] 2), (230, lst (ivs xs) 0), (235, enu 234 0 .none .none false), (234, lit 233 0), (233, lst (zvs vs) 0)] ++ F) [2, 3] 7 (.done (.next)) (n + 2) k ([(231, frm [en X "script" kt1 (.ref 228), en X "row" kt2 (.ref 230)] 2), (230, lst (ivs xs) 0)] ++ F) [CutG X 0 false (bi "list_iterator.__next__" [(.ref 234)]) (.error (.ref (n + 1))) [(234, lit 233 0), (233, lst (zvs vs) 0)] n k k [(234, fld "list_iterator" [.none, (iv 0 0)])] [tup [], fld "StopIteration" [(.ref n), .none, .none, .none, (.bool false), .none]]] := .mk 11 [.o 3, .e, .o 3, .o 3, .o 4, .g false (.error (.ref (n + 1))) k [3, 4] [(3, fld "list_iterator" [.none, (iv 0 0)])] [tup [], fld "StopIteration" [(.ref n), .none, .none, .none, (.bool false), .none]], .o 1] (by kernel_rfl!)
theorem cellsC_e (X : Cx) (n k kt1 kt2 i kt3 kt4 a1 a2 b2 : Nat) (b1 : Int) (vs : List (Int × Nat)) (xs : NN) (F : LG) : REC X 0 (cellsLoop 231 235) n k ([(231, frm [en X "script" kt1 (.ref 228), en X "row" kt2 (.ref 230), en X "place" kt3 (iv a1 a2), en X "x" kt4 (.int b1 b2)] 4), (230, lst (ivs xs) 0), (235, enu 234 i (.int b1 b2) .none false), (234, lit 233 i), (233, lst (zvs vs) 0)] ++ F) [2, 3] 7 (.done (.next)) (n + 2) k ([(231, frm [en X "script" kt1 (.ref 228), en X "row" kt2 (.ref 230), en X "place" kt3 (iv a1 a2), en X "x" kt4 (.int (b1) b2)] 4), (230, lst (ivs xs) 0)] ++ F) [CutG X 0 false (bi "list_iterator.__next__" [(.ref 234)]) (.error (.ref (n + 1))) [(234, lit 233 i), (233, lst (zvs vs) 0)] n k k [(234, fld "list_iterator" [.none, (iv i 0)])] [tup [], fld "StopIteration" [(.ref n), .none, .none, .none, (.bool false), .none]]] := .mk 11 [.o 3, .e, .o 3, .o 3, .o 4, .g false (.error (.ref (n + 1))) k [3, 4] [(3, fld "list_iterator" [.none, (iv i 0)])] [tup [], fld "StopIteration" [(.ref n), .none, .none, .none, (.bool false), .none]], .o 1] (by kernel_rfl!)
theorem cellsD_e (X : Cx) (k eS n' k' kt1 kt2 : Nat) (vs : List (Int × Nat)) (xs xs' : NN) (G : LG) (F : LG) : REN X 70 (cells1_o X k eS vs xs G) (.ok .next) n' k' ([(231, frm [en X "script" kt1 (.ref 228), en X "row" kt2 (.ref 230)] 2), (230, lst (ivs xs') 0)] ++ F) [1] 2 (.done (.ret (.ref 230))) n' k' ([(230, lst (ivs xs') 0)] ++ F) [] := .mk 3 [.o 1] (by apply X.both <;> kernel_rfl!)
theorem cellsE_e (X : Cx) (k eS n' k' kt1 kt2 kt3 kt4 a1 a2 b2 : Nat) (b1 : Int) (vs : List (Int × Nat)) (xs xs' : NN) (G : LG) (F : LG) : REN X 70 (cells1_o X k eS vs xs G) (.ok .next) n' k' ([(231, frm [en X "script" kt1 (.ref 228), en X "row" kt2 (.ref 230), en X "place" kt3 (iv a1 a2), en X "x" kt4 (.int b1 b2)] 4), (230, lst (ivs xs') 0)] ++ F) [1] 2 (.done (.ret (.ref 230))) n' k' ([(230, lst (ivs xs') 0)] ++ F) [] := .mk 3 [.o 1] (by apply X.both <;> kernel_rfl!)
theorem cells_1_e (X : Cx) (k kt1 kt2 : Nat) (vs : List (Int × Nat)) (xs : NN) (kt3 kt4 a1 a2 b2 : Nat) (b1 : Int) (F : LG) (y1 y2 y3 y4 y5 y6 y7 : Nat) (z1 : NN) (i1 : Int) : REC X 0 (cellsLoop 231 235) 240 k ([(231, frm [en X "script" kt1 (.ref 228), en X "row" kt2 (.ref 230), en X "place" kt3 (iv a1 a2), en X "x" kt4 (.int b1 b2)] 4), (230, lst (ivs xs) 0), (235, enu 234 1 (.int b1 b2) .none false), (234, lit 233 1), (233, lst (zvs vs) 0)] ++ F) [4, 5, 6, 7, 8] 9 (.again (cellsLoop 231 235)) 244 (k + 9) ([(231, frm [en X "script" kt1 (.ref 228), en X "row" kt2 (.ref 230), en X "place" kt3 (iv 1 k), en X "x" kt4 (.int (i1) y1)] 4), (230, lst (ivs z1) 0), (235, fld "enumerate" [.none, (.bool false), (.ref 234), (iv 2 0), .none, (.int (i1) y1)]), (234, lit 233 2), (233, lst (zvs vs) 0)] ++ F) [CutG X 0 false (bi "list.__setitem__" [(.ref 230), (iv y3 (k + 5)), (iv y7 (k + 8))]) (.ok (.ret .none)) [(230, lst (ivs xs) 0)] 244 (k + 9) (k + 9) [(230, lst (ivs z1) 0)] [], CutB X (bi "int.__add__" [(iv y4 y5), (iv y6 (k + 7))]) (iv y7 (k + 8)) [] (k + 8) (k + 9), CutB X (bi "int.__mod__" [(.int (i1) y1), (iv 1000 (k + 6))]) (iv y6 (k + 7)) [] (k + 7) (k + 8), CutB X (bi "list.__getitem__" [(.ref 230), (iv y3 (k + 5))]) (iv y4 y5) [(230, lst (ivs xs) 0)] (k + 6) (k + 6), CutB X (bi "int.__mod__" [(iv 1 k), (iv y2 (k + 4))]) (iv y3 (k + 5)) [] (k + 5) (k + 6), CutB X (bi "len" [(.ref 230)]) (iv y2 (k + 4)) [(230, lst (ivs xs) 0)] (k + 3) (k + 5), CutG X 0 false (bi "list_iterator.__next__" [(.ref 234)]) (.ok (.ret (.int (i1) y1))) [(234, lit 233 1), (233, lst (zvs vs) 0)] 240 k k [(234, lit 233 2)] []] := .mk 121 [.o 3, .e, .o 3, .o 3, .o 4, .g false (.ok (.ret (.int (i1) y1))) k [3, 4] [(3, lit 233 2)] [], .o 3, .o 3, .o 3, .o 3, .o 3, .o 3, .o 4, .o 4, .o 4, .o 4, .o 4, .o 4, .o 4, .o 4, .o 4, .o 4, .o 4, .o 1, .o 1, .o 1, .e, .o 1, .o 1, .o 1, .e, .o 1, .o 1, .o 1, .o 2, .o 1, .o 1, .o 1, .e, .o 1, .o 1, .o 1, .o 2, .o 1, .o 1, .o 1, .e, .o 1, .o 1, .o 1, .o 2, .o 1, .o 1, .o 1, .o 5, .o 5, .o 5, .o 5, .o 5, .o 5, .o 0, .o 0, .o 5, .v (iv y2 (k + 4)) (k + 5) [5], .v (iv y3 (k + 5)) (k + 6) [], .o 6, .o 6, .v (iv y4 y5) (k + 6) [5], .o 5, .v (iv y6 (k + 7)) (k + 8) [], .v (iv y7 (k + 8)) (k + 9) [], .o 6, .o 6, .g false (.ok (.ret .none)) (k + 9) [5] [(5, lst (ivs z1) 0)] []] (by apply X.both <;> kernel_rfl!)
theorem cells_2_e (X : Cx) (k kt1 kt2 : Nat) (vs : List (Int × Nat)) (xs : NN) (kt3 kt4 a1 a2 b2 : Nat) (b1 : Int) (F : LG) (y1 y2 y3 y4 y5 y6 y7 : Nat) (z1 : NN) (i1 : Int) : REC X 0 (cellsLoop 231 235) 244 k ([(231, frm [en X "script" kt1 (.ref 228), en X "row" kt2 (.ref 230), en X "place" kt3 (iv a1 a2), en X "x" kt4 (.int b1 b2)] 4), (230, lst (ivs xs) 0), (235, enu 234 2 (.int b1 b2) .none false), (234, lit 233 2), (233, lst (zvs vs) 0)] ++ F) [4, 5, 6, 7, 8] 9 (.again (cellsLoop 231 235)) 248 (k + 9) ([(231, frm [en X "script" kt1 (.ref 228), en X "row" kt2 (.ref 230), en X "place" kt3 (iv 2 k), en X "x" kt4 (.int (i1) y1)] 4), (230, lst (ivs z1) 0), (235, fld "enumerate" [.none, (.bool false), (.ref 234), (iv 3 0), .none, (.int (i1) y1)]), (234, lit 233 3), (233, lst (zvs vs) 0)] ++ F) [CutG X 0 false (bi "list.__setitem__" [(.ref 230), (iv y3 (k + 5)), (iv y7 (k + 8))]) (.ok (.ret .none)) [(230, lst (ivs xs) 0)] 248 (k + 9) (k + 9) [(230, lst (ivs z1) 0)] [], CutB X (bi "int.__add__" [(iv y4 y5), (iv y6 (k + 7))]) (iv y7 (k + 8)) [] (k + 8) (k + 9), CutB X (bi "int.__mod__" [(.int (i1) y1), (iv 1000 (k + 6))]) (iv y6 (k + 7)) [] (k + 7) (k + 8), CutB X (bi "list.__getitem__" [(.ref 230), (iv y3 (k + 5))]) (iv y4 y5) [(230, lst (ivs xs) 0)] (k + 6) (k + 6), CutB X (bi "int.__mod__" [(iv 2 k), (iv y2 (k + 4))]) (iv y3 (k + 5)) [] (k + 5) (k + 6), CutB X (bi "len" [(.ref 230)]) (iv y2 (k + 4)) [(230, lst (ivs xs) 0)] (k + 3) (k + 5), CutG X 0 false (bi "list_iterator.__next__" [(.ref 234)]) (.ok (.ret (.int (i1) y1))) [(234, lit 233 2), (233, lst (zvs vs) 0)] 244 k k [(234, lit 233 3)] []] := .mk 121 [.o 3, .e, .o 3, .o 3, .o 4, .g false (.ok (.ret (.int (i1) y1))) k [3, 4] [(3, lit 233 3)] [], .o 3, .o 3, .o 3, .o 3, .o 3, .o 3, .o 4, .o 4, .o 4, .o 4, .o 4, .o 4, .o 4, .o 4, .o 4, .o 4, .o 4, .o 1, .o 1, .o 1, .e, .o 1, .o 1, .o 1, .e, .o 1, .o 1, .o 1, .o 2, .o 1, .o 1, .o 1, .e, .o 1, .o 1, .o 1, .o 2, .o 1, .o 1, .o 1, .e, .o 1, .o 1, .o 1, .o 2, .o 1, .o 1, .o 1, .o 5, .o 5, .o 5, .o 5, .o 5, .o 5, .o 0, .o 0, .o 5, .v (iv y2 (k + 4)) (k + 5) [5], .v (iv y3 (k + 5)) (k + 6) [], .o 6, .o 6, .v (iv y4 y5) (k + 6) [5], .o 5, .v (iv y6 (k + 7)) (k + 8) [], .v (iv y7 (k + 8)) (k + 9) [], .o 6, .o 6, .g false (.ok (.ret .none)) (k + 9) [5] [(5, lst (ivs z1) 0)] []] (by apply X.both <;> kernel_rfl!)
theorem cells_3_e (X : Cx) (k kt1 kt2 : Nat) (vs : List (Int × Nat)) (xs : NN) (kt3 kt4 a1 a2 b2 : Nat) (b1 : Int) (F : LG) (y1 y2 y3 y4 y5 y6 y7 : Nat) (z1 : NN) (i1 : Int) : REC X 0 (cellsLoop 231 235) 248 k ([(231, frm [en X "script" kt1 (.ref 228), en X "row" kt2 (.ref 230), en X "place" kt3 (iv a1 a2), en X "x" kt4 (.int b1 b2)] 4), (230, lst (ivs xs) 0), (235, enu 234 3 (.int b1 b2) .none false), (234, lit 233 3), (233, lst (zvs vs) 0)] ++ F) [4, 5, 6, 7, 8] 9 (.again (cellsLoop 231 235)) 252 (k + 9) ([(231, frm [en X "script" kt1 (.ref 228), en X "row" kt2 (.ref 230), en X "place" kt3 (iv 3 k), en X "x" kt4 (.int (i1) y1)] 4), (230, lst (ivs z1) 0), (235, fld "enumerate" [.none, (.bool false), (.ref 234), (iv 4 0), .none, (.int (i1) y1)]), (234, lit 233 4), (233, lst (zvs vs) 0)] ++ F) [CutG X 0 false (bi "list.__setitem__" [(.ref 230), (iv y3 (k + 5)), (iv y7 (k + 8))]) (.ok (.ret .none)) [(230, lst (ivs xs) 0)] 252 (k + 9) (k + 9) [(230, lst (ivs z1) 0)] [], CutB X (bi "int.__add__" [(iv y4 y5), (iv y6 (k + 7))]) (iv y7 (k + 8)) [] (k + 8) (k + 9), CutB X (bi "int.__mod__" [(.int (i1) y1), (iv 1000 (k + 6))]) (iv y6 (k + 7)) [] (k + 7) (k + 8), CutB X (bi "list.__getitem__" [(.ref 230), (iv y3 (k + 5))]) (iv y4 y5) [(230, lst (ivs xs) 0)] (k + 6) (k + 6), CutB X (bi "int.__mod__" [(iv 3 k), (iv y2 (k + 4))]) (iv y3 (k + 5)) [] (k + 5) (k + 6), CutB X (bi "len" [(.ref 230)]) (iv y2 (k + 4)) [(230, lst (ivs xs) 0)] (k + 3) (k + 5), CutG X 0 false (bi "list_iterator.__next__" [(.ref 234)]) (.ok (.ret (.int (i1) y1))) [(234, lit 233 3), (233, lst (zvs vs) 0)] 248 k k [(234, lit 233 4)] []] := .mk 121 [.o 3, .e, .o 3, .o 3, .o 4, .g false (.ok (.ret (.int (i1) y1))) k [3, 4] [(3, lit 233 4)] [], .o 3, .o 3, .o 3, .o 3, .o 3, .o 3, .o 4, .o 4, .o 4, .o 4, .o 4, .o 4, .o 4, .o 4, .o 4, .o 4, .o 4, .o 1, .o 1, .o 1, .e, .o 1, .o 1, .o 1, .e, .o 1, .o 1, .o 1, .o 2, .o 1, .o 1, .o 1, .e, .o 1, .o 1, .o 1, .o 2, .o 1, .o 1, .o 1, .e, .o 1, .o 1, .o 1, .o 2, .o 1, .o 1, .o 1, .o 5, .o 5, .o 5, .o 5, .o 5, .o 5, .o 0, .o 0, .o 5, .v (iv y2 (k + 4)) (k + 5) [5], .v (iv y3 (k + 5)) (k + 6) [], .o 6, .o 6, .v (iv y4 y5) (k + 6) [5], .o 5, .v (iv y6 (k + 7)) (k + 8) [], .v (iv y7 (k + 8)) (k + 9) [], .o 6, .o 6, .g false (.ok (.ret .none)) (k + 9) [5] [(5, lst (ivs z1) 0)] []] (by apply X.both <;> kernel_rfl!)
theorem cells_4_e (X : Cx) (k kt1 kt2 : Nat) (vs : List (Int × Nat)) (xs : NN) (kt3 kt4 a1 a2 b2 : Nat) (b1 : Int) (F : LG) (y1 y2 y3 y4 y5 y6 y7 : Nat) (z1 : NN) (i1 : Int) : REC X 0 (cellsLoop 231 235) 252 k ([(231, frm [en X "script" kt1 (.ref 228), en X "row" kt2 (.ref 230), en X "place" kt3 (iv a1 a2), en X "x" kt4 (.int b1 b2)] 4), (230, lst (ivs xs) 0), (235, enu 234 4 (.int b1 b2) .none false), (234, lit 233 4), (233, lst (zvs vs) 0)] ++ F) [4, 5, 6, 7, 8] 9 (.again (cellsLoop 231 235)) 256 (k + 9) ([(231, frm [en X "script" kt1 (.ref 228), en X "row" kt2 (.ref 230), en X "place" kt3 (iv 4 k), en X "x" kt4 (.int (i1) y1)] 4), (230, lst (ivs z1) 0), (235, fld "enumerate" [.none, (.bool false), (.ref 234), (iv 5 0), .none, (.int (i1) y1)]), (234, lit 233 5), (233, lst (zvs vs) 0)] ++ F) [CutG X 0 false (bi "list.__setitem__" [(.ref 230), (iv y3 (k + 5)), (iv y7 (k + 8))]) (.ok (.ret .none)) [(230, lst (ivs xs) 0)] 256 (k + 9) (k + 9) [(230, lst (ivs z1) 0)] [], CutB X (bi "int.__add__" [(iv y4 y5), (iv y6 (k + 7))]) (iv y7 (k + 8)) [] (k + 8) (k + 9), CutB X (bi "int.__mod__" [(.int (i1) y1), (iv 1000 (k + 6))]) (iv y6 (k + 7)) [] (k + 7) (k + 8), CutB X (bi "list.__getitem__" [(.ref 230), (iv y3 (k + 5))]) (iv y4 y5) [(230, lst (ivs xs) 0)] (k + 6) (k + 6), CutB X (bi "int.__mod__" [(iv 4 k), (iv y2 (k + 4))]) (iv y3 (k + 5)) [] (k + 5) (k + 6), CutB X (bi "len" [(.ref 230)]) (iv y2 (k + 4)) [(230, lst (ivs xs) 0)] (k + 3) (k + 5), CutG X 0 false (bi "list_iterator.__next__" [(.ref 234)]) (.ok (.ret (.int (i1) y1))) [(234, lit 233 4), (233, lst (zvs vs) 0)] 252 k k [(234, lit 233 5)] []] := .mk 121 [.o 3, .e, .o 3, .o 3, .o 4, .g false (.ok (.ret (.int (i1) y1))) k [3, 4] [(3, lit 233 5)] [], .o 3, .o 3, .o 3, .o 3, .o 3, .o 3, .o 4, .o 4, .o 4, .o 4, .o 4, .o 4, .o 4, .o 4, .o 4, .o 4, .o 4, .o 1, .o 1, .o 1, .e, .o 1, .o 1, .o 1, .e, .o 1, .o 1, .o 1, .o 2, .o 1, .o 1, .o 1, .e, .o 1, .o 1, .o 1, .o 2, .o 1, .o 1, .o 1, .e, .o 1, .o 1, .o 1, .o 2, .o 1, .o 1, .o 1, .o 5, .o 5, .o 5, .o 5, .o 5, .o 5, .o 0, .o 0, .o 5, .v (iv y2 (k + 4)) (k + 5) [5], .v (iv y3 (k + 5)) (k + 6) [], .o 6, .o 6, .v (iv y4 y5) (k + 6) [5], .o 5, .v (iv y6 (k + 7)) (k + 8) [], .v (iv y7 (k + 8)) (k + 9) [], .o 6, .o 6, .g false (.ok (.ret .none)) (k + 9) [5] [(5, lst (ivs z1) 0)] []] (by apply X.both <;> kernel_rfl!)
theorem cells_5_e (X : Cx) (k kt1 kt2 : Nat) (vs : List (Int × Nat)) (xs : NN) (kt3 kt4 a1 a2 b2 : Nat) (b1 : Int) (F : LG) (y1 y2 y3 y4 y5 y6 y7 : Nat) (z1 : NN) (i1 : Int) : REC X 0 (cellsLoop 231 235) 256 k ([(231, frm [en X "script" kt1 (.ref 228), en X "row" kt2 (.ref 230), en X "place" kt3 (iv a1 a2), en X "x" kt4 (.int b1 b2)] 4), (230, lst (ivs xs) 0), (235, enu 234 5 (.int b1 b2) .none false), (234, lit 233 5), (233, lst (zvs vs) 0)] ++ F) [4, 5, 6, 7, 8] 9 (.again (cellsLoop 231 235)) 260 (k + 9) ([(231, frm [en X "script" kt1 (.ref 228), en X "row" kt2 (.ref 230), en X "place" kt3 (iv 5 k), en X "x" kt4 (.int (i1) y1)] 4), (230, lst (ivs z1) 0), (235, fld "enumerate" [.none, (.bool false), (.ref 234), (iv 6 0), .none, (.int (i1) y1)]), (234, lit 233 6), (233, lst (zvs vs) 0)] ++ F) [CutG X 0 false (bi "list.__setitem__" [(.ref 230), (iv y3 (k + 5)), (iv y7 (k + 8))]) (.ok (.ret .none)) [(230, lst (ivs xs) 0)] 260 (k + 9) (k + 9) [(230, lst (ivs z1) 0)] [], CutB X (bi "int.__add__" [(iv y4 y5), (iv y6 (k + 7))]) (iv y7 (k + 8)) [] (k + 8) (k + 9), CutB X (bi "int.__mod__" [(.int (i1) y1), (iv 1000 (k + 6))]) (iv y6 (k + 7)) [] (k + 7) (k + 8), CutB X (bi "list.__getitem__" [(.ref 230), (iv y3 (k + 5))]) (iv y4 y5) [(230, lst (ivs xs) 0)] (k + 6) (k + 6), CutB X (bi "int.__mod__" [(iv 5 k), (iv y2 (k + 4))]) (iv y3 (k + 5)) [] (k + 5) (k + 6), CutB X (bi "len" [(.ref 230)]) (iv y2 (k + 4)) [(230, lst (ivs xs) 0)] (k + 3) (k + 5), CutG X 0 false (bi "list_iterator.__next__" [(.ref 234)]) (.ok (.ret (.int (i1) y1))) [(234, lit 233 5), (233, lst (zvs vs) 0)] 256 k k [(234, lit 233 6)] []] := .mk 121 [.o 3, .e, .o 3, .o 3, .o 4, .g false (.ok (.ret (.int (i1) y1))) k [3, 4] [(3, lit 233 6)] [], .o 3, .o 3, .o 3, .o 3, .o 3, .o 3, .o 4, .o 4, .o 4, .o 4, .o 4, .o 4, .o 4, .o 4, .o 4, .o 4, .o 4, .o 1, .o 1, .o 1, .e, .o 1, .o 1, .o 1, .e, .o 1, .o 1, .o 1, .o 2, .o 1, .o 1, .o 1, .e, .o 1, .o 1, .o 1, .o 2, .o 1, .o 1, .o 1, .e, .o 1, .o 1, .o 1, .o 2, .o 1, .o 1, .o 1, .o 5, .o 5, .o 5, .o 5, .o 5, .o 5, .o 0, .o 0, .o 5, .v (iv y2 (k + 4)) (k + 5) [5], .v (iv y3 (k + 5)) (k + 6) [], .o 6, .o 6, .v (iv y4 y5) (k + 6) [5], .o 5, .v (iv y6 (k + 7)) (k + 8) [], .v (iv y7 (k + 8)) (k + 9) [], .o 6, .o 6, .g false (.ok (.ret .none)) (k + 9) [5] [(5, lst (ivs z1) 0)] []] (by apply X.both <;> kernel_rfl!)
theorem cells_6_e (X : Cx) (k kt1 kt2 : Nat) (vs : List (Int × Nat)) (xs : NN) (kt3 kt4 a1 a2 b2 : Nat) (b1 : Int) (F : LG) (y1 y2 y3 y4 y5 y6 y7 : Nat) (z1 : NN) (i1 : Int) : REC X 0 (cellsLoop 231 235) 260 k ([(231, frm [en X "script" kt1 (.ref 228), en X "row" kt2 (.ref 230), en X "place" kt3 (iv a1 a2), en X "x" kt4 (.int b1 b2)] 4), (230, lst (ivs xs) 0), (235, enu 234 6 (.int b1 b2) .none false), (234, lit 233 6), (233, lst (zvs vs) 0)] ++ F) [4, 5, 6, 7, 8] 9 (.again (cellsLoop 231 235)) 264 (k + 9) ([(231, frm [en X "script" kt1 (.ref 228), en X "row" kt2 (.ref 230), en X "place" kt3 (iv 6 k), en X "x" kt4 (.int (i1) y1)] 4), (230, lst (ivs z1) 0), (235, fld "enumerate" [.none, (.bool false), (.ref 234), (iv 7 0), .none, (.int (i1) y1)]), (234, lit 233 7), (233, lst (zvs vs) 0)] ++ F) [CutG X 0 false (bi "list.__setitem__" [(.ref 230), (iv y3 (k + 5)), (iv y7 (k + 8))]) (.ok (.ret .none)) [(230, lst (ivs xs) 0)] 264 (k + 9) (k + 9) [(230, lst (ivs z1) 0)] [], CutB X (bi "int.__add__" [(iv y4 y5), (iv y6 (k + 7))]) (iv y7 (k + 8)) [] (k + 8) (k + 9), CutB X (bi "int.__mod__" [(.int (i1) y1), (iv 1000 (k + 6))]) (iv y6 (k + 7)) [] (k + 7) (k + 8), CutB X (bi "list.__getitem__" [(.ref 230), (iv y3 (k + 5))]) (iv y4 y5) [(230, lst (ivs xs) 0)] (k + 6) (k + 6), CutB X (bi "int.__mod__" [(iv 6 k), (iv y2 (k + 4))]) (iv y3 (k + 5)) [] (k + 5) (k + 6), CutB X (bi "len" [(.ref 230)]) (iv y2 (k + 4)) [(230, lst (ivs xs) 0)] (k + 3) (k + 5), CutG X 0 false (bi "list_iterator.__next__" [(.ref 234)]) (.ok (.ret (.int (i1) y1))) [(234, lit 233 6), (233, lst (zvs vs) 0)] 260 k k [(234, lit 233 7)] []] := .mk 121 [.o 3, .e, .o 3, .o 3, .o 4, .g false (.ok (.ret (.int (i1) y1))) k [3, 4] [(3, lit 233 7)] [], .o 3, .o 3, .o 3, .o 3, .o 3, .o 3, .o 4, .o 4, .o 4, .o 4, .o 4, .o 4, .o 4, .o 4, .o 4, .o 4, .o 4, .o 1, .o 1, .o 1, .e, .o 1, .o 1, .o 1, .e, .o 1, .o 1, .o 1, .o 2, .o 1, .o 1, .o 1, .e, .o 1, .o 1, .o 1, .o 2, .o 1, .o 1, .o 1, .e, .o 1, .o 1, .o 1, .o 2, .o 1, .o 1, .o 1, .o 5, .o 5, .o 5, .o 5, .o 5, .o 5, .o 0, .o 0, .o 5, .v (iv y2 (k + 4)) (k + 5) [5], .v (iv y3 (k + 5)) (k + 6) [], .o 6, .o 6, .v (iv y4 y5) (k + 6) [5], .o 5, .v (iv y6 (k + 7)) (k + 8) [], .v (iv y7 (k + 8)) (k + 9) [], .o 6, .o 6, .g false (.ok (.ret .none)) (k + 9) [5] [(5, lst (ivs z1) 0)] []] (by apply X.both <;> kernel_rfl!)
theorem cells_7_e (X : Cx) (k kt1 kt2 : Nat) (vs : List (Int × Nat)) (xs : NN) (kt3 kt4 a1 a2 b2 : Nat) (b1 : Int) (F : LG) (y1 y2 y3 y4 y5 y6 y7 : Nat) (z1 : NN) (i1 : Int) : REC X 0 (cellsLoop 231 235) 264 k ([(231, frm [en X "script" kt1 (.ref 228), en X "row" kt2 (.ref 230), en X "place" kt3 (iv a1 a2), en X "x" kt4 (.int b1 b2)] 4), (230, lst (ivs xs) 0), (235, enu 234 7 (.int b1 b2) .none false), (234, lit 233 7), (233, lst (zvs vs) 0)] ++ F) [4, 5, 6, 7, 8] 9 (.again (cellsLoop 231 235)) 268 (k + 9) ([(231, frm [en X "script" kt1 (.ref 228), en X "row" kt2 (.ref 230), en X "place" kt3 (iv 7 k), en X "x" kt4 (.int (i1) y1)] 4), (230, lst (ivs z1) 0), (235, fld "enumerate" [.none, (.bool false), (.ref 234), (iv 8 0), .none, (.int (i1) y1)]), (234, lit 233 8), (233, lst (zvs vs) 0)] ++ F) [CutG X 0 false (bi "list.__setitem__" [(.ref 230), (iv y3 (k + 5)), (iv y7 (k + 8))]) (.ok (.ret .none)) [(230, lst (ivs xs) 0)] 268 (k + 9) (k + 9) [(230, lst (ivs z1) 0)] [], CutB X (bi "int.__add__" [(iv y4 y5), (iv y6 (k + 7))]) (iv y7 (k + 8)) [] (k + 8) (k + 9), CutB X (bi "int.__mod__" [(.int (i1) y1), (iv 1000 (k + 6))]) (iv y6 (k + 7)) [] (k + 7) (k + 8), CutB X (bi "list.__getitem__" [(.ref 230), (iv y3 (k + 5))]) (iv y4 y5) [(230, lst (ivs xs) 0)] (k + 6) (k + 6), CutB X (bi "int.__mod__" [(iv 7 k), (iv y2 (k + 4))]) (iv y3 (k + 5)) [] (k + 5) (k + 6), CutB X (bi "len" [(.ref 230)]) (iv y2 (k + 4)) [(230, lst (ivs xs) 0)] (k + 3) (k + 5), CutG X 0 false (bi "list_iterator.__next__" [(.ref 234)]) (.ok (.ret (.int (i1) y1))) [(234, lit 233 7), (233, lst (zvs vs) 0)] 264 k k [(234, lit 233 8)] []] := .mk 121 [.o 3, .e, .o 3, .o 3, .o 4, .g false (.ok (.ret (.int (i1) y1))) k [3, 4] [(3, lit 233 8)] [], .o 3, .o 3, .o 3, .o 3, .o 3, .o 3, .o 4, .o 4, .o 4, .o 4, .o 4, .o 4, .o 4, .o 4, .o 4, .o 4, .o 4, .o 1, .o 1, .o 1, .e, .o 1, .o 1, .o 1, .e, .o 1, .o 1, .o 1, .o 2, .o 1, .o 1, .o 1, .e, .o 1, .o 1, .o 1, .o 2, .o 1, .o 1, .o 1, .e, .o 1, .o 1, .o 1, .o 2, .o 1, .o 1, .o 1, .o 5, .o 5, .o 5, .o 5, .o 5, .o 5, .o 0, .o 0, .o 5, .v (iv y2 (k + 4)) (k + 5) [5], .v (iv y3 (k + 5)) (k + 6) [], .o 6, .o 6, .v (iv y4 y5) (k + 6) [5], .o 5, .v (iv y6 (k + 7)) (k + 8) [], .v (iv y7 (k + 8)) (k + 9) [], .o 6, .o 6, .g false (.ok (.ret .none)) (k + 9) [5] [(5, lst (ivs z1) 0)] []] (by apply X.both <;> kernel_rfl!)
theorem cells_8_e (X : Cx) (k kt1 kt2 : Nat) (vs : List (Int × Nat)) (xs : NN) (kt3 kt4 a1 a2 b2 : Nat) (b1 : Int) (F : LG) (y1 y2 y3 y4 y5 y6 y7 : Nat) (z1 : NN) (i1 : Int) : REC X 0 (cellsLoop 231 235) 268 k ([(231, frm [en X "script" kt1 (.ref 228), en X "row" kt2 (.ref 230), en X "place" kt3 (iv a1 a2), en X "x" kt4 (.int b1 b2)] 4), (230, lst (ivs xs) 0), (235, enu 234 8 (.int b1 b2) .none false), (234, lit 233 8), (233, lst (zvs vs) 0)] ++ F) [4, 5, 6, 7, 8] 9 (.again (cellsLoop 231 235)) 272 (k + 9) ([(231, frm [en X "script" kt1 (.ref 228), en X "row" kt2 (.ref 230), en X "place" kt3 (iv 8 k), en X "x" kt4 (.int (i1) y1)] 4), (230, lst (ivs z1) 0), (235, fld "enumerate" [.none, (.bool false), (.ref 234), (iv 9 0), .none, (.int (i1) y1)]), (234, lit 233 9), (233, lst (zvs vs) 0)] ++ F) [CutG X 0 false (bi "list.__setitem__" [(.ref 230), (iv y3 (k + 5)), (iv y7 (k + 8))]) (.ok (.ret .none)) [(230, lst (ivs xs) 0)] 272 (k + 9) (k + 9) [(230, lst (ivs z1) 0)] [], CutB X (bi "int.__add__" [(iv y4 y5), (iv y6 (k + 7))]) (iv y7 (k + 8)) [] (k + 8) (k + 9), CutB X (bi "int.__mod__" [(.int (i1) y1), (iv 1000 (k + 6))]) (iv y6 (k + 7)) [] (k + 7) (k + 8), CutB X (bi "list.__getitem__" [(.ref 230), (iv y3 (k + 5))]) (iv y4 y5) [(230, lst (ivs xs) 0)] (k + 6) (k + 6), CutB X (bi "int.__mod__" [(iv 8 k), (iv y2 (k + 4))]) (iv y3 (k + 5)) [] (k + 5) (k + 6), CutB X (bi "len" [(.ref 230)]) (iv y2 (k + 4)) [(230, lst (ivs xs) 0)] (k + 3) (k + 5), CutG X 0 false (bi "list_iterator.__next__" [(.ref 234)]) (.ok (.ret (.int (i1) y1))) [(234, lit 233 8), (233, lst (zvs vs) 0)] 268 k k [(234, lit 233 9)] []] := .mk 121 [.o 3, .e, .o 3, .o 3, .o 4, .g false (.ok (.ret (.int (i1) y1))) k [3, 4] [(3, lit 233 9)] [], .o 3, .o 3, .o 3, .o 3, .o 3, .o 3, .o 4, .o 4, .o 4, .o 4, .o 4, .o 4, .o 4, .o 4, .o 4, .o 4, .o 4, .o 1, .o 1, .o 1, .e, .o 1, .o 1, .o 1, .e, .o 1, .o 1, .o 1, .o 2, .o 1, .o 1, .o 1, .e, .o 1, .o 1, .o 1, .o 2, .o 1, .o 1, .o 1, .e, .o 1, .o 1, .o 1, .o 2, .o 1, .o 1, .o 1, .o 5, .o 5, .o 5, .o 5, .o 5, .o 5, .o 0, .o 0, .o 5, .v (iv y2 (k + 4)) (k + 5) [5], .v (iv y3 (k + 5)) (k + 6) [], .o 6, .o 6, .v (iv y4 y5) (k + 6) [5], .o 5, .v (iv y6 (k + 7)) (k + 8) [], .v (iv y7 (k + 8)) (k + 9) [], .o 6, .o 6, .g false (.ok (.ret .none)) (k + 9) [5] [(5, lst (ivs z1) 0)] []] (by apply X.both <;> kernel_rfl!)
theorem cells_9_e (X : Cx) (k kt1 kt2 : Nat) (vs : List (Int × Nat)) (xs : NN) (kt3 kt4 a1 a2 b2 : Nat) (b1 : Int) (F : LG) (y1 y2 y3 y4 y5 y6 y7 : Nat) (z1 : NN) (i1 : Int) : REC X 0 (cellsLoop 231 235) 272 k ([(231, frm [en X "script" kt1 (.ref 228), en X "row" kt2 (.ref 230), en X "place" kt3 (iv a1 a2), en X "x" kt4 (.int b1 b2)] 4), (230, lst (ivs xs) 0), (235, enu 234 9 (.int b1 b2) .none false), (234, lit 233 9), (233, lst (zvs vs) 0)] ++ F) [4, 5, 6, 7, 8] 9 (.again (cellsLoop 231 235)) 276 (k + 9) ([(231, frm [en X "script" kt1 (.ref 228), en X "row" kt2 (.ref 230), en X "place" kt3 (iv 9 k), en X "x" kt4 (.int (i1) y1)] 4), (230, lst (ivs z1) 0), (235, fld "enumerate" [.none, (.bool false), (.ref 234), (iv 10 0), .none, (.int (i1) y1)]), (234, lit 233 10), (233, lst (zvs vs) 0)] ++ F) [CutG X 0 false (bi "list.__setitem__" [(.ref 230), (iv y3 (k + 5)), (iv y7 (k + 8))]) (.ok (.ret .none)) [(230, lst (ivs xs) 0)] 276 (k + 9) (k + 9) [(230, lst (ivs z1) 0)] [], CutB X (bi "int.__add__" [(iv y4 y5), (iv y6 (k + 7))]) (iv y7 (k + 8)) [] (k + 8) (k + 9), CutB X (bi "int.__mod__" [(.int (i1) y1), (iv 1000 (k + 6))]) (iv y6 (k + 7)) [] (k + 7) (k + 8), CutB X (bi "list.__getitem__" [(.ref 230), (iv y3 (k + 5))]) (iv y4 y5) [(230, lst (ivs xs) 0)] (k + 6) (k + 6), CutB X (bi "int.__mod__" [(iv 9 k), (iv y2 (k + 4))]) (iv y3 (k + 5)) [] (k + 5) (k + 6), CutB X (bi "len" [(.ref 230)]) (iv y2 (k + 4)) [(230, lst (ivs xs) 0)] (k + 3) (k + 5), CutG X 0 false (bi "list_iterator.__next__" [(.ref 234)]) (.ok (.ret (.int (i1) y1))) [(234, lit 233 9), (233, lst (zvs vs) 0)] 272 k k [(234, lit 233 10)] []] := .mk 121 [.o 3, .e, .o 3, .o 3, .o 4, .g false (.ok (.ret (.int (i1) y1))) k [3, 4] [(3, lit 233 10)] [], .o 3, .o 3, .o 3, .o 3, .o 3, .o 3, .o 4, .o 4, .o 4, .o 4, .o 4, .o 4, .o 4, .o 4, .o 4, .o 4, .o 4, .o 1, .o 1, .o 1, .e, .o 1, .o 1, .o 1, .e, .o 1, .o 1, .o 1, .o 2, .o 1, .o 1, .o 1, .e, .o 1, .o 1, .o 1, .o 2, .o 1, .o 1, .o 1, .e, .o 1, .o 1, .o 1, .o 2, .o 1, .o 1, .o 1, .o 5, .o 5, .o 5, .o 5, .o 5, .o 5, .o 0, .o 0, .o 5, .v (iv y2 (k + 4)) (k + 5) [5], .v (iv y3 (k + 5)) (k + 6) [], .o 6, .o 6, .v (iv y4 y5) (k + 6) [5], .o 5, .v (iv y6 (k + 7)) (k + 8) [], .v (iv y7 (k + 8)) (k + 9) [], .o 6, .o 6, .g false (.ok (.ret .none)) (k + 9) [5] [(5, lst (ivs z1) 0)] []] (by apply X.both <;> kernel_rfl!)
theorem cells_10_e (X : Cx) (k kt1 kt2 : Nat) (vs : List (Int × Nat)) (xs : NN) (kt3 kt4 a1 a2 b2 : Nat) (b1 : Int) (F : LG) (y1 y2 y3 y4 y5 y6 y7 : Nat) (z1 : NN) (i1 : Int) : REC X 0 (cellsLoop 231 235) 276 k ([(231, frm [en X "script" kt1 (.ref 228), en X "row" kt2 (.ref 230), en X "place" kt3 (iv a1 a2), en X "x" kt4 (.int b1 b2)] 4), (230, lst (ivs xs) 0), (235, enu 234 10 (.int b1 b2) .none false), (234, lit 233 10), (233, lst (zvs vs) 0)] ++ F) [4, 5, 6, 7, 8] 9 (.again (cellsLoop 231 235)) 280 (k + 9) ([(231, frm [en X "script" kt1 (.ref 228), en X "row" kt2 (.ref 230), en X "place" kt3 (iv 10 k), en X "x" kt4 (.int (i1) y1)] 4), (230, lst (ivs z1) 0), (235, fld "enumerate" [.none, (.bool false), (.ref 234), (iv 11 0), .none, (.int (i1) y1)]), (234, lit 233 11), (233, lst (zvs vs) 0)] ++ F) [CutG X 0 false (bi "list.__setitem__" [(.ref 230), (iv y3 (k + 5)), (iv y7 (k + 8))]) (.ok (.ret .none)) [(230, lst (ivs xs) 0)] 280 (k + 9) (k + 9) [(230, lst (ivs z1) 0)] [], CutB X (bi "int.__add__" [(iv y4 y5), (iv y6 (k + 7))]) (iv y7 (k + 8)) [] (k + 8) (k + 9), CutB X (bi "int.__mod__" [(.int (i1) y1), (iv 1000 (k + 6))]) (iv y6 (k + 7)) [] (k + 7) (k + 8), CutB X (bi "list.__getitem__" [(.ref 230), (iv y3 (k + 5))]) (iv y4 y5) [(230, lst (ivs xs) 0)] (k + 6) (k + 6), CutB X (bi "int.__mod__" [(iv 10 k), (iv y2 (k + 4))]) (iv y3 (k + 5)) [] (k + 5) (k + 6), CutB X (bi "len" [(.ref 230)]) (iv y2 (k + 4)) [(230, lst (ivs xs) 0)] (k + 3) (k + 5), CutG X 0 false (bi "list_iterator.__next__" [(.ref 234)]) (.ok (.ret (.int (i1) y1))) [(234, lit 233 10), (233, lst (zvs vs) 0)] 276 k k [(234, lit 233 11)] []] := .mk 121 [.o 3, .e, .o 3, .o 3, .o 4, .g false (.ok (.ret (.int (i1) y1))) k [3, 4] [(3, lit 233 11)] [], .o 3, .o 3, .o 3, .o 3, .o 3, .o 3, .o 4, .o 4, .o 4, .o 4, .o 4, .o 4, .o 4, .o 4, .o 4, .o 4, .o 4, .o 1, .o 1, .o 1, .e, .o 1, .o 1, .o 1, .e, .o 1, .o 1, .o 1, .o 2, .o 1, .o 1, .o 1, .e, .o 1, .o 1, .o 1, .o 2, .o 1, .o 1, .o 1, .e, .o 1, .o 1, .o 1, .o 2, .o 1, .o 1, .o 1, .o 5, .o 5, .o 5, .o 5, .o 5, .o 5, .o 0, .o 0, .o 5, .v (iv y2 (k + 4)) (k + 5) [5], .v (iv y3 (k + 5)) (k + 6) [], .o 6, .o 6, .v (iv y4 y5) (k + 6) [5], .o 5, .v (iv y6 (k + 7)) (k + 8) [], .v (iv y7 (k + 8)) (k + 9) [], .o 6, .o 6, .g false (.ok (.ret .none)) (k + 9) [5] [(5, lst (ivs z1) 0)] []] (by apply X.both <;> kernel_rfl!)
theorem cells_11_e (X : Cx) (k kt1 kt2 : Nat) (vs : List (Int × Nat)) (xs : NN) (kt3 kt4 a1 a2 b2 : Nat) (b1 : Int) (F : LG) (y1 y2 y3 y4 y5 y6 y7 : Nat) (z1 : NN) (i1 : Int) : REC X 0 (cellsLoop 231 235) 280 k ([(231, frm [en X "script" kt1 (.ref 228), en X "row" kt2 (.ref 230), en X "place" kt3 (iv a1 a2), en X "x" kt4 (.int b1 b2)] 4), (230, lst (ivs xs) 0), (235, enu 234 11 (.int b1 b2) .none false), (234, lit 233 11), (233, lst (zvs vs) 0)] ++ F) [4, 5, 6, 7, 8] 9 (.again (cellsLoop 231 235)) 284 (k + 9) ([(231, frm [en X "script" kt1 (.ref 228), en X "row" kt2 (.ref 230), en X "place" kt3 (iv 11 k), en X "x" kt4 (.int (i1) y1)] 4), (230, lst (ivs z1) 0), (235, fld "enumerate" [.none, (.bool false), (.ref 234), (iv 12 0), .none, (.int (i1) y1)]), (234, lit 233 12), (233, lst (zvs vs) 0)] ++ F) [CutG X 0 false (bi "list.__setitem__" [(.ref 230), (iv y3 (k + 5)), (iv y7 (k + 8))]) (.ok (.ret .none)) [(230, lst (ivs xs) 0)] 284 (k + 9) (k + 9) [(230, lst (ivs z1) 0)] [], CutB X (bi "int.__add__" [(iv y4 y5), (iv y6 (k + 7))]) (iv y7 (k + 8)) [] (k + 8) (k + 9), CutB X (bi "int.__mod__" [(.int (i1) y1), (iv 1000 (k + 6))]) (iv y6 (k + 7)) [] (k + 7) (k + 8), CutB X (bi "list.__getitem__" [(.ref 230), (iv y3 (k + 5))]) (iv y4 y5) [(230, lst (ivs xs) 0)] (k + 6) (k + 6), CutB X (bi "int.__mod__" [(iv 11 k), (iv y2 (k + 4))]) (iv y3 (k + 5)) [] (k + 5) (k + 6), CutB X (bi "len" [(.ref 230)]) (iv y2 (k + 4)) [(230, lst (ivs xs) 0)] (k + 3) (k + 5), CutG X 0 false (bi "list_iterator.__next__" [(.ref 234)]) (.ok (.ret (.int (i1) y1))) [(234, lit 233 11), (233, lst (zvs vs) 0)] 280 k k [(234, lit 233 12)] []] := .mk 121 [.o 3, .e, .o 3, .o 3, .o 4, .g false (.ok (.ret (.int (i1) y1))) k [3, 4] [(3, lit 233 12)] [], .o 3, .o 3, .o 3, .o 3, .o 3, .o 3, .o 4, .o 4, .o 4, .o 4, .o 4, .o 4, .o 4, .o 4, .o 4, .o 4, .o 4, .o 1, .o 1, .o 1, .e, .o 1, .o 1, .o 1, .e, .o 1, .o 1, .o 1, .o 2, .o 1, .o 1, .o 1, .e, .o 1, .o 1, .o 1, .o 2, .o 1, .o 1, .o 1, .e, .o 1, .o 1, .o 1, .o 2, .o 1, .o 1, .o 1, .o 5, .o 5, .o 5, .o 5, .o 5, .o 5, .o 0, .o 0, .o 5, .v (iv y2 (k + 4)) (k + 5) [5], .v (iv y3 (k + 5)) (k + 6) [], .o 6, .o 6, .v (iv y4 y5) (k + 6) [5], .o 5, .v (iv y6 (k + 7)) (k + 8) [], .v (iv y7 (k + 8)) (k + 9) [], .o 6, .o 6, .g false (.ok (.ret .none)) (k + 9) [5] [(5, lst (ivs z1) 0)] []] (by apply X.both <;> kernel_rfl!)
section
noncomputable def addUp (xs : List Nat) (i : Nat) : List Int → List Nat
  | [] => xs
  | z :: r => addUp (xs.set (i % xs.length) (xs.getD (i % xs.length) 0 + (z % 1000).toNat)) (i + 1) r
theorem quiet_cells (L it : Addr) : (cellsLoop L it).quiet = true := by unfold cellsLoop; rfl
theorem addUp_len : ∀ {r : List Int} {xs : List Nat} {i : Nat}, (addUp xs i r).length = xs.length
  | [], _, _ => rfl
  | z :: r, xs, i => by unfold addUp; rw [addUp_len]; simp
section
variable {X : Cx}
noncomputable abbrev cfr (X : Cx) (kt1 kt2 kt3 kt4 a1 a2 : Nat) (b1 : Int) (b2 : Nat) : Addr × Obj := (231, frm [en X "script" kt1 (.ref 228), en X "row" kt2 (.ref 230), en X "place" kt3 (iv a1 a2), en X "x" kt4 (.int b1 b2)] 4)
noncomputable def CellsAt (X : Cx) (vs : List (Int × Nat)) (kt1 kt2 i n : Nat) : Prop := ∀ (k kt3 kt4 a1 a2 : Nat) (b1 : Int) (b2 : Nat) (xs : NN), xs.length = 6 →
    Does X 70 (cellsLoop 231 235) n k [cfr X kt1 kt2 kt3 kt4 a1 a2 b1 b2, (230, lst (ivs xs) 0), (235, enu 234 i (.int b1 b2) .none false), (234, lit 233 i), (233, lst (zvs vs) 0)]
      (fun r n' k' T' => r = .ok .next ∧ ∃ kt3 kt4 a1 a2 b1 b2 xs', T' = [cfr X kt1 kt2 kt3 kt4 a1 a2 b1 b2, (230, lst (ivs xs') 0)] ∧ xs'.map (·.1) = addUp (xs.map (·.1)) i ((vs.drop i).map (·.1)))
theorem cells_end (hk : KtOk X (kt X)) {vs : List (Int × Nat)} {kt1 kt2 i n : Nat} (h : vs.length ≤ i) {k kt3 kt4 a1 a2 : Nat} {b1 : Int} {b2 : Nat} {xs : NN} :
    Does X 70 (cellsLoop 231 235) n k [cfr X kt1 kt2 kt3 kt4 a1 a2 b1 b2, (230, lst (ivs xs) 0), (235, enu 234 i (.int b1 b2) .none false), (234, lit 233 i), (233, lst (zvs vs) 0)]
      (fun r n' k' T' => r = .ok .next ∧ ∃ kt3 kt4 a1 a2 b1 b2 xs', T' = [cfr X kt1 kt2 kt3 kt4 a1 a2 b1 b2, (230, lst (ivs xs') 0)] ∧ xs'.map (·.1) = addUp (xs.map (·.1)) i ((vs.drop i).map (·.1))) := by
  intro A s F hA H
  refine startC (ran (cellsC_e ..) hk hA (.cons (c_endZ h) .nil) H fun s' H' => ?_)
  refine ⟨_, _, _, ⟨rfl, _, _, _, _, _, _, _, rfl, ?_⟩, H'⟩
  rw [List.drop_eq_nil_of_le h]; rfl
theorem drop_cons {α : Type} {l : List α} {i : Nat} {a : α} (h : l[i]? = some a) : l.drop i = a :: l.drop (i + 1) := by
  have hi : i < l.length := by
    rcases Nat.lt_or_ge i l.length with y | y
    · exact y
    · rw [List.getElem?_eq_none y] at h; cases h
  rw [List.drop_eq_getElem_cons hi]
  rw [List.getElem?_eq_getElem hi] at h
  rw [Option.some.inj h]
theorem addUp_turn {xs : NN} {i x t u : Nat} {z : Int} {w : Nat} {vs : List (Int × Nat)} (hx : xs[i % xs.length]? = some (x, t)) (hz : vs[i]? = some (z, w)) :
    addUp (xs.map (·.1)) i ((vs.drop i).map (·.1)) = addUp ((xs.set (i % xs.length) (x + (z % 1000).toNat, u)).map (·.1)) (i + 1) ((vs.drop (i + 1)).map (·.1)) := by
  rw [drop_cons hz, List.map_cons]
  show addUp _ i (z :: _) = _
  conv => lhs; unfold addUp
  rw [List.length_map, show (xs.map (·.1)).getD (i % xs.length) 0 = x by simp [List.getD, hx], List.map_set]
theorem cellsAt_12 (hk : KtOk X (kt X)) (vs : List (Int × Nat)) (hv : vs.length ≤ 12) (kt1 kt2 : Nat) : CellsAt X vs kt1 kt2 12 284 := by
  intro k kt3 kt4 a1 a2 b1 b2 xs hx
  exact cells_end hk hv
theorem cellsAt_11 (hk : KtOk X (kt X)) (vs : List (Int × Nat)) (hv : vs.length ≤ 12) (kt1 kt2 : Nat) : CellsAt X vs kt1 kt2 11 280 := by
  intro k kt3 kt4 a1 a2 b1 b2 xs hx
  rcases Nat.lt_or_ge 11 vs.length with h | h
  · obtain ⟨⟨z, w⟩, hz⟩ := get_some (l := vs) (i := 11) h
    obtain ⟨⟨x, t⟩, g⟩ := get_some (l := xs) (i := 11 % xs.length) (Nat.mod_lt _ (by omega))
    have hm : 11 % xs.length < 1000 := Nat.lt_of_le_of_lt (Nat.mod_le _ _) (by omega)
    intro A s F hA H
    refine startC (ranAgain (cells_11_e ..) (quiet_cells ..) hk hA
      (.cons (c_setI (Nat.mod_lt _ (by omega)) hm) (.cons c_addN (.cons (c_modZ (by decide)) (.cons (c_getI g hm) (.cons (c_modN (by omega)) (.cons (c_lenI (by omega)) (.cons (c_nextZ hz) .nil))))))) H fun s' H' => ?_)
    refine (cellsAt_12 hk vs hv kt1 kt2 _ _ _ _ _ _ _ _ (by simpa using hx)).use hA H' ?_
    rintro r n' k' T' s'' ⟨rfl, kt3, kt4, a1, a2, b1, b2, xs', rfl, e⟩ H''
    exact ⟨_, _, _, ⟨rfl, kt3, kt4, a1, a2, b1, b2, xs', rfl, e.trans (addUp_turn g hz).symm⟩, H''⟩
  · exact cells_end hk h
theorem cellsAt_10 (hk : KtOk X (kt X)) (vs : List (Int × Nat)) (hv : vs.length ≤ 12) (kt1 kt2 : Nat) : CellsAt X vs kt1 kt2 10 276 := by
  intro k kt3 kt4 a1 a2 b1 b2 xs hx
  rcases Nat.lt_or_ge 10 vs.length with h | h
  · obtain ⟨⟨z, w⟩, hz⟩ := get_some (l := vs) (i := 10) h
    obtain ⟨⟨x, t⟩, g⟩ := get_some (l := xs) (i := 10 % xs.length) (Nat.mod_lt _ (by omega))
    have hm : 10 % xs.length < 1000 := Nat.lt_of_le_of_lt (Nat.mod_le _ _) (by omega)
    intro A s F hA H
    refine startC (ranAgain (cells_10_e ..) (quiet_cells ..) hk hA
      (.cons (c_setI (Nat.mod_lt _ (by omega)) hm) (.cons c_addN (.cons (c_modZ (by decide)) (.cons (c_getI g hm) (.cons (c_modN (by omega)) (.cons (c_lenI (by omega)) (.cons (c_nextZ hz) .nil))))))) H fun s' H' => ?_)
    refine (cellsAt_11 hk vs hv kt1 kt2 _ _ _ _ _ _ _ _ (by simpa using hx)).use hA H' ?_
    rintro r n' k' T' s'' ⟨rfl, kt3, kt4, a1, a2, b1, b2, xs', rfl, e⟩ H''
    exact ⟨_, _, _, ⟨rfl, kt3, kt4, a1, a2, b1, b2, xs', rfl, e.trans (addUp_turn g hz).symm⟩, H''⟩
  · exact cells_end hk h
theorem cellsAt_9 (hk : KtOk X (kt X)) (vs : List (Int × Nat)) (hv : vs.length ≤ 12) (kt1 kt2 : Nat) : CellsAt X vs kt1 kt2 9 272 := by
  intro k kt3 kt4 a1 a2 b1 b2 xs hx
  rcases Nat.lt_or_ge 9 vs.length with h | h
  · obtain ⟨⟨z, w⟩, hz⟩ := get_some (l := vs) (i := 9) h
    obtain ⟨⟨x, t⟩, g⟩ := get_some (l := xs) (i := 9 % xs.length) (Nat.mod_lt _ (by omega))
    have hm : 9 % xs.length < 1000 := Nat.lt_of_le_of_lt (Nat.mod_le _ _) (by omega)
    intro A s F hA H
    refine startC (ranAgain (cells_9_e ..) (quiet_cells ..) hk hA
      (.cons (c_setI (Nat.mod_lt _ (by omega)) hm) (.cons c_addN (.cons (c_modZ (by decide)) (.cons (c_getI g hm) (.cons (c_modN (by omega)) (.cons (c_lenI (by omega)) (.cons (c_nextZ hz) .nil))))))) H fun s' H' => ?_)
    refine (cellsAt_10 hk vs hv kt1 kt2 _ _ _ _ _ _ _ _ (by simpa using hx)).use hA H' ?_
    rintro r n' k' T' s'' ⟨rfl, kt3, kt4, a1, a2, b1, b2, xs', rfl, e⟩ H''
    exact ⟨_, _, _, ⟨rfl, kt3, kt4, a1, a2, b1, b2, xs', rfl, e.trans (addUp_turn g hz).symm⟩, H''⟩
  · exact cells_end hk h
theorem cellsAt_8 (hk : KtOk X (kt X)) (vs : List (Int × Nat)) (hv : vs.length ≤ 12) (kt1 kt2 : Nat) : CellsAt X vs kt1 kt2 8 268 := by
  intro k kt3 kt4 a1 a2 b1 b2 xs hx
  rcases Nat.lt_or_ge 8 vs.length with h | h
  · obtain ⟨⟨z, w⟩, hz⟩ := get_some (l := vs) (i := 8) h
    obtain ⟨⟨x, t⟩, g⟩ := get_some (l := xs) (i := 8 % xs.length) (Nat.mod_lt _ (by omega))
    have hm : 8 % xs.length < 1000 := Nat.lt_of_le_of_lt (Nat.mod_le _ _) (by omega)
    intro A s F hA H
    refine startC (ranAgain (cells_8_e ..) (quiet_cells ..) hk hA
      (.cons (c_setI (Nat.mod_lt _ (by omega)) hm) (.cons c_addN (.cons (c_modZ (by decide)) (.cons (c_getI g hm) (.cons (c_modN (by omega)) (.cons (c_lenI (by omega)) (.cons (c_nextZ hz) .nil))))))) H fun s' H' => ?_)
    refine (cellsAt_9 hk vs hv kt1 kt2 _ _ _ _ _ _ _ _ (by simpa using hx)).use hA H' ?_
    rintro r n' k' T' s'' ⟨rfl, kt3, kt4, a1, a2, b1, b2, xs', rfl, e⟩ H''
    exact ⟨_, _, _, ⟨rfl, kt3, kt4, a1, a2, b1, b2, xs', rfl, e.trans (addUp_turn g hz).symm⟩, H''⟩
  · exact cells_end hk h
theorem cellsAt_7 (hk : KtOk X (kt X)) (vs : List (Int × Nat)) (hv : vs.length ≤ 12) (kt1 kt2 : Nat) : CellsAt X vs kt1 kt2 7 264 := by
  intro k kt3 kt4 a1 a2 b1 b2 xs hx
  rcases Nat.lt_or_ge 7 vs.length with h | h
  · obtain ⟨⟨z, w⟩, hz⟩ := get_some (l := vs) (i := 7) h
    obtain ⟨⟨x, t⟩, g⟩ := get_some (l := xs) (i := 7 % xs.length) (Nat.mod_lt _ (by omega))
    have hm : 7 % xs.length < 1000 := Nat.lt_of_le_of_lt (Nat.mod_le _ _) (by omega)
    intro A s F hA H
    refine startC (ranAgain (cells_7_e ..) (quiet_cells ..) hk hA
      (.cons (c_setI (Nat.mod_lt _ (by omega)) hm) (.cons c_addN (.cons (c_modZ (by decide)) (.cons (c_getI g hm) (.cons (c_modN (by omega)) (.cons (c_lenI (by omega)) (.cons (c_nextZ hz) .nil))))))) H fun s' H' => ?_)
    refine (cellsAt_8 hk vs hv kt1 kt2 _ _ _ _ _ _ _ _ (by simpa using hx)).use hA H' ?_
    rintro r n' k' T' s'' ⟨rfl, kt3, kt4, a1, a2, b1, b2, xs', rfl, e⟩ H''
    exact ⟨_, _, _, ⟨rfl, kt3, kt4, a1, a2, b1, b2, xs', rfl, e.trans (addUp_turn g hz).symm⟩, H''⟩
  · exact cells_end hk h
theorem cellsAt_6 (hk : KtOk X (kt X)) (vs : List (Int × Nat)) (hv : vs.length ≤ 12) (kt1 kt2 : Nat) : CellsAt X vs kt1 kt2 6 260 := by
  intro k kt3 kt4 a1 a2 b1 b2 xs hx
  rcases Nat.lt_or_ge 6 vs.length with h | h
  · obtain ⟨⟨z, w⟩, hz⟩ := get_some (l := vs) (i := 6) h
    obtain ⟨⟨x, t⟩, g⟩ := get_some (l := xs) (i := 6 % xs.length) (Nat.mod_lt _ (by omega))
    have hm : 6 % xs.length < 1000 := Nat.lt_of_le_of_lt (Nat.mod_le _ _) (by omega)
    intro A s F hA H
    refine startC (ranAgain (cells_6_e ..) (quiet_cells ..) hk hA
      (.cons (c_setI (Nat.mod_lt _ (by omega)) hm) (.cons c_addN (.cons (c_modZ (by decide)) (.cons (c_getI g hm) (.cons (c_modN (by omega)) (.cons (c_lenI (by omega)) (.cons (c_nextZ hz) .nil))))))) H fun s' H' => ?_)
    refine (cellsAt_7 hk vs hv kt1 kt2 _ _ _ _ _ _ _ _ (by simpa using hx)).use hA H' ?_
    rintro r n' k' T' s'' ⟨rfl, kt3, kt4, a1, a2, b1, b2, xs', rfl, e⟩ H''
    exact ⟨_, _, _, ⟨rfl, kt3, kt4, a1, a2, b1, b2, xs', rfl, e.trans (addUp_turn g hz).symm⟩, H''⟩
  · exact cells_end hk h
theorem cellsAt_5 (hk : KtOk X (kt X)) (vs : List (Int × Nat)) (hv : vs.length ≤ 12) (kt1 kt2 : Nat) : CellsAt X vs kt1 kt2 5 256 := by
  intro k kt3 kt4 a1 a2 b1 b2 xs hx
  rcases Nat.lt_or_ge 5 vs.length with h | h
  · obtain ⟨⟨z, w⟩, hz⟩ := get_some (l := vs) (i := 5) h
    obtain ⟨⟨x, t⟩, g⟩ := get_some (l := xs) (i := 5 % xs.length) (Nat.mod_lt _ (by omega))
    have hm : 5 % xs.length < 1000 := Nat.lt_of_le_of_lt (Nat.mod_le _ _) (by omega)
    intro A s F hA H
    refine startC (ranAgain (cells_5_e ..) (quiet_cells ..) hk hA
      (.cons (c_setI (Nat.mod_lt _ (by omega)) hm) (.cons c_addN (.cons (c_modZ (by decide)) (.cons (c_getI g hm) (.cons (c_modN (by omega)) (.cons (c_lenI (by omega)) (.cons (c_nextZ hz) .nil))))))) H fun s' H' => ?_)
    refine (cellsAt_6 hk vs hv kt1 kt2 _ _ _ _ _ _ _ _ (by simpa using hx)).use hA H' ?_
    rintro r n' k' T' s'' ⟨rfl, kt3, kt4, a1, a2, b1, b2, xs', rfl, e⟩ H''
    exact ⟨_, _, _, ⟨rfl, kt3, kt4, a1, a2, b1, b2, xs', rfl, e.trans (addUp_turn g hz).symm⟩, H''⟩
  · exact cells_end hk h
theorem cellsAt_4 (hk : KtOk X (kt X)) (vs : List (Int × Nat)) (hv : vs.length ≤ 12) (kt1 kt2 : Nat) : CellsAt X vs kt1 kt2 4 252 := by
  intro k kt3 kt4 a1 a2 b1 b2 xs hx
  rcases Nat.lt_or_ge 4 vs.length with h | h
  · obtain ⟨⟨z, w⟩, hz⟩ := get_some (l := vs) (i := 4) h
    obtain ⟨⟨x, t⟩, g⟩ := get_some (l := xs) (i := 4 % xs.length) (Nat.mod_lt _ (by omega))
    have hm : 4 % xs.length < 1000 := Nat.lt_of_le_of_lt (Nat.mod_le _ _) (by omega)
    intro A s F hA H
    refine startC (ranAgain (cells_4_e ..) (quiet_cells ..) hk hA
      (.cons (c_setI (Nat.mod_lt _ (by omega)) hm) (.cons c_addN (.cons (c_modZ (by decide)) (.cons (c_getI g hm) (.cons (c_modN (by omega)) (.cons (c_lenI (by omega)) (.cons (c_nextZ hz) .nil))))))) H fun s' H' => ?_)
    refine (cellsAt_5 hk vs hv kt1 kt2 _ _ _ _ _ _ _ _ (by simpa using hx)).use hA H' ?_
    rintro r n' k' T' s'' ⟨rfl, kt3, kt4, a1, a2, b1, b2, xs', rfl, e⟩ H''
    exact ⟨_, _, _, ⟨rfl, kt3, kt4, a1, a2, b1, b2, xs', rfl, e.trans (addUp_turn g hz).symm⟩, H''⟩
  · exact cells_end hk h
theorem cellsAt_3 (hk : KtOk X (kt X)) (vs : List (Int × Nat)) (hv : vs.length ≤ 12) (kt1 kt2 : Nat) : CellsAt X vs kt1 kt2 3 248 := by
  intro k kt3 kt4 a1 a2 b1 b2 xs hx
  rcases Nat.lt_or_ge 3 vs.length with h | h
  · obtain ⟨⟨z, w⟩, hz⟩ := get_some (l := vs) (i := 3) h
    obtain ⟨⟨x, t⟩, g⟩ := get_some (l := xs) (i := 3 % xs.length) (Nat.mod_lt _ (by omega))
    have hm : 3 % xs.length < 1000 := Nat.lt_of_le_of_lt (Nat.mod_le _ _) (by omega)
    intro A s F hA H
    refine startC (ranAgain (cells_3_e ..) (quiet_cells ..) hk hA
      (.cons (c_setI (Nat.mod_lt _ (by omega)) hm) (.cons c_addN (.cons (c_modZ (by decide)) (.cons (c_getI g hm) (.cons (c_modN (by omega)) (.cons (c_lenI (by omega)) (.cons (c_nextZ hz) .nil))))))) H fun s' H' => ?_)
    refine (cellsAt_4 hk vs hv kt1 kt2 _ _ _ _ _ _ _ _ (by simpa using hx)).use hA H' ?_
    rintro r n' k' T' s'' ⟨rfl, kt3, kt4, a1, a2, b1, b2, xs', rfl, e⟩ H''
    exact ⟨_, _, _, ⟨rfl, kt3, kt4, a1, a2, b1, b2, xs', rfl, e.trans (addUp_turn g hz).symm⟩, H''⟩
  · exact cells_end hk h
theorem cellsAt_2 (hk : KtOk X (kt X)) (vs : List (Int × Nat)) (hv : vs.length ≤ 12) (kt1 kt2 : Nat) : CellsAt X vs kt1 kt2 2 244 := by
  intro k kt3 kt4 a1 a2 b1 b2 xs hx
  rcases Nat.lt_or_ge 2 vs.length with h | h
  · obtain ⟨⟨z, w⟩, hz⟩ := get_some (l := vs) (i := 2) h
    obtain ⟨⟨x, t⟩, g⟩ := get_some (l := xs) (i := 2 % xs.length) (Nat.mod_lt _ (by omega))
    have hm : 2 % xs.length < 1000 := Nat.lt_of_le_of_lt (Nat.mod_le _ _) (by omega)
    intro A s F hA H
    refine startC (ranAgain (cells_2_e ..) (quiet_cells ..) hk hA
      (.cons (c_setI (Nat.mod_lt _ (by omega)) hm) (.cons c_addN (.cons (c_modZ (by decide)) (.cons (c_getI g hm) (.cons (c_modN (by omega)) (.cons (c_lenI (by omega)) (.cons (c_nextZ hz) .nil))))))) H fun s' H' => ?_)
    refine (cellsAt_3 hk vs hv kt1 kt2 _ _ _ _ _ _ _ _ (by simpa using hx)).use hA H' ?_
    rintro r n' k' T' s'' ⟨rfl, kt3, kt4, a1, a2, b1, b2, xs', rfl, e⟩ H''
    exact ⟨_, _, _, ⟨rfl, kt3, kt4, a1, a2, b1, b2, xs', rfl, e.trans (addUp_turn g hz).symm⟩, H''⟩
  · exact cells_end hk h
theorem cellsAt_1 (hk : KtOk X (kt X)) (vs : List (Int × Nat)) (hv : vs.length ≤ 12) (kt1 kt2 : Nat) : CellsAt X vs kt1 kt2 1 240 := by
  intro k kt3 kt4 a1 a2 b1 b2 xs hx
  rcases Nat.lt_or_ge 1 vs.length with h | h
  · obtain ⟨⟨z, w⟩, hz⟩ := get_some (l := vs) (i := 1) h
    obtain ⟨⟨x, t⟩, g⟩ := get_some (l := xs) (i := 1 % xs.length) (Nat.mod_lt _ (by omega))
    have hm : 1 % xs.length < 1000 := Nat.lt_of_le_of_lt (Nat.mod_le _ _) (by omega)
    intro A s F hA H
    refine startC (ranAgain (cells_1_e ..) (quiet_cells ..) hk hA
      (.cons (c_setI (Nat.mod_lt _ (by omega)) hm) (.cons c_addN (.cons (c_modZ (by decide)) (.cons (c_getI g hm) (.cons (c_modN (by omega)) (.cons (c_lenI (by omega)) (.cons (c_nextZ hz) .nil))))))) H fun s' H' => ?_)
    refine (cellsAt_2 hk vs hv kt1 kt2 _ _ _ _ _ _ _ _ (by simpa using hx)).use hA H' ?_
    rintro r n' k' T' s'' ⟨rfl, kt3, kt4, a1, a2, b1, b2, xs', rfl, e⟩ H''
    exact ⟨_, _, _, ⟨rfl, kt3, kt4, a1, a2, b1, b2, xs', rfl, e.trans (addUp_turn g hz).symm⟩, H''⟩
  · exact cells_end hk h
theorem cells_does (hk : KtOk X (kt X)) (vs : List (Int × Nat)) (hv : vs.length < 1000) (k eS : Nat) (xs : NN) (hx : xs.length = 6) :
    DoesK X 140 (.call (.ref 163) ⟨[.ref 228, .ref 230], []⟩) 231 k [(228, lst (zvs vs) eS), (230, lst (ivs xs) 0)]
      (fun K => ∀ n' k' xs', xs'.map (·.1) = addUp (xs.map (·.1)) 0 ((vs.take 12).map (·.1)) → K (.ok (.ret (.ref 230))) n' k' ([(230, lst (ivs xs') 0), (228, lst (zvs vs) eS)])) := by
  intro A s F R hA H qk
  have hv' : (vs.take 12).length ≤ 12 := by rw [List.length_take]; omega
  refine startC (paused (cells1_e ..) hk hA (.cons c_enum (.cons (c_takeZ hv) .nil)) H fun s' A' hA' H' => ?_)
  rcases Nat.lt_or_ge 0 (vs.take 12).length with h | h
  · obtain ⟨⟨z, w⟩, hz⟩ := get_some (l := vs.take 12) (i := 0) h
    obtain ⟨⟨x, t⟩, g⟩ := get_some (l := xs) (i := 0 % xs.length) (Nat.mod_lt _ (by omega))
    have hm : 0 % xs.length < 1000 := Nat.lt_of_le_of_lt (Nat.mod_le _ _) (by omega)
    refine startC (ranAgain (cellsA_e ..) (quiet_cells ..) hk hA'
      (.cons (c_setI (Nat.mod_lt _ (by omega)) hm) (.cons c_addN (.cons (c_modZ (by decide)) (.cons (c_getI g hm) (.cons (c_modN (by omega)) (.cons (c_lenI (by omega)) (.cons (c_nextZ hz) .nil))))))) H' fun s1 H1 => ?_)
    refine (cellsAt_1 hk _ hv' _ _ _ _ _ _ _ _ _ _ (by simpa using hx)).use hA' H1 ?_
    rintro r n' k' T' s'' ⟨rfl, kt3, kt4, a1, a2, b1, b2, xs', rfl, e⟩ H''
    refine ran (cellsE_e ..) hk hA .nil H'' fun s3 H3 => ?_
    exact qk _ _ _ (e.trans (addUp_turn (i := 0) g hz).symm) _ H3
  · refine startC (ran (cellsB_e ..) hk hA' (.cons (c_endZ h) .nil) H' fun s1 H1 => ?_)
    refine ran (cellsD_e ..) hk hA .nil H1 fun s3 H3 => ?_
    refine qk _ _ _ (?_) _ H3
    rw [List.eq_nil_of_length_eq_zero (Nat.le_zero.mp h)]; rfl
end
end
noncomputable def drawn1_o (X : Cx) (n k C eC : Nat) (cs : NN) (F : LG) : Out := goC X (kt X) 70 56 [.o 0, .o 0, .o 1, .o 1, .frame, .o 2, .o 2, .o 0, .o 0, .e, .e, .o 1, .o 1, .e, .o 1, .o 1, .o 1, .o 1, .e, .o 1, .o 1, .o 1, .o 1, .o 1] (.call (.ref 170) ⟨[.ref C], []⟩) n k ([(C, lst (ivs cs) eC)] ++ F)
theorem drawn1_e (X : Cx) (n k C eC : Nat) (cs : NN) (F : LG) : RAC X 70 (.call (.ref 170) ⟨[.ref C], []⟩) n k ([(C, lst (ivs cs) eC)] ++ F) (drawn1_o X n k C eC cs F) [3, 4, 2, 0] 5 true (drawnLoop n (n+3)) (n + 4) (k + 5) ([(n, frm [en X "cells" k (.ref C), en X "pairs" (k + 1) (.ref (n + 1))] 2), (C, lst (ivs cs) eC), ((n + 1), lst [] 0), ((n + 3), rit 1 6)] ++ F) [] := by delta drawn1_o; exact .mC (by apply X.both <;> kernel_rfl!)
theorem drawn2_e (X : Cx) (n k L C P it eC eP x lf kt1 kt2 : Nat) (cs : NN) (ps : List Nat) (F : LG) (y1 y2 y3 y4 y5 y6 y7 y8 y9 y10 : Nat) (r1 : List Nat) : REC X 0 (drawnLoop L it) n k ([(L, frm [en X "cells" kt1 (.ref C), en X "pairs" kt2 (.ref P)] 2), (C, lst (ivs cs) eC), (P, lst (rfs ps) eP), (it, rit x lf)] ++ F) [0, 5, 6, 7, 8] 9 (.again (drawnLoop L it)) (n + 5) (k + 11) ([((n + 4), tup [(iv x k), (iv y5 (k + 4))]), (L, frm [en X "cells" kt1 (.ref C), en X "pairs" kt2 (.ref P), en X "k" (k + 1) (iv x k), en X "b" (k + 9) (iv y10 (k + 8)), en X "a" (k + 10) (iv y5 (k + 4))] 5), (C, lst (ivs cs) eC), (P, lst (rfs r1) (eP + 1)), (it, rit (x + 1) y1)] ++ F) [CutB X (bi "int.__ne__" [(iv y5 (k + 4)), (iv y10 (k + 8))]) (.bool false) [] (k + 11) (k + 11), CutG X 0 false (bi "list.append" [(.ref P), (.ref (n + 4))]) (.ok (.ret .none)) [(P, lst (rfs ps) eP)] (n + 5) (k + 11) (k + 11) [(P, lst (rfs r1) (eP + 1))] [], CutB X (bi "int.__mod__" [(iv y9 (k + 7)), (iv x k)]) (iv y10 (k + 8)) [] (k + 8) (k + 9), CutB X (bi "int.__floordiv__" [(iv y7 y8), (iv x k)]) (iv y9 (k + 7)) [] (k + 7) (k + 8), CutB X (bi "list.__getitem__" [(.ref C), (iv y6 (k + 6))]) (iv y7 y8) [(C, lst (ivs cs) eC)] (k + 7) (k + 7), CutB X (bi "int.__sub__" [(iv x k), (iv 1 (k + 5))]) (iv y6 (k + 6)) [] (k + 6) (k + 7), CutB X (bi "int.__mod__" [(iv y3 y4), (iv x k)]) (iv y5 (k + 4)) [] (k + 4) (k + 5), CutB X (bi "list.__getitem__" [(.ref C), (iv y2 (k + 3))]) (iv y3 y4) [(C, lst (ivs cs) eC)] (k + 4) (k + 4), CutB X (bi "int.__sub__" [(iv x k), (iv 1 (k + 2))]) (iv y2 (k + 3)) [] (k + 3) (k + 4), CutG X 0 false (bi "range_iterator.__next__" [(.ref it)]) (.ok (.ret (iv x k))) [(it, rit x lf)] n k (k + 1) [(it, rit (x + 1) y1)] []] := .mk 133 [.o 4, .g false (.ok (.ret (iv x k))) (k + 1) [3] [(3, rit (x + 1) y1)] [], .o 1, .o 1, .o 1, .o 1, .v (iv y2 (k + 3)) (k + 4) [], .o 2, .o 2, .o 2, .v (iv y3 y4) (k + 4) [1], .o 1, .v (iv y5 (k + 4)) (k + 5) [], .o 1, .o 1, .v (iv y6 (k + 6)) (k + 7) [], .o 2, .o 2, .o 2, .v (iv y7 y8) (k + 7) [1], .o 1, .v (iv y9 (k + 7)) (k + 8) [], .o 1, .v (iv y10 (k + 8)) (k + 9) [], .o 1, .o 1, .o 1, .e, .o 1, .o 1, .o 1, .e, .o 1, .o 1, .o 1, .o 2, .o 1, .o 1, .o 1, .e, .o 1, .o 1, .o 1, .o 2, .o 1, .o 1, .o 1, .e, .o 1, .o 1, .o 1, .o 2, .o 1, .o 1, .o 1, .o 5, .o 5, .o 5, .o 5, .o 5, .o 7, .o 7, .o 7, .o 7, .o 5, .o 5, .g false (.ok (.ret .none)) (k + 11) [7] [(7, lst (rfs r1) (eP + 1))] [], .o 6, .o 6, .v (.bool false) (k + 11) []] (by apply X.both <;> kernel_rfl!)
theorem drawn3_e (X : Cx) (n k L C P it eC eP x lf kt1 kt2 : Nat) (cs : NN) (ps : List Nat) (kt3 kt4 kt5 a1 a2 b1 b2 c1 c2 : Nat) (F : LG) (y1 y2 y3 y4 y5 y6 y7 y8 y9 y10 : Nat) (r1 : List Nat) : REC X 0 (drawnLoop L it) n k ([(L, frm [en X "cells" kt1 (.ref C), en X "pairs" kt2 (.ref P), en X "k" kt3 (iv a1 a2), en X "b" kt4 (iv b1 b2), en X "a" kt5 (iv c1 c2)] 5), (C, lst (ivs cs) eC), (P, lst (rfs ps) eP), (it, rit x lf)] ++ F) [0, 5, 6, 7, 8] 9 (.again (drawnLoop L it)) (n + 5) (k + 11) ([((n + 4), tup [(iv x k), (iv y5 (k + 4))]), (L, frm [en X "cells" kt1 (.ref C), en X "pairs" kt2 (.ref P), en X "k" kt3 (iv x k), en X "b" kt4 (iv y10 (k + 8)), en X "a" kt5 (iv y5 (k + 4))] 5), (C, lst (ivs cs) eC), (P, lst (rfs r1) (eP + 1)), (it, rit (x + 1) y1)] ++ F) [CutB X (bi "int.__ne__" [(iv y5 (k + 4)), (iv y10 (k + 8))]) (.bool false) [] (k + 11) (k + 11), CutG X 0 false (bi "list.append" [(.ref P), (.ref (n + 4))]) (.ok (.ret .none)) [(P, lst (rfs ps) eP)] (n + 5) (k + 11) (k + 11) [(P, lst (rfs r1) (eP + 1))] [], CutB X (bi "int.__mod__" [(iv y9 (k + 7)), (iv x k)]) (iv y10 (k + 8)) [] (k + 8) (k + 9), CutB X (bi "int.__floordiv__" [(iv y7 y8), (iv x k)]) (iv y9 (k + 7)) [] (k + 7) (k + 8), CutB X (bi "list.__getitem__" [(.ref C), (iv y6 (k + 6))]) (iv y7 y8) [(C, lst (ivs cs) eC)] (k + 7) (k + 7), CutB X (bi "int.__sub__" [(iv x k), (iv 1 (k + 5))]) (iv y6 (k + 6)) [] (k + 6) (k + 7), CutB X (bi "int.__mod__" [(iv y3 y4), (iv x k)]) (iv y5 (k + 4)) [] (k + 4) (k + 5), CutB X (bi "list.__getitem__" [(.ref C), (iv y2 (k + 3))]) (iv y3 y4) [(C, lst (ivs cs) eC)] (k + 4) (k + 4), CutB X (bi "int.__sub__" [(iv x k), (iv 1 (k + 2))]) (iv y2 (k + 3)) [] (k + 3) (k + 4), CutG X 0 false (bi "range_iterator.__next__" [(.ref it)]) (.ok (.ret (iv x k))) [(it, rit x lf)] n k (k + 1) [(it, rit (x + 1) y1)] []] := .mk 133 [.o 4, .g false (.ok (.ret (iv x k))) (k + 1) [3] [(3, rit (x + 1) y1)] [], .o 1, .o 1, .o 1, .o 1, .v (iv y2 (k + 3)) (k + 4) [], .o 2, .o 2, .o 2, .v (iv y3 y4) (k + 4) [1], .o 1, .v (iv y5 (k + 4)) (k + 5) [], .o 1, .o 1, .v (iv y6 (k + 6)) (k + 7) [], .o 2, .o 2, .o 2, .v (iv y7 y8) (k + 7) [1], .o 1, .v (iv y9 (k + 7)) (k + 8) [], .o 1, .v (iv y10 (k + 8)) (k + 9) [], .o 1, .o 1, .o 1, .e, .o 1, .o 1, .o 1, .e, .o 1, .o 1, .o 1, .o 2, .o 1, .o 1, .o 1, .e, .o 1, .o 1, .o 1, .o 2, .o 1, .o 1, .o 1, .e, .o 1, .o 1, .o 1, .o 2, .o 1, .o 1, .o 1, .o 5, .o 5, .o 5, .o 5, .o 5, .o 7, .o 7, .o 7, .o 7, .o 5, .o 5, .g false (.ok (.ret .none)) (k + 11) [7] [(7, lst (rfs r1) (eP + 1))] [], .o 6, .o 6, .v (.bool false) (k + 11) []] (by apply X.both <;> kernel_rfl!)
theorem drawn4_e (X : Cx) (n k L C P it eC eP x lf kt1 kt2 : Nat) (cs : NN) (ps : List Nat) (kt3 kt4 kt5 a1 a2 b1 b2 c1 c2 : Nat) (F : LG) (y1 y2 y3 y4 y5 y6 y7 y8 y9 y10 : Nat) (r1 r2 : List Nat) : REC X 0 (drawnLoop L it) n k ([(L, frm [en X "cells" kt1 (.ref C), en X "pairs" kt2 (.ref P), en X "k" kt3 (iv a1 a2), en X "b" kt4 (iv b1 b2), en X "a" kt5 (iv c1 c2)] 5), (C, lst (ivs cs) eC), (P, lst (rfs ps) eP), (it, rit x lf)] ++ F) [1, 0, 6, 7, 8, 9] 10 (.again (drawnLoop L it)) (n + 6) (k + 11) ([((n + 4), tup [(iv x k), (iv y5 (k + 4))]), ((n + 5), tup [(iv x k), (iv y10 (k + 8))]), (L, frm [en X "cells" kt1 (.ref C), en X "pairs" kt2 (.ref P), en X "k" kt3 (iv x k), en X "b" kt4 (iv y10 (k + 8)), en X "a" kt5 (iv y5 (k + 4))] 5), (C, lst (ivs cs) eC), (P, lst (rfs r2) (eP + 2)), (it, rit (x + 1) y1)] ++ F) [CutG X 0 false (bi "list.append" [(.ref P), (.ref (n + 5))]) (.ok (.ret .none)) [(P, lst (rfs r1) (eP + 1))] (n + 6) (k + 11) (k + 11) [(P, lst (rfs r2) (eP + 2))] [], CutB X (bi "int.__ne__" [(iv y5 (k + 4)), (iv y10 (k + 8))]) (.bool true) [] (k + 11) (k + 11), CutG X 0 false (bi "list.append" [(.ref P), (.ref (n + 4))]) (.ok (.ret .none)) [(P, lst (rfs ps) eP)] (n + 5) (k + 11) (k + 11) [(P, lst (rfs r1) (eP + 1))] [], CutB X (bi "int.__mod__" [(iv y9 (k + 7)), (iv x k)]) (iv y10 (k + 8)) [] (k + 8) (k + 9), CutB X (bi "int.__floordiv__" [(iv y7 y8), (iv x k)]) (iv y9 (k + 7)) [] (k + 7) (k + 8), CutB X (bi "list.__getitem__" [(.ref C), (iv y6 (k + 6))]) (iv y7 y8) [(C, lst (ivs cs) eC)] (k + 7) (k + 7), CutB X (bi "int.__sub__" [(iv x k), (iv 1 (k + 5))]) (iv y6 (k + 6)) [] (k + 6) (k + 7), CutB X (bi "int.__mod__" [(iv y3 y4), (iv x k)]) (iv y5 (k + 4)) [] (k + 4) (k + 5), CutB X (bi "list.__getitem__" [(.ref C), (iv y2 (k + 3))]) (iv y3 y4) [(C, lst (ivs cs) eC)] (k + 4) (k + 4), CutB X (bi "int.__sub__" [(iv x k), (iv 1 (k + 2))]) (iv y2 (k + 3)) [] (k + 3) (k + 4), CutG X 0 false (bi "range_iterator.__next__" [(.ref it)]) (.ok (.ret (iv x k))) [(it, rit x lf)] n k (k + 1) [(it, rit (x + 1) y1)] []] := .mk 151 [.o 4, .g false (.ok (.ret (iv x k))) (k + 1) [3] [(3, rit (x + 1) y1)] [], .o 1, .o 1, .o 1, .o 1, .v (iv y2 (k + 3)) (k + 4) [], .o 2, .o 2, .o 2, .v (iv y3 y4) (k + 4) [1], .o 1, .v (iv y5 (k + 4)) (k + 5) [], .o 1, .o 1, .v (iv y6 (k + 6)) (k + 7) [], .o 2, .o 2, .o 2, .v (iv y7 y8) (k + 7) [1], .o 1, .v (iv y9 (k + 7)) (k + 8) [], .o 1, .v (iv y10 (k + 8)) (k + 9) [], .o 1, .o 1, .o 1, .e, .o 1, .o 1, .o 1, .e, .o 1, .o 1, .o 1, .o 2, .o 1, .o 1, .o 1, .e, .o 1, .o 1, .o 1, .o 2, .o 1, .o 1, .o 1, .e, .o 1, .o 1, .o 1, .o 2, .o 1, .o 1, .o 1, .o 5, .o 5, .o 5, .o 5, .o 5, .o 7, .o 7, .o 7, .o 7, .o 5, .o 5, .g false (.ok (.ret .none)) (k + 11) [7] [(7, lst (rfs r1) (eP + 1))] [], .o 6, .o 6, .v (.bool true) (k + 11) [], .o 6, .o 8, .o 8, .o 8, .o 8, .o 6, .o 6, .g false (.ok (.ret .none)) (k + 11) [8] [(8, lst (rfs r2) (eP + 2))] []] (by apply X.both <;> kernel_rfl!)
theorem drawn5_e (X : Cx) (n k L C P it eC eP x lf kt1 kt2 : Nat) (cs : NN) (ps : List Nat) (kt3 kt4 kt5 a1 a2 b1 b2 c1 c2 : Nat) (F : LG) : REC X 0 (drawnLoop L it) n k ([(L, frm [en X "cells" kt1 (.ref C), en X "pairs" kt2 (.ref P), en X "k" kt3 (iv a1 a2), en X "b" kt4 (iv b1 b2), en X "a" kt5 (iv c1 c2)] 5), (C, lst (ivs cs) eC), (P, lst (rfs ps) eP), (it, rit x lf)] ++ F) [2, 3, 4] 6 (.done (.next)) (n + 2) k ([(L, frm [en X "cells" kt1 (.ref C), en X "pairs" kt2 (.ref P), en X "k" kt3 (iv a1 a2), en X "b" kt4 (iv b1 b2), en X "a" kt5 (iv c1 c2)] 5), (C, lst (ivs cs) eC), (P, lst (rfs ps) eP)] ++ F) [CutG X 0 false (bi "range_iterator.__next__" [(.ref it)]) (.error (.ref (n + 1))) [(it, rit x lf)] n k k [] [tup [], fld "StopIteration" [(.ref n), .none, .none, .none, (.bool false), .none]]] := .mk 5 [.o 4, .g false (.error (.ref (n + 1))) k [3] [] [tup [], fld "StopIteration" [(.ref n), .none, .none, .none, (.bool false), .none]], .o 1] (by kernel_rfl!)
theorem drawn6_e (X : Cx) (n k C eC eP n' k' : Nat) (cs : NN) (ps : List Nat) (kt1 kt2 P : Nat) (G : LG) (kt3 kt4 kt5 a1 a2 b1 b2 c1 c2 : Nat) (F : LG) : REN X 70 (drawn1_o X n k C eC cs G) (.ok .next) n' k' ([(n, frm [en X "cells" kt1 (.ref C), en X "pairs" kt2 (.ref P), en X "k" kt3 (iv a1 a2), en X "b" kt4 (iv b1 b2), en X "a" kt5 (iv c1 c2)] 5), (C, lst (ivs cs) eC), (P, lst (rfs ps) eP)] ++ F) [2, 1] 3 (.done (.ret (.ref P))) n' k' ([(P, lst (rfs ps) eP), (C, lst (ivs cs) eC)] ++ F) [] := .mk 3 [.o 1] (by apply X.both <;> kernel_rfl!)
section
noncomputable def drawOne (cs : List Nat) (x : Nat) : NN :=
  let c := cs.getD (x - 1) 0
  (x, c % x) :: (if c % x = c / x % x then [] else [(x, c / x % x)])
noncomputable def drawFrom (cs : List Nat) : Nat → Nat → NN
  | _, 0 => []
  | x, lf + 1 => drawOne cs x ++ drawFrom cs (x + 1) lf
theorem drawOne_same {cs : List Nat} {x c : Nat} (hc : cs.getD (x - 1) 0 = c) (hab : c % x = c / x % x) : drawOne cs x = [(x, c % x)] := by
  unfold drawOne; simp only [hc]; rw [if_pos hab]
theorem drawOne_two {cs : List Nat} {x c : Nat} (hc : cs.getD (x - 1) 0 = c) (hab : ¬ c % x = c / x % x) : drawOne cs x = [(x, c % x), (x, c / x % x)] := by
  unfold drawOne; simp only [hc]; rw [if_neg hab]
theorem quiet_drawn (L it : Addr) : (drawnLoop L it).quiet = true := by unfold drawnLoop; rfl
section
variable {X : Cx}
theorem drawn_more (hk : KtOk X (kt X)) (L it C eC P kt1 kt2 : Nat) (cs : NN) (hcs : cs.length = 6) : ∀ (lf x : Nat), x + lf = 7 → 1 ≤ x → ∀ (n k kt3 kt4 kt5 a1 a2 b1 b2 c1 c2 eP : Nat) (qs : List PQ), qs.length ≤ 2 * x →
    Does X 70 (drawnLoop L it) n k ([(L, frm [en X "cells" kt1 (.ref C), en X "pairs" kt2 (.ref P), en X "k" kt3 (iv a1 a2), en X "b" kt4 (iv b1 b2), en X "a" kt5 (iv c1 c2)] 5), (C, lst (ivs cs) eC), (P, lst (rfs (qs.map (·.a))) eP), (it, rit x lf)] ++ qs.map PQ.o)
      (fun r n' k' T' => r = .ok .next ∧ ∃ kt3 kt4 kt5 a1 a2 b1 b2 c1 c2 eP, ∃ qs' : List PQ, T' = ([(L, frm [en X "cells" kt1 (.ref C), en X "pairs" kt2 (.ref P), en X "k" kt3 (iv a1 a2), en X "b" kt4 (iv b1 b2), en X "a" kt5 (iv c1 c2)] 5), (C, lst (ivs cs) eC), (P, lst (rfs (qs'.map (·.a))) eP)] ++ qs'.map PQ.o) ∧
        qs'.map PQ.v = qs.map PQ.v ++ drawFrom (cs.map (·.1)) x lf) := by
  intro lf
  induction lf with
  | zero =>
    intro x hx h1 n k kt3 kt4 kt5 a1 a2 b1 b2 c1 c2 eP qs hq A s F hA H
    rw [List.append_assoc] at H
    refine startC (ran (drawn5_e ..) hk hA (.cons c_rend .nil) H fun s' H' => ?_)
    exact ⟨_, _, _, ⟨rfl, kt3, kt4, kt5, a1, a2, b1, b2, c1, c2, eP, qs, rfl, by simp [drawFrom]⟩, H'.cast (List.append_assoc ..).symm⟩
  | succ lf ih =>
    intro x hx h1 n k kt3 kt4 kt5 a1 a2 b1 b2 c1 c2 eP qs hq A s F hA H
    rw [List.append_assoc] at H
    obtain ⟨⟨c, t⟩, g⟩ := get_some (l := cs) (i := x - 1) (by omega)
    have hc : (cs.map (·.1)).getD (x - 1) 0 = c := getD_of (by simp [g])
    by_cases hab : c % x = c / x % x
    · refine startC (ranAgain (drawn3_e ..) (quiet_drawn ..) hk hA
        (.cons (c_neF hab) (.cons (c_appR (by simp; omega)) (.cons (c_modN (by omega)) (.cons (c_divN (by omega) (by omega)) (.cons (c_getI g (by omega)) (.cons (c_subN h1) (.cons (c_modN (by omega)) (.cons (c_getI g (by omega)) (.cons (c_subN h1) (.cons (c_rnext (by omega)) .nil))))))))))
        H fun s' H' => ?_)
      have H2 := H'.enter (a := ⟨n + 4, x, c % x, k, k + 4⟩) rfl
      rw [show qs.map (·.a) ++ [n + 4] = (qs ++ [(⟨n + 4, x, c % x, k, k + 4⟩ : PQ)]).map (·.a) by simp] at H2
      refine (ih (x + 1) (by omega) (by omega) _ _ _ _ _ _ _ _ _ _ _ _ (qs ++ [⟨n + 4, x, c % x, k, k + 4⟩]) (by simp; omega)).use hA (H2.cast (List.append_assoc ..).symm) ?_
      rintro r n' k' T' s'' ⟨rfl, kt3, kt4, kt5, a1, a2, b1, b2, c1, c2, eP, qs', rfl, e⟩ H''
      refine ⟨_, _, _, ⟨rfl, kt3, kt4, kt5, a1, a2, b1, b2, c1, c2, eP, qs', rfl, ?_⟩, H''⟩
      rw [e, drawFrom, drawOne_same hc hab]
      simp [PQ.v]
    · refine startC (ranAgain (drawn4_e ..) (quiet_drawn ..) hk hA
        (.cons (c_appR (by simp; omega)) (.cons (c_neT hab) (.cons (c_appR (by simp; omega)) (.cons (c_modN (by omega)) (.cons (c_divN (by omega) (by omega)) (.cons (c_getI g (by omega)) (.cons (c_subN h1) (.cons (c_modN (by omega)) (.cons (c_getI g (by omega)) (.cons (c_subN h1) (.cons (c_rnext (by omega)) .nil)))))))))))
        H fun s' H' => ?_)
      have H2 := (H'.enter (a := ⟨n + 4, x, c % x, k, k + 4⟩) rfl).enter (a := ⟨n + 5, x, c / x % x, k, k + 8⟩) rfl
      rw [show qs.map (·.a) ++ [n + 4] ++ [n + 5] = (qs ++ [(⟨n + 4, x, c % x, k, k + 4⟩ : PQ)] ++ [(⟨n + 5, x, c / x % x, k, k + 8⟩ : PQ)]).map (·.a) by simp] at H2
      refine (ih (x + 1) (by omega) (by omega) _ _ _ _ _ _ _ _ _ _ _ _ (qs ++ [⟨n + 4, x, c % x, k, k + 4⟩] ++ [⟨n + 5, x, c / x % x, k, k + 8⟩]) (by simp; omega)).use hA (H2.cast (List.append_assoc ..).symm) ?_
      rintro r n' k' T' s'' ⟨rfl, kt3, kt4, kt5, a1, a2, b1, b2, c1, c2, eP, qs', rfl, e⟩ H''
      refine ⟨_, _, _, ⟨rfl, kt3, kt4, kt5, a1, a2, b1, b2, c1, c2, eP, qs', rfl, ?_⟩, H''⟩
      rw [e, drawFrom, drawOne_two hc hab]
      simp [PQ.v]
theorem drawn_does (hk : KtOk X (kt X)) (cs : NN) (hcs : cs.length = 6) (C n k eC : Nat) :
    DoesK X 140 (.call (.ref 170) ⟨[.ref C], []⟩) n k [(C, lst (ivs cs) eC)]
      (fun K => ∀ n' k' (P : Nat) (qs : List PQ) (eP : Nat), qs.map PQ.v = drawFrom (cs.map (·.1)) 1 6 → K (.ok (.ret (.ref P))) n' k' (([(P, lst (rfs (qs.map (·.a))) eP), (C, lst (ivs cs) eC)] ++ qs.map PQ.o))) := by
  intro A s F R hA H qk
  refine startC (paused (drawn1_e ..) hk hA .nil H fun s' A' hA' H' => ?_)
  obtain ⟨⟨c, t⟩, g⟩ := get_some (l := cs) (i := 1 - 1) (by omega)
  have hc : (cs.map (·.1)).getD (1 - 1) 0 = c := getD_of (by simp [g])
  have hab : c % 1 = c / 1 % 1 := by simp [Nat.mod_one]
  have H0 : Rep X (n + 4) (k + 5) ([(n, frm [en X "cells" k (.ref C), en X "pairs" (k + 1) (.ref (n + 1))] 2), (C, lst (ivs cs) eC), (n + 1, lst (rfs []) 0), (n + 3, rit 1 6)] ++ F) s' := H'
  generalize hn4 : n + 4 = n4 at H0
  generalize hk5 : k + 5 = k5 at H0
  refine startC (ranAgain (drawn2_e ..) (quiet_drawn ..) hk hA'
    (.cons (c_neF hab) (.cons (c_appR (by simp)) (.cons (c_modN (by omega)) (.cons (c_divN (by omega) (by omega)) (.cons (c_getI g (by omega)) (.cons (c_subN (by omega)) (.cons (c_modN (by omega)) (.cons (c_getI g (by omega)) (.cons (c_subN (by omega)) (.cons (c_rnext (by omega)) .nil))))))))))
    H0 fun s1 H1 => ?_)
  have H2 := Rep.enter (l := []) (f := PQ.o) (a := ⟨n4 + 4, 1, c % 1, k5, k5 + 4⟩) H1 rfl
  refine (drawn_more hk _ _ _ _ _ _ _ cs hcs 5 2 (by omega) (by omega) _ _ _ _ _ _ _ _ _ _ _ _ [⟨n4 + 4, 1, c % 1, k5, k5 + 4⟩] (by simp)).use hA' H2 ?_
  rintro r n' k' T' s'' ⟨rfl, kt3, kt4, kt5, a1, a2, b1, b2, c1, c2, eP, qs', rfl, e⟩ H''
  rw [List.append_assoc] at H''
  refine ran (drawn6_e ..) hk hA .nil H'' fun s3 H3 => ?_
  refine qk _ _ _ qs' eP (?_) _ (H3.cast (List.append_assoc ..).symm)
  rw [e, show drawFrom (cs.map (·.1)) 1 6 = drawOne (cs.map (·.1)) 1 ++ drawFrom (cs.map (·.1)) 2 5 from rfl, drawOne_same hc hab]
  simp [PQ.v]
end
end
noncomputable def sym1_o (X : Cx) (n k P eP f ft : Nat) (ps : List Nat) (F : LG) : Out := goC X (kt X) 70 46 [.o 0, .o 0, .o 1, .o 1, .o 1, .o 1, .frame, .o 2, .o 2, .o 2, .o 2, .o 2, .o 3, .o 3, .e, .o 3, .o 1] (.call (.ref 177) ⟨[.ref P, iv f ft], []⟩) n k ([(P, lst (rfs ps) eP)] ++ F)
theorem sym1_e (X : Cx) (n k P eP f ft : Nat) (ps : List Nat) (F : LG) : RAC X 70 (.call (.ref 177) ⟨[.ref P, iv f ft], []⟩) n k ([(P, lst (rfs ps) eP)] ++ F) (sym1_o X n k P eP f ft ps F) [2, 1, 3, 0] 4 true (symLoop n (n+2)) (n + 3) (k + 5) ([(n, frm [en X "pairs" k (.ref P), en X "first" (k + 1) (iv f ft), en X "symbols" (k + 2) (.ref (n + 1)), en X "spot" (k + 4) (iv 0 (k + 3))] 4), ((n + 1), lst [] 0), (P, lst (rfs ps) eP), ((n + 2), lit P 0)] ++ F) [] := by delta sym1_o; exact .mC (by apply X.both <;> kernel_rfl!)
theorem sym2_e (X : Cx) (n k L Y P it q eY eP i f ft sp st ix tx jx ty kt1 kt2 kt3 kt4 : Nat) (ys : NN) (ps : List Nat) (F : LG) (y1 y2 : Nat) (z1 z2 : NN) : REC X 0 (symLoop L it) n k ([(q, tup [iv ix tx, iv jx ty]), (L, frm [en X "pairs" kt1 (.ref P), en X "first" kt2 (iv f ft), en X "symbols" kt3 (.ref Y), en X "spot" kt4 (iv sp st)] 4), (Y, lst (ivs ys) eY), (P, lst (rfs ps) eP), (it, lit P i)] ++ F) [3, 4, 5, 6, 7] 8 (.again (symLoop L it)) (n + 3) (k + 6) ([(q, tup [(iv ix tx), (iv jx ty)]), (L, frm [en X "pairs" kt1 (.ref P), en X "first" kt2 (iv f ft), en X "symbols" kt3 (.ref Y), en X "spot" kt4 (iv ix tx), en X "k" k (iv ix tx), en X "j" (k + 1) (iv jx ty)] 6), (Y, lst (ivs z2) (eY + 2)), (P, lst (rfs ps) eP), (it, lit P (i + 1))] ++ F) [CutG X 0 false (bi "list.append" [(.ref Y), (iv y2 (k + 5))]) (.ok (.ret .none)) [(Y, lst (ivs z1) (eY + 1))] (n + 3) (k + 6) (k + 6) [(Y, lst (ivs z2) (eY + 2))] [], CutB X (bi "int.__add__" [(iv f ft), (iv jx ty)]) (iv y2 (k + 5)) [] (k + 5) (k + 6), CutG X 0 false (bi "list.append" [(.ref Y), (iv y1 (k + 3))]) (.ok (.ret .none)) [(Y, lst (ivs ys) eY)] (n + 3) (k + 4) (k + 4) [(Y, lst (ivs z1) (eY + 1))] [], CutB X (bi "int.__sub__" [(iv 262 (k + 2)), (iv ix tx)]) (iv y1 (k + 3)) [] (k + 3) (k + 4), CutB X (bi "int.__ne__" [(iv ix tx), (iv sp st)]) (.bool true) [] (k + 2) (k + 2), CutG X 0 false (bi "list_iterator.__next__" [(.ref it)]) (.ok (.ret (.ref q))) [(it, lit P i), (P, lst (rfs ps) eP)] n k k [(it, lit P (i + 1))] []] := .mk 117 [.o 5, .g false (.ok (.ret (.ref q))) k [4, 3] [(4, lit P (i + 1))] [], .o 5, .o 1, .o 1, .o 1, .e, .o 1, .o 1, .o 1, .e, .o 1, .o 1, .o 1, .o 2, .o 1, .o 1, .o 1, .e, .o 1, .o 1, .o 1, .o 2, .o 1, .o 1, .o 1, .e, .o 1, .o 1, .o 1, .o 2, .o 1, .o 1, .o 1, .o 5, .o 5, .o 5, .o 5, .o 5, .o 5, .v (.bool true) (k + 2) [], .o 5, .o 6, .o 6, .o 6, .o 6, .o 5, .v (iv y1 (k + 3)) (k + 4) [], .g false (.ok (.ret .none)) (k + 4) [5] [(5, lst (ivs z1) (eY + 1))] [], .o 5, .o 5, .o 5, .o 5, .o 6, .o 6, .o 6, .o 6, .o 5, .o 5, .v (iv y2 (k + 5)) (k + 6) [], .g false (.ok (.ret .none)) (k + 6) [5] [(5, lst (ivs z2) (eY + 2))] []] (by apply X.both <;> kernel_rfl!)
theorem sym3_e (X : Cx) (n k L Y P it q eY eP i f ft sp st ix tx jx ty kt1 kt2 kt3 kt4 : Nat) (ys : NN) (ps : List Nat) (kt5 kt6 b1 b2 c1 c2 : Nat) (F : LG) (y1 y2 : Nat) (z1 z2 : NN) : REC X 0 (symLoop L it) n k ([(q, tup [iv ix tx, iv jx ty]), (L, frm [en X "pairs" kt1 (.ref P), en X "first" kt2 (iv f ft), en X "symbols" kt3 (.ref Y), en X "spot" kt4 (iv sp st), en X "k" kt5 (iv b1 b2), en X "j" kt6 (iv c1 c2)] 6), (Y, lst (ivs ys) eY), (P, lst (rfs ps) eP), (it, lit P i)] ++ F) [3, 4, 5, 6, 7] 8 (.again (symLoop L it)) (n + 3) (k + 6) ([(q, tup [(iv ix tx), (iv jx ty)]), (L, frm [en X "pairs" kt1 (.ref P), en X "first" kt2 (iv f ft), en X "symbols" kt3 (.ref Y), en X "spot" kt4 (iv ix tx), en X "k" kt5 (iv ix tx), en X "j" kt6 (iv jx ty)] 6), (Y, lst (ivs z2) (eY + 2)), (P, lst (rfs ps) eP), (it, lit P (i + 1))] ++ F) [CutG X 0 false (bi "list.append" [(.ref Y), (iv y2 (k + 5))]) (.ok (.ret .none)) [(Y, lst (ivs z1) (eY + 1))] (n + 3) (k + 6) (k + 6) [(Y, lst (ivs z2) (eY + 2))] [], CutB X (bi "int.__add__" [(iv f ft), (iv jx ty)]) (iv y2 (k + 5)) [] (k + 5) (k + 6), CutG X 0 false (bi "list.append" [(.ref Y), (iv y1 (k + 3))]) (.ok (.ret .none)) [(Y, lst (ivs ys) eY)] (n + 3) (k + 4) (k + 4) [(Y, lst (ivs z1) (eY + 1))] [], CutB X (bi "int.__sub__" [(iv 262 (k + 2)), (iv ix tx)]) (iv y1 (k + 3)) [] (k + 3) (k + 4), CutB X (bi "int.__ne__" [(iv ix tx), (iv sp st)]) (.bool true) [] (k + 2) (k + 2), CutG X 0 false (bi "list_iterator.__next__" [(.ref it)]) (.ok (.ret (.ref q))) [(it, lit P i), (P, lst (rfs ps) eP)] n k k [(it, lit P (i + 1))] []] := .mk 117 [.o 5, .g false (.ok (.ret (.ref q))) k [4, 3] [(4, lit P (i + 1))] [], .o 5, .o 1, .o 1, .o 1, .e, .o 1, .o 1, .o 1, .e, .o 1, .o 1, .o 1, .o 2, .o 1, .o 1, .o 1, .e, .o 1, .o 1, .o 1, .o 2, .o 1, .o 1, .o 1, .e, .o 1, .o 1, .o 1, .o 2, .o 1, .o 1, .o 1, .o 5, .o 5, .o 5, .o 5, .o 5, .o 5, .v (.bool true) (k + 2) [], .o 5, .o 6, .o 6, .o 6, .o 6, .o 5, .v (iv y1 (k + 3)) (k + 4) [], .g false (.ok (.ret .none)) (k + 4) [5] [(5, lst (ivs z1) (eY + 1))] [], .o 5, .o 5, .o 5, .o 5, .o 6, .o 6, .o 6, .o 6, .o 5, .o 5, .v (iv y2 (k + 5)) (k + 6) [], .g false (.ok (.ret .none)) (k + 6) [5] [(5, lst (ivs z2) (eY + 2))] []] (by apply X.both <;> kernel_rfl!)
theorem sym4_e (X : Cx) (n k L Y P it q eY eP i f ft sp st ix tx jx ty kt1 kt2 kt3 kt4 : Nat) (ys : NN) (ps : List Nat) (kt5 kt6 b1 b2 c1 c2 : Nat) (F : LG) (y1 : Nat) (z1 : NN) : REC X 0 (symLoop L it) n k ([(q, tup [iv ix tx, iv jx ty]), (L, frm [en X "pairs" kt1 (.ref P), en X "first" kt2 (iv f ft), en X "symbols" kt3 (.ref Y), en X "spot" kt4 (iv sp st), en X "k" kt5 (iv b1 b2), en X "j" kt6 (iv c1 c2)] 6), (Y, lst (ivs ys) eY), (P, lst (rfs ps) eP), (it, lit P i)] ++ F) [3, 4, 5, 6, 7] 8 (.again (symLoop L it)) (n + 3) (k + 3) ([(q, tup [(iv ix tx), (iv jx ty)]), (L, frm [en X "pairs" kt1 (.ref P), en X "first" kt2 (iv f ft), en X "symbols" kt3 (.ref Y), en X "spot" kt4 (iv sp st), en X "k" kt5 (iv ix tx), en X "j" kt6 (iv jx ty)] 6), (Y, lst (ivs z1) (eY + 1)), (P, lst (rfs ps) eP), (it, lit P (i + 1))] ++ F) [CutG X 0 false (bi "list.append" [(.ref Y), (iv y1 (k + 2))]) (.ok (.ret .none)) [(Y, lst (ivs ys) eY)] (n + 3) (k + 3) (k + 3) [(Y, lst (ivs z1) (eY + 1))] [], CutB X (bi "int.__add__" [(iv f ft), (iv jx ty)]) (iv y1 (k + 2)) [] (k + 2) (k + 3), CutB X (bi "int.__ne__" [(iv ix tx), (iv sp st)]) (.bool false) [] (k + 2) (k + 2), CutG X 0 false (bi "list_iterator.__next__" [(.ref it)]) (.ok (.ret (.ref q))) [(it, lit P i), (P, lst (rfs ps) eP)] n k k [(it, lit P (i + 1))] []] := .mk 90 [.o 5, .g false (.ok (.ret (.ref q))) k [4, 3] [(4, lit P (i + 1))] [], .o 5, .o 1, .o 1, .o 1, .e, .o 1, .o 1, .o 1, .e, .o 1, .o 1, .o 1, .o 2, .o 1, .o 1, .o 1, .e, .o 1, .o 1, .o 1, .o 2, .o 1, .o 1, .o 1, .e, .o 1, .o 1, .o 1, .o 2, .o 1, .o 1, .o 1, .o 5, .o 5, .o 5, .o 5, .o 5, .o 5, .v (.bool false) (k + 2) [], .o 5, .o 6, .o 6, .o 6, .o 6, .o 5, .o 5, .v (iv y1 (k + 2)) (k + 3) [], .g false (.ok (.ret .none)) (k + 3) [5] [(5, lst (ivs z1) (eY + 1))] []] (by apply X.both <;> kernel_rfl!)
theorem sym5_e (X : Cx) (n k L Y P it eY eP i f ft sp st kt1 kt2 kt3 kt4 : Nat) (ys : NN) (ps : List Nat) (kt5 kt6 b1 b2 c1 c2 : Nat) (F : LG) : REC X 0 (symLoop L it) n k ([(L, frm [en X "pairs" kt1 (.ref P), en X "first" kt2 (iv f ft), en X "symbols" kt3 (.ref Y), en X "spot" kt4 (iv sp st), en X "k" kt5 (iv b1 b2), en X "j" kt6 (iv c1 c2)] 6), (Y, lst (ivs ys) eY), (P, lst (rfs ps) eP), (it, lit P i)] ++ F) [2, 3, 4] 6 (.done (.next)) (n + 2) k ([(L, frm [en X "pairs" kt1 (.ref P), en X "first" kt2 (iv f ft), en X "symbols" kt3 (.ref Y), en X "spot" kt4 (iv sp st), en X "k" kt5 (iv b1 b2), en X "j" kt6 (iv c1 c2)] 6), (Y, lst (ivs ys) eY), (P, lst (rfs ps) eP)] ++ F) [CutG X 0 false (bi "list_iterator.__next__" [(.ref it)]) (.error (.ref (n + 1))) [(it, lit P i), (P, lst (rfs ps) eP)] n k k [(it, fld "list_iterator" [.none, (iv i 0)])] [tup [], fld "StopIteration" [(.ref n), .none, .none, .none, (.bool false), .none]]] := .mk 5 [.o 4, .g false (.error (.ref (n + 1))) k [3, 2] [(3, fld "list_iterator" [.none, (iv i 0)])] [tup [], fld "StopIteration" [(.ref n), .none, .none, .none, (.bool false), .none]], .o 1] (by kernel_rfl!)
theorem sym6_e (X : Cx) (n k n' k' P eY eP f ft sp st kt1 kt2 kt3 kt4 Y : Nat) (ys : NN) (ps : List Nat) (G : LG) (kt5 kt6 b1 b2 c1 c2 : Nat) (F : LG) : REN X 70 (sym1_o X n k P eP f ft ps G) (.ok .next) n' k' ([(n, frm [en X "pairs" kt1 (.ref P), en X "first" kt2 (iv f ft), en X "symbols" kt3 (.ref Y), en X "spot" kt4 (iv sp st), en X "k" kt5 (iv b1 b2), en X "j" kt6 (iv c1 c2)] 6), (Y, lst (ivs ys) eY), (P, lst (rfs ps) eP)] ++ F) [0, 4] 5 (.done (.ret (.ref (n' + 1)))) (n' + 2) (k' + 2) ([((n' + 1), lst (ivs ys ++ [Value.int (OfNat.ofNat 0) k', Value.int (OfNat.ofNat 261) (Nat.succ k'), Value.int (Int.ofNat f) ft]) 0), (P, lst (rfs ps) eP)] ++ F) [CutG X 70 false (bi "list.__add__" [(.ref Y), (.ref n')]) (.ok (.ret (.ref (n' + 1)))) [(Y, lst (ivs ys) eY), (n', lst [(iv 0 k'), (iv 261 (k' + 1)), (iv f ft)] 0)] (n' + 1) (k' + 2) (k' + 2) [] [lst (ivs ys ++ [Value.int (OfNat.ofNat 0) k', Value.int (OfNat.ofNat 261) (Nat.succ k'), Value.int (Int.ofNat f) ft]) 0]] := .mk 16 [.o 1, .o 1, .o 3, .o 1, .o 3, .g false (.ok (.ret (.ref (n' + 1)))) (k' + 2) [2, 0] [] [lst (ivs ys ++ [Value.int (OfNat.ofNat 0) k', Value.int (OfNat.ofNat 261) (Nat.succ k'), Value.int (Int.ofNat f) ft]) 0]] (by apply X.both <;> kernel_rfl!)
noncomputable def read1_o (X : Cx) (n k Y eY f ft : Nat) (ys : NN) (F : LG) : Out := goC X (kt X) 70 46 [.o 0, .o 0, .o 1, .o 1, .o 1, .o 1, .frame, .o 2, .o 2, .o 2, .o 2, .o 2, .o 3, .o 3, .e, .o 3, .o 1] (.call (.ref 184) ⟨[.ref Y, iv f ft], []⟩) n k ([(Y, lst (ivs ys) eY)] ++ F)
theorem read1_e (X : Cx) (n k Y eY f ft : Nat) (ys : NN) (F : LG) : RAC X 70 (.call (.ref 184) ⟨[.ref Y, iv f ft], []⟩) n k ([(Y, lst (ivs ys) eY)] ++ F) (read1_o X n k Y eY f ft ys F) [2, 3, 1, 0] 4 true (readLoop n (n+2)) (n + 3) (k + 5) ([(n, frm [en X "symbols" k (.ref Y), en X "first" (k + 1) (iv f ft), en X "pairs" (k + 2) (.ref (n + 1)), en X "spot" (k + 4) (iv 0 (k + 3))] 4), (Y, lst (ivs ys) eY), ((n + 1), lst [] 0), ((n + 2), lit Y 0)] ++ F) [] := by delta read1_o; exact .mC (by apply X.both <;> kernel_rfl!)
theorem read2_e (X : Cx) (n k L Y P it eY eP i f ft sp st kt1 kt2 kt3 kt4 : Nat) (ys : NN) (ps : List Nat) (F : LG) (y1 y2 y3 : Nat) : REC X 0 (readLoop L it) n k ([(L, frm [en X "symbols" kt1 (.ref Y), en X "first" kt2 (iv f ft), en X "pairs" kt3 (.ref P), en X "spot" kt4 (iv sp st)] 4), (Y, lst (ivs ys) eY), (P, lst (rfs ps) eP), (it, lit Y i)] ++ F) [3, 4, 5, 6] 7 (.again (readLoop L it)) (n + 3) (k + 7) ([(L, frm [en X "symbols" kt1 (.ref Y), en X "first" kt2 (iv f ft), en X "pairs" kt3 (.ref P), en X "spot" kt4 (iv y3 (k + 4)), en X "symbol" k (iv y1 y2)] 5), (Y, lst (ivs ys) eY), (P, lst (rfs ps) eP), (it, lit Y (i + 1))] ++ F) [CutB X (bi "int.__lt__" [(iv y1 y2), (iv 256 338)]) (.bool false) [] (k + 7) (k + 7), CutB X (bi "int.__sub__" [(iv 262 (k + 3)), (iv y1 y2)]) (iv y3 (k + 4)) [] (k + 4) (k + 5), CutB X (bi "int.__ge__" [(iv y1 y2), (iv 256 338)]) (.bool true) [] (k + 3) (k + 3), CutB X (bi "int.__eq__" [(iv y1 y2), (iv 0 336)]) (.bool false) [] (k + 2) (k + 2), CutG X 0 false (bi "list_iterator.__next__" [(.ref it)]) (.ok (.ret (iv y1 y2))) [(it, lit Y i), (Y, lst (ivs ys) eY)] n k k [(it, lit Y (i + 1))] []] := .mk 110 [.o 4, .g false (.ok (.ret (iv y1 y2))) k [3, 1] [(3, lit Y (i + 1))] [], .o 1, .o 1, .o 0, .o 1, .o 0, .e, .o 0, .o 0, .o 1, .o 1, .frame, .o 1, .o 0, .v (.bool false) (k + 2) [], .o 0, .o 2, .o 0, .e, .o 0, .o 0, .o 1, .o 1, .frame, .o 1, .o 0, .v (.bool true) (k + 3) [], .o 3, .v (iv y3 (k + 4)) (k + 5) [], .o 3, .o 3, .o 0, .o 3, .o 0, .e, .o 0, .o 0, .o 1, .o 1, .frame, .o 1, .o 0, .v (.bool false) (k + 7) []] (by apply X.both <;> kernel_rfl!)
theorem read3_e (X : Cx) (n k L Y P it eY eP i f ft sp st kt1 kt2 kt3 kt4 : Nat) (ys : NN) (ps : List Nat) (kt5 b1 b2 : Nat) (F : LG) (y1 y2 y3 : Nat) : REC X 0 (readLoop L it) n k ([(L, frm [en X "symbols" kt1 (.ref Y), en X "first" kt2 (iv f ft), en X "pairs" kt3 (.ref P), en X "spot" kt4 (iv sp st), en X "symbol" kt5 (iv b1 b2)] 5), (Y, lst (ivs ys) eY), (P, lst (rfs ps) eP), (it, lit Y i)] ++ F) [3, 4, 5, 6] 7 (.again (readLoop L it)) (n + 3) (k + 7) ([(L, frm [en X "symbols" kt1 (.ref Y), en X "first" kt2 (iv f ft), en X "pairs" kt3 (.ref P), en X "spot" kt4 (iv y3 (k + 4)), en X "symbol" kt5 (iv y1 y2)] 5), (Y, lst (ivs ys) eY), (P, lst (rfs ps) eP), (it, lit Y (i + 1))] ++ F) [CutB X (bi "int.__lt__" [(iv y1 y2), (iv 256 338)]) (.bool false) [] (k + 7) (k + 7), CutB X (bi "int.__sub__" [(iv 262 (k + 3)), (iv y1 y2)]) (iv y3 (k + 4)) [] (k + 4) (k + 5), CutB X (bi "int.__ge__" [(iv y1 y2), (iv 256 338)]) (.bool true) [] (k + 3) (k + 3), CutB X (bi "int.__eq__" [(iv y1 y2), (iv 0 336)]) (.bool false) [] (k + 2) (k + 2), CutG X 0 false (bi "list_iterator.__next__" [(.ref it)]) (.ok (.ret (iv y1 y2))) [(it, lit Y i), (Y, lst (ivs ys) eY)] n k k [(it, lit Y (i + 1))] []] := .mk 110 [.o 4, .g false (.ok (.ret (iv y1 y2))) k [3, 1] [(3, lit Y (i + 1))] [], .o 1, .o 1, .o 0, .o 1, .o 0, .e, .o 0, .o 0, .o 1, .o 1, .frame, .o 1, .o 0, .v (.bool false) (k + 2) [], .o 0, .o 2, .o 0, .e, .o 0, .o 0, .o 1, .o 1, .frame, .o 1, .o 0, .v (.bool true) (k + 3) [], .o 3, .v (iv y3 (k + 4)) (k + 5) [], .o 3, .o 3, .o 0, .o 3, .o 0, .e, .o 0, .o 0, .o 1, .o 1, .frame, .o 1, .o 0, .v (.bool false) (k + 7) []] (by apply X.both <;> kernel_rfl!)
theorem read4_e (X : Cx) (n k L Y P it eY eP i f ft sp st kt1 kt2 kt3 kt4 : Nat) (ys : NN) (ps : List Nat) (kt5 b1 b2 : Nat) (F : LG) (y1 y2 y3 : Nat) (r1 : List Nat) : REC X 0 (readLoop L it) n k ([(L, frm [en X "symbols" kt1 (.ref Y), en X "first" kt2 (iv f ft), en X "pairs" kt3 (.ref P), en X "spot" kt4 (iv sp st), en X "symbol" kt5 (iv b1 b2)] 5), (Y, lst (ivs ys) eY), (P, lst (rfs ps) eP), (it, lit Y i)] ++ F) [0, 4, 5, 6, 7] 8 (.again (readLoop L it)) (n + 4) (k + 5) ([((n + 3), tup [(iv sp st), (iv y3 (k + 4))]), (L, frm [en X "symbols" kt1 (.ref Y), en X "first" kt2 (iv f ft), en X "pairs" kt3 (.ref P), en X "spot" kt4 (iv sp st), en X "symbol" kt5 (iv y1 y2)] 5), (Y, lst (ivs ys) eY), (P, lst (rfs r1) (eP + 1)), (it, lit Y (i + 1))] ++ F) [CutG X 0 false (bi "list.append" [(.ref P), (.ref (n + 3))]) (.ok (.ret .none)) [(P, lst (rfs ps) eP)] (n + 4) (k + 5) (k + 5) [(P, lst (rfs r1) (eP + 1))] [], CutB X (bi "int.__sub__" [(iv y1 y2), (iv f ft)]) (iv y3 (k + 4)) [] (k + 4) (k + 5), CutB X (bi "int.__lt__" [(iv y1 y2), (iv 256 338)]) (.bool true) [] (k + 4) (k + 4), CutB X (bi "int.__ge__" [(iv y1 y2), (iv 256 338)]) (.bool false) [] (k + 3) (k + 3), CutB X (bi "int.__eq__" [(iv y1 y2), (iv 0 336)]) (.bool false) [] (k + 2) (k + 2), CutG X 0 false (bi "list_iterator.__next__" [(.ref it)]) (.ok (.ret (iv y1 y2))) [(it, lit Y i), (Y, lst (ivs ys) eY)] n k k [(it, lit Y (i + 1))] []] := .mk 119 [.o 4, .g false (.ok (.ret (iv y1 y2))) k [3, 1] [(3, lit Y (i + 1))] [], .o 1, .o 1, .o 0, .o 1, .o 0, .e, .o 0, .o 0, .o 1, .o 1, .frame, .o 1, .o 0, .v (.bool false) (k + 2) [], .o 0, .o 2, .o 0, .e, .o 0, .o 0, .o 1, .o 1, .frame, .o 1, .o 0, .v (.bool false) (k + 3) [], .o 0, .o 3, .o 0, .e, .o 0, .o 0, .o 1, .o 1, .frame, .o 1, .o 0, .v (.bool true) (k + 4) [], .o 4, .o 6, .o 6, .o 6, .o 6, .o 4, .o 4, .o 4, .v (iv y3 (k + 4)) (k + 5) [], .g false (.ok (.ret .none)) (k + 5) [6] [(6, lst (rfs r1) (eP + 1))] []] (by apply X.both <;> kernel_rfl!)
theorem read5_e (X : Cx) (n k L Y P it eY eP i f ft sp st kt1 kt2 kt3 kt4 : Nat) (ys : NN) (ps : List Nat) (kt5 b1 b2 : Nat) (F : LG) (y1 y2 : Nat) : REC X 0 (readLoop L it) n k ([(L, frm [en X "symbols" kt1 (.ref Y), en X "first" kt2 (iv f ft), en X "pairs" kt3 (.ref P), en X "spot" kt4 (iv sp st), en X "symbol" kt5 (iv b1 b2)] 5), (Y, lst (ivs ys) eY), (P, lst (rfs ps) eP), (it, lit Y i)] ++ F) [3, 2] 5 (.done (.ret (.ref P))) (n + 1) (k + 2) ([(P, lst (rfs ps) eP), (Y, lst (ivs ys) eY)] ++ F) [CutB X (bi "int.__eq__" [(iv y1 y2), (iv 0 336)]) (.bool true) [] (k + 2) (k + 2), CutG X 0 false (bi "list_iterator.__next__" [(.ref it)]) (.ok (.ret (iv y1 y2))) [(it, lit Y i), (Y, lst (ivs ys) eY)] n k k [(it, lit Y (i + 1))] []] := .mk 42 [.o 4, .g false (.ok (.ret (iv y1 y2))) k [3, 1] [(3, lit Y (i + 1))] [], .o 1, .o 1, .o 0, .o 1, .o 0, .e, .o 0, .o 0, .o 1, .o 1, .frame, .o 1, .o 0, .v (.bool true) (k + 2) [], .o 2] (by apply X.both <;> kernel_rfl!)
theorem read6_e (X : Cx) (n k n' k' Y eY eP f ft P : Nat) (ys : NN) (ps : List Nat) (G : LG) (F : LG) : REN X 70 (read1_o X n k Y eY f ft ys G) (.ok (.ret (.ref P))) n' k' ([(P, lst (rfs ps) eP), (Y, lst (ivs ys) eY)] ++ F) [0, 1] 2 (.done (.ret (.ref P))) n' k' ([(P, lst (rfs ps) eP), (Y, lst (ivs ys) eY)] ++ F) [] := .mk 0 [] (by apply X.both <;> kernel_rfl!)
section
noncomputable def symF (f : Nat) : Nat → NN → List Nat
  | _, [] => []
  | sp, p :: r => (if p.1 = sp then [f + p.2] else [262 - p.1, f + p.2]) ++ symF f p.1 r
noncomputable def readF (f : Nat) : Nat → List Nat → NN
  | _, [] => []
  | sp, s :: r => if s = 0 then [] else if 256 ≤ s then readF f (262 - s) r else (sp, s - f) :: readF f sp r
theorem read_sym (f : Nat) (hf : 1 ≤ f) (rest : List Nat) : ∀ (ps : NN) (sp : Nat), (∀ p ∈ ps, p.1 ≤ 6 ∧ f + p.2 < 256) → readF f sp (symF f sp ps ++ 0 :: rest) = ps
  | [], sp, _ => by simp [symF, readF]
  | p :: r, sp, h => by
    have hp := h p (.head _)
    have ih := read_sym f hf rest r p.1 fun q hq => h q (.tail _ hq)
    unfold symF
    by_cases e : p.1 = sp
    · rw [if_pos e, List.append_assoc]
      show readF f sp ((f + p.2) :: (symF f p.1 r ++ 0 :: rest)) = _
      unfold readF
      rw [if_neg (by omega), if_neg (by omega), ← e, ih]
      have : f + p.2 - f = p.2 := by omega
      rw [this]
    · rw [if_neg e, List.append_assoc]
      show readF f sp ((262 - p.1) :: (f + p.2) :: (symF f p.1 r ++ 0 :: rest)) = _
      unfold readF
      rw [if_neg (by omega), if_pos (by omega)]
      unfold readF
      have e2 : 262 - (262 - p.1) = p.1 := by omega
      rw [if_neg (by omega), if_neg (by omega), e2, ih]
      have : f + p.2 - f = p.2 := by omega
      rw [this]
noncomputable def Legible (f : Nat) : List Nat → Prop
  | [] => False
  | s :: r => s = 0 ∨ ((256 ≤ s ∧ s ≤ 262 ∨ f ≤ s ∧ s < 256 ∧ s ≠ 0) ∧ Legible f r)
theorem legible_sym (f : Nat) (hf : 1 ≤ f) (rest : List Nat) : ∀ (ps : NN) (sp : Nat), (∀ p ∈ ps, p.1 ≤ 6 ∧ f + p.2 < 256) → Legible f (symF f sp ps ++ 0 :: rest)
  | [], sp, _ => .inl rfl
  | p :: r, sp, h => by
    have hp := h p (.head _)
    have ih := legible_sym f hf rest r p.1 fun q hq => h q (.tail _ hq)
    unfold symF
    by_cases e : p.1 = sp
    · rw [if_pos e, List.append_assoc]
      exact .inr ⟨.inr (by omega), ih⟩
    · rw [if_neg e, List.append_assoc]
      exact .inr ⟨.inl (by omega), .inr ⟨.inr (by omega), ih⟩⟩
theorem quiet_sym (L it : Addr) : (symLoop L it).quiet = true := by unfold symLoop; rfl
theorem quiet_read (L it : Addr) : (readLoop L it).quiet = true := by unfold readLoop; rfl
theorem drop_consS {α : Type} {l : List α} {i : Nat} {a : α} (h : l[i]? = some a) : l.drop i = a :: l.drop (i + 1) := by
  have hi : i < l.length := by
    rcases Nat.lt_or_ge i l.length with y | y
    · exact y
    · rw [List.getElem?_eq_none y] at h; cases h
  rw [List.drop_eq_getElem_cons hi]
  rw [List.getElem?_eq_getElem hi] at h
  rw [Option.some.inj h]
section
variable {X : Cx}
noncomputable abbrev sfr (X : Cx) (L P Y kt1 kt2 kt3 kt4 kt5 kt6 f ft sp st b1 b2 c1 c2 : Nat) : Addr × Obj := (L, frm [en X "pairs" kt1 (.ref P), en X "first" kt2 (iv f ft), en X "symbols" kt3 (.ref Y), en X "spot" kt4 (iv sp st), en X "k" kt5 (iv b1 b2), en X "j" kt6 (iv c1 c2)] 6)
theorem sym_more (hk : KtOk X (kt X)) (qs : List PQ) (hb : ∀ q ∈ qs, q.x ≤ 6) (hl : qs.length ≤ 100) (L it Y P kt1 kt2 kt3 kt4 eP f ft : Nat) : ∀ (m i : Nat), m + i = qs.length → ∀ (n k kt5 kt6 b1 b2 c1 c2 sp st eY : Nat) (ys : NN), ys.length ≤ 2 * i →
    Does X 70 (symLoop L it) n k ([sfr X L P Y kt1 kt2 kt3 kt4 kt5 kt6 f ft sp st b1 b2 c1 c2, (Y, lst (ivs ys) eY), (P, lst (rfs (qs.map (·.a))) eP), (it, lit P i)] ++ qs.map PQ.o)
      (fun r n' k' T' => r = .ok .next ∧ ∃ kt5 kt6 b1 b2 c1 c2 sp' st eY ys', T' = ([sfr X L P Y kt1 kt2 kt3 kt4 kt5 kt6 f ft sp' st b1 b2 c1 c2, (Y, lst (ivs ys') eY), (P, lst (rfs (qs.map (·.a))) eP)] ++ qs.map PQ.o) ∧
        ys'.map (·.1) = ys.map (·.1) ++ symF f sp ((qs.drop i).map PQ.v) ∧ ys'.length ≤ 2 * qs.length) := by
  intro m
  induction m with
  | zero =>
    intro i hi n k kt5 kt6 b1 b2 c1 c2 sp st eY ys hy A s F hA H
    rw [List.append_assoc] at H
    refine startC (ran (sym5_e ..) hk hA (.cons (c_endR (by simp; omega)) .nil) H fun s' H' => ?_)
    refine ⟨_, _, _, ⟨rfl, kt5, kt6, b1, b2, c1, c2, sp, st, eY, ys, rfl, ?_, by omega⟩, H'.cast (List.append_assoc ..).symm⟩
    rw [List.drop_eq_nil_of_le (by omega)]; simp [symF]
  | succ m ih =>
    intro i hi n k kt5 kt6 b1 b2 c1 c2 sp st eY ys hy A s F hA H
    rw [List.append_assoc] at H
    obtain ⟨q, hq⟩ := get_some (l := qs) (i := i) (by omega)
    have hq' := hb q (List.mem_of_getElem? hq)
    have hn : (qs.map (·.a))[i]? = some q.a := by simp [hq]
    have ed : (qs.drop i).map PQ.v = (q.x, q.y) :: (qs.drop (i + 1)).map PQ.v := by rw [drop_consS hq]; rfl
    by_cases e : q.x = sp
    · refine startC (ranAgain (sym4_e ..) (quiet_sym ..) hk hA
        (.cons (c_appI (by omega)) (.cons c_addN (.cons (c_neF e) (.cons (c_nextR hn) .nil)))) (H.focus hq) fun s' H' => ?_)
      refine (ih (i + 1) (by omega) _ _ _ _ _ _ _ _ _ _ _ _ (by simp; omega)).use hA ((H'.unfocus hq rfl).cast (List.append_assoc ..).symm) ?_
      rintro r n' k' T' s'' ⟨rfl, kt5, kt6, b1, b2, c1, c2, sp', st, eY, ys', rfl, e1, e2⟩ H''
      refine ⟨_, _, _, ⟨rfl, kt5, kt6, b1, b2, c1, c2, sp', st, eY, ys', rfl, ?_, e2⟩, H''⟩
      rw [e1, ed]
      conv => rhs; unfold symF
      rw [if_pos e, ← e]
      simp
    · refine startC (ranAgain (sym3_e ..) (quiet_sym ..) hk hA
        (.cons (c_appI (by simp; omega)) (.cons c_addN (.cons (c_appI (by omega)) (.cons (c_subN (by omega)) (.cons (c_neT e) (.cons (c_nextR hn) .nil)))))) (H.focus hq) fun s' H' => ?_)
      refine (ih (i + 1) (by omega) _ _ _ _ _ _ _ _ _ _ _ _ (by simp; omega)).use hA ((H'.unfocus hq rfl).cast (List.append_assoc ..).symm) ?_
      rintro r n' k' T' s'' ⟨rfl, kt5, kt6, b1, b2, c1, c2, sp', st, eY, ys', rfl, e1, e2⟩ H''
      refine ⟨_, _, _, ⟨rfl, kt5, kt6, b1, b2, c1, c2, sp', st, eY, ys', rfl, ?_, e2⟩, H''⟩
      rw [e1, ed]
      conv => rhs; unfold symF
      rw [if_neg e]
      simp
theorem sym_does (hk : KtOk X (kt X)) (qs : List PQ) (hb : ∀ q ∈ qs, q.x ≤ 6) (hl : qs.length ≤ 100) (h0 : ∃ q, qs[0]? = some q ∧ q.x ≠ 0) (P eP f ft n k : Nat) :
    DoesK X 140 (.call (.ref 177) ⟨[.ref P, iv f ft], []⟩) n k ([(P, lst (rfs (qs.map (·.a))) eP)] ++ qs.map PQ.o)
      (fun K => ∀ n' k' (Y : Nat) (ys : NN), ys.map (·.1) = symF f 0 (qs.map PQ.v) ++ [0, 261, f] → K (.ok (.ret (.ref Y))) n' k' (([(Y, lst (ivs ys) 0), (P, lst (rfs (qs.map (·.a))) eP)] ++ qs.map PQ.o))) := by
  intro A s F R hA H qk
  rw [List.append_assoc] at H
  refine startC (paused (sym1_e ..) hk hA .nil H fun s' A' hA' H' => ?_)
  obtain ⟨q, hq, hq0⟩ := h0
  have hq' := hb q (List.mem_of_getElem? hq)
  have hn : (qs.map (·.a))[0]? = some q.a := by simp [hq]
  have hlen : 0 < qs.length := by rcases qs with _ | ⟨_, _⟩ <;> simp_all
  have H1 : Rep X (n + 3) (k + 5) ([(n, frm [en X "pairs" k (.ref P), en X "first" (k + 1) (iv f ft), en X "symbols" (k + 2) (.ref (n + 1)), en X "spot" (k + 4) (iv 0 (k + 3))] 4), (n + 1, lst (ivs []) 0), (P, lst (rfs (qs.map (·.a))) eP), (n + 2, lit P 0)] ++ (qs.map PQ.o ++ F)) s' := H'
  refine startC (ranAgain (sym2_e ..) (quiet_sym ..) hk hA'
    (.cons (c_appI (by simp)) (.cons c_addN (.cons (c_appI (by simp)) (.cons (c_subN (by omega)) (.cons (c_neT hq0) (.cons (c_nextR hn) .nil)))))) (H1.focus hq) fun s1 H2 => ?_)
  refine (sym_more hk qs hb hl _ _ _ _ _ _ _ _ _ _ _ (qs.length - 1) 1 (by omega) _ _ _ _ _ _ _ _ _ _ _ _ (by simp)).use hA' ((H2.unfocus hq rfl).cast (List.append_assoc ..).symm) ?_
  rintro r n' k' T' s'' ⟨rfl, kt5, kt6, b1, b2, c1, c2, sp', st, eY, ys', rfl, e1, e2⟩ H''
  rw [List.append_assoc] at H''
  refine ran (sym6_e ..) hk hA (.cons (c_cat (by rw [ivs_len]; simp; omega)) .nil) H'' fun s3 H3 => ?_
  refine qk _ _ (n' + 1) (ys' ++ [(0, k'), (261, k' + 1), (f, ft)]) (?_) _ (H3.cast ?_)
  · rw [List.map_append, e1]
    have ed : qs.map PQ.v = (q.x, q.y) :: (qs.drop 1).map PQ.v := by
      have := drop_consS hq
      rw [List.drop_zero] at this
      conv => lhs; rw [this]
      rfl
    rw [ed]
    conv => rhs; unfold symF
    rw [if_neg hq0]
    simp
  · rw [show ivs (ys' ++ [(0, k'), (261, k' + 1), (f, ft)]) = ivs ys' ++ [iv 0 k', iv 261 (k' + 1), iv f ft] by simp [ivs]]
    rfl
noncomputable abbrev rfr (X : Cx) (L P Y kt1 kt2 kt3 kt4 kt5 f ft sp st b1 b2 : Nat) : Addr × Obj := (L, frm [en X "symbols" kt1 (.ref Y), en X "first" kt2 (iv f ft), en X "pairs" kt3 (.ref P), en X "spot" kt4 (iv sp st), en X "symbol" kt5 (iv b1 b2)] 5)
theorem read_more (hk : KtOk X (kt X)) (ys : NN) (hl : ys.length ≤ 500) (L it Y P kt1 kt2 kt3 kt4 eY f ft : Nat) : ∀ (m i : Nat), m + i = ys.length → ∀ (n k kt5 b1 b2 sp st eP : Nat) (qs : List PQ), qs.length ≤ i → Legible f ((ys.drop i).map (·.1)) →
    Does X 70 (readLoop L it) n k ([rfr X L P Y kt1 kt2 kt3 kt4 kt5 f ft sp st b1 b2, (Y, lst (ivs ys) eY), (P, lst (rfs (qs.map (·.a))) eP), (it, lit Y i)] ++ qs.map PQ.o)
      (fun r n' k' T' => r = .ok (.ret (.ref P)) ∧ ∃ (eP : Nat) (qs' : List PQ), T' = ([(P, lst (rfs (qs'.map (·.a))) eP), (Y, lst (ivs ys) eY)] ++ qs'.map PQ.o) ∧
        qs'.map PQ.v = qs.map PQ.v ++ readF f sp ((ys.drop i).map (·.1))) := by
  intro m
  induction m with
  | zero =>
    intro i hi n k kt5 b1 b2 sp st eP qs hq hg
    rw [List.drop_eq_nil_of_le (by omega)] at hg
    exact hg.elim
  | succ m ih =>
    intro i hi n k kt5 b1 b2 sp st eP qs hq hg A s F hA H
    rw [List.append_assoc] at H
    obtain ⟨⟨y, t⟩, hy⟩ := get_some (l := ys) (i := i) (by omega)
    have ed : (ys.drop i).map (·.1) = y :: (ys.drop (i + 1)).map (·.1) := by rw [drop_consS hy]; rfl
    rw [ed] at hg ⊢
    by_cases h0 : y = 0
    · refine startC (ran (read5_e ..) hk hA (.cons (c_eqT h0) (.cons (c_nextI hy) .nil)) H fun s' H' => ?_)
      refine ⟨_, _, _, ⟨rfl, eP, qs, rfl, ?_⟩, H'.cast (List.append_assoc ..).symm⟩
      unfold readF
      rw [if_pos h0, List.append_nil]
    · have hg' : (256 ≤ y ∧ y ≤ 262 ∨ f ≤ y ∧ y < 256 ∧ y ≠ 0) ∧ Legible f ((ys.drop (i + 1)).map (·.1)) := hg.resolve_left h0
      by_cases h1 : 256 ≤ y
      · refine startC (ranAgain (read3_e ..) (quiet_read ..) hk hA
          (.cons (c_ltF h1) (.cons (c_subN (by omega)) (.cons (c_geT h1) (.cons (c_eqF h0) (.cons (c_nextI hy) .nil))))) H fun s' H' => ?_)
        refine (ih (i + 1) (by omega) _ _ _ _ _ _ _ _ qs (by omega) hg'.2).use hA (H'.cast (List.append_assoc ..).symm) ?_
        rintro r n' k' T' s'' ⟨rfl, eP, qs', rfl, e⟩ H''
        refine ⟨_, _, _, ⟨rfl, eP, qs', rfl, ?_⟩, H''⟩
        rw [e]
        conv => rhs; unfold readF
        rw [if_neg h0, if_pos h1]
      · refine startC (ranAgain (read4_e ..) (quiet_read ..) hk hA
          (.cons (c_appR (by simp; omega)) (.cons (c_subN (by omega)) (.cons (c_ltT (by omega)) (.cons (c_geF (by omega)) (.cons (c_eqF h0) (.cons (c_nextI hy) .nil)))))) H fun s' H' => ?_)
        have H2 := H'.enter (a := ⟨n + 3, sp, y - f, st, k + 4⟩) rfl
        rw [show qs.map (·.a) ++ [n + 3] = (qs ++ [(⟨n + 3, sp, y - f, st, k + 4⟩ : PQ)]).map (·.a) by simp] at H2
        refine (ih (i + 1) (by omega) _ _ _ _ _ _ _ _ (qs ++ [⟨n + 3, sp, y - f, st, k + 4⟩]) (by simp; omega) hg'.2).use hA (H2.cast (List.append_assoc ..).symm) ?_
        rintro r n' k' T' s'' ⟨rfl, eP, qs', rfl, e⟩ H''
        refine ⟨_, _, _, ⟨rfl, eP, qs', rfl, ?_⟩, H''⟩
        rw [e]
        conv => rhs; unfold readF
        rw [if_neg h0, if_neg h1]
        simp [PQ.v]
theorem read_does (hk : KtOk X (kt X)) (ys : NN) (hl : ys.length ≤ 500) (hg : Legible f (ys.map (·.1))) (h1 : ∃ y t, ys[0]? = some (y, t) ∧ 256 ≤ y) (Y eY ft n k : Nat) :
    DoesK X 140 (.call (.ref 184) ⟨[.ref Y, iv f ft], []⟩) n k [(Y, lst (ivs ys) eY)]
      (fun K => ∀ n' k' (P eP : Nat) (qs : List PQ), qs.map PQ.v = readF f 0 (ys.map (·.1)) → K (.ok (.ret (.ref P))) n' k' (([(P, lst (rfs (qs.map (·.a))) eP), (Y, lst (ivs ys) eY)] ++ qs.map PQ.o))) := by
  intro A s F R hA H qk
  refine startC (paused (read1_e ..) hk hA .nil H fun s' A' hA' H' => ?_)
  obtain ⟨y, t, hy, h1⟩ := h1
  have hlen : 0 < ys.length := by rcases ys with _ | ⟨_, _⟩ <;> simp_all
  have ed : ys.map (·.1) = y :: (ys.drop 1).map (·.1) := by
    have := drop_consS hy
    rw [List.drop_zero] at this
    conv => lhs; rw [this]
    rfl
  rw [ed] at hg
  have hg' : (256 ≤ y ∧ y ≤ 262 ∨ f ≤ y ∧ y < 256 ∧ y ≠ 0) ∧ Legible f ((ys.drop 1).map (·.1)) := hg.resolve_left (by omega)
  have H1 : Rep X (n + 3) (k + 5) ([(n, frm [en X "symbols" k (.ref Y), en X "first" (k + 1) (iv f ft), en X "pairs" (k + 2) (.ref (n + 1)), en X "spot" (k + 4) (iv 0 (k + 3))] 4), (Y, lst (ivs ys) eY), (n + 1, lst (rfs []) 0), (n + 2, lit Y 0)] ++ F) s' := H'
  refine startC (ranAgain (read2_e ..) (quiet_read ..) hk hA'
    (.cons (c_ltF h1) (.cons (c_subN (by omega)) (.cons (c_geT h1) (.cons (c_eqF (by omega)) (.cons (c_nextI hy) .nil))))) H1 fun s1 H2 => ?_)
  refine (read_more hk ys hl _ _ _ _ _ _ _ _ _ _ _ (ys.length - 1) 1 (by omega) _ _ _ _ _ _ _ _ [] (by simp) hg'.2).use hA' H2 ?_
  rintro r n' k' T' s'' ⟨rfl, eP, qs', rfl, e⟩ H''
  rw [List.append_assoc] at H''
  refine ran (read6_e ..) hk hA .nil H'' fun s3 H3 => ?_
  refine qk _ _ _ eP qs' (?_) _ (H3.cast (List.append_assoc ..).symm)
  rw [e, ed]
  conv => rhs; unfold readF
  rw [if_neg (by omega), if_pos h1]
  simp
end
end
noncomputable def near1_o (X : Cx) (n k P eP : Nat) (ps : List Nat) (F : LG) : Out := goC X (kt X) 70 40 [.o 0, .o 0, .o 1, .o 1, .frame, .o 2, .o 2, .o 2, .o 3, .o 3, .e, .o 3, .o 1] (.call (.ref 191) ⟨[.ref P], []⟩) n k ([(P, lst (rfs ps) eP)] ++ F)
theorem near1_e (X : Cx) (n k P eP : Nat) (ps : List Nat) (F : LG) : RAC X 70 (.call (.ref 191) ⟨[.ref P], []⟩) n k ([(P, lst (rfs ps) eP)] ++ F) (near1_o X n k P eP ps F) [2, 1, 3, 0] 4 true (nearLoop n (n+2)) (n + 3) (k + 9) ([(n, frm [en X "pairs" k (.ref P), en X "near" (k + 8) (.ref (n + 1))] 2), ((n + 1), lst [(iv 1 (k + 1)), (iv 2 (k + 2)), (iv 4 (k + 3)), (iv 8 (k + 4)), (iv 16 (k + 5)), (iv 32 (k + 6)), (iv 64 (k + 7))] 0), (P, lst (rfs ps) eP), ((n + 2), lit P 0)] ++ F) [] := by delta near1_o; exact .mC (by apply X.both <;> kernel_rfl!)
theorem near2_e (X : Cx) (n k P L it N i q kt1 kt2 e1 eP ix jx tx ty : Nat) (ps : List Nat) (xs : NN) (F : LG) (y1 y2 y3 y4 y5 y6 y7 y8 : Nat) (z1 z2 : NN) : REC X 0 (nearLoop L it) n k ([(q, tup [iv ix tx, iv jx ty]), (L, frm [en X "pairs" kt1 (.ref P), en X "near" kt2 (.ref N)] 2), (N, lst (ivs xs) e1), (P, lst (rfs ps) eP), (it, lit P i)] ++ F) [3, 4, 5, 6, 7] 8 (.again (nearLoop L it)) (n + 3) (k + 8) ([(q, tup [(iv ix tx), (iv jx ty)]), (L, frm [en X "pairs" kt1 (.ref P), en X "near" kt2 (.ref N), en X "k" k (iv ix tx), en X "j" (k + 1) (iv jx ty)] 4), (N, lst (ivs z2) e1), (P, lst (rfs ps) eP), (it, lit P (i + 1))] ++ F) [CutG X 0 false (bi "list.__setitem__" [(.ref N), (iv jx ty), (iv y8 (k + 7))]) (.ok (.ret .none)) [(N, lst (ivs z1) e1)] (n + 3) (k + 8) (k + 8) [(N, lst (ivs z2) e1)] [], CutB X (bi "int.__or__" [(iv y5 y6), (iv y7 (k + 6))]) (iv y8 (k + 7)) [] (k + 7) (k + 8), CutB X (bi "int.__lshift__" [(iv 1 (k + 5)), (iv ix tx)]) (iv y7 (k + 6)) [] (k + 6) (k + 7), CutB X (bi "list.__getitem__" [(.ref N), (iv jx ty)]) (iv y5 y6) [(N, lst (ivs z1) e1)] (k + 5) (k + 5), CutG X 0 false (bi "list.__setitem__" [(.ref N), (iv ix tx), (iv y4 (k + 4))]) (.ok (.ret .none)) [(N, lst (ivs xs) e1)] (n + 3) (k + 5) (k + 5) [(N, lst (ivs z1) e1)] [], CutB X (bi "int.__or__" [(iv y1 y2), (iv y3 (k + 3))]) (iv y4 (k + 4)) [] (k + 4) (k + 5), CutB X (bi "int.__lshift__" [(iv 1 (k + 2)), (iv jx ty)]) (iv y3 (k + 3)) [] (k + 3) (k + 4), CutB X (bi "list.__getitem__" [(.ref N), (iv ix tx)]) (iv y1 y2) [(N, lst (ivs xs) e1)] (k + 2) (k + 2), CutG X 0 false (bi "list_iterator.__next__" [(.ref it)]) (.ok (.ret (.ref q))) [(it, lit P i), (P, lst (rfs ps) eP)] n k k [(it, lit P (i + 1))] []] := .mk 104 [.o 5, .g false (.ok (.ret (.ref q))) k [4, 3] [(4, lit P (i + 1))] [], .o 5, .o 1, .o 1, .o 1, .e, .o 1, .o 1, .o 1, .e, .o 1, .o 1, .o 1, .o 2, .o 1, .o 1, .o 1, .e, .o 1, .o 1, .o 1, .o 2, .o 1, .o 1, .o 1, .e, .o 1, .o 1, .o 1, .o 2, .o 1, .o 1, .o 1, .o 5, .o 5, .o 5, .o 5, .o 5, .o 5, .o 6, .o 6, .v (iv y1 y2) (k + 2) [5], .o 5, .v (iv y3 (k + 3)) (k + 4) [], .v (iv y4 (k + 4)) (k + 5) [], .o 6, .o 6, .g false (.ok (.ret .none)) (k + 5) [5] [(5, lst (ivs z1) e1)] [], .o 5, .o 5, .o 6, .o 6, .v (iv y5 y6) (k + 5) [5], .o 5, .v (iv y7 (k + 6)) (k + 7) [], .v (iv y8 (k + 7)) (k + 8) [], .o 6, .o 6, .g false (.ok (.ret .none)) (k + 8) [5] [(5, lst (ivs z2) e1)] []] (by apply X.both <;> kernel_rfl!)
theorem near3_e (X : Cx) (n k P L it N i q kt1 kt2 e1 eP ix jx tx ty : Nat) (ps : List Nat) (xs : NN) (kt3 kt4 a1 a2 b1 b2 : Nat) (F : LG) (y1 y2 y3 y4 y5 y6 y7 y8 : Nat) (z1 z2 : NN) : REC X 0 (nearLoop L it) n k ([(q, tup [iv ix tx, iv jx ty]), (L, frm [en X "pairs" kt1 (.ref P), en X "near" kt2 (.ref N), en X "k" kt3 (iv a1 a2), en X "j" kt4 (iv b1 b2)] 4), (N, lst (ivs xs) e1), (P, lst (rfs ps) eP), (it, lit P i)] ++ F) [3, 4, 5, 6, 7] 8 (.again (nearLoop L it)) (n + 3) (k + 8) ([(q, tup [(iv ix tx), (iv jx ty)]), (L, frm [en X "pairs" kt1 (.ref P), en X "near" kt2 (.ref N), en X "k" kt3 (iv ix tx), en X "j" kt4 (iv jx ty)] 4), (N, lst (ivs z2) e1), (P, lst (rfs ps) eP), (it, lit P (i + 1))] ++ F) [CutG X 0 false (bi "list.__setitem__" [(.ref N), (iv jx ty), (iv y8 (k + 7))]) (.ok (.ret .none)) [(N, lst (ivs z1) e1)] (n + 3) (k + 8) (k + 8) [(N, lst (ivs z2) e1)] [], CutB X (bi "int.__or__" [(iv y5 y6), (iv y7 (k + 6))]) (iv y8 (k + 7)) [] (k + 7) (k + 8), CutB X (bi "int.__lshift__" [(iv 1 (k + 5)), (iv ix tx)]) (iv y7 (k + 6)) [] (k + 6) (k + 7), CutB X (bi "list.__getitem__" [(.ref N), (iv jx ty)]) (iv y5 y6) [(N, lst (ivs z1) e1)] (k + 5) (k + 5), CutG X 0 false (bi "list.__setitem__" [(.ref N), (iv ix tx), (iv y4 (k + 4))]) (.ok (.ret .none)) [(N, lst (ivs xs) e1)] (n + 3) (k + 5) (k + 5) [(N, lst (ivs z1) e1)] [], CutB X (bi "int.__or__" [(iv y1 y2), (iv y3 (k + 3))]) (iv y4 (k + 4)) [] (k + 4) (k + 5), CutB X (bi "int.__lshift__" [(iv 1 (k + 2)), (iv jx ty)]) (iv y3 (k + 3)) [] (k + 3) (k + 4), CutB X (bi "list.__getitem__" [(.ref N), (iv ix tx)]) (iv y1 y2) [(N, lst (ivs xs) e1)] (k + 2) (k + 2), CutG X 0 false (bi "list_iterator.__next__" [(.ref it)]) (.ok (.ret (.ref q))) [(it, lit P i), (P, lst (rfs ps) eP)] n k k [(it, lit P (i + 1))] []] := .mk 104 [.o 5, .g false (.ok (.ret (.ref q))) k [4, 3] [(4, lit P (i + 1))] [], .o 5, .o 1, .o 1, .o 1, .e, .o 1, .o 1, .o 1, .e, .o 1, .o 1, .o 1, .o 2, .o 1, .o 1, .o 1, .e, .o 1, .o 1, .o 1, .o 2, .o 1, .o 1, .o 1, .e, .o 1, .o 1, .o 1, .o 2, .o 1, .o 1, .o 1, .o 5, .o 5, .o 5, .o 5, .o 5, .o 5, .o 6, .o 6, .v (iv y1 y2) (k + 2) [5], .o 5, .v (iv y3 (k + 3)) (k + 4) [], .v (iv y4 (k + 4)) (k + 5) [], .o 6, .o 6, .g false (.ok (.ret .none)) (k + 5) [5] [(5, lst (ivs z1) e1)] [], .o 5, .o 5, .o 6, .o 6, .v (iv y5 y6) (k + 5) [5], .o 5, .v (iv y7 (k + 6)) (k + 7) [], .v (iv y8 (k + 7)) (k + 8) [], .o 6, .o 6, .g false (.ok (.ret .none)) (k + 8) [5] [(5, lst (ivs z2) e1)] []] (by apply X.both <;> kernel_rfl!)
theorem near4_e (X : Cx) (n k P L it N i kt1 kt2 e1 eP : Nat) (ps : List Nat) (xs : NN) (kt3 kt4 a1 a2 b1 b2 : Nat) (F : LG) : REC X 0 (nearLoop L it) n k ([(L, frm [en X "pairs" kt1 (.ref P), en X "near" kt2 (.ref N), en X "k" kt3 (iv a1 a2), en X "j" kt4 (iv b1 b2)] 4), (N, lst (ivs xs) e1), (P, lst (rfs ps) eP), (it, lit P i)] ++ F) [2, 3, 4, 5] 6 (.done (.next)) (n + 2) k ([(L, frm [en X "pairs" kt1 (.ref P), en X "near" kt2 (.ref N), en X "k" kt3 (iv a1 a2), en X "j" kt4 (iv b1 b2)] 4), (N, lst (ivs xs) e1), (P, lst (rfs ps) eP), (it, fld "list_iterator" [.none, (iv i 0)])] ++ F) [CutG X 0 false (bi "list_iterator.__next__" [(.ref it)]) (.error (.ref (n + 1))) [(it, lit P i), (P, lst (rfs ps) eP)] n k k [(it, fld "list_iterator" [.none, (iv i 0)])] [tup [], fld "StopIteration" [(.ref n), .none, .none, .none, (.bool false), .none]]] := .mk 5 [.o 4, .g false (.error (.ref (n + 1))) k [3, 2] [(3, fld "list_iterator" [.none, (iv i 0)])] [tup [], fld "StopIteration" [(.ref n), .none, .none, .none, (.bool false), .none]], .o 1] (by kernel_rfl!)
theorem near5_e (X : Cx) (n k P n' k' kt1 kt2 e1 eP : Nat) (ps : List Nat) (xs : NN) (kt3 kt4 a1 a2 b1 b2 N : Nat) (G : LG) (F : LG) : REN X 70 (near1_o X n k P eP ps G) (.ok .next) n' k' ([(n, frm [en X "pairs" kt1 (.ref P), en X "near" kt2 (.ref N), en X "k" kt3 (iv a1 a2), en X "j" kt4 (iv b1 b2)] 4), (N, lst (ivs xs) e1), (P, lst (rfs ps) eP)] ++ F) [1, 2] 3 (.done (.ret (.ref N))) n' k' ([(N, lst (ivs xs) e1), (P, lst (rfs ps) eP)] ++ F) [] := .mk 3 [.o 1] (by apply X.both <;> kernel_rfl!)
section
noncomputable def tie (xs : List Nat) (p : Nat × Nat) : List Nat :=
  let ys := xs.set p.1 (xs.getD p.1 0 ||| 1 <<< p.2)
  ys.set p.2 (ys.getD p.2 0 ||| 1 <<< p.1)
theorem tie_len (xs : List Nat) (p : Nat × Nat) : (tie xs p).length = xs.length := by simp [tie]
theorem quiet_near (L it : Addr) : (nearLoop L it).quiet = true := by unfold nearLoop; rfl
theorem tie_map {xs : NN} {p : Nat × Nat} {x y t u v w : Nat} (h1 : xs[p.1]? = some (x, t)) (h2 : (xs.set p.1 (x ||| 1 <<< p.2, u))[p.2]? = some (y, v)) :
    ((xs.set p.1 (x ||| 1 <<< p.2, u)).set p.2 (y ||| 1 <<< p.1, w)).map (·.1) = tie (xs.map (·.1)) p := by
  unfold tie
  have e1 : (xs.map (·.1)).getD p.1 0 = x := getD_of (by simp [h1])
  rw [e1]
  have e2 : ((xs.map (·.1)).set p.1 (x ||| 1 <<< p.2)).getD p.2 0 = y := getD_of (by
    rw [show (xs.map (·.1)).set p.1 (x ||| 1 <<< p.2) = (xs.set p.1 (x ||| 1 <<< p.2, u)).map (·.1) by simp [List.map_set], List.getElem?_map, h2]; rfl)
  simp only [e2]
  simp [List.map_set]
section
variable {X : Cx}
theorem near_more (hk : KtOk X (kt X)) (qs : List PQ) (hb : ∀ q ∈ qs, q.x < 7 ∧ q.y < 7) (L it N P kt1 kt2 e1 eP : Nat) : ∀ (m i : Nat), m + i = qs.length → ∀ (n k kt3 kt4 a1 a2 b1 b2 : Nat) (xs : NN), xs.length = 7 →
    Does X 70 (nearLoop L it) n k ([(L, frm [en X "pairs" kt1 (.ref P), en X "near" kt2 (.ref N), en X "k" kt3 (iv a1 a2), en X "j" kt4 (iv b1 b2)] 4), (N, lst (ivs xs) e1), (P, lst (rfs (qs.map (·.a))) eP), (it, lit P i)] ++ qs.map PQ.o)
      (fun r n' k' T' => r = .ok .next ∧ ∃ kt3 kt4 a1 a2 b1 b2 xs', T' = ([(L, frm [en X "pairs" kt1 (.ref P), en X "near" kt2 (.ref N), en X "k" kt3 (iv a1 a2), en X "j" kt4 (iv b1 b2)] 4), (N, lst (ivs xs') e1), (P, lst (rfs (qs.map (·.a))) eP)] ++ qs.map PQ.o) ∧
        xs'.map (·.1) = ((qs.drop i).map PQ.v).foldl tie (xs.map (·.1))) := by
  intro m
  induction m with
  | zero =>
    intro i hi n k kt3 kt4 a1 a2 b1 b2 xs hx A s F hA H
    rw [List.append_assoc] at H
    refine startC (ran (near4_e ..) hk hA (.cons (c_endR (by simp; omega)) .nil) H fun s' H' => ?_)
    refine ⟨_, _, _, ⟨rfl, kt3, kt4, a1, a2, b1, b2, xs, rfl, ?_⟩, (H'.ord (js := [0, 1, 2]) (m := 4) rfl).cast (by simp [ordO, pickO, nth, restO])⟩
    rw [List.drop_eq_nil_of_le (by omega)]; rfl
  | succ m ih =>
    intro i hi n k kt3 kt4 a1 a2 b1 b2 xs hx A s F hA H
    rw [List.append_assoc] at H
    obtain ⟨q, hq⟩ := get_some (l := qs) (i := i) (by omega)
    have hq' := hb q (List.mem_of_getElem? hq)
    have hn : (qs.map (·.a))[i]? = some q.a := by simp [hq]
    obtain ⟨⟨v1, t1⟩, g1⟩ := get_some (l := xs) (i := q.x) (by omega)
    obtain ⟨⟨v2, t2⟩, g2⟩ := get_some (l := xs.set q.x (v1 ||| 1 <<< q.y, k + 4)) (i := q.y) (by simp; omega)
    refine startC (ranAgain (near3_e ..) (quiet_near ..) hk hA
      (.cons (c_setI (by simp; omega) (by omega)) (.cons c_orN (.cons (c_shl hq'.1) (.cons (c_getI g2 (by omega)) (.cons (c_setI (by omega) (by omega)) (.cons c_orN (.cons (c_shl hq'.2) (.cons (c_getI g1 (by omega)) (.cons (c_nextR hn) .nil)))))))))
      (H.focus hq) fun s' H' => ?_)
    refine (ih (i + 1) (by omega) _ _ _ _ _ _ _ _ _ (by simp; omega)).use hA ((H'.unfocus hq rfl).cast (List.append_assoc ..).symm) ?_
    rintro r n' k' T' s'' ⟨rfl, kt3, kt4, a1, a2, b1, b2, xs', rfl, hxs⟩ H''
    refine ⟨_, _, _, ⟨rfl, kt3, kt4, a1, a2, b1, b2, xs', rfl, ?_⟩, H''⟩
    rw [hxs, tie_map (p := (q.x, q.y)) g1 g2, List.drop_eq_getElem_cons (i := i) (by omega)]
    rw [List.getElem?_eq_getElem (by omega)] at hq
    rw [Option.some.inj hq]
    rfl
theorem near_does (hk : KtOk X (kt X)) (qs : List PQ) (hb : ∀ q ∈ qs, q.x < 7 ∧ q.y < 7) (hne : qs ≠ []) (P n k eP : Nat) :
    DoesK X 140 (.call (.ref 191) ⟨[.ref P], []⟩) n k ([(P, lst (rfs (qs.map (·.a))) eP)] ++ qs.map PQ.o)
      (fun K => ∀ n' k' N xs e, xs.map (·.1) = (qs.map PQ.v).foldl tie [1, 2, 4, 8, 16, 32, 64] → K (.ok (.ret (.ref N))) n' k' (([(N, lst (ivs xs) e), (P, lst (rfs (qs.map (·.a))) eP)] ++ qs.map PQ.o))) := by
  intro A s F R hA H qk
  rw [List.append_assoc] at H
  refine startC (paused (near1_e ..) hk hA .nil H fun s' A' hA' H' => ?_)
  obtain ⟨q, hq⟩ := get_some (l := qs) (i := 0) (by cases qs <;> simp_all)
  have hq' := hb q (List.mem_of_getElem? hq)
  have hn : (qs.map (·.a))[0]? = some q.a := by simp [hq]
  obtain ⟨xs, hxs⟩ : ∃ xs, xs = [(1, k + 1), (2, k + 2), (4, k + 3), (8, k + 4), (16, k + 5), (32, k + 6), (64, k + 7)] := ⟨_, rfl⟩
  have hx : xs.length = 7 := by rw [hxs]; rfl
  have hm : xs.map (·.1) = [1, 2, 4, 8, 16, 32, 64] := by rw [hxs]; rfl
  have H1 : Rep X (n + 3) (k + 9) ([(n, frm [en X "pairs" k (.ref P), en X "near" (k + 8) (.ref (n + 1))] 2), (n + 1, lst (ivs xs) 0), (P, lst (rfs (qs.map (·.a))) eP), (n + 2, lit P 0)] ++ (qs.map PQ.o ++ F)) s' := by
    subst hxs; exact H'
  generalize k + 9 = k9 at H1
  generalize n + 3 = n3 at H1
  obtain ⟨⟨v1, t1⟩, g1⟩ := get_some (l := xs) (i := q.x) (by omega)
  obtain ⟨⟨v2, t2⟩, g2⟩ := get_some (l := xs.set q.x (v1 ||| 1 <<< q.y, k9 + 4)) (i := q.y) (by simp; omega)
  refine startC (ranAgain (near2_e ..) (quiet_near ..) hk hA'
      (.cons (c_setI (by simp; omega) (by omega)) (.cons c_orN (.cons (c_shl hq'.1) (.cons (c_getI g2 (by omega)) (.cons (c_setI (by omega) (by omega)) (.cons c_orN (.cons (c_shl hq'.2) (.cons (c_getI g1 (by omega)) (.cons (c_nextR hn) .nil)))))))))
      (H1.focus hq) fun s1 H2 => ?_)
  have hl : 0 < qs.length := by cases qs <;> simp_all
  refine (near_more hk qs hb _ _ _ _ _ _ _ _ (qs.length - 1) 1 (by omega) _ _ _ _ _ _ _ _ _ (by simp; omega)).use hA' ((H2.unfocus hq rfl).cast (List.append_assoc ..).symm) ?_
  rintro r n' k' T' s'' ⟨rfl, kt3, kt4, a1, a2, b1, b2, xs', rfl, hxs'⟩ H''
  rw [List.append_assoc] at H''
  refine ran (near5_e ..) hk hA .nil H'' fun s3 H3 => ?_
  refine qk _ _ _ _ _ (?_) _ (H3.cast (List.append_assoc ..).symm)
  rw [hxs', tie_map (p := (q.x, q.y)) g1 g2, hm]
  cases qs with
  | nil => cases hl
  | cons q' r =>
    simp at hq
    subst hq
    rfl
end
end
section
open PySem.Calls PyProof.Rows PySem.Spec PySem.SeqAt
noncomputable def pqd (p : Nat × Nat) : PyData := .tuple [.int (.ofNat p.1), .int (.ofNat p.2)]
theorem reads_pqs {h : Heap} : ∀ {qs : List PQ}, (∀ q ∈ qs, h.get? q.a = some q.o.2) → ReadsAll h (rfs (qs.map (·.a))) ((qs.map PQ.v).map pqd) []
  | [], _ => .nil
  | q :: r, hq => by
    have h1 : Reads h (.ref q.a) (pqd q.v) [] := by
      have z := ReadsAll.cons (Reads.int (h := h) (.ofNat q.x) q.tx) (ReadsAll.cons (Reads.int (h := h) (.ofNat q.y) q.ty) ReadsAll.nil)
      exact Reads.tuple (n := 0) (hq q (.head _)) rfl rfl z
    have := ReadsAll.cons h1 (reads_pqs fun x hx => hq x (.tail _ hx))
    simpa [rfs] using this
theorem layAll_pqs : ∀ l : NN, PyData.canLayAll0 (l.map pqd) = true
  | [] => by simp [PyData.canLayAll0]
  | p :: r => by simp [PyData.canLayAll0, PyData.canLay0, pqd, layAll_pqs r]
theorem depthAll_pqs : ∀ l : NN, PyData.depthAll (l.map pqd) ≤ 2
  | [] => by simp [PyData.depthAll]
  | p :: r => by
    have := depthAll_pqs r
    simp only [List.map_cons, PyData.depthAll, PyData.depth, pqd]
    omega
theorem shaped_pqs (l : NN) : shaped (.list (l.map pqd)) = true := by
  have h1 := depthAll_pqs l
  show (PyData.canLay0 (.list (l.map pqd)) && decide (PyData.depth (.list (l.map pqd)) ≤ 64)) = true
  rw [Bool.and_eq_true]
  exact ⟨by simp only [PyData.canLay0]; exact layAll_pqs l, decide_eq_true (by simp only [PyData.depth]; omega)⟩
theorem noMix_pqs : ∀ l : NN, noMixAll (l.map pqd) (l.map pqd) = true
  | [] => by simp [noMixAll]
  | p :: r => by simp [noMixAll, noMix, pqd, noMix_pqs r]
theorem ne_pairs {X : Cx} {A : Around} {E : Value → Shared → Prop} {Q : Bool → Shared → Prop} {s : Shared} {l m e e' : Nat} {qs ps : List PQ} (hl : s.heap.get? l = some (lst (rfs (qs.map (·.a))) e)) (hm : s.heap.get? m = some (lst (rfs (ps.map (·.a))) e'))
    (hq : ∀ q ∈ qs, s.heap.get? q.a = some q.o.2) (hp : ∀ q ∈ ps, s.heap.get? q.a = some q.o.2) (hqp : qs.map PQ.v = ps.map PQ.v) (hu : A.units + 64 < cLine)
    (h : Q false s) : wpAny (model pw X.w) A (compareOp .NotEq (.ref l) (.ref m)) (fun c s₃ => wpAny (model pw X.w) A (truthy c) Q E s₃) E s := by
  have r1 := Reads.list (n := e) hl rfl rfl (reads_pqs hq)
  have r2 := Reads.list (n := e') hm rfl rfl (reads_pqs hp)
  rw [hqp] at r1
  refine ne_dataH_same r1 r2 (shaped_pqs _) (shaped_pqs _) hu (by simp only [noMix]; exact noMix_pqs _) (wpAny_truthy_bool ?_)
  rw [PySem.Spec.same_self]; exact h
end
section
section
variable {prog : Program} {w : World} {A : Around} {E : Value → Shared → Prop} {s : Shared} {env : Env}
theorem wp_noComps {M : Model} {Γ : Ctx} {body : List Stmt} {Q : List Env → Pos → Shared → Prop} {E : Value → Pos → Shared → Prop} {p : Pos} (hc : Γ.code = .func body env) (h : Q [] p s) : Sem.wp M Γ comprehensionsAround Q E p s := by
  unfold comprehensionsAround callersCodes
  rw [Sem.wp_bind', Sem.wp_bind']
  have key : ∀ K : List (Code × Pos) → Pos → Shared → Prop, K ((Γ.code, p) :: Γ.below) p s → Sem.wp M Γ stack K E p s := fun K h => h
  refine key _ ?_
  rw [hc]
  dsimp only
  split
  · rename_i hn
    exact absurd (show (some env.frame != some env.frame) = true from hn) (by simp)
  · have e : pastTheWaiting ((Code.func body env, p) :: Γ.below) = (.func body env, p) :: pastTheWaiting.go false (some (.func body env)) Γ.below := rfl
    show Q _ p s
    rw [e]
    exact h
theorem at_super {body : List Stmt} {p0 p1 apos pos : Pos} {name : Str} {f cc : Addr} {of oc : Obj} {fd : FuncData} {ar : Arg} {vs : Array Value} {file : Str} {tf : Tok} {pl : Sem Bool} {Q : Value → Shared → Prop}
    (hks : env.kindOf "super" = some .globalImplicit) (hkc : env.kindOf "__class__" = some .free) (hat : (name == ("__class__" : Str)) = false) (hfu : env.func = some f) (hf : s.heap.get? f = some of) (hfd : of.data = .func fd)
    (hp : (fd.params.posonlyargs ++ fd.params.args).head? = some ar) (hco : env.code = .ref cc) (hcc : s.heap.get? cc = some oc) (hoc : oc.data = .fields vs) (hvs : vs[2]? = some (.str file tf))
    (hfile : ((prog.main.file : Str) == file) = true) (htop : (prog.main.scope.names.lookup ("super" : Str)).isSome = false)
    (h : wpAt (model prog w) A (.func body env) (supC env ar.arg name apos pos pl) Q E s)
    (he : eval (.Call (.Attribute (.Call (.Name "super" p0) [] [] p1) name apos) [] [] pos) env = (do
      let ov ← attributeBase (.Call (.Name "super" p0) [] [] p1) name env (eval (.Call (.Name "super" p0) [] [] p1) env)
      standAt apos.atName
      let (f, first) ← holding [ov] (getMethod ov name pl)
      callWith pos f first (backTo pos (starEach [] env)) []) := by rfl) :
    wpAt (model prog w) A (.func body env) (eval (.Call (.Attribute (.Call (.Name "super" p0) [] [] p1) name apos) [] [] pos) env) Q E s := by
  rw [he]
  unfold attributeBase
  simp only [bne_self_eq_false, hat, hks, hkc, hfu, hco, Bool.or_false, Bool.or_self, Bool.false_eq_true, if_false, Option.isSome_some, if_true, pure_bind, bind_assoc]
  unfold funcData
  simp only [bind_assoc]
  refine wpAt_bind (wpAt_of_wpAny (wpAny_load hf ?_))
  rw [hfd]
  simp only [pure_bind, hp, bind_assoc]
  refine wpAt_bind (wpAt_of_wpAny (wpAny_askSetting ?_))
  refine wpAt_bind (wpAt_of_wpAny (wpAny_field hcc hoc hvs ?_))
  dsimp only
  try simp only [bind_assoc]
  have hfile' : ((model prog w).prog.main.file == file) = true := hfile
  have htop' : (List.lookup (Str.ofString "super") (model prog w).prog.main.scope.names).isSome = false := htop
  simp only [hfile', htop', if_true, Bool.false_eq_true, if_false, bind_assoc]
  refine wpAt_bind (wpAt_of_wpAny (wpAny_rule ?_))
  refine wpAt_bind (wpAt_of_wpAny (wpAny_standAt ?_))
  intro Γ p hc hΓ
  have h1 := h Γ p hc hΓ
  unfold supC at h1
  rw [Sem.wp_bind'] at h1 ⊢
  refine Sem.wp_mono _ Γ _ (fun g p1 s1 h1 => ?_) (fun _ _ _ z => z) _ _ h1
  rw [Sem.wp_bind'] at h1 ⊢
  refine Sem.wp_mono _ Γ _ (fun cls p1 s1 h1 => ?_) (fun _ _ _ z => z) _ _ h1
  rw [Sem.wp_bind']
  refine wp_noComps hc ?_
  exact h1
end
end
theorem pc1_e (X : Cx) (n k Fo Dd eF : Nat) (vs : List Nat) (F : LG) : REC X 140 (.call (.ref 128) ⟨[.ref (Fo + 228)], []⟩) n k ([(Fo + 228, acc Dd (rfs vs) eF)] ++ F) [0, 1] 2 (.again (.func (fB (aS 8)) (pcEnv n))) (n + 1) (k + 1) ([(n, frm [en X "self" k (.ref (Fo + 228))] 1), ((Fo + 228), acc Dd (rfs vs) eF)] ++ F) [] := .mk 8 [.o 0, .o 0, .o 1, .o 1, .frame] (by kernel_rfl!)
theorem pc2_e (X : Cx) (n k L Fo Dd eF kt1 : Nat) (vs : List Nat) (F : LG) : RE X 140 [] (.func (fB (aS 8)) (pcEnv L)) (PySem.W.R.bindR (supE pcE "__len__" (pcEnv L)) (fun v => .pure (.done (.ret v)))) n k ([(L, frm [en X "self" kt1 (.ref (Fo + 228))] 1), (Fo + 228, acc Dd (rfs vs) eF)] ++ F) [3] 4 (.done (.ret (iv (Array.size { toList := rfs vs }) (k + 1)))) (n + 2) (k + 2) ([((Fo + 228), acc Dd (rfs vs) eF)] ++ F) [] := .mk 57 [.o 0, .o 0, .o 0, .o 1, .o 0, .e, .o 0, .e, .o 1, .o 1, .e, .o 1, .o 0, .o 3, .o 3, .o 0, .o 1, .o 1, .o 1, .o 1, .o 1, .o 1, .o 1, .o 1, .e, .o 1, .o 1, .o 1, .o 1, .o 0, .o 0, .e, .o 3, .o 0, .o 1, .e, .o 1, .o 4] (by kernel_rfl!)
noncomputable def in1_o (X : Cx) (m k : Nat) (F : LG) : Out := goC X (kt X) 210 31 [.o 0, .o 0, .o 0, .o 0, .o 0, .o 0, .e, .o 0, .o 0, .o 0, .o 0, .o 0, .o 0, .o 0, .head, .o 0, .o 0, .o 0, .o 1, .o 0, .o 1, .o 0, .o 0, .o 0, .o 0] (.call (.ref 131) ⟨[], []⟩) (m + 228) k ([] ++ F)
theorem in1_e (X : Cx) (m k : Nat) (F : LG) : RAC X 210 (.call (.ref 131) ⟨[], []⟩) (m + 228) k ([] ++ F) (in1_o X m k F) [0, 1] 2 true (.call (.ref 68) ⟨[.ref (m+229)], []⟩) (m + 230) k ([((m + 229), acc (m + 228) [] 0), ((m + 228), dct [] 0)] ++ F) [] := by delta in1_o; exact .mC (by kernel_rfl!)
theorem in2_e (X : Cx) (m k : Nat) (F : LG) : REC X 140 (.call (.ref 68) ⟨[.ref (m+229)], []⟩) (m + 230) k ([(m+229, acc (m+228) [] 0), (m+228, dct [] 0)] ++ F) [0, 1, 2] 3 (.again (.func (fB (aS 0)) (inEnv 68 67 (m+230)))) (m + 231) (k + 2) ([((m + 230), frm [en X "self" k (.ref (m + 229)), en X "initial_size" (k + 1) (iv 0 250)] 2), ((m + 229), acc (m + 228) [] 0), ((m + 228), dct [] 0)] ++ F) [] := .mk 13 [.o 0, .o 0, .o 0, .o 1, .o 1, .o 1, .o 1, .frame] (by kernel_rfl!)
theorem in3_e (X : Cx) (m k kt1 kt2 : Nat) (F : LG) : RE X 140 [] (.func (fB (aS 0)) (inEnv 68 67 (m+230))) (PySem.W.R.bindR (execsT ((fB (aS 0)).take 1) (inEnv 68 67 (m+230))) (fun f => .pure (.done f))) (m + 231) k ([(m+230, frm [en X "self" kt1 (.ref (m+229)), en X "initial_size" kt2 (iv 0 250)] 2), (m+229, acc (m+228) [] 0), (m+228, dct [] 0)] ++ F) [0, 1, 2] 3 (.done (.next)) (m + 231) (k + 2) ([((m + 230), frm [en X "self" kt1 (.ref (m + 229)), en X "initial_size" kt2 (iv 0 250)] 2), ((m + 229), acc (m + 228) [] 0), ((m + 228), dct [en X "_initial_size" (k + 1) (iv 0 250)] 1)] ++ F) [] := .mk 29 [.o 1, .o 1, .o 2, .o 0, .o 0, .o 0, .e, .o 2, .o 0, .o 2, .o 0, .o 2, .o 0, .o 0, .o 0, .o 2, .o 0, .o 3, .o 3, .o 3] (by kernel_rfl!)
theorem in4_e (X : Cx) (m k kt1 kt2 kd : Nat) (F : LG) : RE X 140 [] (.func (fB (aS 0)) (inEnv 68 67 (m+230))) (PySem.W.R.bindR (supE inE "__init__" (inEnv 68 67 (m+230))) (fun v => .pure (.done (.ret v)))) (m + 231) k ([(m+230, frm [en X "self" kt1 (.ref (m+229)), en X "initial_size" kt2 (iv 0 250)] 2), (m+229, acc (m+228) [] 0), (m+228, dct [en X "_initial_size" kd (iv 0 250)] 1)] ++ F) [3, 4] 5 (.done (.ret .none)) (m + 233) (k + 1) ([((m + 229), acc (m + 228) [] 0), ((m + 228), dct [en X "_initial_size" kd (iv 0 250)] 1)] ++ F) [] := .mk 59 [.o 0, .o 0, .o 0, .o 1, .o 0, .e, .o 0, .e, .o 1, .o 1, .e, .o 1, .o 0, .o 3, .o 3, .o 0, .o 1, .o 1, .o 1, .o 1, .o 1, .o 1, .o 1, .o 1, .e, .o 1, .o 1, .o 1, .o 1, .o 0, .o 0, .e, .o 3, .o 0, .o 1, .e, .o 1, .o 4, .o 4, .o 4, .o 4] (by kernel_rfl!)
theorem in5_e (X : Cx) (m k n1 k1 kd eF : Nat) (G1 : LG) (F : LG) : REN X 210 (in1_o X m k G1) (.ok (.ret .none)) n1 k1 ([(m+229, acc (m+228) [] eF), (m+228, dct [en X "_initial_size" kd (iv 0 250)] 1)] ++ F) [0, 1] 2 (.done (.ret (.ref (m + 229)))) n1 k1 ([((m + 229), acc (m + 228) [] eF), ((m + 228), dct [en X "_initial_size" kd (iv 0 250)] 1)] ++ F) [] := .mk 0 [] (by kernel_rfl!)
theorem p2h_e (X : Cx) (n k N Fo M L cl cs co cu e1 eM lv lt kt1 kt2 kt3 ks kh kg S H G Od eD eH eG : Nat) (ms hs gs xs : NN) (ocs ocu : Option Value) (ds : List (Nat × Nat × Nat)) (F : LG) : RE X 210 [] (peelLoop L cl cs co cu) (PySem.W.R.bindR (evalT (cmpL (boX (ifT (nx peelW 6)) 0)) (peelEnv L cl cs co cu)) (fun v => .pure (.done (.ret v)))) n k ([(L, frm [en X "near" kt1 (.ref N), en X "folds" kt2 (.ref Fo), en X "marks" kt3 (.ref M), en X "spots" ks (.ref S), en X "hubs" kh (.ref H), en X "gone" kg (.ref G)] 6), (cl, cel (some (iv lv lt))), (cs, cel ocs), (co, cel (some (.ref Od))), (cu, cel ocu), (M, lst (ivs ms) eM), (N, lst (ivs xs) e1), (Od, dct (dcs ds) eD), (H, lst (ivs hs) eH), (G, lst (ivs gs) eG)] ++ F) [0, 1, 2, 3, 4, 5, 6, 7, 8, 9] 10 (.done (.ret (.ref H))) n k ([(L, frm [en X "near" kt1 (.ref N), en X "folds" kt2 (.ref Fo), en X "marks" kt3 (.ref M), en X "spots" ks (.ref S), en X "hubs" kh (.ref H), en X "gone" kg (.ref G)] 6), (cl, cel (some (iv lv lt))), (cs, cel ocs), (co, cel (some (.ref Od))), (cu, cel ocu), (M, lst (ivs ms) eM), (N, lst (ivs xs) e1), (Od, dct (dcs ds) eD), (H, lst (ivs hs) eH), (G, lst (ivs gs) eG)] ++ F) [] := .mk 2 [.o 1] (by kernel_rfl!)
theorem p2i_e (X : Cx) (n k N Fo M L cl cs co cu e1 eM lv lt kt1 kt2 kt3 ks kh kg S H G Od eD eH eG : Nat) (ms hs gs xs : NN) (ocs ocu : Option Value) (ds : List (Nat × Nat × Nat)) (F : LG) : RE X 210 [] (peelLoop L cl cs co cu) (PySem.W.R.bindR (evalT (cmpR (boX (ifT (nx peelW 6)) 0)) (peelEnv L cl cs co cu)) (fun v => .pure (.done (.ret v)))) n k ([(L, frm [en X "near" kt1 (.ref N), en X "folds" kt2 (.ref Fo), en X "marks" kt3 (.ref M), en X "spots" ks (.ref S), en X "hubs" kh (.ref H), en X "gone" kg (.ref G)] 6), (cl, cel (some (iv lv lt))), (cs, cel ocs), (co, cel (some (.ref Od))), (cu, cel ocu), (M, lst (ivs ms) eM), (N, lst (ivs xs) e1), (Od, dct (dcs ds) eD), (H, lst (ivs hs) eH), (G, lst (ivs gs) eG)] ++ F) [0, 1, 2, 3, 4, 5, 6, 7, 8, 9, 10] 11 (.done (.ret (.ref n))) (n + 1) k ([(n, lst [] 0), (L, frm [en X "near" kt1 (.ref N), en X "folds" kt2 (.ref Fo), en X "marks" kt3 (.ref M), en X "spots" ks (.ref S), en X "hubs" kh (.ref H), en X "gone" kg (.ref G)] 6), (cl, cel (some (iv lv lt))), (cs, cel ocs), (co, cel (some (.ref Od))), (cu, cel ocu), (M, lst (ivs ms) eM), (N, lst (ivs xs) e1), (Od, dct (dcs ds) eD), (H, lst (ivs hs) eH), (G, lst (ivs gs) eG)] ++ F) [] := .mk 2 [] (by kernel_rfl!)
theorem p2g_e (X : Cx) (n k N Fo M L cl cs co cu e1 eM lv lt kt1 kt2 kt3 ks kh kg S H G Od eD eH eG : Nat) (ms hs gs xs : NN) (ocs ocu : Option Value) (ds : List (Nat × Nat × Nat)) (F : LG) : RE X 210 [] (peelLoop L cl cs co cu) (PySem.W.R.bindR (evalT (cmpL (boX (ifT (nx peelW 6)) 1)) (peelEnv L cl cs co cu)) (fun v => .pure (.done (.ret v)))) n k ([(L, frm [en X "near" kt1 (.ref N), en X "folds" kt2 (.ref Fo), en X "marks" kt3 (.ref M), en X "spots" ks (.ref S), en X "hubs" kh (.ref H), en X "gone" kg (.ref G)] 6), (cl, cel (some (iv lv lt))), (cs, cel ocs), (co, cel (some (.ref Od))), (cu, cel ocu), (M, lst (ivs ms) eM), (N, lst (ivs xs) e1), (Od, dct (dcs ds) eD), (H, lst (ivs hs) eH), (G, lst (ivs gs) eG)] ++ F) [0, 1, 2, 3, 4, 5, 6, 7, 8, 9] 10 (.done (.ret (.ref G))) n k ([(L, frm [en X "near" kt1 (.ref N), en X "folds" kt2 (.ref Fo), en X "marks" kt3 (.ref M), en X "spots" ks (.ref S), en X "hubs" kh (.ref H), en X "gone" kg (.ref G)] 6), (cl, cel (some (iv lv lt))), (cs, cel ocs), (co, cel (some (.ref Od))), (cu, cel ocu), (M, lst (ivs ms) eM), (N, lst (ivs xs) e1), (Od, dct (dcs ds) eD), (H, lst (ivs hs) eH), (G, lst (ivs gs) eG)] ++ F) [] := .mk 2 [.o 1] (by kernel_rfl!)
theorem p2j_e (X : Cx) (n k N Fo M L cl cs co cu e1 eM lv lt kt1 kt2 kt3 ks kh kg S H G Od eD eH eG : Nat) (ms hs gs xs : NN) (ocs ocu : Option Value) (ds : List (Nat × Nat × Nat)) (F : LG) : RE X 210 [] (peelLoop L cl cs co cu) (PySem.W.R.bindR (evalT (cmpR (boX (ifT (nx peelW 6)) 1)) (peelEnv L cl cs co cu)) (fun v => .pure (.done (.ret v)))) n k ([(L, frm [en X "near" kt1 (.ref N), en X "folds" kt2 (.ref Fo), en X "marks" kt3 (.ref M), en X "spots" ks (.ref S), en X "hubs" kh (.ref H), en X "gone" kg (.ref G)] 6), (cl, cel (some (iv lv lt))), (cs, cel ocs), (co, cel (some (.ref Od))), (cu, cel ocu), (M, lst (ivs ms) eM), (N, lst (ivs xs) e1), (Od, dct (dcs ds) eD), (H, lst (ivs hs) eH), (G, lst (ivs gs) eG)] ++ F) [0, 1, 2, 3, 4, 5, 6, 7, 8, 9, 10] 11 (.done (.ret (.ref n))) (n + 1) k ([(n, lst [] 0), (L, frm [en X "near" kt1 (.ref N), en X "folds" kt2 (.ref Fo), en X "marks" kt3 (.ref M), en X "spots" ks (.ref S), en X "hubs" kh (.ref H), en X "gone" kg (.ref G)] 6), (cl, cel (some (iv lv lt))), (cs, cel ocs), (co, cel (some (.ref Od))), (cu, cel ocu), (M, lst (ivs ms) eM), (N, lst (ivs xs) e1), (Od, dct (dcs ds) eD), (H, lst (ivs hs) eH), (G, lst (ivs gs) eG)] ++ F) [] := .mk 2 [] (by kernel_rfl!)
theorem p2r_e (X : Cx) (n k N Fo M L cl cs co cu e1 eM lv lt kt1 kt2 kt3 ks kh kg S H G Od eD eH eG : Nat) (ms hs gs xs : NN) (ocs ocu : Option Value) (ds : List (Nat × Nat × Nat)) (F : LG) : RE X 210 [] (peelLoop L cl cs co cu) (PySem.W.R.bindR (execsT (ifB (nx peelW 6)) (peelEnv L cl cs co cu)) (fun f => .pure (.done f))) n k ([(L, frm [en X "near" kt1 (.ref N), en X "folds" kt2 (.ref Fo), en X "marks" kt3 (.ref M), en X "spots" ks (.ref S), en X "hubs" kh (.ref H), en X "gone" kg (.ref G)] 6), (cl, cel (some (iv lv lt))), (cs, cel ocs), (co, cel (some (.ref Od))), (cu, cel ocu), (M, lst (ivs ms) eM), (N, lst (ivs xs) e1), (Od, dct (dcs ds) eD), (H, lst (ivs hs) eH), (G, lst (ivs gs) eG)] ++ F) [0, 6, 9, 7] 11 (.done (.ret (.ref n))) (n + 1) k ([(n, tup [(.ref M), (.ref H)]), (M, lst (ivs ms) eM), (H, lst (ivs hs) eH), (N, lst (ivs xs) e1)] ++ F) [] := .mk 7 [.o 1, .o 1] (by kernel_rfl!)
noncomputable def p3a_o (X : Cx) (n k N Fo M L cl cs co cu e1 eM lv lt kt1 kt2 kt3 ks kh kg S H G Od eD eH eG : Nat) (ms hs gs xs : NN) (ocs ocu : Option Value) (ds : List (Nat × Nat × Nat)) (Dd eF kd td : Nat) (fs : List Nat) (F : LG) : Out := go X (kt X) 210 30 [.o 1, .o 6, .o 6, .o 6, .o 6, .o 1, .o 11, .o 0, .o 0, .o 0, .o 11, .o 0, .o 0, .o 0, .o 11, .o 0, .o 0, .o 0, .o 0, .o 11, .o 12, .o 0] [] (peelLoop L cl cs co cu) (PySem.W.R.bindR (execsT (peelW.drop 7) (peelEnv L cl cs co cu)) (fun f => .pure (.done f))) n k ([(L, frm [en X "near" kt1 (.ref N), en X "folds" kt2 (.ref (Fo + 228)), en X "marks" kt3 (.ref M), en X "spots" ks (.ref S), en X "hubs" kh (.ref H), en X "gone" kg (.ref G)] 6), (cl, cel (some (iv lv lt))), (cs, cel ocs), (co, cel (some (.ref Od))), (cu, cel ocu), (M, lst (ivs ms) eM), (N, lst (ivs xs) e1), (Od, dct (dcs ds) eD), (H, lst (ivs hs) eH), (G, lst (ivs gs) eG), (Fo + 228, acc Dd (rfs fs) eF), (Dd, dct [en X "_initial_size" kd (iv 0 td)] 1)] ++ F)
theorem p3a_e (X : Cx) (n k N Fo M L cl cs co cu e1 eM lv lt kt1 kt2 kt3 ks kh kg S H G Od eD eH eG : Nat) (ms hs gs xs : NN) (ocs ocu : Option Value) (ds : List (Nat × Nat × Nat)) (Dd eF kd td : Nat) (fs : List Nat) (F : LG) : RA X 210 [] (peelLoop L cl cs co cu) (PySem.W.R.bindR (execsT (peelW.drop 7) (peelEnv L cl cs co cu)) (fun f => .pure (.done f))) n k ([(L, frm [en X "near" kt1 (.ref N), en X "folds" kt2 (.ref (Fo + 228)), en X "marks" kt3 (.ref M), en X "spots" ks (.ref S), en X "hubs" kh (.ref H), en X "gone" kg (.ref G)] 6), (cl, cel (some (iv lv lt))), (cs, cel ocs), (co, cel (some (.ref Od))), (cu, cel ocu), (M, lst (ivs ms) eM), (N, lst (ivs xs) e1), (Od, dct (dcs ds) eD), (H, lst (ivs hs) eH), (G, lst (ivs gs) eG), (Fo + 228, acc Dd (rfs fs) eF), (Dd, dct [en X "_initial_size" kd (iv 0 td)] 1)] ++ F) (p3a_o X n k N Fo M L cl cs co cu e1 eM lv lt kt1 kt2 kt3 ks kh kg S H G Od eD eH eG ms hs gs xs ocs ocu ds Dd eF kd td fs F) [10, 0, 1, 2, 3, 4, 5, 6, 7, 8, 9, 11] 12 true (.call (.ref 128) ⟨[.ref (Fo + 228)], []⟩) n k ([((Fo + 228), acc Dd (rfs fs) eF), (L, frm [en X "near" kt1 (.ref N), en X "folds" kt2 (.ref (Fo + 228)), en X "marks" kt3 (.ref M), en X "spots" ks (.ref S), en X "hubs" kh (.ref H), en X "gone" kg (.ref G)] 6), (cl, cel (some (iv lv lt))), (cs, cel ocs), (co, cel (some (.ref Od))), (cu, cel ocu), (M, lst (ivs ms) eM), (N, lst (ivs xs) e1), (Od, dct (dcs ds) eD), (H, lst (ivs hs) eH), (G, lst (ivs gs) eG), (Dd, dct [en X "_initial_size" kd (iv 0 td)] 1)] ++ F) [] := by delta p3a_o; exact .m (by kernel_rfl!)
noncomputable def p3b_o (X : Cx) (n k N Fo M L cl cs co cu e1 eM lv lt kt1 kt2 kt3 ks kh kg S H G Od eD eH eG : Nat) (ms hs gs xs : NN) (ocs ocu : Option Value) (ds : List (Nat × Nat × Nat)) (Dd eF kd td : Nat) (fs : List Nat) (n1 k1 c tc : Nat) (G1 : LG) (F : LG) (z1 : NN) : Out := goN X (kt X) 210 17 [.g false (.ok (.ret .none)) k1 [6] [(6, lst (ivs z1) (eM + 1))] [], .o 2, .o 11, .o 11, .e, .o 11, .o 1] (p3a_o X n k N Fo M L cl cs co cu e1 eM lv lt kt1 kt2 kt3 ks kh kg S H G Od eD eH eG ms hs gs xs ocs ocu ds Dd eF kd td fs G1) (.ok (.ret (iv c tc))) n1 k1 ([(Fo + 228, acc Dd (rfs fs) eF), (L, frm [en X "near" kt1 (.ref N), en X "folds" kt2 (.ref (Fo + 228)), en X "marks" kt3 (.ref M), en X "spots" ks (.ref S), en X "hubs" kh (.ref H), en X "gone" kg (.ref G)] 6), (cl, cel (some (iv lv lt))), (cs, cel ocs), (co, cel (some (.ref Od))), (cu, cel ocu), (M, lst (ivs ms) eM), (N, lst (ivs xs) e1), (Od, dct (dcs ds) eD), (H, lst (ivs hs) eH), (G, lst (ivs gs) eG), (Dd, dct [en X "_initial_size" kd (iv 0 td)] 1)] ++ F)
theorem p3b_e (X : Cx) (n k N Fo M L cl cs co cu e1 eM lv lt kt1 kt2 kt3 ks kh kg S H G Od eD eH eG : Nat) (ms hs gs xs : NN) (ocs ocu : Option Value) (ds : List (Nat × Nat × Nat)) (Dd eF kd td : Nat) (fs : List Nat) (n1 k1 c tc : Nat) (G1 : LG) (F : LG) (z1 : NN) : RAN X 210 (p3a_o X n k N Fo M L cl cs co cu e1 eM lv lt kt1 kt2 kt3 ks kh kg S H G Od eD eH eG ms hs gs xs ocs ocu ds Dd eF kd td fs G1) (.ok (.ret (iv c tc))) n1 k1 ([(Fo + 228, acc Dd (rfs fs) eF), (L, frm [en X "near" kt1 (.ref N), en X "folds" kt2 (.ref (Fo + 228)), en X "marks" kt3 (.ref M), en X "spots" ks (.ref S), en X "hubs" kh (.ref H), en X "gone" kg (.ref G)] 6), (cl, cel (some (iv lv lt))), (cs, cel ocs), (co, cel (some (.ref Od))), (cu, cel ocu), (M, lst (ivs ms) eM), (N, lst (ivs xs) e1), (Od, dct (dcs ds) eD), (H, lst (ivs hs) eH), (G, lst (ivs gs) eG), (Dd, dct [en X "_initial_size" kd (iv 0 td)] 1)] ++ F) (p3b_o X n k N Fo M L cl cs co cu e1 eM lv lt kt1 kt2 kt3 ks kh kg S H G Od eD eH eG ms hs gs xs ocs ocu ds Dd eF kd td fs n1 k1 c tc G1 F z1) [2, 3, 5, 6, 9, 11, 0, 1, 12, 4, 7, 10, 8] 13 true (goneLoop n1 L cl cs co cu) (n1 + 1) k1 ([(L, frm [en X "near" kt1 (.ref N), en X "folds" kt2 (.ref (Fo + 228)), en X "marks" kt3 (.ref M), en X "spots" ks (.ref S), en X "hubs" kh (.ref H), en X "gone" kg (.ref G)] 6), (cl, cel (some (iv lv lt))), (co, cel (some (.ref Od))), (cu, cel ocu), (Od, dct (dcs ds) eD), (G, lst (ivs gs) eG), (n1, lit G 0), ((Fo + 228), acc Dd (rfs fs) eF), (Dd, dct [en X "_initial_size" kd (iv 0 td)] 1), (cs, cel ocs), (M, lst (ivs z1) (eM + 1)), (H, lst (ivs hs) eH), (N, lst (ivs xs) e1)] ++ F) [CutG X 210 false (bi "list.append" [(.ref M), (iv c tc)]) (.ok (.ret .none)) [(M, lst (ivs ms) eM)] n1 k1 k1 [(M, lst (ivs z1) (eM + 1))] []] := by delta p3b_o; exact .mN (by apply X.both <;> kernel_rfl!)
theorem p3c_e (X : Cx) (n k N Fo M L cl cs co cu e1 eM lv lt kt1 kt2 kt3 ks kh kg S H G Od eD eH eG : Nat) (ms hs gs xs : NN) (ocs ocu : Option Value) (ds : List (Nat × Nat × Nat)) (Dd eF kd td : Nat) (fs : List Nat) (n1 k1 c tc : Nat) (G1 : LG) (zm : NN) (n2 k2 lv2 lt2 eF2 : Nat) (ocu2 : Option Value) (fs2 : List Nat) (G2 : LG) (F : LG) : REN X 210 (p3b_o X n k N Fo M L cl cs co cu e1 eM lv lt kt1 kt2 kt3 ks kh kg S H G Od eD eH eG ms hs gs xs ocs ocu ds Dd eF kd td fs n1 k1 c tc G1 G2 zm) (.ok .next) n2 k2 ([(L, frm [en X "near" kt1 (.ref N), en X "folds" kt2 (.ref (Fo + 228)), en X "marks" kt3 (.ref M), en X "spots" ks (.ref S), en X "hubs" kh (.ref H), en X "gone" kg (.ref G)] 6), (cl, cel (some (iv lv2 lt2))), (co, cel (some (.ref Od))), (cu, cel ocu2), (Od, dct (dcs ds) eD), (G, lst (ivs gs) eG), (Fo + 228, acc Dd (rfs fs2) eF2), (Dd, dct [en X "_initial_size" kd (iv 0 td)] 1), (cs, cel ocs), (M, lst (ivs zm) (eM + 1)), (H, lst (ivs hs) eH), (N, lst (ivs xs) e1)] ++ F) [0, 1, 8, 2, 3, 9, 11, 6, 7] 12 (.done (.next)) n2 k2 ([(L, frm [en X "near" kt1 (.ref N), en X "folds" kt2 (.ref (Fo + 228)), en X "marks" kt3 (.ref M), en X "spots" ks (.ref S), en X "hubs" kh (.ref H), en X "gone" kg (.ref G)] 6), (cl, cel (some (iv lv2 lt2))), (cs, cel ocs), (co, cel (some (.ref Od))), (cu, cel ocu2), (M, lst (ivs zm) (eM + 1)), (N, lst (ivs xs) e1), ((Fo + 228), acc Dd (rfs fs2) eF2), (Dd, dct [en X "_initial_size" kd (iv 0 td)] 1)] ++ F) [] := .mk 0 [] (by apply X.both <;> kernel_rfl!)
noncomputable def g1_o (X : Cx) (n k N Fo M L cl cs co cu it i lv lt kt1 kt2 kt3 ks kh kg S H G Od eD eG Dd eF kd td : Nat) (gs : NN) (ocu : Option Value) (ds : List (Nat × Nat × Nat)) (fs : List Nat) (W eW : Nat) (ws : NN) (F : LG) (y1 y2 : Nat) : Out := goC X (kt X) 140 73 [.o 8, .g false (.ok (.ret (iv y1 y2))) k [7, 6] [(7, lit G (i + 1))] [], .o 5, .o 5, .o 2, .o 9, .o 0, .o 0, .o 0, .o 9, .o 0, .o 0, .o 0, .o 9, .o 0, .o 0, .o 0, .o 0, .o 9, .o 10, .o 0, .o 0, .o 5, .e, .e, .e, .v (.str (sd y1) k) (k + 1) [], .e, .o 0, .o 0, .o 4, .o 5, .o 6, .o 6, .o 6, .v (.ref W) (k + 2) [5], .o 1, .o 1, .e, .o 1, .o 1] (goneLoop it L cl cs co cu) n k ([(W, lst (ivs ws) eW), (L, frm [en X "near" kt1 (.ref N), en X "folds" kt2 (.ref (Fo + 228)), en X "marks" kt3 (.ref M), en X "spots" ks (.ref S), en X "hubs" kh (.ref H), en X "gone" kg (.ref G)] 6), (cl, cel (some (iv lv lt))), (co, cel (some (.ref Od))), (cu, cel ocu), (Od, dct (dcs ds) eD), (G, lst (ivs gs) eG), (it, lit G i), (Fo + 228, acc Dd (rfs fs) eF), (Dd, dct [en X "_initial_size" kd (iv 0 td)] 1)] ++ F)
theorem g1_e (X : Cx) (n k N Fo M L cl cs co cu it i lv lt kt1 kt2 kt3 ks kh kg S H G Od eD eG Dd eF kd td : Nat) (gs : NN) (ocu : Option Value) (ds : List (Nat × Nat × Nat)) (fs : List Nat) (W eW : Nat) (ws : NN) (F : LG) (y1 y2 : Nat) : RAC X 140 (goneLoop it L cl cs co cu) n k ([(W, lst (ivs ws) eW), (L, frm [en X "near" kt1 (.ref N), en X "folds" kt2 (.ref (Fo + 228)), en X "marks" kt3 (.ref M), en X "spots" ks (.ref S), en X "hubs" kh (.ref H), en X "gone" kg (.ref G)] 6), (cl, cel (some (iv lv lt))), (co, cel (some (.ref Od))), (cu, cel ocu), (Od, dct (dcs ds) eD), (G, lst (ivs gs) eG), (it, lit G i), (Fo + 228, acc Dd (rfs fs) eF), (Dd, dct [en X "_initial_size" kd (iv 0 td)] 1)] ++ F) (g1_o X n k N Fo M L cl cs co cu it i lv lt kt1 kt2 kt3 ks kh kg S H G Od eD eG Dd eF kd td gs ocu ds fs W eW ws F y1 y2) [6, 1, 0, 2, 3, 8, 4, 5, 7, 9, 10, 11, 12] 13 true (.compStart c6 0 (.ref n) (.ref (n+1)) (c6Env (n+2) L cl cs co cu)) (n + 3) (k + 2) ([(co, cel (some (.ref Od))), ((n + 1), lst [] 0), ((n + 2), dct [] 0), (n, lit W 0), (W, lst (ivs ws) eW), (Od, dct (dcs ds) eD), (L, frm [en X "near" kt1 (.ref N), en X "folds" kt2 (.ref (Fo + 228)), en X "marks" kt3 (.ref M), en X "spots" ks (.ref S), en X "hubs" kh (.ref H), en X "gone" kg (.ref G)] 6), (cl, cel (some (iv lv lt))), (cu, cel (some (iv y1 y2))), (G, lst (ivs gs) eG), (it, lit G (i + 1)), ((Fo + 228), acc Dd (rfs fs) eF), (Dd, dct [en X "_initial_size" kd (iv 0 td)] 1)] ++ F) [CutB X (bi "dict.__getitem__" [(.ref Od), (iv y1 y2)]) (.ref W) [(Od, dct (dcs ds) eD)] (k + 1) (k + 2), CutB X (bi "int.__repr__" [(iv y1 y2)]) (.str (sd y1) k) [] k (k + 1), CutG X 140 false (bi "list_iterator.__next__" [(.ref it)]) (.ok (.ret (iv y1 y2))) [(it, lit G i), (G, lst (ivs gs) eG)] n k k [(it, lit G (i + 1))] []] := by delta g1_o; exact .mC (by apply X.both <;> kernel_rfl!)
theorem g2_e (X : Cx) (n k N Fo M L cl cs co cu it i lv lt kt1 kt2 kt3 ks kh kg S H G Od eD eG Dd eF kd td : Nat) (gs : NN) (ocu : Option Value) (ds : List (Nat × Nat × Nat)) (fs : List Nat) (W eW : Nat) (ws : NN) (u tu n1 k1 ea kn b1 b2 : Nat) (vs : NN) (G1 : LG) (F : LG) (y1 y2 y3 y4 : Nat) (r1 : List Nat) : REN X 140 (g1_o X n k N Fo M L cl cs co cu it i lv lt kt1 kt2 kt3 ks kh kg S H G Od eD eG Dd eF kd td gs ocu ds fs W eW ws G1 u tu) (.ok .next) n1 k1 ([(co, cel (some (.ref Od))), (n+1, lst (ivs vs) ea), (n+2, dct [en X "v" kn (iv b1 b2)] 1), (W, lst (ivs ws) eW), (Od, dct (dcs ds) eD), (L, frm [en X "near" kt1 (.ref N), en X "folds" kt2 (.ref (Fo + 228)), en X "marks" kt3 (.ref M), en X "spots" ks (.ref S), en X "hubs" kh (.ref H), en X "gone" kg (.ref G)] 6), (cl, cel (some (iv lv lt))), (cu, cel (some (iv u tu))), (G, lst (ivs gs) eG), (it, lit G (i+1)), (Fo + 228, acc Dd (rfs fs) eF), (Dd, dct [en X "_initial_size" kd (iv 0 td)] 1)] ++ F) [5, 0, 7, 8, 2, 9, 6, 10, 11, 12, 13] 14 (.again (goneLoop it L cl cs co cu)) (n1 + 2) (k1 + 8) ([(W, lst (ivs ws) eW), ((n1 + 1), tup [(.str (sd u) k), (.str (sd y1) (k1 + 1))]), (L, frm [en X "near" kt1 (.ref N), en X "folds" kt2 (.ref (Fo + 228)), en X "marks" kt3 (.ref M), en X "spots" ks (.ref S), en X "hubs" kh (.ref H), en X "gone" kg (.ref G)] 6), (cl, cel (some (iv y4 (k1 + 7)))), (co, cel (some (.ref Od))), (cu, cel (some (iv u tu))), (Od, dct (dcs ds) eD), (G, lst (ivs gs) eG), (it, lit G (i + 1)), ((Fo + 228), acc Dd (rfs r1) (eF + 1)), (Dd, dct [en X "_initial_size" kd (iv 0 td)] 1)] ++ F) [CutB X (bi "int.__sub__" [(iv lv lt), (iv y3 (k1 + 6))]) (iv y4 (k1 + 7)) [] (k1 + 7) (k1 + 8), CutB X (bi "int.__lshift__" [(iv 1 (k1 + 5)), (iv u tu)]) (iv y3 (k1 + 6)) [] (k1 + 6) (k1 + 7), CutG X 140 false (bi "list.append" [(.ref (Fo + 228)), (.ref (n1 + 1))]) (.ok (.ret .none)) [((Fo + 228), acc Dd (rfs fs) eF)] (n1 + 2) (k1 + 5) (k1 + 5) [((Fo + 228), acc Dd (rfs r1) (eF + 1))] [], CutB X (bi "int.__repr__" [(iv y1 y2)]) (.str (sd y1) (k1 + 1)) [] (k1 + 1) (k1 + 2), CutB X (bi "list.__getitem__" [(.ref (n + 1)), (iv 0 k1)]) (iv y1 y2) [((n + 1), lst (ivs vs) ea)] (k1 + 1) (k1 + 1)] := .mk 94 [.o 3, .o 3, .o 3, .o 2, .o 2, .o 2, .v (iv y1 y2) (k1 + 1) [1], .e, .e, .e, .e, .v (.str (sd y1) (k1 + 1)) (k1 + 2) [], .e, .o 0, .e, .o 0, .o 0, .o 1, .o 1, .o 1, .o 1, .o 1, .o 1, .frame, .o 1, .o 12, .o 0, .o 0, .o 0, .o 12, .o 0, .o 0, .o 0, .o 12, .o 0, .o 0, .o 0, .o 12, .o 13, .o 1, .o 1, .g false (.ok (.ret .none)) (k1 + 5) [12] [(12, acc Dd (rfs r1) (eF + 1))] [], .o 9, .o 10, .v (iv y3 (k1 + 6)) (k1 + 7) [], .v (iv y4 (k1 + 7)) (k1 + 8) [], .o 9, .o 9] (by apply X.both <;> kernel_rfl!)
theorem g3_e (X : Cx) (n k N Fo M L cl cs co cu it i lv lt kt1 kt2 kt3 ks kh kg S H G Od eD eG Dd eF kd td : Nat) (gs : NN) (ocu : Option Value) (ds : List (Nat × Nat × Nat)) (fs : List Nat) (F : LG) : REC X 140 (goneLoop it L cl cs co cu) n k ([(L, frm [en X "near" kt1 (.ref N), en X "folds" kt2 (.ref (Fo + 228)), en X "marks" kt3 (.ref M), en X "spots" ks (.ref S), en X "hubs" kh (.ref H), en X "gone" kg (.ref G)] 6), (cl, cel (some (iv lv lt))), (co, cel (some (.ref Od))), (cu, cel ocu), (Od, dct (dcs ds) eD), (G, lst (ivs gs) eG), (it, lit G i), (Fo + 228, acc Dd (rfs fs) eF), (Dd, dct [en X "_initial_size" kd (iv 0 td)] 1)] ++ F) [2, 3, 4, 5, 6, 7, 9, 10] 11 (.done (.next)) (n + 2) k ([(L, frm [en X "near" kt1 (.ref N), en X "folds" kt2 (.ref (Fo + 228)), en X "marks" kt3 (.ref M), en X "spots" ks (.ref S), en X "hubs" kh (.ref H), en X "gone" kg (.ref G)] 6), (cl, cel (some (iv lv lt))), (co, cel (some (.ref Od))), (cu, cel ocu), (Od, dct (dcs ds) eD), (G, lst (ivs gs) eG), ((Fo + 228), acc Dd (rfs fs) eF), (Dd, dct [en X "_initial_size" kd (iv 0 td)] 1)] ++ F) [CutG X 140 false (bi "list_iterator.__next__" [(.ref it)]) (.error (.ref (n + 1))) [(it, lit G i), (G, lst (ivs gs) eG)] n k k [(it, fld "list_iterator" [.none, (iv i 0)])] [tup [], fld "StopIteration" [(.ref n), .none, .none, .none, (.bool false), .none]]] := .mk 5 [.o 7, .g false (.error (.ref (n + 1))) k [6, 5] [(6, fld "list_iterator" [.none, (iv i 0)])] [tup [], fld "StopIteration" [(.ref n), .none, .none, .none, (.bool false), .none]], .o 1] (by kernel_rfl!)
noncomputable def peel0a_o (X : Cx) (n k N Fo M L cl cs co cu e1 eM lv lt kt1 kt2 kt3 : Nat) (xs ms : NN) (ocs oco ocu : Option Value) (F : LG) : Out := go X (kt X) 210 40 [.o 0, .o 0, .e, .e, .o 1, .o 1, .e, .o 1, .o 1, .o 1, .o 1, .e, .o 1, .o 1, .o 1, .o 1, .o 1] [] (peelLoop L cl cs co cu) (PySem.W.R.bindR (execsT (peelW.take 6) (peelEnv L cl cs co cu)) (fun f => .pure (.done f))) n k ([(L, frm [en X "near" kt1 (.ref N), en X "folds" kt2 (.ref Fo), en X "marks" kt3 (.ref M)] 3), (cl, cel (some (iv lv lt))), (cs, cel ocs), (co, cel oco), (cu, cel ocu), (M, lst (ivs ms) eM), (N, lst (ivs xs) e1)] ++ F)
theorem peel0a_e (X : Cx) (n k N Fo M L cl cs co cu e1 eM lv lt kt1 kt2 kt3 : Nat) (xs ms : NN) (ocs oco ocu : Option Value) (F : LG) : RA X 210 [] (peelLoop L cl cs co cu) (PySem.W.R.bindR (execsT (peelW.take 6) (peelEnv L cl cs co cu)) (fun f => .pure (.done f))) n k ([(L, frm [en X "near" kt1 (.ref N), en X "folds" kt2 (.ref Fo), en X "marks" kt3 (.ref M)] 3), (cl, cel (some (iv lv lt))), (cs, cel ocs), (co, cel oco), (cu, cel ocu), (M, lst (ivs ms) eM), (N, lst (ivs xs) e1)] ++ F) (peel0a_o X n k N Fo M L cl cs co cu e1 eM lv lt kt1 kt2 kt3 xs ms ocs oco ocu F) [5, 1, 0, 2, 4, 6, 7, 8, 9, 10] 11 true (.compStart c1 0 (.ref (n+1)) (.ref (n+2)) (c1Env (n+3) L cl cs co cu)) (n + 4) (k + 3) ([(cl, cel (some (iv lv lt))), ((n + 2), lst [] 0), ((n + 3), dct [] 0), ((n + 1), rit 0 7), (L, frm [en X "near" kt1 (.ref N), en X "folds" kt2 (.ref Fo), en X "marks" kt3 (.ref M)] 3), (cs, cel ocs), (co, cel oco), (cu, cel ocu), (M, lst (ivs ms) eM), (N, lst (ivs xs) e1)] ++ F) [] := by delta peel0a_o; exact .m (by apply X.both <;> kernel_rfl!)
noncomputable def peel0b_o (X : Cx) (n k N Fo M L cl cs co cu e1 eM lv lt kt1 kt2 kt3 : Nat) (xs ms : NN) (ocs oco ocu : Option Value) (n1 k1 kn1 p1 p2 ea1 : Nat) (as : NN) (G1 : LG) (F : LG) : Out := goN X (kt X) 210 28 [.o 4, .o 4, .o 3, .o 3, .o 3, .o 4, .o 9, .o 9, .e, .o 9, .o 1] (peel0a_o X n k N Fo M L cl cs co cu e1 eM lv lt kt1 kt2 kt3 xs ms ocs oco ocu G1) (.ok .next) n1 k1 ([(cl, cel (some (iv lv lt))), ((n+2), lst (ivs as) ea1), ((n+3), dct [en X "k" kn1 (iv p1 p2)] 1), (L, frm [en X "near" kt1 (.ref N), en X "folds" kt2 (.ref Fo), en X "marks" kt3 (.ref M)] 3), (cs, cel ocs), (co, cel oco), (cu, cel ocu), (M, lst (ivs ms) eM), (N, lst (ivs xs) e1)] ++ F)
theorem peel0b_e (X : Cx) (n k N Fo M L cl cs co cu e1 eM lv lt kt1 kt2 kt3 : Nat) (xs ms : NN) (ocs oco ocu : Option Value) (n1 k1 kn1 p1 p2 ea1 : Nat) (as : NN) (G1 : LG) (F : LG) : RAN X 210 (peel0a_o X n k N Fo M L cl cs co cu e1 eM lv lt kt1 kt2 kt3 xs ms ocs oco ocu G1) (.ok .next) n1 k1 ([(cl, cel (some (iv lv lt))), ((n+2), lst (ivs as) ea1), ((n+3), dct [en X "k" kn1 (iv p1 p2)] 1), (L, frm [en X "near" kt1 (.ref N), en X "folds" kt2 (.ref Fo), en X "marks" kt3 (.ref M)] 3), (cs, cel ocs), (co, cel oco), (cu, cel ocu), (M, lst (ivs ms) eM), (N, lst (ivs xs) e1)] ++ F) (peel0b_o X n k N Fo M L cl cs co cu e1 eM lv lt kt1 kt2 kt3 xs ms ocs oco ocu n1 k1 kn1 p1 p2 ea1 as G1 F) [3, 1, 0, 2, 11, 6, 7, 8, 9, 10, 4] 12 true (.compStart c2 0 (.ref n1) (.ref (n1+1)) (c2Env (n1+2) L cl cs co cu)) (n1 + 3) (k1 + 1) ([(cl, cel (some (iv lv lt))), ((n1 + 1), lst [] 0), ((n1 + 2), dct [] 0), (n1, lit N 0), (N, lst (ivs xs) e1), (L, frm [en X "near" kt1 (.ref N), en X "folds" kt2 (.ref Fo), en X "marks" kt3 (.ref M), en X "spots" k1 (.ref (n + 2))] 4), (cs, cel ocs), (co, cel oco), (cu, cel ocu), (M, lst (ivs ms) eM), ((n + 2), lst (ivs as) ea1)] ++ F) [] := by delta peel0b_o; exact .mN (by apply X.both <;> kernel_rfl!)
noncomputable def peel0c_o (X : Cx) (n k N Fo M L cl cs co cu e1 eM lv lt kt1 kt2 kt3 : Nat) (xs ms : NN) (ocs oco ocu : Option Value) (n1 k1 kn1 p1 p2 ea1 : Nat) (as : NN) (G1 : LG) (n2 k2 kn2 q1 q2 ea2 S ks : Nat) (ss : NN) (G2 : LG) (F : LG) : Out := goN X (kt X) 210 26 [.o 3, .o 3, .o 3, .o 6, .o 6, .o 5, .o 10, .o 10, .e, .o 10, .o 1] (peel0b_o X n k N Fo M L cl cs co cu e1 eM lv lt kt1 kt2 kt3 xs ms ocs oco ocu n1 k1 kn1 p1 p2 ea1 as G1 G2) (.ok .next) n2 k2 ([(cl, cel (some (iv lv lt))), ((n1+1), lst (ivs ss) ea2), ((n1+2), dct [en X "sight" kn2 (iv q1 q2)] 1), (N, lst (ivs xs) e1), (L, frm [en X "near" kt1 (.ref N), en X "folds" kt2 (.ref Fo), en X "marks" kt3 (.ref M), en X "spots" ks (.ref S)] 4), (cs, cel ocs), (co, cel oco), (cu, cel ocu), (M, lst (ivs ms) eM), (S, lst (ivs as) ea1)] ++ F)
theorem peel0c_e (X : Cx) (n k N Fo M L cl cs co cu e1 eM lv lt kt1 kt2 kt3 : Nat) (xs ms : NN) (ocs oco ocu : Option Value) (n1 k1 kn1 p1 p2 ea1 : Nat) (as : NN) (G1 : LG) (n2 k2 kn2 q1 q2 ea2 S ks : Nat) (ss : NN) (G2 : LG) (F : LG) : RAN X 210 (peel0b_o X n k N Fo M L cl cs co cu e1 eM lv lt kt1 kt2 kt3 xs ms ocs oco ocu n1 k1 kn1 p1 p2 ea1 as G1 G2) (.ok .next) n2 k2 ([(cl, cel (some (iv lv lt))), ((n1+1), lst (ivs ss) ea2), ((n1+2), dct [en X "sight" kn2 (iv q1 q2)] 1), (N, lst (ivs xs) e1), (L, frm [en X "near" kt1 (.ref N), en X "folds" kt2 (.ref Fo), en X "marks" kt3 (.ref M), en X "spots" ks (.ref S)] 4), (cs, cel ocs), (co, cel oco), (cu, cel ocu), (M, lst (ivs ms) eM), (S, lst (ivs as) ea1)] ++ F) (peel0c_o X n k N Fo M L cl cs co cu e1 eM lv lt kt1 kt2 kt3 xs ms ocs oco ocu n1 k1 kn1 p1 p2 ea1 as G1 n2 k2 kn2 q1 q2 ea2 S ks ss G2 F) [3, 8, 1, 0, 2, 12, 4, 7, 9, 10, 11, 6] 13 true (.compStart c3 0 (.ref n2) (.ref (n2+1)) (c3Env (n2+2) L cl cs co cu)) (n2 + 3) k2 ([(cl, cel (some (iv lv lt))), (cs, cel (some (.ref (n1 + 1)))), ((n2 + 1), lst [] 0), ((n2 + 2), dct [] 0), (n2, lit S 0), (S, lst (ivs as) ea1), ((n1 + 1), lst (ivs ss) ea2), (L, frm [en X "near" kt1 (.ref N), en X "folds" kt2 (.ref Fo), en X "marks" kt3 (.ref M), en X "spots" ks (.ref S)] 4), (co, cel oco), (cu, cel ocu), (M, lst (ivs ms) eM), (N, lst (ivs xs) e1)] ++ F) [] := by delta peel0c_o; exact .mN (by apply X.both <;> kernel_rfl!)
noncomputable def peel0d_o (X : Cx) (n k N Fo M L cl cs co cu e1 eM lv lt kt1 kt2 kt3 : Nat) (xs ms : NN) (ocs oco ocu : Option Value) (n1 k1 kn1 p1 p2 ea1 : Nat) (as : NN) (G1 : LG) (n2 k2 kn2 q1 q2 ea2 S ks : Nat) (ss : NN) (G2 : LG) (n3 k3 kn3 r1 r2 ea3 Se : Nat) (hs : NN) (G3 : LG) (F : LG) : Out := goN X (kt X) 210 34 [.o 7, .o 7, .o 4, .o 4, .o 4, .o 9, .o 9, .o 8, .o 6, .o 6, .e, .o 6, .o 1] (peel0c_o X n k N Fo M L cl cs co cu e1 eM lv lt kt1 kt2 kt3 xs ms ocs oco ocu n1 k1 kn1 p1 p2 ea1 as G1 n2 k2 kn2 q1 q2 ea2 S ks ss G2 G3) (.ok .next) n3 k3 ([(cl, cel (some (iv lv lt))), (cs, cel (some (.ref Se))), ((n2+1), lst (ivs hs) ea3), ((n2+2), dct [en X "k" kn3 (iv r1 r2)] 1), (S, lst (ivs as) ea1), (Se, lst (ivs ss) ea2), (L, frm [en X "near" kt1 (.ref N), en X "folds" kt2 (.ref Fo), en X "marks" kt3 (.ref M), en X "spots" ks (.ref S)] 4), (co, cel oco), (cu, cel ocu), (M, lst (ivs ms) eM), (N, lst (ivs xs) e1)] ++ F)
theorem peel0d_e (X : Cx) (n k N Fo M L cl cs co cu e1 eM lv lt kt1 kt2 kt3 : Nat) (xs ms : NN) (ocs oco ocu : Option Value) (n1 k1 kn1 p1 p2 ea1 : Nat) (as : NN) (G1 : LG) (n2 k2 kn2 q1 q2 ea2 S ks : Nat) (ss : NN) (G2 : LG) (n3 k3 kn3 r1 r2 ea3 Se : Nat) (hs : NN) (G3 : LG) (F : LG) : RAN X 210 (peel0c_o X n k N Fo M L cl cs co cu e1 eM lv lt kt1 kt2 kt3 xs ms ocs oco ocu n1 k1 kn1 p1 p2 ea1 as G1 n2 k2 kn2 q1 q2 ea2 S ks ss G2 G3) (.ok .next) n3 k3 ([(cl, cel (some (iv lv lt))), (cs, cel (some (.ref Se))), ((n2+1), lst (ivs hs) ea3), ((n2+2), dct [en X "k" kn3 (iv r1 r2)] 1), (S, lst (ivs as) ea1), (Se, lst (ivs ss) ea2), (L, frm [en X "near" kt1 (.ref N), en X "folds" kt2 (.ref Fo), en X "marks" kt3 (.ref M), en X "spots" ks (.ref S)] 4), (co, cel oco), (cu, cel ocu), (M, lst (ivs ms) eM), (N, lst (ivs xs) e1)] ++ F) (peel0d_o X n k N Fo M L cl cs co cu e1 eM lv lt kt1 kt2 kt3 xs ms ocs oco ocu n1 k1 kn1 p1 p2 ea1 as G1 n2 k2 kn2 q1 q2 ea2 S ks ss G2 n3 k3 kn3 r1 r2 ea3 Se hs G3 F) [3, 9, 10, 1, 6, 7, 0, 8, 2, 11, 12, 4] 13 true (overLoop (n3+1) L cl cs co cu) (n3 + 2) (k3 + 1) ([(cs, cel (some (.ref Se))), (co, cel (some (.ref n3))), (cu, cel ocu), (n3, dct [] 0), (S, lst (ivs as) ea1), (Se, lst (ivs ss) ea2), ((n3 + 1), lit S 0), (L, frm [en X "near" kt1 (.ref N), en X "folds" kt2 (.ref Fo), en X "marks" kt3 (.ref M), en X "spots" ks (.ref S), en X "hubs" k3 (.ref (n2 + 1))] 5), (cl, cel (some (iv lv lt))), (M, lst (ivs ms) eM), (N, lst (ivs xs) e1), ((n2 + 1), lst (ivs hs) ea3)] ++ F) [] := by delta peel0d_o; exact .mN (by apply X.both <;> kernel_rfl!)
noncomputable def peel0e_o (X : Cx) (n k N Fo M L cl cs co cu e1 eM lv lt kt1 kt2 kt3 : Nat) (xs ms : NN) (ocs oco ocu : Option Value) (n1 k1 kn1 p1 p2 ea1 : Nat) (as : NN) (G1 : LG) (n2 k2 kn2 q1 q2 ea2 S ks : Nat) (ss : NN) (G2 : LG) (n3 k3 kn3 r1 r2 ea3 Se : Nat) (hs : NN) (G3 : LG) (n4 k4 Od H kh : Nat) (ocv : Option Value) (G4 : LG) (eD : Nat) (ds : List (Nat × Nat × Nat)) (F : LG) : Out := goN X (kt X) 210 16 [.o 7, .o 5, .o 5, .e, .o 5, .o 1] (peel0d_o X n k N Fo M L cl cs co cu e1 eM lv lt kt1 kt2 kt3 xs ms ocs oco ocu n1 k1 kn1 p1 p2 ea1 as G1 n2 k2 kn2 q1 q2 ea2 S ks ss G2 n3 k3 kn3 r1 r2 ea3 Se hs G3 G4) (.ok .next) n4 k4 ([(cs, cel (some (.ref Se))), (co, cel (some (.ref Od))), (cu, cel ocv), (Od, dct (dcs ds) eD), (S, lst (ivs as) ea1), (Se, lst (ivs ss) ea2), (L, frm [en X "near" kt1 (.ref N), en X "folds" kt2 (.ref Fo), en X "marks" kt3 (.ref M), en X "spots" ks (.ref S), en X "hubs" kh (.ref H)] 5), (cl, cel (some (iv lv lt))), (M, lst (ivs ms) eM), (N, lst (ivs xs) e1), (H, lst (ivs hs) ea3)] ++ F)
theorem peel0e_e (X : Cx) (n k N Fo M L cl cs co cu e1 eM lv lt kt1 kt2 kt3 : Nat) (xs ms : NN) (ocs oco ocu : Option Value) (n1 k1 kn1 p1 p2 ea1 : Nat) (as : NN) (G1 : LG) (n2 k2 kn2 q1 q2 ea2 S ks : Nat) (ss : NN) (G2 : LG) (n3 k3 kn3 r1 r2 ea3 Se : Nat) (hs : NN) (G3 : LG) (n4 k4 Od H kh : Nat) (ocv : Option Value) (G4 : LG) (eD : Nat) (ds : List (Nat × Nat × Nat)) (F : LG) : RAN X 210 (peel0d_o X n k N Fo M L cl cs co cu e1 eM lv lt kt1 kt2 kt3 xs ms ocs oco ocu n1 k1 kn1 p1 p2 ea1 as G1 n2 k2 kn2 q1 q2 ea2 S ks ss G2 n3 k3 kn3 r1 r2 ea3 Se hs G3 G4) (.ok .next) n4 k4 ([(cs, cel (some (.ref Se))), (co, cel (some (.ref Od))), (cu, cel ocv), (Od, dct (dcs ds) eD), (S, lst (ivs as) ea1), (Se, lst (ivs ss) ea2), (L, frm [en X "near" kt1 (.ref N), en X "folds" kt2 (.ref Fo), en X "marks" kt3 (.ref M), en X "spots" ks (.ref S), en X "hubs" kh (.ref H)] 5), (cl, cel (some (iv lv lt))), (M, lst (ivs ms) eM), (N, lst (ivs xs) e1), (H, lst (ivs hs) ea3)] ++ F) (peel0e_o X n k N Fo M L cl cs co cu e1 eM lv lt kt1 kt2 kt3 xs ms ocs oco ocu n1 k1 kn1 p1 p2 ea1 as G1 n2 k2 kn2 q1 q2 ea2 S ks ss G2 n3 k3 kn3 r1 r2 ea3 Se hs G3 n4 k4 Od H kh ocv G4 eD ds F) [4, 1, 0, 2, 7, 6, 3, 5, 8, 9, 10, 11, 12, 13] 14 true (.compStart c5 0 (.ref n4) (.ref (n4+1)) (c5Env (n4+2) L cl cs co cu)) (n4 + 3) k4 ([(co, cel (some (.ref Od))), ((n4 + 1), lst [] 0), ((n4 + 2), dct [] 0), (n4, lit S 0), (S, lst (ivs as) ea1), (Od, dct (dcs ds) eD), (cs, cel (some (.ref Se))), (cu, cel ocv), (Se, lst (ivs ss) ea2), (L, frm [en X "near" kt1 (.ref N), en X "folds" kt2 (.ref Fo), en X "marks" kt3 (.ref M), en X "spots" ks (.ref S), en X "hubs" kh (.ref H)] 5), (cl, cel (some (iv lv lt))), (M, lst (ivs ms) eM), (N, lst (ivs xs) e1), (H, lst (ivs hs) ea3)] ++ F) [] := by delta peel0e_o; exact .mN (by apply X.both <;> kernel_rfl!)
theorem peel0f_e (X : Cx) (n k N Fo M L cl cs co cu e1 eM lv lt kt1 kt2 kt3 : Nat) (xs ms : NN) (ocs oco ocu : Option Value) (n1 k1 kn1 p1 p2 ea1 : Nat) (as : NN) (G1 : LG) (n2 k2 kn2 q1 q2 ea2 S ks : Nat) (ss : NN) (G2 : LG) (n3 k3 kn3 r1 r2 ea3 Se : Nat) (hs : NN) (G3 : LG) (n4 k4 Od H kh : Nat) (ocv : Option Value) (G4 : LG) (eD : Nat) (ds : List (Nat × Nat × Nat)) (n5 k5 kn5 t1 t2 ea5 : Nat) (gs : NN) (G5 : LG) (F : LG) : REN X 210 (peel0e_o X n k N Fo M L cl cs co cu e1 eM lv lt kt1 kt2 kt3 xs ms ocs oco ocu n1 k1 kn1 p1 p2 ea1 as G1 n2 k2 kn2 q1 q2 ea2 S ks ss G2 n3 k3 kn3 r1 r2 ea3 Se hs G3 n4 k4 Od H kh ocv G4 eD ds G5) (.ok .next) n5 k5 ([(co, cel (some (.ref Od))), ((n4+1), lst (ivs gs) ea5), ((n4+2), dct [en X "u" kn5 (iv t1 t2)] 1), (S, lst (ivs as) ea1), (Od, dct (dcs ds) eD), (cs, cel (some (.ref Se))), (cu, cel ocv), (Se, lst (ivs ss) ea2), (L, frm [en X "near" kt1 (.ref N), en X "folds" kt2 (.ref Fo), en X "marks" kt3 (.ref M), en X "spots" ks (.ref S), en X "hubs" kh (.ref H)] 5), (cl, cel (some (iv lv lt))), (M, lst (ivs ms) eM), (N, lst (ivs xs) e1), (H, lst (ivs hs) ea3)] ++ F) [8, 9, 5, 0, 6, 10, 11, 4, 12, 1] 13 (.done (.next)) n5 (k5 + 1) ([(L, frm [en X "near" kt1 (.ref N), en X "folds" kt2 (.ref Fo), en X "marks" kt3 (.ref M), en X "spots" ks (.ref S), en X "hubs" kh (.ref H), en X "gone" k5 (.ref (n4 + 1))] 6), (cl, cel (some (iv lv lt))), (cs, cel (some (.ref Se))), (co, cel (some (.ref Od))), (cu, cel ocv), (M, lst (ivs ms) eM), (N, lst (ivs xs) e1), (Od, dct (dcs ds) eD), (H, lst (ivs hs) ea3), ((n4 + 1), lst (ivs gs) ea5)] ++ F) [] := .mk 13 [.o 9, .o 9, .o 3, .o 3, .o 3] (by apply X.both <;> kernel_rfl!)
noncomputable def peel1a_o (X : Cx) (n k N Fo M L cl cs co cu e1 eM lv lt kt1 kt2 kt3 ks kh kg b1 b2 b3 : Nat) (xs ms : NN) (ocs oco ocu : Option Value) (F : LG) : Out := go X (kt X) 210 40 [.o 0, .o 0, .e, .e, .o 1, .o 1, .e, .o 1, .o 1, .o 1, .o 1, .e, .o 1, .o 1, .o 1, .o 1, .o 1] [] (peelLoop L cl cs co cu) (PySem.W.R.bindR (execsT (peelW.take 6) (peelEnv L cl cs co cu)) (fun f => .pure (.done f))) n k ([(L, frm [en X "near" kt1 (.ref N), en X "folds" kt2 (.ref Fo), en X "marks" kt3 (.ref M), en X "spots" ks (.ref b1), en X "hubs" kh (.ref b2), en X "gone" kg (.ref b3)] 6), (cl, cel (some (iv lv lt))), (cs, cel ocs), (co, cel oco), (cu, cel ocu), (M, lst (ivs ms) eM), (N, lst (ivs xs) e1)] ++ F)
theorem peel1a_e (X : Cx) (n k N Fo M L cl cs co cu e1 eM lv lt kt1 kt2 kt3 ks kh kg b1 b2 b3 : Nat) (xs ms : NN) (ocs oco ocu : Option Value) (F : LG) : RA X 210 [] (peelLoop L cl cs co cu) (PySem.W.R.bindR (execsT (peelW.take 6) (peelEnv L cl cs co cu)) (fun f => .pure (.done f))) n k ([(L, frm [en X "near" kt1 (.ref N), en X "folds" kt2 (.ref Fo), en X "marks" kt3 (.ref M), en X "spots" ks (.ref b1), en X "hubs" kh (.ref b2), en X "gone" kg (.ref b3)] 6), (cl, cel (some (iv lv lt))), (cs, cel ocs), (co, cel oco), (cu, cel ocu), (M, lst (ivs ms) eM), (N, lst (ivs xs) e1)] ++ F) (peel1a_o X n k N Fo M L cl cs co cu e1 eM lv lt kt1 kt2 kt3 ks kh kg b1 b2 b3 xs ms ocs oco ocu F) [5, 1, 0, 2, 4, 6, 7, 8, 9, 10] 11 true (.compStart c1 0 (.ref (n+1)) (.ref (n+2)) (c1Env (n+3) L cl cs co cu)) (n + 4) (k + 3) ([(cl, cel (some (iv lv lt))), ((n + 2), lst [] 0), ((n + 3), dct [] 0), ((n + 1), rit 0 7), (L, frm [en X "near" kt1 (.ref N), en X "folds" kt2 (.ref Fo), en X "marks" kt3 (.ref M), en X "spots" ks (.ref b1), en X "hubs" kh (.ref b2), en X "gone" kg (.ref b3)] 6), (cs, cel ocs), (co, cel oco), (cu, cel ocu), (M, lst (ivs ms) eM), (N, lst (ivs xs) e1)] ++ F) [] := by delta peel1a_o; exact .m (by apply X.both <;> kernel_rfl!)
noncomputable def peel1b_o (X : Cx) (n k N Fo M L cl cs co cu e1 eM lv lt kt1 kt2 kt3 ks kh kg b1 b2 b3 : Nat) (xs ms : NN) (ocs oco ocu : Option Value) (n1 k1 kn1 p1 p2 ea1 : Nat) (as : NN) (G1 : LG) (F : LG) : Out := goN X (kt X) 210 28 [.o 4, .o 4, .o 3, .o 3, .o 3, .o 4, .o 9, .o 9, .e, .o 9, .o 1] (peel1a_o X n k N Fo M L cl cs co cu e1 eM lv lt kt1 kt2 kt3 ks kh kg b1 b2 b3 xs ms ocs oco ocu G1) (.ok .next) n1 k1 ([(cl, cel (some (iv lv lt))), ((n+2), lst (ivs as) ea1), ((n+3), dct [en X "k" kn1 (iv p1 p2)] 1), (L, frm [en X "near" kt1 (.ref N), en X "folds" kt2 (.ref Fo), en X "marks" kt3 (.ref M), en X "spots" ks (.ref b1), en X "hubs" kh (.ref b2), en X "gone" kg (.ref b3)] 6), (cs, cel ocs), (co, cel oco), (cu, cel ocu), (M, lst (ivs ms) eM), (N, lst (ivs xs) e1)] ++ F)
theorem peel1b_e (X : Cx) (n k N Fo M L cl cs co cu e1 eM lv lt kt1 kt2 kt3 ks kh kg b1 b2 b3 : Nat) (xs ms : NN) (ocs oco ocu : Option Value) (n1 k1 kn1 p1 p2 ea1 : Nat) (as : NN) (G1 : LG) (F : LG) : RAN X 210 (peel1a_o X n k N Fo M L cl cs co cu e1 eM lv lt kt1 kt2 kt3 ks kh kg b1 b2 b3 xs ms ocs oco ocu G1) (.ok .next) n1 k1 ([(cl, cel (some (iv lv lt))), ((n+2), lst (ivs as) ea1), ((n+3), dct [en X "k" kn1 (iv p1 p2)] 1), (L, frm [en X "near" kt1 (.ref N), en X "folds" kt2 (.ref Fo), en X "marks" kt3 (.ref M), en X "spots" ks (.ref b1), en X "hubs" kh (.ref b2), en X "gone" kg (.ref b3)] 6), (cs, cel ocs), (co, cel oco), (cu, cel ocu), (M, lst (ivs ms) eM), (N, lst (ivs xs) e1)] ++ F) (peel1b_o X n k N Fo M L cl cs co cu e1 eM lv lt kt1 kt2 kt3 ks kh kg b1 b2 b3 xs ms ocs oco ocu n1 k1 kn1 p1 p2 ea1 as G1 F) [3, 1, 0, 2, 11, 6, 7, 8, 9, 10, 4] 12 true (.compStart c2 0 (.ref n1) (.ref (n1+1)) (c2Env (n1+2) L cl cs co cu)) (n1 + 3) (k1 + 1) ([(cl, cel (some (iv lv lt))), ((n1 + 1), lst [] 0), ((n1 + 2), dct [] 0), (n1, lit N 0), (N, lst (ivs xs) e1), (L, frm [en X "near" kt1 (.ref N), en X "folds" kt2 (.ref Fo), en X "marks" kt3 (.ref M), en X "spots" ks (.ref (n + 2)), en X "hubs" kh (.ref b2), en X "gone" kg (.ref b3)] 6), (cs, cel ocs), (co, cel oco), (cu, cel ocu), (M, lst (ivs ms) eM), ((n + 2), lst (ivs as) ea1)] ++ F) [] := by delta peel1b_o; exact .mN (by apply X.both <;> kernel_rfl!)
noncomputable def peel1c_o (X : Cx) (n k N Fo M L cl cs co cu e1 eM lv lt kt1 kt2 kt3 ks kh kg b1 b2 b3 : Nat) (xs ms : NN) (ocs oco ocu : Option Value) (n1 k1 kn1 p1 p2 ea1 : Nat) (as : NN) (G1 : LG) (n2 k2 kn2 q1 q2 ea2 S : Nat) (ss : NN) (G2 : LG) (F : LG) : Out := goN X (kt X) 210 26 [.o 3, .o 3, .o 3, .o 6, .o 6, .o 5, .o 10, .o 10, .e, .o 10, .o 1] (peel1b_o X n k N Fo M L cl cs co cu e1 eM lv lt kt1 kt2 kt3 ks kh kg b1 b2 b3 xs ms ocs oco ocu n1 k1 kn1 p1 p2 ea1 as G1 G2) (.ok .next) n2 k2 ([(cl, cel (some (iv lv lt))), ((n1+1), lst (ivs ss) ea2), ((n1+2), dct [en X "sight" kn2 (iv q1 q2)] 1), (N, lst (ivs xs) e1), (L, frm [en X "near" kt1 (.ref N), en X "folds" kt2 (.ref Fo), en X "marks" kt3 (.ref M), en X "spots" ks (.ref S), en X "hubs" kh (.ref b2), en X "gone" kg (.ref b3)] 6), (cs, cel ocs), (co, cel oco), (cu, cel ocu), (M, lst (ivs ms) eM), (S, lst (ivs as) ea1)] ++ F)
theorem peel1c_e (X : Cx) (n k N Fo M L cl cs co cu e1 eM lv lt kt1 kt2 kt3 ks kh kg b1 b2 b3 : Nat) (xs ms : NN) (ocs oco ocu : Option Value) (n1 k1 kn1 p1 p2 ea1 : Nat) (as : NN) (G1 : LG) (n2 k2 kn2 q1 q2 ea2 S : Nat) (ss : NN) (G2 : LG) (F : LG) : RAN X 210 (peel1b_o X n k N Fo M L cl cs co cu e1 eM lv lt kt1 kt2 kt3 ks kh kg b1 b2 b3 xs ms ocs oco ocu n1 k1 kn1 p1 p2 ea1 as G1 G2) (.ok .next) n2 k2 ([(cl, cel (some (iv lv lt))), ((n1+1), lst (ivs ss) ea2), ((n1+2), dct [en X "sight" kn2 (iv q1 q2)] 1), (N, lst (ivs xs) e1), (L, frm [en X "near" kt1 (.ref N), en X "folds" kt2 (.ref Fo), en X "marks" kt3 (.ref M), en X "spots" ks (.ref S), en X "hubs" kh (.ref b2), en X "gone" kg (.ref b3)] 6), (cs, cel ocs), (co, cel oco), (cu, cel ocu), (M, lst (ivs ms) eM), (S, lst (ivs as) ea1)] ++ F) (peel1c_o X n k N Fo M L cl cs co cu e1 eM lv lt kt1 kt2 kt3 ks kh kg b1 b2 b3 xs ms ocs oco ocu n1 k1 kn1 p1 p2 ea1 as G1 n2 k2 kn2 q1 q2 ea2 S ss G2 F) [3, 8, 1, 0, 2, 12, 4, 7, 9, 10, 11, 6] 13 true (.compStart c3 0 (.ref n2) (.ref (n2+1)) (c3Env (n2+2) L cl cs co cu)) (n2 + 3) k2 ([(cl, cel (some (iv lv lt))), (cs, cel (some (.ref (n1 + 1)))), ((n2 + 1), lst [] 0), ((n2 + 2), dct [] 0), (n2, lit S 0), (S, lst (ivs as) ea1), ((n1 + 1), lst (ivs ss) ea2), (L, frm [en X "near" kt1 (.ref N), en X "folds" kt2 (.ref Fo), en X "marks" kt3 (.ref M), en X "spots" ks (.ref S), en X "hubs" kh (.ref b2), en X "gone" kg (.ref b3)] 6), (co, cel oco), (cu, cel ocu), (M, lst (ivs ms) eM), (N, lst (ivs xs) e1)] ++ F) [] := by delta peel1c_o; exact .mN (by apply X.both <;> kernel_rfl!)
noncomputable def peel1d_o (X : Cx) (n k N Fo M L cl cs co cu e1 eM lv lt kt1 kt2 kt3 ks kh kg b1 b2 b3 : Nat) (xs ms : NN) (ocs oco ocu : Option Value) (n1 k1 kn1 p1 p2 ea1 : Nat) (as : NN) (G1 : LG) (n2 k2 kn2 q1 q2 ea2 S : Nat) (ss : NN) (G2 : LG) (n3 k3 kn3 r1 r2 ea3 Se : Nat) (hs : NN) (G3 : LG) (F : LG) : Out := goN X (kt X) 210 34 [.o 7, .o 7, .o 4, .o 4, .o 4, .o 9, .o 9, .o 8, .o 6, .o 6, .e, .o 6, .o 1] (peel1c_o X n k N Fo M L cl cs co cu e1 eM lv lt kt1 kt2 kt3 ks kh kg b1 b2 b3 xs ms ocs oco ocu n1 k1 kn1 p1 p2 ea1 as G1 n2 k2 kn2 q1 q2 ea2 S ss G2 G3) (.ok .next) n3 k3 ([(cl, cel (some (iv lv lt))), (cs, cel (some (.ref Se))), ((n2+1), lst (ivs hs) ea3), ((n2+2), dct [en X "k" kn3 (iv r1 r2)] 1), (S, lst (ivs as) ea1), (Se, lst (ivs ss) ea2), (L, frm [en X "near" kt1 (.ref N), en X "folds" kt2 (.ref Fo), en X "marks" kt3 (.ref M), en X "spots" ks (.ref S), en X "hubs" kh (.ref b2), en X "gone" kg (.ref b3)] 6), (co, cel oco), (cu, cel ocu), (M, lst (ivs ms) eM), (N, lst (ivs xs) e1)] ++ F)
theorem peel1d_e (X : Cx) (n k N Fo M L cl cs co cu e1 eM lv lt kt1 kt2 kt3 ks kh kg b1 b2 b3 : Nat) (xs ms : NN) (ocs oco ocu : Option Value) (n1 k1 kn1 p1 p2 ea1 : Nat) (as : NN) (G1 : LG) (n2 k2 kn2 q1 q2 ea2 S : Nat) (ss : NN) (G2 : LG) (n3 k3 kn3 r1 r2 ea3 Se : Nat) (hs : NN) (G3 : LG) (F : LG) : RAN X 210 (peel1c_o X n k N Fo M L cl cs co cu e1 eM lv lt kt1 kt2 kt3 ks kh kg b1 b2 b3 xs ms ocs oco ocu n1 k1 kn1 p1 p2 ea1 as G1 n2 k2 kn2 q1 q2 ea2 S ss G2 G3) (.ok .next) n3 k3 ([(cl, cel (some (iv lv lt))), (cs, cel (some (.ref Se))), ((n2+1), lst (ivs hs) ea3), ((n2+2), dct [en X "k" kn3 (iv r1 r2)] 1), (S, lst (ivs as) ea1), (Se, lst (ivs ss) ea2), (L, frm [en X "near" kt1 (.ref N), en X "folds" kt2 (.ref Fo), en X "marks" kt3 (.ref M), en X "spots" ks (.ref S), en X "hubs" kh (.ref b2), en X "gone" kg (.ref b3)] 6), (co, cel oco), (cu, cel ocu), (M, lst (ivs ms) eM), (N, lst (ivs xs) e1)] ++ F) (peel1d_o X n k N Fo M L cl cs co cu e1 eM lv lt kt1 kt2 kt3 ks kh kg b1 b2 b3 xs ms ocs oco ocu n1 k1 kn1 p1 p2 ea1 as G1 n2 k2 kn2 q1 q2 ea2 S ss G2 n3 k3 kn3 r1 r2 ea3 Se hs G3 F) [3, 9, 10, 1, 6, 7, 0, 8, 2, 11, 12, 4] 13 true (overLoop (n3+1) L cl cs co cu) (n3 + 2) (k3 + 1) ([(cs, cel (some (.ref Se))), (co, cel (some (.ref n3))), (cu, cel ocu), (n3, dct [] 0), (S, lst (ivs as) ea1), (Se, lst (ivs ss) ea2), ((n3 + 1), lit S 0), (L, frm [en X "near" kt1 (.ref N), en X "folds" kt2 (.ref Fo), en X "marks" kt3 (.ref M), en X "spots" ks (.ref S), en X "hubs" kh (.ref (n2 + 1)), en X "gone" kg (.ref b3)] 6), (cl, cel (some (iv lv lt))), (M, lst (ivs ms) eM), (N, lst (ivs xs) e1), ((n2 + 1), lst (ivs hs) ea3)] ++ F) [] := by delta peel1d_o; exact .mN (by apply X.both <;> kernel_rfl!)
noncomputable def peel1e_o (X : Cx) (n k N Fo M L cl cs co cu e1 eM lv lt kt1 kt2 kt3 ks kh kg b1 b2 b3 : Nat) (xs ms : NN) (ocs oco ocu : Option Value) (n1 k1 kn1 p1 p2 ea1 : Nat) (as : NN) (G1 : LG) (n2 k2 kn2 q1 q2 ea2 S : Nat) (ss : NN) (G2 : LG) (n3 k3 kn3 r1 r2 ea3 Se : Nat) (hs : NN) (G3 : LG) (n4 k4 Od H : Nat) (ocv : Option Value) (G4 : LG) (eD : Nat) (ds : List (Nat × Nat × Nat)) (F : LG) : Out := goN X (kt X) 210 16 [.o 7, .o 5, .o 5, .e, .o 5, .o 1] (peel1d_o X n k N Fo M L cl cs co cu e1 eM lv lt kt1 kt2 kt3 ks kh kg b1 b2 b3 xs ms ocs oco ocu n1 k1 kn1 p1 p2 ea1 as G1 n2 k2 kn2 q1 q2 ea2 S ss G2 n3 k3 kn3 r1 r2 ea3 Se hs G3 G4) (.ok .next) n4 k4 ([(cs, cel (some (.ref Se))), (co, cel (some (.ref Od))), (cu, cel ocv), (Od, dct (dcs ds) eD), (S, lst (ivs as) ea1), (Se, lst (ivs ss) ea2), (L, frm [en X "near" kt1 (.ref N), en X "folds" kt2 (.ref Fo), en X "marks" kt3 (.ref M), en X "spots" ks (.ref S), en X "hubs" kh (.ref H), en X "gone" kg (.ref b3)] 6), (cl, cel (some (iv lv lt))), (M, lst (ivs ms) eM), (N, lst (ivs xs) e1), (H, lst (ivs hs) ea3)] ++ F)
theorem peel1e_e (X : Cx) (n k N Fo M L cl cs co cu e1 eM lv lt kt1 kt2 kt3 ks kh kg b1 b2 b3 : Nat) (xs ms : NN) (ocs oco ocu : Option Value) (n1 k1 kn1 p1 p2 ea1 : Nat) (as : NN) (G1 : LG) (n2 k2 kn2 q1 q2 ea2 S : Nat) (ss : NN) (G2 : LG) (n3 k3 kn3 r1 r2 ea3 Se : Nat) (hs : NN) (G3 : LG) (n4 k4 Od H : Nat) (ocv : Option Value) (G4 : LG) (eD : Nat) (ds : List (Nat × Nat × Nat)) (F : LG) : RAN X 210 (peel1d_o X n k N Fo M L cl cs co cu e1 eM lv lt kt1 kt2 kt3 ks kh kg b1 b2 b3 xs ms ocs oco ocu n1 k1 kn1 p1 p2 ea1 as G1 n2 k2 kn2 q1 q2 ea2 S ss G2 n3 k3 kn3 r1 r2 ea3 Se hs G3 G4) (.ok .next) n4 k4 ([(cs, cel (some (.ref Se))), (co, cel (some (.ref Od))), (cu, cel ocv), (Od, dct (dcs ds) eD), (S, lst (ivs as) ea1), (Se, lst (ivs ss) ea2), (L, frm [en X "near" kt1 (.ref N), en X "folds" kt2 (.ref Fo), en X "marks" kt3 (.ref M), en X "spots" ks (.ref S), en X "hubs" kh (.ref H), en X "gone" kg (.ref b3)] 6), (cl, cel (some (iv lv lt))), (M, lst (ivs ms) eM), (N, lst (ivs xs) e1), (H, lst (ivs hs) ea3)] ++ F) (peel1e_o X n k N Fo M L cl cs co cu e1 eM lv lt kt1 kt2 kt3 ks kh kg b1 b2 b3 xs ms ocs oco ocu n1 k1 kn1 p1 p2 ea1 as G1 n2 k2 kn2 q1 q2 ea2 S ss G2 n3 k3 kn3 r1 r2 ea3 Se hs G3 n4 k4 Od H ocv G4 eD ds F) [4, 1, 0, 2, 7, 6, 3, 5, 8, 9, 10, 11, 12, 13] 14 true (.compStart c5 0 (.ref n4) (.ref (n4+1)) (c5Env (n4+2) L cl cs co cu)) (n4 + 3) k4 ([(co, cel (some (.ref Od))), ((n4 + 1), lst [] 0), ((n4 + 2), dct [] 0), (n4, lit S 0), (S, lst (ivs as) ea1), (Od, dct (dcs ds) eD), (cs, cel (some (.ref Se))), (cu, cel ocv), (Se, lst (ivs ss) ea2), (L, frm [en X "near" kt1 (.ref N), en X "folds" kt2 (.ref Fo), en X "marks" kt3 (.ref M), en X "spots" ks (.ref S), en X "hubs" kh (.ref H), en X "gone" kg (.ref b3)] 6), (cl, cel (some (iv lv lt))), (M, lst (ivs ms) eM), (N, lst (ivs xs) e1), (H, lst (ivs hs) ea3)] ++ F) [] := by delta peel1e_o; exact .mN (by apply X.both <;> kernel_rfl!)
theorem peel1f_e (X : Cx) (n k N Fo M L cl cs co cu e1 eM lv lt kt1 kt2 kt3 ks kh kg b1 b2 b3 : Nat) (xs ms : NN) (ocs oco ocu : Option Value) (n1 k1 kn1 p1 p2 ea1 : Nat) (as : NN) (G1 : LG) (n2 k2 kn2 q1 q2 ea2 S : Nat) (ss : NN) (G2 : LG) (n3 k3 kn3 r1 r2 ea3 Se : Nat) (hs : NN) (G3 : LG) (n4 k4 Od H : Nat) (ocv : Option Value) (G4 : LG) (eD : Nat) (ds : List (Nat × Nat × Nat)) (n5 k5 kn5 t1 t2 ea5 : Nat) (gs : NN) (G5 : LG) (F : LG) : REN X 210 (peel1e_o X n k N Fo M L cl cs co cu e1 eM lv lt kt1 kt2 kt3 ks kh kg b1 b2 b3 xs ms ocs oco ocu n1 k1 kn1 p1 p2 ea1 as G1 n2 k2 kn2 q1 q2 ea2 S ss G2 n3 k3 kn3 r1 r2 ea3 Se hs G3 n4 k4 Od H ocv G4 eD ds G5) (.ok .next) n5 k5 ([(co, cel (some (.ref Od))), ((n4+1), lst (ivs gs) ea5), ((n4+2), dct [en X "u" kn5 (iv t1 t2)] 1), (S, lst (ivs as) ea1), (Od, dct (dcs ds) eD), (cs, cel (some (.ref Se))), (cu, cel ocv), (Se, lst (ivs ss) ea2), (L, frm [en X "near" kt1 (.ref N), en X "folds" kt2 (.ref Fo), en X "marks" kt3 (.ref M), en X "spots" ks (.ref S), en X "hubs" kh (.ref H), en X "gone" kg (.ref b3)] 6), (cl, cel (some (iv lv lt))), (M, lst (ivs ms) eM), (N, lst (ivs xs) e1), (H, lst (ivs hs) ea3)] ++ F) [8, 9, 5, 0, 6, 10, 11, 4, 12, 1] 13 (.done (.next)) n5 (k5 + 1) ([(L, frm [en X "near" kt1 (.ref N), en X "folds" kt2 (.ref Fo), en X "marks" kt3 (.ref M), en X "spots" ks (.ref S), en X "hubs" kh (.ref H), en X "gone" kg (.ref (n4 + 1))] 6), (cl, cel (some (iv lv lt))), (cs, cel (some (.ref Se))), (co, cel (some (.ref Od))), (cu, cel ocv), (M, lst (ivs ms) eM), (N, lst (ivs xs) e1), (Od, dct (dcs ds) eD), (H, lst (ivs hs) ea3), ((n4 + 1), lst (ivs gs) ea5)] ++ F) [] := .mk 13 [.o 9, .o 9, .o 3, .o 3, .o 3] (by apply X.both <;> kernel_rfl!)
noncomputable def over1_o (X : Cx) (n k it L cl cs co cu N Fo M Od S Se i eD eS eE kt1 kt2 kt3 ks cn : Nat) (xs ss : NN) (ds : List (Nat × Nat × Nat)) (ocu : Option Value) (es : List DictEntry) (F : LG) (y1 y2 : Nat) : Out := goC X (kt X) 140 23 [.o 7, .g false (.ok (.ret (iv y1 y2))) k [6, 4] [(6, lit S (i + 1))] [], .o 3, .o 3, .o 8, .o 5, .o 5, .e, .o 5, .o 1] (overLoop it L cl cs co cu) n k ([(cs, cel (some (.ref Se))), (co, cel (some (.ref Od))), (cu, cel ocu), (Od, dct (dcs ds) eD), (S, lst (ivs xs) eS), (Se, lst (ivs ss) eE), (it, lit S i), (L, frm (en X "near" kt1 (.ref N) :: en X "folds" kt2 (.ref Fo) :: en X "marks" kt3 (.ref M) :: en X "spots" ks (.ref S) :: es) cn)] ++ F)
theorem over1_e (X : Cx) (n k it L cl cs co cu N Fo M Od S Se i eD eS eE kt1 kt2 kt3 ks cn : Nat) (xs ss : NN) (ds : List (Nat × Nat × Nat)) (ocu : Option Value) (es : List DictEntry) (F : LG) (y1 y2 : Nat) : RAC X 140 (overLoop it L cl cs co cu) n k ([(cs, cel (some (.ref Se))), (co, cel (some (.ref Od))), (cu, cel ocu), (Od, dct (dcs ds) eD), (S, lst (ivs xs) eS), (Se, lst (ivs ss) eE), (it, lit S i), (L, frm (en X "near" kt1 (.ref N) :: en X "folds" kt2 (.ref Fo) :: en X "marks" kt3 (.ref M) :: en X "spots" ks (.ref S) :: es) cn)] ++ F) (over1_o X n k it L cl cs co cu N Fo M Od S Se i eD eS eE kt1 kt2 kt3 ks cn xs ss ds ocu es F y1 y2) [3, 5, 1, 0, 2, 7, 8, 4, 6, 9, 10] 11 true (.compStart c4 0 (.ref n) (.ref (n+1)) (c4Env (n+2) L cl cs co cu)) (n + 3) k ([(cs, cel (some (.ref Se))), (cu, cel (some (iv y1 y2))), ((n + 1), lst [] 0), ((n + 2), dct [] 0), (n, lit S 0), (S, lst (ivs xs) eS), (Se, lst (ivs ss) eE), (co, cel (some (.ref Od))), (Od, dct (dcs ds) eD), (it, lit S (i + 1)), (L, frm (en X "near" kt1 (.ref N) :: en X "folds" kt2 (.ref Fo) :: en X "marks" kt3 (.ref M) :: en X "spots" ks (.ref S) :: es) cn)] ++ F) [CutG X 140 false (bi "list_iterator.__next__" [(.ref it)]) (.ok (.ret (iv y1 y2))) [(it, lit S i), (S, lst (ivs xs) eS)] n k k [(it, lit S (i + 1))] []] := by delta over1_o; exact .mC (by apply X.both <;> kernel_rfl!)
theorem over2_e (X : Cx) (n k it L cl cs co cu N Fo M Od S Se i eD eS eE kt1 kt2 kt3 ks cn : Nat) (xs ss : NN) (ds : List (Nat × Nat × Nat)) (ocu : Option Value) (es : List DictEntry) (z1 z2 n1 k1 kn p1 p2 ea u tu : Nat) (vs : NN) (G1 : LG) (F : LG) (d1 : List (Nat × Nat × Nat)) : REN X 140 (over1_o X n k it L cl cs co cu N Fo M Od S Se i eD eS eE kt1 kt2 kt3 ks cn xs ss ds ocu es G1 z1 z2) (.ok .next) n1 k1 ([(cs, cel (some (.ref Se))), (cu, cel (some (iv u tu))), ((n+1), lst (ivs vs) ea), ((n+2), dct [en X "v" kn (iv p1 p2)] 1), (S, lst (ivs xs) eS), (Se, lst (ivs ss) eE), (co, cel (some (.ref Od))), (Od, dct (dcs ds) eD), (it, lit S (i+1)), (L, frm (en X "near" kt1 (.ref N) :: en X "folds" kt2 (.ref Fo) :: en X "marks" kt3 (.ref M) :: en X "spots" ks (.ref S) :: es) cn)] ++ F) [2, 0, 6, 1, 7, 4, 5, 8, 9] 10 (.again (overLoop it L cl cs co cu)) n1 (k1 + 1) ([((n + 1), lst (ivs vs) ea), (cs, cel (some (.ref Se))), (co, cel (some (.ref Od))), (cu, cel (some (iv u tu))), (Od, dct (dcs d1) (eD + 1)), (S, lst (ivs xs) eS), (Se, lst (ivs ss) eE), (it, lit S (i + 1)), (L, frm (en X "near" kt1 (.ref N) :: en X "folds" kt2 (.ref Fo) :: en X "marks" kt3 (.ref M) :: en X "spots" ks (.ref S) :: es) cn)] ++ F) [CutG X 140 false (bi "dict.__setitem__" [(.ref Od), (iv u tu), (.ref (n + 1))]) (.ok (.ret .none)) [(Od, dct (dcs ds) eD)] n1 k1 (k1 + 1) [(Od, dct (dcs d1) (eD + 1))] []] := .mk 14 [.o 4, .o 4, .o 4, .o 7, .o 2, .o 8, .o 8, .g false (.ok (.ret .none)) (k1 + 1) [7] [(7, dct (dcs d1) (eD + 1))] []] (by apply X.both <;> kernel_rfl!)
theorem over3_e (X : Cx) (n k it L cl cs co cu N Fo M Od S Se i eD eS eE kt1 kt2 kt3 ks cn : Nat) (xs ss : NN) (ds : List (Nat × Nat × Nat)) (ocu : Option Value) (es : List DictEntry) (F : LG) : REC X 140 (overLoop it L cl cs co cu) n k ([(cs, cel (some (.ref Se))), (co, cel (some (.ref Od))), (cu, cel ocu), (Od, dct (dcs ds) eD), (S, lst (ivs xs) eS), (Se, lst (ivs ss) eE), (it, lit S i), (L, frm (en X "near" kt1 (.ref N) :: en X "folds" kt2 (.ref Fo) :: en X "marks" kt3 (.ref M) :: en X "spots" ks (.ref S) :: es) cn)] ++ F) [2, 3, 4, 5, 6, 7, 9] 10 (.done (.next)) (n + 2) k ([(cs, cel (some (.ref Se))), (co, cel (some (.ref Od))), (cu, cel ocu), (Od, dct (dcs ds) eD), (S, lst (ivs xs) eS), (Se, lst (ivs ss) eE), (L, frm (en X "near" kt1 (.ref N) :: en X "folds" kt2 (.ref Fo) :: en X "marks" kt3 (.ref M) :: en X "spots" ks (.ref S) :: es) cn)] ++ F) [CutG X 140 false (bi "list_iterator.__next__" [(.ref it)]) (.error (.ref (n + 1))) [(it, lit S i), (S, lst (ivs xs) eS)] n k k [(it, fld "list_iterator" [.none, (iv i 0)])] [tup [], fld "StopIteration" [(.ref n), .none, .none, .none, (.bool false), .none]]] := .mk 5 [.o 7, .g false (.error (.ref (n + 1))) k [6, 4] [(6, fld "list_iterator" [.none, (iv i 0)])] [tup [], fld "StopIteration" [(.ref n), .none, .none, .none, (.bool false), .none]], .o 1] (by kernel_rfl!)
theorem c1t0_e (X : Cx) (n k L cl cs co cu it acc ns ea lv lt x lf : Nat) (as : NN) (F : LG) (y1 y2 y3 : Nat) (z1 : NN) : REC X 0 (.compLoop c1 0 (.ref it) (.ref acc) (c1Env ns L cl cs co cu)) n k ([(cl, cel (some (iv lv lt))), (acc, lst (ivs as) ea), (ns, dct [] 0), (it, rit x lf)] ++ F) [0, 1, 2, 3] 4 (.again (.compLoop c1 0 (.ref it) (.ref acc) (c1Env ns L cl cs co cu))) n (k + 5) ([(cl, cel (some (iv lv lt))), (acc, lst (ivs z1) (ea + 1)), (ns, dct [en X "k" (k + 1) (iv x k)] 1), (it, rit (x + 1) y1)] ++ F) [CutG X 0 false (bi "list.append" [(.ref acc), (iv x k)]) (.ok (.ret .none)) [(acc, lst (ivs as) ea)] n (k + 5) (k + 5) [(acc, lst (ivs z1) (ea + 1))] [], CutB X (bi "int.__bool__" [(iv y3 (k + 4))]) (.bool true) [] (k + 5) (k + 5), CutB X (bi "int.__and__" [(iv y2 (k + 2)), (iv 1 (k + 3))]) (iv y3 (k + 4)) [] (k + 4) (k + 5), CutB X (bi "int.__rshift__" [(iv lv lt), (iv x k)]) (iv y2 (k + 2)) [] (k + 2) (k + 3), CutG X 0 false (bi "range_iterator.__next__" [(.ref it)]) (.ok (.ret (iv x k))) [(it, rit x lf)] n k (k + 1) [(it, rit (x + 1) y1)] []] := .mk 24 [.o 4, .g false (.ok (.ret (iv x k))) (k + 1) [3] [(3, rit (x + 1) y1)] [], .o 3, .o 3, .o 1, .o 3, .v (iv y2 (k + 2)) (k + 3) [], .v (iv y3 (k + 4)) (k + 5) [], .v (.bool true) (k + 5) [], .o 3, .g false (.ok (.ret .none)) (k + 5) [1] [(1, lst (ivs z1) (ea + 1))] []] (by kernel_rfl!)
theorem c1t1_e (X : Cx) (n k L cl cs co cu it acc ns ea lv lt x lf kn a1 a2 : Nat) (as : NN) (F : LG) (y1 y2 y3 : Nat) (z1 : NN) : REC X 0 (.compLoop c1 0 (.ref it) (.ref acc) (c1Env ns L cl cs co cu)) n k ([(cl, cel (some (iv lv lt))), (acc, lst (ivs as) ea), (ns, dct [en X "k" kn (iv a1 a2)] 1), (it, rit x lf)] ++ F) [0, 1, 2, 3] 4 (.again (.compLoop c1 0 (.ref it) (.ref acc) (c1Env ns L cl cs co cu))) n (k + 5) ([(cl, cel (some (iv lv lt))), (acc, lst (ivs z1) (ea + 1)), (ns, dct [en X "k" kn (iv x k)] 1), (it, rit (x + 1) y1)] ++ F) [CutG X 0 false (bi "list.append" [(.ref acc), (iv x k)]) (.ok (.ret .none)) [(acc, lst (ivs as) ea)] n (k + 5) (k + 5) [(acc, lst (ivs z1) (ea + 1))] [], CutB X (bi "int.__bool__" [(iv y3 (k + 4))]) (.bool true) [] (k + 5) (k + 5), CutB X (bi "int.__and__" [(iv y2 (k + 2)), (iv 1 (k + 3))]) (iv y3 (k + 4)) [] (k + 4) (k + 5), CutB X (bi "int.__rshift__" [(iv lv lt), (iv x k)]) (iv y2 (k + 2)) [] (k + 2) (k + 3), CutG X 0 false (bi "range_iterator.__next__" [(.ref it)]) (.ok (.ret (iv x k))) [(it, rit x lf)] n k (k + 1) [(it, rit (x + 1) y1)] []] := .mk 24 [.o 4, .g false (.ok (.ret (iv x k))) (k + 1) [3] [(3, rit (x + 1) y1)] [], .o 3, .o 3, .o 1, .o 3, .v (iv y2 (k + 2)) (k + 3) [], .v (iv y3 (k + 4)) (k + 5) [], .v (.bool true) (k + 5) [], .o 3, .g false (.ok (.ret .none)) (k + 5) [1] [(1, lst (ivs z1) (ea + 1))] []] (by kernel_rfl!)
theorem c1s0_e (X : Cx) (n k L cl cs co cu it acc ns ea lv lt x lf : Nat) (as : NN) (F : LG) (y1 y2 y3 : Nat) : REC X 0 (.compLoop c1 0 (.ref it) (.ref acc) (c1Env ns L cl cs co cu)) n k ([(cl, cel (some (iv lv lt))), (acc, lst (ivs as) ea), (ns, dct [] 0), (it, rit x lf)] ++ F) [0, 1, 2, 3] 4 (.again (.compLoop c1 0 (.ref it) (.ref acc) (c1Env ns L cl cs co cu))) n (k + 5) ([(cl, cel (some (iv lv lt))), (acc, lst (ivs as) ea), (ns, dct [en X "k" (k + 1) (iv x k)] 1), (it, rit (x + 1) y1)] ++ F) [CutB X (bi "int.__bool__" [(iv y3 (k + 4))]) (.bool false) [] (k + 5) (k + 5), CutB X (bi "int.__and__" [(iv y2 (k + 2)), (iv 1 (k + 3))]) (iv y3 (k + 4)) [] (k + 4) (k + 5), CutB X (bi "int.__rshift__" [(iv lv lt), (iv x k)]) (iv y2 (k + 2)) [] (k + 2) (k + 3), CutG X 0 false (bi "range_iterator.__next__" [(.ref it)]) (.ok (.ret (iv x k))) [(it, rit x lf)] n k (k + 1) [(it, rit (x + 1) y1)] []] := .mk 21 [.o 4, .g false (.ok (.ret (iv x k))) (k + 1) [3] [(3, rit (x + 1) y1)] [], .o 3, .o 3, .o 1, .o 3, .v (iv y2 (k + 2)) (k + 3) [], .v (iv y3 (k + 4)) (k + 5) [], .v (.bool false) (k + 5) []] (by kernel_rfl!)
theorem c1s1_e (X : Cx) (n k L cl cs co cu it acc ns ea lv lt x lf kn a1 a2 : Nat) (as : NN) (F : LG) (y1 y2 y3 : Nat) : REC X 0 (.compLoop c1 0 (.ref it) (.ref acc) (c1Env ns L cl cs co cu)) n k ([(cl, cel (some (iv lv lt))), (acc, lst (ivs as) ea), (ns, dct [en X "k" kn (iv a1 a2)] 1), (it, rit x lf)] ++ F) [0, 1, 2, 3] 4 (.again (.compLoop c1 0 (.ref it) (.ref acc) (c1Env ns L cl cs co cu))) n (k + 5) ([(cl, cel (some (iv lv lt))), (acc, lst (ivs as) ea), (ns, dct [en X "k" kn (iv x k)] 1), (it, rit (x + 1) y1)] ++ F) [CutB X (bi "int.__bool__" [(iv y3 (k + 4))]) (.bool false) [] (k + 5) (k + 5), CutB X (bi "int.__and__" [(iv y2 (k + 2)), (iv 1 (k + 3))]) (iv y3 (k + 4)) [] (k + 4) (k + 5), CutB X (bi "int.__rshift__" [(iv lv lt), (iv x k)]) (iv y2 (k + 2)) [] (k + 2) (k + 3), CutG X 0 false (bi "range_iterator.__next__" [(.ref it)]) (.ok (.ret (iv x k))) [(it, rit x lf)] n k (k + 1) [(it, rit (x + 1) y1)] []] := .mk 21 [.o 4, .g false (.ok (.ret (iv x k))) (k + 1) [3] [(3, rit (x + 1) y1)] [], .o 3, .o 3, .o 1, .o 3, .v (iv y2 (k + 2)) (k + 3) [], .v (iv y3 (k + 4)) (k + 5) [], .v (.bool false) (k + 5) []] (by kernel_rfl!)
theorem c1e_e (X : Cx) (n k L cl cs co cu it acc ns ea lv lt x lf kn a1 a2 : Nat) (as : NN) (F : LG) : REC X 0 (.compLoop c1 0 (.ref it) (.ref acc) (c1Env ns L cl cs co cu)) n k ([(cl, cel (some (iv lv lt))), (acc, lst (ivs as) ea), (ns, dct [en X "k" kn (iv a1 a2)] 1), (it, rit x lf)] ++ F) [2, 3, 4] 6 (.done (.next)) (n + 2) k ([(cl, cel (some (iv lv lt))), (acc, lst (ivs as) ea), (ns, dct [en X "k" kn (iv a1 a2)] 1)] ++ F) [CutG X 0 false (bi "range_iterator.__next__" [(.ref it)]) (.error (.ref (n + 1))) [(it, rit x lf)] n k k [] [tup [], fld "StopIteration" [(.ref n), .none, .none, .none, (.bool false), .none]]] := .mk 4 [.o 4, .g false (.error (.ref (n + 1))) k [3] [] [tup [], fld "StopIteration" [(.ref n), .none, .none, .none, (.bool false), .none]], .o 1] (by kernel_rfl!)
theorem c2t0_e (X : Cx) (n k L cl cs co cu it acc ns ea lv lt i N e1 : Nat) (as xs : NN) (F : LG) (y1 y2 y3 : Nat) (z1 : NN) : REC X 0 (.compLoop c2 0 (.ref it) (.ref acc) (c2Env ns L cl cs co cu)) n k ([(cl, cel (some (iv lv lt))), (acc, lst (ivs as) ea), (ns, dct [] 0), (it, lit N i), (N, lst (ivs xs) e1)] ++ F) [0, 1, 2, 3, 4] 5 (.again (.compLoop c2 0 (.ref it) (.ref acc) (c2Env ns L cl cs co cu))) n (k + 2) ([(cl, cel (some (iv lv lt))), (acc, lst (ivs z1) (ea + 1)), (ns, dct [en X "sight" k (iv y1 y2)] 1), (it, lit N (i + 1)), (N, lst (ivs xs) e1)] ++ F) [CutG X 0 false (bi "list.append" [(.ref acc), (iv y3 (k + 1))]) (.ok (.ret .none)) [(acc, lst (ivs as) ea)] n (k + 2) (k + 2) [(acc, lst (ivs z1) (ea + 1))] [], CutB X (bi "int.__and__" [(iv lv lt), (iv y1 y2)]) (iv y3 (k + 1)) [] (k + 1) (k + 2), CutG X 0 false (bi "list_iterator.__next__" [(.ref it)]) (.ok (.ret (iv y1 y2))) [(it, lit N i), (N, lst (ivs xs) e1)] n k k [(it, lit N (i + 1))] []] := .mk 17 [.o 4, .g false (.ok (.ret (iv y1 y2))) k [3, 4] [(3, lit N (i + 1))] [], .o 3, .o 3, .o 1, .o 3, .v (iv y3 (k + 1)) (k + 2) [], .g false (.ok (.ret .none)) (k + 2) [1] [(1, lst (ivs z1) (ea + 1))] []] (by kernel_rfl!)
theorem c2t1_e (X : Cx) (n k L cl cs co cu it acc ns ea lv lt i N e1 kn a1 a2 : Nat) (as xs : NN) (F : LG) (y1 y2 y3 : Nat) (z1 : NN) : REC X 0 (.compLoop c2 0 (.ref it) (.ref acc) (c2Env ns L cl cs co cu)) n k ([(cl, cel (some (iv lv lt))), (acc, lst (ivs as) ea), (ns, dct [en X "sight" kn (iv a1 a2)] 1), (it, lit N i), (N, lst (ivs xs) e1)] ++ F) [0, 1, 2, 3, 4] 5 (.again (.compLoop c2 0 (.ref it) (.ref acc) (c2Env ns L cl cs co cu))) n (k + 2) ([(cl, cel (some (iv lv lt))), (acc, lst (ivs z1) (ea + 1)), (ns, dct [en X "sight" kn (iv y1 y2)] 1), (it, lit N (i + 1)), (N, lst (ivs xs) e1)] ++ F) [CutG X 0 false (bi "list.append" [(.ref acc), (iv y3 (k + 1))]) (.ok (.ret .none)) [(acc, lst (ivs as) ea)] n (k + 2) (k + 2) [(acc, lst (ivs z1) (ea + 1))] [], CutB X (bi "int.__and__" [(iv lv lt), (iv y1 y2)]) (iv y3 (k + 1)) [] (k + 1) (k + 2), CutG X 0 false (bi "list_iterator.__next__" [(.ref it)]) (.ok (.ret (iv y1 y2))) [(it, lit N i), (N, lst (ivs xs) e1)] n k k [(it, lit N (i + 1))] []] := .mk 17 [.o 4, .g false (.ok (.ret (iv y1 y2))) k [3, 4] [(3, lit N (i + 1))] [], .o 3, .o 3, .o 1, .o 3, .v (iv y3 (k + 1)) (k + 2) [], .g false (.ok (.ret .none)) (k + 2) [1] [(1, lst (ivs z1) (ea + 1))] []] (by kernel_rfl!)
theorem c2e_e (X : Cx) (n k L cl cs co cu it acc ns ea lv lt i N e1 kn a1 a2 : Nat) (as xs : NN) (F : LG) : REC X 0 (.compLoop c2 0 (.ref it) (.ref acc) (c2Env ns L cl cs co cu)) n k ([(cl, cel (some (iv lv lt))), (acc, lst (ivs as) ea), (ns, dct [en X "sight" kn (iv a1 a2)] 1), (it, lit N i), (N, lst (ivs xs) e1)] ++ F) [2, 3, 4, 6] 7 (.done (.next)) (n + 2) k ([(cl, cel (some (iv lv lt))), (acc, lst (ivs as) ea), (ns, dct [en X "sight" kn (iv a1 a2)] 1), (N, lst (ivs xs) e1)] ++ F) [CutG X 0 false (bi "list_iterator.__next__" [(.ref it)]) (.error (.ref (n + 1))) [(it, lit N i), (N, lst (ivs xs) e1)] n k k [(it, fld "list_iterator" [.none, (iv i 0)])] [tup [], fld "StopIteration" [(.ref n), .none, .none, .none, (.bool false), .none]]] := .mk 4 [.o 4, .g false (.error (.ref (n + 1))) k [3, 4] [(3, fld "list_iterator" [.none, (iv i 0)])] [tup [], fld "StopIteration" [(.ref n), .none, .none, .none, (.bool false), .none]], .o 1] (by kernel_rfl!)
theorem c3t0_e (X : Cx) (n k L cl cs co cu it acc ns ea lv lt i S e1 Se e2 : Nat) (as xs ss : NN) (F : LG) (y1 y2 y3 y4 y5 : Nat) (z1 : NN) : REC X 0 (.compLoop c3 0 (.ref it) (.ref acc) (c3Env ns L cl cs co cu)) n k ([(cl, cel (some (iv lv lt))), (cs, cel (some (.ref Se))), (acc, lst (ivs as) ea), (ns, dct [] 0), (it, lit S i), (S, lst (ivs xs) e1), (Se, lst (ivs ss) e2)] ++ F) [1, 2, 3, 4, 5, 6, 7] 8 (.again (.compLoop c3 0 (.ref it) (.ref acc) (c3Env ns L cl cs co cu))) (n + 1) (k + 3) ([(cl, cel (some (iv lv lt))), (cs, cel (some (.ref Se))), (acc, lst (ivs z1) (ea + 1)), (ns, dct [en X "k" k (iv y1 y2)] 1), (it, lit S (i + 1)), (S, lst (ivs xs) e1), (Se, lst (ivs ss) e2)] ++ F) [CutG X 0 false (bi "list.append" [(.ref acc), (iv y1 y2)]) (.ok (.ret .none)) [(acc, lst (ivs as) ea)] (n + 1) (k + 3) (k + 3) [(acc, lst (ivs z1) (ea + 1))] [], CutB X (bi "int.__eq__" [(iv y5 (k + 1)), (iv 0 336)]) (.bool true) [] (k + 3) (k + 3), CutB X (bi "int.__sub__" [(iv lv lt), (iv y3 y4)]) (iv y5 (k + 1)) [] (k + 1) (k + 2), CutB X (bi "list.__getitem__" [(.ref Se), (iv y1 y2)]) (iv y3 y4) [(Se, lst (ivs ss) e2)] (k + 1) (k + 1), CutG X 0 false (bi "list_iterator.__next__" [(.ref it)]) (.ok (.ret (iv y1 y2))) [(it, lit S i), (S, lst (ivs xs) e1)] n k k [(it, lit S (i + 1))] []] := .mk 52 [.o 5, .g false (.ok (.ret (iv y1 y2))) k [4, 5] [(4, lit S (i + 1))] [], .o 4, .o 4, .o 0, .o 1, .o 2, .o 4, .o 7, .o 7, .o 7, .v (iv y3 y4) (k + 1) [6], .v (iv y5 (k + 1)) (k + 2) [], .o 0, .e, .o 0, .o 0, .o 1, .o 1, .frame, .o 1, .o 0, .v (.bool true) (k + 3) [], .o 5, .g false (.ok (.ret .none)) (k + 3) [3] [(3, lst (ivs z1) (ea + 1))] []] (by apply X.both <;> kernel_rfl!)
theorem c3t1_e (X : Cx) (n k L cl cs co cu it acc ns ea lv lt i S e1 Se e2 kn a1 a2 : Nat) (as xs ss : NN) (F : LG) (y1 y2 y3 y4 y5 : Nat) (z1 : NN) : REC X 0 (.compLoop c3 0 (.ref it) (.ref acc) (c3Env ns L cl cs co cu)) n k ([(cl, cel (some (iv lv lt))), (cs, cel (some (.ref Se))), (acc, lst (ivs as) ea), (ns, dct [en X "k" kn (iv a1 a2)] 1), (it, lit S i), (S, lst (ivs xs) e1), (Se, lst (ivs ss) e2)] ++ F) [1, 2, 3, 4, 5, 6, 7] 8 (.again (.compLoop c3 0 (.ref it) (.ref acc) (c3Env ns L cl cs co cu))) (n + 1) (k + 3) ([(cl, cel (some (iv lv lt))), (cs, cel (some (.ref Se))), (acc, lst (ivs z1) (ea + 1)), (ns, dct [en X "k" kn (iv y1 y2)] 1), (it, lit S (i + 1)), (S, lst (ivs xs) e1), (Se, lst (ivs ss) e2)] ++ F) [CutG X 0 false (bi "list.append" [(.ref acc), (iv y1 y2)]) (.ok (.ret .none)) [(acc, lst (ivs as) ea)] (n + 1) (k + 3) (k + 3) [(acc, lst (ivs z1) (ea + 1))] [], CutB X (bi "int.__eq__" [(iv y5 (k + 1)), (iv 0 336)]) (.bool true) [] (k + 3) (k + 3), CutB X (bi "int.__sub__" [(iv lv lt), (iv y3 y4)]) (iv y5 (k + 1)) [] (k + 1) (k + 2), CutB X (bi "list.__getitem__" [(.ref Se), (iv y1 y2)]) (iv y3 y4) [(Se, lst (ivs ss) e2)] (k + 1) (k + 1), CutG X 0 false (bi "list_iterator.__next__" [(.ref it)]) (.ok (.ret (iv y1 y2))) [(it, lit S i), (S, lst (ivs xs) e1)] n k k [(it, lit S (i + 1))] []] := .mk 52 [.o 5, .g false (.ok (.ret (iv y1 y2))) k [4, 5] [(4, lit S (i + 1))] [], .o 4, .o 4, .o 0, .o 1, .o 2, .o 4, .o 7, .o 7, .o 7, .v (iv y3 y4) (k + 1) [6], .v (iv y5 (k + 1)) (k + 2) [], .o 0, .e, .o 0, .o 0, .o 1, .o 1, .frame, .o 1, .o 0, .v (.bool true) (k + 3) [], .o 5, .g false (.ok (.ret .none)) (k + 3) [3] [(3, lst (ivs z1) (ea + 1))] []] (by apply X.both <;> kernel_rfl!)
theorem c3s0_e (X : Cx) (n k L cl cs co cu it acc ns ea lv lt i S e1 Se e2 : Nat) (as xs ss : NN) (F : LG) (y1 y2 y3 y4 y5 : Nat) : REC X 0 (.compLoop c3 0 (.ref it) (.ref acc) (c3Env ns L cl cs co cu)) n k ([(cl, cel (some (iv lv lt))), (cs, cel (some (.ref Se))), (acc, lst (ivs as) ea), (ns, dct [] 0), (it, lit S i), (S, lst (ivs xs) e1), (Se, lst (ivs ss) e2)] ++ F) [1, 2, 3, 4, 5, 6, 7] 8 (.again (.compLoop c3 0 (.ref it) (.ref acc) (c3Env ns L cl cs co cu))) (n + 1) (k + 3) ([(cl, cel (some (iv lv lt))), (cs, cel (some (.ref Se))), (acc, lst (ivs as) ea), (ns, dct [en X "k" k (iv y1 y2)] 1), (it, lit S (i + 1)), (S, lst (ivs xs) e1), (Se, lst (ivs ss) e2)] ++ F) [CutB X (bi "int.__eq__" [(iv y5 (k + 1)), (iv 0 336)]) (.bool false) [] (k + 3) (k + 3), CutB X (bi "int.__sub__" [(iv lv lt), (iv y3 y4)]) (iv y5 (k + 1)) [] (k + 1) (k + 2), CutB X (bi "list.__getitem__" [(.ref Se), (iv y1 y2)]) (iv y3 y4) [(Se, lst (ivs ss) e2)] (k + 1) (k + 1), CutG X 0 false (bi "list_iterator.__next__" [(.ref it)]) (.ok (.ret (iv y1 y2))) [(it, lit S i), (S, lst (ivs xs) e1)] n k k [(it, lit S (i + 1))] []] := .mk 49 [.o 5, .g false (.ok (.ret (iv y1 y2))) k [4, 5] [(4, lit S (i + 1))] [], .o 4, .o 4, .o 0, .o 1, .o 2, .o 4, .o 7, .o 7, .o 7, .v (iv y3 y4) (k + 1) [6], .v (iv y5 (k + 1)) (k + 2) [], .o 0, .e, .o 0, .o 0, .o 1, .o 1, .frame, .o 1, .o 0, .v (.bool false) (k + 3) []] (by apply X.both <;> kernel_rfl!)
theorem c3s1_e (X : Cx) (n k L cl cs co cu it acc ns ea lv lt i S e1 Se e2 kn a1 a2 : Nat) (as xs ss : NN) (F : LG) (y1 y2 y3 y4 y5 : Nat) : REC X 0 (.compLoop c3 0 (.ref it) (.ref acc) (c3Env ns L cl cs co cu)) n k ([(cl, cel (some (iv lv lt))), (cs, cel (some (.ref Se))), (acc, lst (ivs as) ea), (ns, dct [en X "k" kn (iv a1 a2)] 1), (it, lit S i), (S, lst (ivs xs) e1), (Se, lst (ivs ss) e2)] ++ F) [1, 2, 3, 4, 5, 6, 7] 8 (.again (.compLoop c3 0 (.ref it) (.ref acc) (c3Env ns L cl cs co cu))) (n + 1) (k + 3) ([(cl, cel (some (iv lv lt))), (cs, cel (some (.ref Se))), (acc, lst (ivs as) ea), (ns, dct [en X "k" kn (iv y1 y2)] 1), (it, lit S (i + 1)), (S, lst (ivs xs) e1), (Se, lst (ivs ss) e2)] ++ F) [CutB X (bi "int.__eq__" [(iv y5 (k + 1)), (iv 0 336)]) (.bool false) [] (k + 3) (k + 3), CutB X (bi "int.__sub__" [(iv lv lt), (iv y3 y4)]) (iv y5 (k + 1)) [] (k + 1) (k + 2), CutB X (bi "list.__getitem__" [(.ref Se), (iv y1 y2)]) (iv y3 y4) [(Se, lst (ivs ss) e2)] (k + 1) (k + 1), CutG X 0 false (bi "list_iterator.__next__" [(.ref it)]) (.ok (.ret (iv y1 y2))) [(it, lit S i), (S, lst (ivs xs) e1)] n k k [(it, lit S (i + 1))] []] := .mk 49 [.o 5, .g false (.ok (.ret (iv y1 y2))) k [4, 5] [(4, lit S (i + 1))] [], .o 4, .o 4, .o 0, .o 1, .o 2, .o 4, .o 7, .o 7, .o 7, .v (iv y3 y4) (k + 1) [6], .v (iv y5 (k + 1)) (k + 2) [], .o 0, .e, .o 0, .o 0, .o 1, .o 1, .frame, .o 1, .o 0, .v (.bool false) (k + 3) []] (by apply X.both <;> kernel_rfl!)
theorem c3e_e (X : Cx) (n k L cl cs co cu it acc ns ea lv lt i S e1 Se e2 kn a1 a2 : Nat) (as xs ss : NN) (F : LG) : REC X 0 (.compLoop c3 0 (.ref it) (.ref acc) (c3Env ns L cl cs co cu)) n k ([(cl, cel (some (iv lv lt))), (cs, cel (some (.ref Se))), (acc, lst (ivs as) ea), (ns, dct [en X "k" kn (iv a1 a2)] 1), (it, lit S i), (S, lst (ivs xs) e1), (Se, lst (ivs ss) e2)] ++ F) [2, 3, 4, 5, 7, 8] 9 (.done (.next)) (n + 2) k ([(cl, cel (some (iv lv lt))), (cs, cel (some (.ref Se))), (acc, lst (ivs as) ea), (ns, dct [en X "k" kn (iv a1 a2)] 1), (S, lst (ivs xs) e1), (Se, lst (ivs ss) e2)] ++ F) [CutG X 0 false (bi "list_iterator.__next__" [(.ref it)]) (.error (.ref (n + 1))) [(it, lit S i), (S, lst (ivs xs) e1)] n k k [(it, fld "list_iterator" [.none, (iv i 0)])] [tup [], fld "StopIteration" [(.ref n), .none, .none, .none, (.bool false), .none]]] := .mk 4 [.o 5, .g false (.error (.ref (n + 1))) k [4, 5] [(4, fld "list_iterator" [.none, (iv i 0)])] [tup [], fld "StopIteration" [(.ref n), .none, .none, .none, (.bool false), .none]], .o 1] (by kernel_rfl!)
theorem c4t0_e (X : Cx) (n k L cl cs co cu it acc ns ea i S e1 Se e2 u tu : Nat) (as xs ss : NN) (F : LG) (y1 y2 y3 y4 y5 y6 y7 y8 : Nat) (z1 : NN) (i1 : Int) : REC X 0 (.compLoop c4 0 (.ref it) (.ref acc) (c4Env ns L cl cs co cu)) n k ([(cs, cel (some (.ref Se))), (cu, cel (some (iv u tu))), (acc, lst (ivs as) ea), (ns, dct [] 0), (it, lit S i), (S, lst (ivs xs) e1), (Se, lst (ivs ss) e2)] ++ F) [3, 4, 5, 6, 7, 8, 9] 10 (.again (.compLoop c4 0 (.ref it) (.ref acc) (c4Env ns L cl cs co cu))) (n + 3) (k + 8) ([(cs, cel (some (.ref Se))), (cu, cel (some (iv u tu))), (acc, lst (ivs z1) (ea + 1)), (ns, dct [en X "v" k (iv y1 y2)] 1), (it, lit S (i + 1)), (S, lst (ivs xs) e1), (Se, lst (ivs ss) e2)] ++ F) [CutG X 0 false (bi "list.append" [(.ref acc), (iv y1 y2)]) (.ok (.ret .none)) [(acc, lst (ivs as) ea)] (n + 3) (k + 8) (k + 8) [(acc, lst (ivs z1) (ea + 1))] [], CutB X (bi "int.__eq__" [(.int (i1) (k + 6)), (iv 0 336)]) (.bool false) [] (k + 8) (k + 8), CutB X (bi "int.__sub__" [(iv y3 y4), (iv y5 y6)]) (.int (i1) (k + 6)) [] (k + 6) (k + 7), CutB X (bi "int.__eq__" [(iv y8 (k + 4)), (iv 0 336)]) (.bool true) [] (k + 6) (k + 6), CutB X (bi "int.__sub__" [(iv y3 y4), (iv y7 (k + 3))]) (iv y8 (k + 4)) [] (k + 4) (k + 5), CutB X (bi "int.__and__" [(iv y3 y4), (iv y5 y6)]) (iv y7 (k + 3)) [] (k + 3) (k + 4), CutB X (bi "list.__getitem__" [(.ref Se), (iv y1 y2)]) (iv y5 y6) [(Se, lst (ivs ss) e2)] (k + 1) (k + 1), CutB X (bi "list.__getitem__" [(.ref Se), (iv u tu)]) (iv y3 y4) [(Se, lst (ivs ss) e2)] (k + 1) (k + 1), CutG X 0 false (bi "list_iterator.__next__" [(.ref it)]) (.ok (.ret (iv y1 y2))) [(it, lit S i), (S, lst (ivs xs) e1)] n k k [(it, lit S (i + 1))] []] := .mk 122 [.o 5, .g false (.ok (.ret (iv y1 y2))) k [4, 5] [(4, lit S (i + 1))] [], .o 4, .o 4, .o 0, .o 1, .o 2, .o 7, .o 7, .o 7, .v (iv y3 y4) (k + 1) [6], .o 1, .o 4, .o 7, .o 7, .o 7, .v (iv y5 y6) (k + 1) [6], .o 0, .e, .o 0, .o 0, .o 1, .o 1, .o 1, .o 1, .frame, .o 0, .o 1, .o 1, .o 1, .v (iv y7 (k + 3)) (k + 4) [], .v (iv y8 (k + 4)) (k + 5) [], .o 0, .e, .o 0, .o 0, .o 1, .o 1, .frame, .o 1, .o 0, .v (.bool true) (k + 6) [], .o 0, .o 2, .o 2, .v (.int (i1) (k + 6)) (k + 7) [], .o 0, .e, .o 0, .o 0, .o 1, .o 1, .frame, .o 1, .o 0, .v (.bool false) (k + 8) [], .o 7, .g false (.ok (.ret .none)) (k + 8) [5] [(5, lst (ivs z1) (ea + 1))] []] (by apply X.both <;> kernel_rfl!)
theorem c4t1_e (X : Cx) (n k L cl cs co cu it acc ns ea i S e1 Se e2 u tu kn a1 a2 : Nat) (as xs ss : NN) (F : LG) (y1 y2 y3 y4 y5 y6 y7 y8 : Nat) (z1 : NN) (i1 : Int) : REC X 0 (.compLoop c4 0 (.ref it) (.ref acc) (c4Env ns L cl cs co cu)) n k ([(cs, cel (some (.ref Se))), (cu, cel (some (iv u tu))), (acc, lst (ivs as) ea), (ns, dct [en X "v" kn (iv a1 a2)] 1), (it, lit S i), (S, lst (ivs xs) e1), (Se, lst (ivs ss) e2)] ++ F) [3, 4, 5, 6, 7, 8, 9] 10 (.again (.compLoop c4 0 (.ref it) (.ref acc) (c4Env ns L cl cs co cu))) (n + 3) (k + 8) ([(cs, cel (some (.ref Se))), (cu, cel (some (iv u tu))), (acc, lst (ivs z1) (ea + 1)), (ns, dct [en X "v" kn (iv y1 y2)] 1), (it, lit S (i + 1)), (S, lst (ivs xs) e1), (Se, lst (ivs ss) e2)] ++ F) [CutG X 0 false (bi "list.append" [(.ref acc), (iv y1 y2)]) (.ok (.ret .none)) [(acc, lst (ivs as) ea)] (n + 3) (k + 8) (k + 8) [(acc, lst (ivs z1) (ea + 1))] [], CutB X (bi "int.__eq__" [(.int (i1) (k + 6)), (iv 0 336)]) (.bool false) [] (k + 8) (k + 8), CutB X (bi "int.__sub__" [(iv y3 y4), (iv y5 y6)]) (.int (i1) (k + 6)) [] (k + 6) (k + 7), CutB X (bi "int.__eq__" [(iv y8 (k + 4)), (iv 0 336)]) (.bool true) [] (k + 6) (k + 6), CutB X (bi "int.__sub__" [(iv y3 y4), (iv y7 (k + 3))]) (iv y8 (k + 4)) [] (k + 4) (k + 5), CutB X (bi "int.__and__" [(iv y3 y4), (iv y5 y6)]) (iv y7 (k + 3)) [] (k + 3) (k + 4), CutB X (bi "list.__getitem__" [(.ref Se), (iv y1 y2)]) (iv y5 y6) [(Se, lst (ivs ss) e2)] (k + 1) (k + 1), CutB X (bi "list.__getitem__" [(.ref Se), (iv u tu)]) (iv y3 y4) [(Se, lst (ivs ss) e2)] (k + 1) (k + 1), CutG X 0 false (bi "list_iterator.__next__" [(.ref it)]) (.ok (.ret (iv y1 y2))) [(it, lit S i), (S, lst (ivs xs) e1)] n k k [(it, lit S (i + 1))] []] := .mk 122 [.o 5, .g false (.ok (.ret (iv y1 y2))) k [4, 5] [(4, lit S (i + 1))] [], .o 4, .o 4, .o 0, .o 1, .o 2, .o 7, .o 7, .o 7, .v (iv y3 y4) (k + 1) [6], .o 1, .o 4, .o 7, .o 7, .o 7, .v (iv y5 y6) (k + 1) [6], .o 0, .e, .o 0, .o 0, .o 1, .o 1, .o 1, .o 1, .frame, .o 0, .o 1, .o 1, .o 1, .v (iv y7 (k + 3)) (k + 4) [], .v (iv y8 (k + 4)) (k + 5) [], .o 0, .e, .o 0, .o 0, .o 1, .o 1, .frame, .o 1, .o 0, .v (.bool true) (k + 6) [], .o 0, .o 2, .o 2, .v (.int (i1) (k + 6)) (k + 7) [], .o 0, .e, .o 0, .o 0, .o 1, .o 1, .frame, .o 1, .o 0, .v (.bool false) (k + 8) [], .o 7, .g false (.ok (.ret .none)) (k + 8) [5] [(5, lst (ivs z1) (ea + 1))] []] (by apply X.both <;> kernel_rfl!)
theorem c4s0_e (X : Cx) (n k L cl cs co cu it acc ns ea i S e1 Se e2 u tu : Nat) (as xs ss : NN) (F : LG) (y1 y2 y3 y4 y5 y6 y7 y8 : Nat) : REC X 0 (.compLoop c4 0 (.ref it) (.ref acc) (c4Env ns L cl cs co cu)) n k ([(cs, cel (some (.ref Se))), (cu, cel (some (iv u tu))), (acc, lst (ivs as) ea), (ns, dct [] 0), (it, lit S i), (S, lst (ivs xs) e1), (Se, lst (ivs ss) e2)] ++ F) [2, 3, 4, 5, 6, 7, 8] 9 (.again (.compLoop c4 0 (.ref it) (.ref acc) (c4Env ns L cl cs co cu))) (n + 2) (k + 6) ([(cs, cel (some (.ref Se))), (cu, cel (some (iv u tu))), (acc, lst (ivs as) ea), (ns, dct [en X "v" k (iv y1 y2)] 1), (it, lit S (i + 1)), (S, lst (ivs xs) e1), (Se, lst (ivs ss) e2)] ++ F) [CutB X (bi "int.__eq__" [(iv y8 (k + 4)), (iv 0 336)]) (.bool false) [] (k + 6) (k + 6), CutB X (bi "int.__sub__" [(iv y3 y4), (iv y7 (k + 3))]) (iv y8 (k + 4)) [] (k + 4) (k + 5), CutB X (bi "int.__and__" [(iv y3 y4), (iv y5 y6)]) (iv y7 (k + 3)) [] (k + 3) (k + 4), CutB X (bi "list.__getitem__" [(.ref Se), (iv y1 y2)]) (iv y5 y6) [(Se, lst (ivs ss) e2)] (k + 1) (k + 1), CutB X (bi "list.__getitem__" [(.ref Se), (iv u tu)]) (iv y3 y4) [(Se, lst (ivs ss) e2)] (k + 1) (k + 1), CutG X 0 false (bi "list_iterator.__next__" [(.ref it)]) (.ok (.ret (iv y1 y2))) [(it, lit S i), (S, lst (ivs xs) e1)] n k k [(it, lit S (i + 1))] []] := .mk 87 [.o 5, .g false (.ok (.ret (iv y1 y2))) k [4, 5] [(4, lit S (i + 1))] [], .o 4, .o 4, .o 0, .o 1, .o 2, .o 7, .o 7, .o 7, .v (iv y3 y4) (k + 1) [6], .o 1, .o 4, .o 7, .o 7, .o 7, .v (iv y5 y6) (k + 1) [6], .o 0, .e, .o 0, .o 0, .o 1, .o 1, .o 1, .o 1, .frame, .o 0, .o 1, .o 1, .o 1, .v (iv y7 (k + 3)) (k + 4) [], .v (iv y8 (k + 4)) (k + 5) [], .o 0, .e, .o 0, .o 0, .o 1, .o 1, .frame, .o 1, .o 0, .v (.bool false) (k + 6) []] (by apply X.both <;> kernel_rfl!)
theorem c4s1_e (X : Cx) (n k L cl cs co cu it acc ns ea i S e1 Se e2 u tu kn a1 a2 : Nat) (as xs ss : NN) (F : LG) (y1 y2 y3 y4 y5 y6 y7 y8 : Nat) : REC X 0 (.compLoop c4 0 (.ref it) (.ref acc) (c4Env ns L cl cs co cu)) n k ([(cs, cel (some (.ref Se))), (cu, cel (some (iv u tu))), (acc, lst (ivs as) ea), (ns, dct [en X "v" kn (iv a1 a2)] 1), (it, lit S i), (S, lst (ivs xs) e1), (Se, lst (ivs ss) e2)] ++ F) [2, 3, 4, 5, 6, 7, 8] 9 (.again (.compLoop c4 0 (.ref it) (.ref acc) (c4Env ns L cl cs co cu))) (n + 2) (k + 6) ([(cs, cel (some (.ref Se))), (cu, cel (some (iv u tu))), (acc, lst (ivs as) ea), (ns, dct [en X "v" kn (iv y1 y2)] 1), (it, lit S (i + 1)), (S, lst (ivs xs) e1), (Se, lst (ivs ss) e2)] ++ F) [CutB X (bi "int.__eq__" [(iv y8 (k + 4)), (iv 0 336)]) (.bool false) [] (k + 6) (k + 6), CutB X (bi "int.__sub__" [(iv y3 y4), (iv y7 (k + 3))]) (iv y8 (k + 4)) [] (k + 4) (k + 5), CutB X (bi "int.__and__" [(iv y3 y4), (iv y5 y6)]) (iv y7 (k + 3)) [] (k + 3) (k + 4), CutB X (bi "list.__getitem__" [(.ref Se), (iv y1 y2)]) (iv y5 y6) [(Se, lst (ivs ss) e2)] (k + 1) (k + 1), CutB X (bi "list.__getitem__" [(.ref Se), (iv u tu)]) (iv y3 y4) [(Se, lst (ivs ss) e2)] (k + 1) (k + 1), CutG X 0 false (bi "list_iterator.__next__" [(.ref it)]) (.ok (.ret (iv y1 y2))) [(it, lit S i), (S, lst (ivs xs) e1)] n k k [(it, lit S (i + 1))] []] := .mk 87 [.o 5, .g false (.ok (.ret (iv y1 y2))) k [4, 5] [(4, lit S (i + 1))] [], .o 4, .o 4, .o 0, .o 1, .o 2, .o 7, .o 7, .o 7, .v (iv y3 y4) (k + 1) [6], .o 1, .o 4, .o 7, .o 7, .o 7, .v (iv y5 y6) (k + 1) [6], .o 0, .e, .o 0, .o 0, .o 1, .o 1, .o 1, .o 1, .frame, .o 0, .o 1, .o 1, .o 1, .v (iv y7 (k + 3)) (k + 4) [], .v (iv y8 (k + 4)) (k + 5) [], .o 0, .e, .o 0, .o 0, .o 1, .o 1, .frame, .o 1, .o 0, .v (.bool false) (k + 6) []] (by apply X.both <;> kernel_rfl!)
theorem c4r0_e (X : Cx) (n k L cl cs co cu it acc ns ea i S e1 Se e2 u tu : Nat) (as xs ss : NN) (F : LG) (y1 y2 y3 y4 y5 y6 y7 y8 : Nat) (i1 : Int) : REC X 0 (.compLoop c4 0 (.ref it) (.ref acc) (c4Env ns L cl cs co cu)) n k ([(cs, cel (some (.ref Se))), (cu, cel (some (iv u tu))), (acc, lst (ivs as) ea), (ns, dct [] 0), (it, lit S i), (S, lst (ivs xs) e1), (Se, lst (ivs ss) e2)] ++ F) [3, 4, 5, 6, 7, 8, 9] 10 (.again (.compLoop c4 0 (.ref it) (.ref acc) (c4Env ns L cl cs co cu))) (n + 3) (k + 8) ([(cs, cel (some (.ref Se))), (cu, cel (some (iv u tu))), (acc, lst (ivs as) ea), (ns, dct [en X "v" k (iv y1 y2)] 1), (it, lit S (i + 1)), (S, lst (ivs xs) e1), (Se, lst (ivs ss) e2)] ++ F) [CutB X (bi "int.__eq__" [(.int (i1) (k + 6)), (iv 0 336)]) (.bool true) [] (k + 8) (k + 8), CutB X (bi "int.__sub__" [(iv y3 y4), (iv y5 y6)]) (.int (i1) (k + 6)) [] (k + 6) (k + 7), CutB X (bi "int.__eq__" [(iv y8 (k + 4)), (iv 0 336)]) (.bool true) [] (k + 6) (k + 6), CutB X (bi "int.__sub__" [(iv y3 y4), (iv y7 (k + 3))]) (iv y8 (k + 4)) [] (k + 4) (k + 5), CutB X (bi "int.__and__" [(iv y3 y4), (iv y5 y6)]) (iv y7 (k + 3)) [] (k + 3) (k + 4), CutB X (bi "list.__getitem__" [(.ref Se), (iv y1 y2)]) (iv y5 y6) [(Se, lst (ivs ss) e2)] (k + 1) (k + 1), CutB X (bi "list.__getitem__" [(.ref Se), (iv u tu)]) (iv y3 y4) [(Se, lst (ivs ss) e2)] (k + 1) (k + 1), CutG X 0 false (bi "list_iterator.__next__" [(.ref it)]) (.ok (.ret (iv y1 y2))) [(it, lit S i), (S, lst (ivs xs) e1)] n k k [(it, lit S (i + 1))] []] := .mk 119 [.o 5, .g false (.ok (.ret (iv y1 y2))) k [4, 5] [(4, lit S (i + 1))] [], .o 4, .o 4, .o 0, .o 1, .o 2, .o 7, .o 7, .o 7, .v (iv y3 y4) (k + 1) [6], .o 1, .o 4, .o 7, .o 7, .o 7, .v (iv y5 y6) (k + 1) [6], .o 0, .e, .o 0, .o 0, .o 1, .o 1, .o 1, .o 1, .frame, .o 0, .o 1, .o 1, .o 1, .v (iv y7 (k + 3)) (k + 4) [], .v (iv y8 (k + 4)) (k + 5) [], .o 0, .e, .o 0, .o 0, .o 1, .o 1, .frame, .o 1, .o 0, .v (.bool true) (k + 6) [], .o 0, .o 2, .o 2, .v (.int (i1) (k + 6)) (k + 7) [], .o 0, .e, .o 0, .o 0, .o 1, .o 1, .frame, .o 1, .o 0, .v (.bool true) (k + 8) []] (by apply X.both <;> kernel_rfl!)
theorem c4r1_e (X : Cx) (n k L cl cs co cu it acc ns ea i S e1 Se e2 u tu kn a1 a2 : Nat) (as xs ss : NN) (F : LG) (y1 y2 y3 y4 y5 y6 y7 y8 : Nat) (i1 : Int) : REC X 0 (.compLoop c4 0 (.ref it) (.ref acc) (c4Env ns L cl cs co cu)) n k ([(cs, cel (some (.ref Se))), (cu, cel (some (iv u tu))), (acc, lst (ivs as) ea), (ns, dct [en X "v" kn (iv a1 a2)] 1), (it, lit S i), (S, lst (ivs xs) e1), (Se, lst (ivs ss) e2)] ++ F) [3, 4, 5, 6, 7, 8, 9] 10 (.again (.compLoop c4 0 (.ref it) (.ref acc) (c4Env ns L cl cs co cu))) (n + 3) (k + 8) ([(cs, cel (some (.ref Se))), (cu, cel (some (iv u tu))), (acc, lst (ivs as) ea), (ns, dct [en X "v" kn (iv y1 y2)] 1), (it, lit S (i + 1)), (S, lst (ivs xs) e1), (Se, lst (ivs ss) e2)] ++ F) [CutB X (bi "int.__eq__" [(.int (i1) (k + 6)), (iv 0 336)]) (.bool true) [] (k + 8) (k + 8), CutB X (bi "int.__sub__" [(iv y3 y4), (iv y5 y6)]) (.int (i1) (k + 6)) [] (k + 6) (k + 7), CutB X (bi "int.__eq__" [(iv y8 (k + 4)), (iv 0 336)]) (.bool true) [] (k + 6) (k + 6), CutB X (bi "int.__sub__" [(iv y3 y4), (iv y7 (k + 3))]) (iv y8 (k + 4)) [] (k + 4) (k + 5), CutB X (bi "int.__and__" [(iv y3 y4), (iv y5 y6)]) (iv y7 (k + 3)) [] (k + 3) (k + 4), CutB X (bi "list.__getitem__" [(.ref Se), (iv y1 y2)]) (iv y5 y6) [(Se, lst (ivs ss) e2)] (k + 1) (k + 1), CutB X (bi "list.__getitem__" [(.ref Se), (iv u tu)]) (iv y3 y4) [(Se, lst (ivs ss) e2)] (k + 1) (k + 1), CutG X 0 false (bi "list_iterator.__next__" [(.ref it)]) (.ok (.ret (iv y1 y2))) [(it, lit S i), (S, lst (ivs xs) e1)] n k k [(it, lit S (i + 1))] []] := .mk 119 [.o 5, .g false (.ok (.ret (iv y1 y2))) k [4, 5] [(4, lit S (i + 1))] [], .o 4, .o 4, .o 0, .o 1, .o 2, .o 7, .o 7, .o 7, .v (iv y3 y4) (k + 1) [6], .o 1, .o 4, .o 7, .o 7, .o 7, .v (iv y5 y6) (k + 1) [6], .o 0, .e, .o 0, .o 0, .o 1, .o 1, .o 1, .o 1, .frame, .o 0, .o 1, .o 1, .o 1, .v (iv y7 (k + 3)) (k + 4) [], .v (iv y8 (k + 4)) (k + 5) [], .o 0, .e, .o 0, .o 0, .o 1, .o 1, .frame, .o 1, .o 0, .v (.bool true) (k + 6) [], .o 0, .o 2, .o 2, .v (.int (i1) (k + 6)) (k + 7) [], .o 0, .e, .o 0, .o 0, .o 1, .o 1, .frame, .o 1, .o 0, .v (.bool true) (k + 8) []] (by apply X.both <;> kernel_rfl!)
theorem c4e_e (X : Cx) (n k L cl cs co cu it acc ns ea i S e1 Se e2 u tu kn a1 a2 : Nat) (as xs ss : NN) (F : LG) : REC X 0 (.compLoop c4 0 (.ref it) (.ref acc) (c4Env ns L cl cs co cu)) n k ([(cs, cel (some (.ref Se))), (cu, cel (some (iv u tu))), (acc, lst (ivs as) ea), (ns, dct [en X "v" kn (iv a1 a2)] 1), (it, lit S i), (S, lst (ivs xs) e1), (Se, lst (ivs ss) e2)] ++ F) [2, 3, 4, 5, 7, 8] 9 (.done (.next)) (n + 2) k ([(cs, cel (some (.ref Se))), (cu, cel (some (iv u tu))), (acc, lst (ivs as) ea), (ns, dct [en X "v" kn (iv a1 a2)] 1), (S, lst (ivs xs) e1), (Se, lst (ivs ss) e2)] ++ F) [CutG X 0 false (bi "list_iterator.__next__" [(.ref it)]) (.error (.ref (n + 1))) [(it, lit S i), (S, lst (ivs xs) e1)] n k k [(it, fld "list_iterator" [.none, (iv i 0)])] [tup [], fld "StopIteration" [(.ref n), .none, .none, .none, (.bool false), .none]]] := .mk 4 [.o 5, .g false (.error (.ref (n + 1))) k [4, 5] [(4, fld "list_iterator" [.none, (iv i 0)])] [tup [], fld "StopIteration" [(.ref n), .none, .none, .none, (.bool false), .none]], .o 1] (by kernel_rfl!)
theorem c5n0_e (X : Cx) (n k L cl cs co cu it acc ns ea i S e1 Od eD : Nat) (as xs : NN) (ds : List (Nat × Nat × Nat)) (F : LG) (y1 y2 : Nat) : RE X 0 [] (.compLoop c5 0 (.ref it) (.ref acc) (c5Env ns L cl cs co cu)) (PySem.W.R.bindR (nextInT (nmS (cpGen c5).target) (nmP (cpGen c5).target) (c5Env ns L cl cs co cu) (.ref it)) (fun f => .pure (.done f))) n k ([(co, cel (some (.ref Od))), (acc, lst (ivs as) ea), (ns, dct [] 0), (it, lit S i), (S, lst (ivs xs) e1), (Od, dct (dcs ds) eD)] ++ F) [0, 1, 2, 3, 4, 5] 6 (.done (.ret (iv y1 y2))) n (k + 1) ([(co, cel (some (.ref Od))), (acc, lst (ivs as) ea), (ns, dct [en X "u" k (iv y1 y2)] 1), (it, lit S (i + 1)), (S, lst (ivs xs) e1), (Od, dct (dcs ds) eD)] ++ F) [CutG X 0 false (bi "list_iterator.__next__" [(.ref it)]) (.ok (.ret (iv y1 y2))) [(it, lit S i), (S, lst (ivs xs) e1)] n k k [(it, lit S (i + 1))] []] := .mk 9 [.o 4, .g false (.ok (.ret (iv y1 y2))) k [3, 4] [(3, lit S (i + 1))] [], .o 3, .o 3] (by kernel_rfl!)
theorem c5n1_e (X : Cx) (n k L cl cs co cu it acc ns ea i S e1 Od eD kn a1 a2 : Nat) (as xs : NN) (ds : List (Nat × Nat × Nat)) (F : LG) (y1 y2 : Nat) : RE X 0 [] (.compLoop c5 0 (.ref it) (.ref acc) (c5Env ns L cl cs co cu)) (PySem.W.R.bindR (nextInT (nmS (cpGen c5).target) (nmP (cpGen c5).target) (c5Env ns L cl cs co cu) (.ref it)) (fun f => .pure (.done f))) n k ([(co, cel (some (.ref Od))), (acc, lst (ivs as) ea), (ns, dct [en X "u" kn (iv a1 a2)] 1), (it, lit S i), (S, lst (ivs xs) e1), (Od, dct (dcs ds) eD)] ++ F) [0, 1, 2, 3, 4, 5] 6 (.done (.ret (iv y1 y2))) n (k + 1) ([(co, cel (some (.ref Od))), (acc, lst (ivs as) ea), (ns, dct [en X "u" kn (iv y1 y2)] 1), (it, lit S (i + 1)), (S, lst (ivs xs) e1), (Od, dct (dcs ds) eD)] ++ F) [CutG X 0 false (bi "list_iterator.__next__" [(.ref it)]) (.ok (.ret (iv y1 y2))) [(it, lit S i), (S, lst (ivs xs) e1)] n k k [(it, lit S (i + 1))] []] := .mk 9 [.o 4, .g false (.ok (.ret (iv y1 y2))) k [3, 4] [(3, lit S (i + 1))] [], .o 3, .o 3] (by kernel_rfl!)
theorem c5e_e (X : Cx) (n k L cl cs co cu it acc ns ea i S e1 Od eD kn a1 a2 : Nat) (as xs : NN) (ds : List (Nat × Nat × Nat)) (F : LG) : RE X 0 [] (.compLoop c5 0 (.ref it) (.ref acc) (c5Env ns L cl cs co cu)) (PySem.W.R.bindR (nextInT (nmS (cpGen c5).target) (nmP (cpGen c5).target) (c5Env ns L cl cs co cu) (.ref it)) (fun f => .pure (.done f))) n k ([(co, cel (some (.ref Od))), (acc, lst (ivs as) ea), (ns, dct [en X "u" kn (iv a1 a2)] 1), (it, lit S i), (S, lst (ivs xs) e1), (Od, dct (dcs ds) eD)] ++ F) [2, 3, 4, 6, 7] 8 (.done (.brk)) (n + 2) k ([(co, cel (some (.ref Od))), (acc, lst (ivs as) ea), (ns, dct [en X "u" kn (iv a1 a2)] 1), (S, lst (ivs xs) e1), (Od, dct (dcs ds) eD)] ++ F) [CutG X 0 false (bi "list_iterator.__next__" [(.ref it)]) (.error (.ref (n + 1))) [(it, lit S i), (S, lst (ivs xs) e1)] n k k [(it, fld "list_iterator" [.none, (iv i 0)])] [tup [], fld "StopIteration" [(.ref n), .none, .none, .none, (.bool false), .none]]] := .mk 3 [.o 4, .g false (.error (.ref (n + 1))) k [3, 4] [(3, fld "list_iterator" [.none, (iv i 0)])] [tup [], fld "StopIteration" [(.ref n), .none, .none, .none, (.bool false), .none]], .o 1] (by kernel_rfl!)
theorem c5l_e (X : Cx) (n k L cl cs co cu it acc ns ea i S e1 Od eD kn a1 a2 : Nat) (as xs : NN) (ds : List (Nat × Nat × Nat)) (B : Nat) (F : LG) : RE X 0 [] (.compLoop c5 0 (.ref it) (.ref acc) (c5Env ns L cl cs co cu)) (PySem.W.R.bindR (evalT (cmpL (cpIf c5)) (c5Env ns L cl cs co cu)) (fun v => .pure (.done (.ret v)))) n k ([(co, cel (some (.ref Od))), (acc, lst (ivs as) ea), (ns, dct [en X "u" kn (iv a1 a2)] 1), (it, lit S i), (S, lst (ivs xs) e1), (Od, dct (dcs ds) eD)] ++ F) [0, 1, 2, 3, 4, 5] 6 (.done (.ret (.ref B))) n (k + 1) ([(co, cel (some (.ref Od))), (acc, lst (ivs as) ea), (ns, dct [en X "u" kn (iv a1 a2)] 1), (it, lit S i), (S, lst (ivs xs) e1), (Od, dct (dcs ds) eD)] ++ F) [CutB X (bi "dict.__getitem__" [(.ref Od), (iv a1 a2)]) (.ref B) [(Od, dct (dcs ds) eD)] k (k + 1)] := .mk 9 [.o 1, .o 3, .o 6, .o 6, .o 6, .v (.ref B) (k + 1) [5]] (by kernel_rfl!)
theorem c5r_e (X : Cx) (n k L cl cs co cu it acc ns ea i S e1 Od eD kn a1 a2 : Nat) (as xs : NN) (ds : List (Nat × Nat × Nat)) (F : LG) : RE X 0 [] (.compLoop c5 0 (.ref it) (.ref acc) (c5Env ns L cl cs co cu)) (PySem.W.R.bindR (evalT (cmpR (cpIf c5)) (c5Env ns L cl cs co cu)) (fun v => .pure (.done (.ret v)))) n k ([(co, cel (some (.ref Od))), (acc, lst (ivs as) ea), (ns, dct [en X "u" kn (iv a1 a2)] 1), (it, lit S i), (S, lst (ivs xs) e1), (Od, dct (dcs ds) eD)] ++ F) [0, 1, 2, 3, 4, 5, 6] 7 (.done (.ret (.ref n))) (n + 1) k ([(n, lst [] 0), (co, cel (some (.ref Od))), (acc, lst (ivs as) ea), (ns, dct [en X "u" kn (iv a1 a2)] 1), (it, lit S i), (S, lst (ivs xs) e1), (Od, dct (dcs ds) eD)] ++ F) [] := .mk 2 [] (by kernel_rfl!)
theorem c5t_e (X : Cx) (n k L cl cs co cu it acc ns ea i S e1 Od eD kn a1 a2 : Nat) (as xs : NN) (ds : List (Nat × Nat × Nat)) (F : LG) (z1 : NN) : RE X 0 [] (.compLoop c5 0 (.ref it) (.ref acc) (c5Env ns L cl cs co cu)) (PySem.W.R.bindR (emitInT (cpElt c5) (c5Env ns L cl cs co cu) (.ref acc)) (fun f => .pure (.done f))) n k ([(co, cel (some (.ref Od))), (acc, lst (ivs as) ea), (ns, dct [en X "u" kn (iv a1 a2)] 1), (it, lit S i), (S, lst (ivs xs) e1), (Od, dct (dcs ds) eD)] ++ F) [0, 1, 2, 3, 4, 5] 6 (.done (.next)) n k ([(co, cel (some (.ref Od))), (acc, lst (ivs z1) (ea + 1)), (ns, dct [en X "u" kn (iv a1 a2)] 1), (it, lit S i), (S, lst (ivs xs) e1), (Od, dct (dcs ds) eD)] ++ F) [CutG X 0 false (bi "list.append" [(.ref acc), (iv a1 a2)]) (.ok (.ret .none)) [(acc, lst (ivs as) ea)] n k k [(acc, lst (ivs z1) (ea + 1))] []] := .mk 3 [.o 3, .g false (.ok (.ret .none)) k [1] [(1, lst (ivs z1) (ea + 1))] []] (by kernel_rfl!)
theorem c6n0_e (X : Cx) (n k L cl cs co cu it acc ns ea i S e1 Od eD : Nat) (as xs : NN) (ds : List (Nat × Nat × Nat)) (F : LG) (y1 y2 : Nat) : RE X 0 [] (.compLoop c6 0 (.ref it) (.ref acc) (c6Env ns L cl cs co cu)) (PySem.W.R.bindR (nextInT (nmS (cpGen c6).target) (nmP (cpGen c6).target) (c6Env ns L cl cs co cu) (.ref it)) (fun f => .pure (.done f))) n k ([(co, cel (some (.ref Od))), (acc, lst (ivs as) ea), (ns, dct [] 0), (it, lit S i), (S, lst (ivs xs) e1), (Od, dct (dcs ds) eD)] ++ F) [0, 1, 2, 3, 4, 5] 6 (.done (.ret (iv y1 y2))) n (k + 1) ([(co, cel (some (.ref Od))), (acc, lst (ivs as) ea), (ns, dct [en X "v" k (iv y1 y2)] 1), (it, lit S (i + 1)), (S, lst (ivs xs) e1), (Od, dct (dcs ds) eD)] ++ F) [CutG X 0 false (bi "list_iterator.__next__" [(.ref it)]) (.ok (.ret (iv y1 y2))) [(it, lit S i), (S, lst (ivs xs) e1)] n k k [(it, lit S (i + 1))] []] := .mk 9 [.o 4, .g false (.ok (.ret (iv y1 y2))) k [3, 4] [(3, lit S (i + 1))] [], .o 3, .o 3] (by kernel_rfl!)
theorem c6n1_e (X : Cx) (n k L cl cs co cu it acc ns ea i S e1 Od eD kn a1 a2 : Nat) (as xs : NN) (ds : List (Nat × Nat × Nat)) (F : LG) (y1 y2 : Nat) : RE X 0 [] (.compLoop c6 0 (.ref it) (.ref acc) (c6Env ns L cl cs co cu)) (PySem.W.R.bindR (nextInT (nmS (cpGen c6).target) (nmP (cpGen c6).target) (c6Env ns L cl cs co cu) (.ref it)) (fun f => .pure (.done f))) n k ([(co, cel (some (.ref Od))), (acc, lst (ivs as) ea), (ns, dct [en X "v" kn (iv a1 a2)] 1), (it, lit S i), (S, lst (ivs xs) e1), (Od, dct (dcs ds) eD)] ++ F) [0, 1, 2, 3, 4, 5] 6 (.done (.ret (iv y1 y2))) n (k + 1) ([(co, cel (some (.ref Od))), (acc, lst (ivs as) ea), (ns, dct [en X "v" kn (iv y1 y2)] 1), (it, lit S (i + 1)), (S, lst (ivs xs) e1), (Od, dct (dcs ds) eD)] ++ F) [CutG X 0 false (bi "list_iterator.__next__" [(.ref it)]) (.ok (.ret (iv y1 y2))) [(it, lit S i), (S, lst (ivs xs) e1)] n k k [(it, lit S (i + 1))] []] := .mk 9 [.o 4, .g false (.ok (.ret (iv y1 y2))) k [3, 4] [(3, lit S (i + 1))] [], .o 3, .o 3] (by kernel_rfl!)
theorem c6e_e (X : Cx) (n k L cl cs co cu it acc ns ea i S e1 Od eD kn a1 a2 : Nat) (as xs : NN) (ds : List (Nat × Nat × Nat)) (F : LG) : RE X 0 [] (.compLoop c6 0 (.ref it) (.ref acc) (c6Env ns L cl cs co cu)) (PySem.W.R.bindR (nextInT (nmS (cpGen c6).target) (nmP (cpGen c6).target) (c6Env ns L cl cs co cu) (.ref it)) (fun f => .pure (.done f))) n k ([(co, cel (some (.ref Od))), (acc, lst (ivs as) ea), (ns, dct [en X "v" kn (iv a1 a2)] 1), (it, lit S i), (S, lst (ivs xs) e1), (Od, dct (dcs ds) eD)] ++ F) [2, 3, 4, 6, 7] 8 (.done (.brk)) (n + 2) k ([(co, cel (some (.ref Od))), (acc, lst (ivs as) ea), (ns, dct [en X "v" kn (iv a1 a2)] 1), (S, lst (ivs xs) e1), (Od, dct (dcs ds) eD)] ++ F) [CutG X 0 false (bi "list_iterator.__next__" [(.ref it)]) (.error (.ref (n + 1))) [(it, lit S i), (S, lst (ivs xs) e1)] n k k [(it, fld "list_iterator" [.none, (iv i 0)])] [tup [], fld "StopIteration" [(.ref n), .none, .none, .none, (.bool false), .none]]] := .mk 3 [.o 4, .g false (.error (.ref (n + 1))) k [3, 4] [(3, fld "list_iterator" [.none, (iv i 0)])] [tup [], fld "StopIteration" [(.ref n), .none, .none, .none, (.bool false), .none]], .o 1] (by kernel_rfl!)
theorem c6l_e (X : Cx) (n k L cl cs co cu it acc ns ea i S e1 Od eD kn a1 a2 : Nat) (as xs : NN) (ds : List (Nat × Nat × Nat)) (B : Nat) (F : LG) : RE X 0 [] (.compLoop c6 0 (.ref it) (.ref acc) (c6Env ns L cl cs co cu)) (PySem.W.R.bindR (evalT (cmpL (cpIf c6)) (c6Env ns L cl cs co cu)) (fun v => .pure (.done (.ret v)))) n k ([(co, cel (some (.ref Od))), (acc, lst (ivs as) ea), (ns, dct [en X "v" kn (iv a1 a2)] 1), (it, lit S i), (S, lst (ivs xs) e1), (Od, dct (dcs ds) eD)] ++ F) [0, 1, 2, 3, 4, 5] 6 (.done (.ret (.ref B))) n (k + 1) ([(co, cel (some (.ref Od))), (acc, lst (ivs as) ea), (ns, dct [en X "v" kn (iv a1 a2)] 1), (it, lit S i), (S, lst (ivs xs) e1), (Od, dct (dcs ds) eD)] ++ F) [CutB X (bi "dict.__getitem__" [(.ref Od), (iv a1 a2)]) (.ref B) [(Od, dct (dcs ds) eD)] k (k + 1)] := .mk 9 [.o 1, .o 3, .o 6, .o 6, .o 6, .v (.ref B) (k + 1) [5]] (by kernel_rfl!)
theorem c6r_e (X : Cx) (n k L cl cs co cu it acc ns ea i S e1 Od eD kn a1 a2 : Nat) (as xs : NN) (ds : List (Nat × Nat × Nat)) (F : LG) : RE X 0 [] (.compLoop c6 0 (.ref it) (.ref acc) (c6Env ns L cl cs co cu)) (PySem.W.R.bindR (evalT (cmpR (cpIf c6)) (c6Env ns L cl cs co cu)) (fun v => .pure (.done (.ret v)))) n k ([(co, cel (some (.ref Od))), (acc, lst (ivs as) ea), (ns, dct [en X "v" kn (iv a1 a2)] 1), (it, lit S i), (S, lst (ivs xs) e1), (Od, dct (dcs ds) eD)] ++ F) [0, 1, 2, 3, 4, 5, 6] 7 (.done (.ret (.ref n))) (n + 1) k ([(n, lst [] 0), (co, cel (some (.ref Od))), (acc, lst (ivs as) ea), (ns, dct [en X "v" kn (iv a1 a2)] 1), (it, lit S i), (S, lst (ivs xs) e1), (Od, dct (dcs ds) eD)] ++ F) [] := .mk 2 [] (by kernel_rfl!)
theorem c6t_e (X : Cx) (n k L cl cs co cu it acc ns ea i S e1 Od eD kn a1 a2 : Nat) (as xs : NN) (ds : List (Nat × Nat × Nat)) (F : LG) (z1 : NN) : RE X 0 [] (.compLoop c6 0 (.ref it) (.ref acc) (c6Env ns L cl cs co cu)) (PySem.W.R.bindR (emitInT (cpElt c6) (c6Env ns L cl cs co cu) (.ref acc)) (fun f => .pure (.done f))) n k ([(co, cel (some (.ref Od))), (acc, lst (ivs as) ea), (ns, dct [en X "v" kn (iv a1 a2)] 1), (it, lit S i), (S, lst (ivs xs) e1), (Od, dct (dcs ds) eD)] ++ F) [0, 1, 2, 3, 4, 5] 6 (.done (.next)) n k ([(co, cel (some (.ref Od))), (acc, lst (ivs z1) (ea + 1)), (ns, dct [en X "v" kn (iv a1 a2)] 1), (it, lit S i), (S, lst (ivs xs) e1), (Od, dct (dcs ds) eD)] ++ F) [CutG X 0 false (bi "list.append" [(.ref acc), (iv a1 a2)]) (.ok (.ret .none)) [(acc, lst (ivs as) ea)] n k k [(acc, lst (ivs z1) (ea + 1))] []] := .mk 3 [.o 3, .g false (.ok (.ret .none)) k [1] [(1, lst (ivs z1) (ea + 1))] []] (by kernel_rfl!)
section
theorem quiet_comp {e : Expr} {it acc : Value} {env : Env} (h : ∃ elt gs sc p, e = .ListComp elt gs sc p := by exact ⟨_, _, _, _, rfl⟩) : (Code.compLoop e 0 it acc env).quiet = true := by obtain ⟨_, _, _, _, rfl⟩ := h; rfl
section
variable {X : Cx}
noncomputable def bits (m : Nat) : List Nat := (List.range 7).filter m.testBit
noncomputable abbrev c1C (it acc ns L cl cs co cu : Nat) : Code := .compLoop c1 0 (.ref it) (.ref acc) (c1Env ns L cl cs co cu)
noncomputable def c1I (X : Cx) (it acc ns cl lv lt : Nat) (i n k : Nat) (T : LG) : Prop := ∃ (fv : Option (Nat × Nat × Nat)) (as : NN) (ea : Nat), (0 < i → ∃ p, fv = some p) ∧ as.length ≤ i ∧ as.map (·.1) = (List.range i).filter lv.testBit ∧
  T = [(cl, cel (some (iv lv lt))), (acc, lst (ivs as) ea), (ns, vfr X "k" fv), (it, rit i (7 - i))]
theorem c1_turn (hk : KtOk X (kt X)) {it acc ns L cl cs co cu lv lt i : Nat} (hi : i < 7) : Turn X 70 (c1C it acc ns L cl cs co cu) (c1I X it acc ns cl lv lt i) (c1I X it acc ns cl lv lt (i + 1)) := by
  rintro n k T ⟨fv, as, ea, h0, hl, hs, rfl⟩ A s F R hA H q
  have e7 : 7 - i - 1 = 7 - (i + 1) := by omega
  by_cases hb : lv.testBit i = true
  · have hs' : (as ++ [(i, k)]).map (·.1) = (List.range (i + 1)).filter lv.testBit := by rw [List.map_append, hs, range_next, if_pos hb]; rfl
    cases fv with
    | none =>
      refine startC (ranAgain (c1t0_e ..) quiet_comp hk hA (.cons (c_appI (by omega)) (.cons (c_boolT (testBit_and.mpr hb)) (.cons c_andN (.cons c_rshiftN (.cons (c_rnext (by omega)) .nil))))) H fun s' H' => ?_)
      exact q _ _ _ _ ⟨some (_, _, _), _, _, fun _ => ⟨_, rfl⟩, by simp; omega, hs', by rw [← e7]; rfl⟩ H'
    | some p =>
      obtain ⟨p1, p2, p3⟩ := p
      refine startC (ranAgain (c1t1_e ..) quiet_comp hk hA (.cons (c_appI (by omega)) (.cons (c_boolT (testBit_and.mpr hb)) (.cons c_andN (.cons c_rshiftN (.cons (c_rnext (by omega)) .nil))))) H fun s' H' => ?_)
      exact q _ _ _ _ ⟨some (_, _, _), _, _, fun _ => ⟨_, rfl⟩, by simp; omega, hs', by rw [← e7]; rfl⟩ H'
  · have hs' : as.map (·.1) = (List.range (i + 1)).filter lv.testBit := by rw [hs, range_next, if_neg hb]; simp
    have hb' : lv >>> i &&& 1 = 0 := by
      rcases Nat.eq_zero_or_pos (lv >>> i &&& 1) with z | z
      · exact z
      · exact absurd (testBit_and.mp (by omega)) hb
    cases fv with
    | none =>
      refine startC (ranAgain (c1s0_e ..) quiet_comp hk hA (.cons (c_boolF hb') (.cons c_andN (.cons c_rshiftN (.cons (c_rnext (by omega)) .nil)))) H fun s' H' => ?_)
      exact q _ _ _ _ ⟨some (_, _, _), _, _, fun _ => ⟨_, rfl⟩, by omega, hs', by rw [← e7]; rfl⟩ H'
    | some p =>
      obtain ⟨p1, p2, p3⟩ := p
      refine startC (ranAgain (c1s1_e ..) quiet_comp hk hA (.cons (c_boolF hb') (.cons c_andN (.cons c_rshiftN (.cons (c_rnext (by omega)) .nil)))) H fun s' H' => ?_)
      exact q _ _ _ _ ⟨some (_, _, _), _, _, fun _ => ⟨_, rfl⟩, by omega, hs', by rw [← e7]; rfl⟩ H'
theorem c1_does (hk : KtOk X (kt X)) (it acc ns L cl cs co cu lv lt n k : Nat) : DoesK X 70 (.compStart c1 0 (.ref it) (.ref acc) (c1Env ns L cl cs co cu)) n k [(cl, cel (some (iv lv lt))), (acc, lst [] 0), (ns, dct [] 0), (it, rit 0 7)]
    (fun K => ∀ n' k' (kn a1 a2 : Nat) (as : NN) (ea : Nat), as.map (·.1) = bits lv → K (.ok .next) n' k' ([(cl, cel (some (iv lv lt))), (acc, lst (ivs as) ea), (ns, dct [en X "k" kn (iv a1 a2)] 1)])) := by
  intro A s F R hA H qk
  refine comp_start_r ⟨_, _, _, _, _, _, _, rfl⟩ (H.own (it, rit 0 7) (by simp)) ?_
  refine loopK (N := 7) (I := c1I X it acc ns cl lv lt) (fun i hi => c1_turn hk hi) ?_ 7 0 rfl n k _ ⟨none, [], 0, fun h => absurd h (Nat.lt_irrefl 0), Nat.le_refl _, rfl, rfl⟩ A s hA H
  rintro n k T ⟨fv, as, ea, h0, hl, hs, rfl⟩ A s hA H
  obtain ⟨p, rfl⟩ := h0 (by omega)
  refine startC (ran (c1e_e ..) hk hA (.cons c_rend .nil) H fun s' H' => ?_)
  exact qk _ _ _ _ _ _ _ hs _ H'
noncomputable abbrev c2C (it acc ns L cl cs co cu : Nat) : Code := .compLoop c2 0 (.ref it) (.ref acc) (c2Env ns L cl cs co cu)
noncomputable def c2I (X : Cx) (it acc ns cl lv lt N e1 : Nat) (xs : NN) (i n k : Nat) (T : LG) : Prop := ∃ (fv : Option (Nat × Nat × Nat)) (as : NN) (ea : Nat), (0 < i → ∃ p, fv = some p) ∧ as.length ≤ i ∧ as.map (·.1) = (xs.take i).map (fun (p : Nat × Nat) => lv &&& p.1) ∧
  T = [(cl, cel (some (iv lv lt))), (acc, lst (ivs as) ea), (ns, vfr X "sight" fv), (it, lit N i), (N, lst (ivs xs) e1)]
theorem c2_turn (hk : KtOk X (kt X)) {it acc ns L cl cs co cu lv lt N e1 i : Nat} {xs : NN} (hx : xs.length < 900) (hi : i < xs.length) : Turn X 70 (c2C it acc ns L cl cs co cu) (c2I X it acc ns cl lv lt N e1 xs i) (c2I X it acc ns cl lv lt N e1 xs (i + 1)) := by
  rintro n k T ⟨fv, as, ea, h0, hl, hs, rfl⟩ A s F R hA H q
  obtain ⟨⟨v, w⟩, g⟩ := get_some (l := xs) hi
  have hs' : ∀ u : Nat, (as ++ [(lv &&& v, u)]).map (·.1) = (xs.take (i + 1)).map (fun (p : Nat × Nat) => lv &&& p.1) := fun u => by rw [List.map_append, hs, take_next g, List.map_append]; rfl
  cases fv with
  | none =>
    refine startC (ranAgain (c2t0_e ..) quiet_comp hk hA (.cons (c_appI (by omega)) (.cons c_andN (.cons (c_nextI g) .nil))) H fun s' H' => ?_)
    exact q _ _ _ _ ⟨some (_, _, _), _, _, fun _ => ⟨_, rfl⟩, by simp; omega, hs' _, rfl⟩ H'
  | some p =>
    obtain ⟨p1, p2, p3⟩ := p
    refine startC (ranAgain (c2t1_e ..) quiet_comp hk hA (.cons (c_appI (by omega)) (.cons c_andN (.cons (c_nextI g) .nil))) H fun s' H' => ?_)
    exact q _ _ _ _ ⟨some (_, _, _), _, _, fun _ => ⟨_, rfl⟩, by simp; omega, hs' _, rfl⟩ H'
theorem c2_does (hk : KtOk X (kt X)) (it acc ns L cl cs co cu lv lt N e1 n k : Nat) (xs : NN) (hx : xs.length < 900) (hne : 0 < xs.length) : DoesK X 70 (.compStart c2 0 (.ref it) (.ref acc) (c2Env ns L cl cs co cu)) n k [(cl, cel (some (iv lv lt))), (acc, lst [] 0), (ns, dct [] 0), (it, lit N 0), (N, lst (ivs xs) e1)]
    (fun K => ∀ n' k' (kn a1 a2 : Nat) (as : NN) (ea : Nat), as.map (·.1) = xs.map (fun (p : Nat × Nat) => lv &&& p.1) → K (.ok .next) n' k' ([(cl, cel (some (iv lv lt))), (acc, lst (ivs as) ea), (ns, dct [en X "sight" kn (iv a1 a2)] 1), (N, lst (ivs xs) e1)])) := by
  intro A s F R hA H qk
  refine comp_start_l ⟨_, _, _, _, _, _, _, rfl⟩ (H.own (it, lit N 0) (by simp)) ?_
  refine loopK (N := xs.length) (I := c2I X it acc ns cl lv lt N e1 xs) (fun i hi => c2_turn hk hx hi) ?_ xs.length 0 rfl n k _ ⟨none, [], 0, fun h => absurd h (Nat.lt_irrefl 0), Nat.le_refl _, rfl, rfl⟩ A s hA H
  rintro n k T ⟨fv, as, ea, h0, hl, hs, rfl⟩ A s hA H
  obtain ⟨p, rfl⟩ := h0 hne
  rw [List.take_length] at hs
  refine startC (ran (c2e_e ..) hk hA (.cons (c_endI (Nat.le_refl _)) .nil) H fun s' H' => ?_)
  exact qk _ _ _ _ _ _ _ hs _ H'
noncomputable abbrev c3C (it acc ns L cl cs co cu : Nat) : Code := .compLoop c3 0 (.ref it) (.ref acc) (c3Env ns L cl cs co cu)
noncomputable def at0 (ss : NN) (i : Nat) : Nat := (ss.map (·.1)).getD i 0
theorem at0_of {ss : NN} {i v w : Nat} (h : ss[i]? = some (v, w)) : at0 ss i = v := getD_of (by simp [h])
noncomputable def c3I (X : Cx) (it acc ns cl cs lv lt S e1 Se e2 : Nat) (xs ss : NN) (i n k : Nat) (T : LG) : Prop := ∃ (fv : Option (Nat × Nat × Nat)) (as : NN) (ea : Nat), (0 < i → ∃ p, fv = some p) ∧ as.length ≤ i ∧ as.map (·.1) = ((xs.take i).map (·.1)).filter (fun x => at0 ss x == lv) ∧
  T = [(cl, cel (some (iv lv lt))), (cs, cel (some (.ref Se))), (acc, lst (ivs as) ea), (ns, vfr X "k" fv), (it, lit S i), (S, lst (ivs xs) e1), (Se, lst (ivs ss) e2)]
theorem c3_turn (hk : KtOk X (kt X)) {it acc ns L cl cs co cu lv lt S e1 Se e2 i : Nat} {xs ss : NN} (hx : xs.length < 900) (hb : ∀ p ∈ xs, p.1 < ss.length) (hss : ss.length < 900) (hle : ∀ p ∈ ss, p.1 ≤ lv) (hi : i < xs.length) : Turn X 70 (c3C it acc ns L cl cs co cu) (c3I X it acc ns cl cs lv lt S e1 Se e2 xs ss i) (c3I X it acc ns cl cs lv lt S e1 Se e2 xs ss (i + 1)) := by
  rintro n k T ⟨fv, as, ea, h0, hl, hs, rfl⟩ A s F R hA H q
  obtain ⟨⟨v, w⟩, g⟩ := get_some (l := xs) hi
  have hv := hb _ (List.mem_of_getElem? g)
  have hv : v < ss.length := hv
  obtain ⟨⟨y, z⟩, g2⟩ := get_some (l := ss) hv
  have hy : y ≤ lv := hle _ (List.mem_of_getElem? g2)
  have e1' : (xs.take (i + 1)).map (·.1) = (xs.take i).map (·.1) ++ [v] := by rw [take_next g, List.map_append]; rfl
  by_cases h : y = lv
  · have hs' : ∀ u : Nat, (as ++ [(v, u)]).map (·.1) = ((xs.take (i + 1)).map (·.1)).filter (fun x => at0 ss x == lv) := fun u => by rw [List.map_append, hs, e1', List.filter_append]; simp [at0_of g2, h]
    cases fv with
    | none =>
      refine startC (ranAgain (c3t0_e ..) quiet_comp hk hA (.cons (c_appI (by omega)) (.cons (c_eqT (by omega)) (.cons (c_subN hy) (.cons (c_getI g2 (by omega)) (.cons (c_nextI g) .nil))))) H fun s' H' => ?_)
      exact q _ _ _ _ ⟨some (_, _, _), _, _, fun _ => ⟨_, rfl⟩, by simp; omega, hs' _, rfl⟩ H'
    | some p =>
      obtain ⟨p1, p2, p3⟩ := p
      refine startC (ranAgain (c3t1_e ..) quiet_comp hk hA (.cons (c_appI (by omega)) (.cons (c_eqT (by omega)) (.cons (c_subN hy) (.cons (c_getI g2 (by omega)) (.cons (c_nextI g) .nil))))) H fun s' H' => ?_)
      exact q _ _ _ _ ⟨some (_, _, _), _, _, fun _ => ⟨_, rfl⟩, by simp; omega, hs' _, rfl⟩ H'
  · have hs' : as.map (·.1) = ((xs.take (i + 1)).map (·.1)).filter (fun x => at0 ss x == lv) := by rw [hs, e1', List.filter_append]; simp [at0_of g2, h]
    cases fv with
    | none =>
      refine startC (ranAgain (c3s0_e ..) quiet_comp hk hA (.cons (c_eqF (by omega)) (.cons (c_subN hy) (.cons (c_getI g2 (by omega)) (.cons (c_nextI g) .nil)))) H fun s' H' => ?_)
      exact q _ _ _ _ ⟨some (_, _, _), _, _, fun _ => ⟨_, rfl⟩, by omega, hs', rfl⟩ H'
    | some p =>
      obtain ⟨p1, p2, p3⟩ := p
      refine startC (ranAgain (c3s1_e ..) quiet_comp hk hA (.cons (c_eqF (by omega)) (.cons (c_subN hy) (.cons (c_getI g2 (by omega)) (.cons (c_nextI g) .nil)))) H fun s' H' => ?_)
      exact q _ _ _ _ ⟨some (_, _, _), _, _, fun _ => ⟨_, rfl⟩, by omega, hs', rfl⟩ H'
theorem c3_does (hk : KtOk X (kt X)) (it acc ns L cl cs co cu lv lt S e1 Se e2 n k : Nat) (xs ss : NN) (hx : xs.length < 900) (hb : ∀ p ∈ xs, p.1 < ss.length) (hss : ss.length < 900) (hle : ∀ p ∈ ss, p.1 ≤ lv) (hne : 0 < xs.length) : DoesK X 70 (.compStart c3 0 (.ref it) (.ref acc) (c3Env ns L cl cs co cu)) n k [(cl, cel (some (iv lv lt))), (cs, cel (some (.ref Se))), (acc, lst [] 0), (ns, dct [] 0), (it, lit S 0), (S, lst (ivs xs) e1), (Se, lst (ivs ss) e2)]
    (fun K => ∀ n' k' (kn a1 a2 : Nat) (as : NN) (ea : Nat), as.map (·.1) = (xs.map (·.1)).filter (fun x => at0 ss x == lv) → K (.ok .next) n' k' ([(cl, cel (some (iv lv lt))), (cs, cel (some (.ref Se))), (acc, lst (ivs as) ea), (ns, dct [en X "k" kn (iv a1 a2)] 1), (S, lst (ivs xs) e1), (Se, lst (ivs ss) e2)])) := by
  intro A s F R hA H qk
  refine comp_start_l ⟨_, _, _, _, _, _, _, rfl⟩ (H.own (it, lit S 0) (by simp)) ?_
  refine loopK (N := xs.length) (I := c3I X it acc ns cl cs lv lt S e1 Se e2 xs ss) (fun i hi => c3_turn hk hx hb hss hle hi) ?_ xs.length 0 rfl n k _ ⟨none, [], 0, fun h => absurd h (Nat.lt_irrefl 0), Nat.le_refl _, rfl, rfl⟩ A s hA H
  rintro n k T ⟨fv, as, ea, h0, hl, hs, rfl⟩ A s hA H
  obtain ⟨p, rfl⟩ := h0 hne
  rw [List.take_length] at hs
  refine startC (ran (c3e_e ..) hk hA (.cons (c_endI (Nat.le_refl _)) .nil) H fun s' H' => ?_)
  exact qk _ _ _ _ _ _ _ hs _ H'
noncomputable abbrev c4C (it acc ns L cl cs co cu : Nat) : Code := .compLoop c4 0 (.ref it) (.ref acc) (c4Env ns L cl cs co cu)
noncomputable def less (a b : Nat) : Bool := a &&& b == a && a != b
noncomputable def c4I (X : Cx) (it acc ns cs cu S e1 Se e2 u tu : Nat) (xs ss : NN) (i n k : Nat) (T : LG) : Prop := ∃ (fv : Option (Nat × Nat × Nat)) (as : NN) (ea : Nat), (0 < i → ∃ p, fv = some p) ∧ as.length ≤ i ∧ as.map (·.1) = ((xs.take i).map (·.1)).filter (fun x => less (at0 ss u) (at0 ss x)) ∧
  T = [(cs, cel (some (.ref Se))), (cu, cel (some (iv u tu))), (acc, lst (ivs as) ea), (ns, vfr X "v" fv), (it, lit S i), (S, lst (ivs xs) e1), (Se, lst (ivs ss) e2)]
theorem c4_turn (hk : KtOk X (kt X)) {it acc ns L cl cs co cu S e1 Se e2 u tu i : Nat} {xs ss : NN} (hx : xs.length < 900) (hb : ∀ p ∈ xs, p.1 < ss.length) (hu : u < ss.length) (hss : ss.length < 900) (hi : i < xs.length) : Turn X 70 (c4C it acc ns L cl cs co cu) (c4I X it acc ns cs cu S e1 Se e2 u tu xs ss i) (c4I X it acc ns cs cu S e1 Se e2 u tu xs ss (i + 1)) := by
  rintro n k T ⟨fv, as, ea, h0, hl, hs, rfl⟩ A s F R hA H q
  obtain ⟨⟨v, w⟩, g⟩ := get_some (l := xs) hi
  have hv : v < ss.length := hb _ (List.mem_of_getElem? g)
  obtain ⟨⟨y, z⟩, g2⟩ := get_some (l := ss) hv
  obtain ⟨⟨a, b⟩, g1⟩ := get_some (l := ss) hu
  have e1' : (xs.take (i + 1)).map (·.1) = (xs.take i).map (·.1) ++ [v] := by rw [take_next g, List.map_append]; rfl
  have ha : a &&& y ≤ a := Nat.and_le_left
  by_cases h1 : a &&& y = a
  · by_cases h2 : a = y
    · have hs' : as.map (·.1) = ((xs.take (i + 1)).map (·.1)).filter (fun x => less (at0 ss u) (at0 ss x)) := by rw [hs, e1', List.filter_append]; simp [at0_of g2, at0_of g1, less, h2]
      have hz : ((Int.ofNat a - Int.ofNat y : Int) == Int.ofNat 0) = true := by subst h2; simp
      cases fv with
      | none =>
        refine startC (ranAgain (c4r0_e ..) quiet_comp hk hA (.cons (c_eqZ hz) (.cons c_sub (.cons (c_eqT (by omega)) (.cons (c_subN ha) (.cons c_andN (.cons (c_getI g2 (by omega)) (.cons (c_getI g1 (by omega)) (.cons (c_nextI g) .nil)))))))) H fun s' H' => ?_)
        exact q _ _ _ _ ⟨some (_, _, _), _, _, fun _ => ⟨_, rfl⟩, by omega, hs', rfl⟩ H'
      | some p =>
        obtain ⟨p1, p2, p3⟩ := p
        refine startC (ranAgain (c4r1_e ..) quiet_comp hk hA (.cons (c_eqZ hz) (.cons c_sub (.cons (c_eqT (by omega)) (.cons (c_subN ha) (.cons c_andN (.cons (c_getI g2 (by omega)) (.cons (c_getI g1 (by omega)) (.cons (c_nextI g) .nil)))))))) H fun s' H' => ?_)
        exact q _ _ _ _ ⟨some (_, _, _), _, _, fun _ => ⟨_, rfl⟩, by omega, hs', rfl⟩ H'
    · have hs' : ∀ u' : Nat, (as ++ [(v, u')]).map (·.1) = ((xs.take (i + 1)).map (·.1)).filter (fun x => less (at0 ss u) (at0 ss x)) := fun u' => by rw [List.map_append, hs, e1', List.filter_append]; simp [at0_of g2, at0_of g1, less, h1, h2]
      have hz : ((Int.ofNat a - Int.ofNat y : Int) == Int.ofNat 0) = false := by
        rw [beq_eq_false_iff_ne]
        show ((a : Int) - (y : Int)) ≠ ((0 : Nat) : Int)
        omega
      cases fv with
      | none =>
        refine startC (ranAgain (c4t0_e ..) quiet_comp hk hA (.cons (c_appI (by omega)) (.cons (c_eqZ hz) (.cons c_sub (.cons (c_eqT (by omega)) (.cons (c_subN ha) (.cons c_andN (.cons (c_getI g2 (by omega)) (.cons (c_getI g1 (by omega)) (.cons (c_nextI g) .nil))))))))) H fun s' H' => ?_)
        exact q _ _ _ _ ⟨some (_, _, _), _, _, fun _ => ⟨_, rfl⟩, by simp; omega, hs' _, rfl⟩ H'
      | some p =>
        obtain ⟨p1, p2, p3⟩ := p
        refine startC (ranAgain (c4t1_e ..) quiet_comp hk hA (.cons (c_appI (by omega)) (.cons (c_eqZ hz) (.cons c_sub (.cons (c_eqT (by omega)) (.cons (c_subN ha) (.cons c_andN (.cons (c_getI g2 (by omega)) (.cons (c_getI g1 (by omega)) (.cons (c_nextI g) .nil))))))))) H fun s' H' => ?_)
        exact q _ _ _ _ ⟨some (_, _, _), _, _, fun _ => ⟨_, rfl⟩, by simp; omega, hs' _, rfl⟩ H'
  · have hs' : as.map (·.1) = ((xs.take (i + 1)).map (·.1)).filter (fun x => less (at0 ss u) (at0 ss x)) := by rw [hs, e1', List.filter_append]; simp [at0_of g2, at0_of g1, less, h1]
    cases fv with
    | none =>
      refine startC (ranAgain (c4s0_e ..) quiet_comp hk hA (.cons (c_eqF (by omega)) (.cons (c_subN ha) (.cons c_andN (.cons (c_getI g2 (by omega)) (.cons (c_getI g1 (by omega)) (.cons (c_nextI g) .nil)))))) H fun s' H' => ?_)
      exact q _ _ _ _ ⟨some (_, _, _), _, _, fun _ => ⟨_, rfl⟩, by omega, hs', rfl⟩ H'
    | some p =>
      obtain ⟨p1, p2, p3⟩ := p
      refine startC (ranAgain (c4s1_e ..) quiet_comp hk hA (.cons (c_eqF (by omega)) (.cons (c_subN ha) (.cons c_andN (.cons (c_getI g2 (by omega)) (.cons (c_getI g1 (by omega)) (.cons (c_nextI g) .nil)))))) H fun s' H' => ?_)
      exact q _ _ _ _ ⟨some (_, _, _), _, _, fun _ => ⟨_, rfl⟩, by omega, hs', rfl⟩ H'
theorem c4_does (hk : KtOk X (kt X)) (it acc ns L cl cs co cu S e1 Se e2 u tu n k : Nat) (xs ss : NN) (hx : xs.length < 900) (hb : ∀ p ∈ xs, p.1 < ss.length) (hu : u < ss.length) (hss : ss.length < 900) (hne : 0 < xs.length) : DoesK X 70 (.compStart c4 0 (.ref it) (.ref acc) (c4Env ns L cl cs co cu)) n k [(cs, cel (some (.ref Se))), (cu, cel (some (iv u tu))), (acc, lst [] 0), (ns, dct [] 0), (it, lit S 0), (S, lst (ivs xs) e1), (Se, lst (ivs ss) e2)]
    (fun K => ∀ n' k' (kn a1 a2 : Nat) (as : NN) (ea : Nat), as.length ≤ xs.length → as.map (·.1) = (xs.map (·.1)).filter (fun x => less (at0 ss u) (at0 ss x)) → K (.ok .next) n' k' ([(cs, cel (some (.ref Se))), (cu, cel (some (iv u tu))), (acc, lst (ivs as) ea), (ns, dct [en X "v" kn (iv a1 a2)] 1), (S, lst (ivs xs) e1), (Se, lst (ivs ss) e2)])) := by
  intro A s F R hA H qk
  refine comp_start_l ⟨_, _, _, _, _, _, _, rfl⟩ (H.own (it, lit S 0) (by simp)) ?_
  refine loopK (N := xs.length) (I := c4I X it acc ns cs cu S e1 Se e2 u tu xs ss) (fun i hi => c4_turn hk hx hb hu hss hi) ?_ xs.length 0 rfl n k _ ⟨none, [], 0, fun h => absurd h (Nat.lt_irrefl 0), Nat.le_refl _, rfl, rfl⟩ A s hA H
  rintro n k T ⟨fv, as, ea, h0, hl, hs, rfl⟩ A s hA H
  obtain ⟨p, rfl⟩ := h0 hne
  rw [List.take_length] at hs
  refine startC (ran (c4e_e ..) hk hA (.cons (c_endI (Nat.le_refl _)) .nil) H fun s' H' => ?_)
  exact qk _ _ _ _ _ _ _ hl hs _ H'
end
end
section
section
variable {X : Cx}
theorem pieceV {A : Around} {c : Code} {s : Shared} {m : Sem Value} {Q : Value → Shared → Prop} {E : Value → Shared → Prop} (v : Value) (h : Tells X A (fun r s' => r = .ok (.ret v) ∧ Q v s') [] c (PySem.W.R.bindR m fun a => .pure (.done (.ret a))) s) : wpAt (model pw X.w) (A.under c) c m Q E s := by
  refine wpAt_mono (piece (f := Flow.ret) h) (fun a s' z => ?_) fun e s' z => nomatch z.1
  obtain ⟨z1, z2⟩ := z
  cases z1; exact z2
theorem pieceF {A : Around} {c : Code} {s : Shared} {m : Sem Flow} {Q : Flow → Shared → Prop} {E : Value → Shared → Prop} (v : Flow) (h : Tells X A (fun r s' => r = .ok v ∧ Q v s') [] c (PySem.W.R.bindR m fun a => .pure (.done a)) s) : wpAt (model pw X.w) (A.under c) c m Q E s := by
  refine wpAt_mono (piece (f := fun a => a) h) (fun a s' z => ?_) fun e s' z => nomatch z.1
  obtain ⟨z1, z2⟩ := z
  cases z1; exact z2
theorem Fine.units {ρ : Nat} {A : Around} (h : Fine ρ A) (c : Code) : (A.under c).units + 64 < cLine := by
  have h1 := h.2.2
  have h2 := units_le c
  show A.units + c.cUnits + 64 < 9900
  omega
noncomputable def exPos : Expr → Pos
  | .ListComp _ _ _ p => p
  | .Compare _ _ _ p => p
  | e => e.pos
theorem c5_eq : c5 = .ListComp (cpElt c5) [⟨.Name (nmS (cpGen c5).target) (nmP (cpGen c5).target), (cpGen c5).iter, [.Compare (cmpL (cpIf c5)) [.NotEq] [cmpR (cpIf c5)] (exPos (cpIf c5))], 0⟩] (cpS c5) (exPos c5) := by kernel_rfl
theorem c6_eq : c6 = .ListComp (cpElt c6) [⟨.Name (nmS (cpGen c6).target) (nmP (cpGen c6).target), (cpGen c6).iter, [.Compare (cmpL (cpIf c6)) [.Eq] [cmpR (cpIf c6)] (exPos (cpIf c6))], 0⟩] (cpS c6) (exPos c6) := by kernel_rfl
theorem c5_in : behindInMarks .NotEq (cmpR (cpIf c5)) = false := by kernel_rfl
theorem c6_in : behindInMarks .Eq (cmpR (cpIf c6)) = false := by kernel_rfl
structure OV where
  u : Nat
  t : Nat
  a : Nat
  e : Nat
  vs : NN
noncomputable def OV.d (p : OV) : Nat × Nat × Nat := (p.u, p.t, p.a)
noncomputable def OV.o (p : OV) : Addr × Obj := (p.a, lst (ivs p.vs) p.e)
noncomputable def OV.v (p : OV) : Nat × List Nat := (p.u, p.vs.map (·.1))
noncomputable def ofind : List (Nat × List Nat) → Nat → List Nat
  | [], _ => []
  | p :: r, u => if p.1 = u then p.2 else ofind r u
theorem dfind_ov : ∀ {os : List OV} {u : Nat}, (∃ p ∈ os, p.u = u) → ∃ (i : Nat) (p : OV), os[i]? = some p ∧ dfind (os.map OV.d) u = some p.a ∧ ofind (os.map OV.v) u = p.vs.map (·.1)
  | [], u, h => by obtain ⟨p, hp, _⟩ := h; cases hp
  | q :: r, u, h => by
    by_cases e : q.u = u
    · exact ⟨0, q, rfl, by show (if q.u = u then _ else _) = _; rw [if_pos e]; rfl, by show (if q.u = u then _ else _) = _; rw [if_pos e]; rfl⟩
    · obtain ⟨p, hp, hu⟩ := h
      have hp' : p ∈ r := by
        rcases List.mem_cons.mp hp with z | z
        · subst z; exact absurd hu e
        · exact z
      obtain ⟨i, p', h1, h2, h3⟩ := dfind_ov (os := r) ⟨p, hp', hu⟩
      exact ⟨i + 1, p', h1, by show (if q.u = u then _ else dfind (r.map OV.d) u) = _; rw [if_neg e]; exact h2, by show (if q.u = u then _ else ofind (r.map OV.v) u) = _; rw [if_neg e]; exact h3⟩
noncomputable abbrev c5C (it acc ns L cl cs co cu : Nat) : Code := .compLoop c5 0 (.ref it) (.ref acc) (c5Env ns L cl cs co cu)
noncomputable def c5I (X : Cx) (it acc ns co S e1 Od eD : Nat) (xs : NN) (ds : List (Nat × Nat × Nat)) (ov : Nat → List Nat) (os : List OV) (i n k : Nat) (T : LG) : Prop := ∃ (fv : Option (Nat × Nat × Nat)) (as : NN) (ea : Nat), (0 < i → ∃ p, fv = some p) ∧ as.length ≤ i ∧ as.map (·.1) = ((xs.take i).map (·.1)).filter (fun x => ov x ≠ []) ∧
  T = [(co, cel (some (.ref Od))), (acc, lst (ivs as) ea), (ns, vfr X "u" fv), (it, lit S i), (S, lst (ivs xs) e1), (Od, dct (dcs ds) eD)] ++ os.map OV.o
theorem c5_rest (hk : KtOk X (kt X)) {it acc ns L cl cs co cu S e1 Od eD i n k kn v w ea : Nat} {xs as : NN} {ds : List (Nat × Nat × Nat)} {ov : Nat → List Nat} {os : List OV} (hx : xs.length < 900) (hos : ∃ p ∈ os, dfind ds v = some p.a ∧ ov v = p.vs.map (·.1)) (hl : as.length ≤ i) (hi : i < xs.length) (g : xs[i]? = some (v, w))
    (hs : as.map (·.1) = ((xs.take i).map (·.1)).filter (fun x => ov x ≠ [])) {A : Around} {s : Shared} {F : LG} {R : Result → Shared → Prop} (hA : Fine 70 A)
    (H : Rep X n k ([(co, cel (some (.ref Od))), (acc, lst (ivs as) ea), (ns, dct [en X "u" kn (iv v w)] 1), (it, lit S (i + 1)), (S, lst (ivs xs) e1), (Od, dct (dcs ds) eD)] ++ (os.map OV.o ++ F)) s)
    (q : ∀ n' k' T' s', c5I X it acc ns co S e1 Od eD xs ds ov os (i + 1) n' k' T' → Rep X n' k' (T' ++ F) s' → codeAny (model pw X.w) A (c5C it acc ns L cl cs co cu) R s') :
    wpAt (model pw X.w) (A.under (c5C it acc ns L cl cs co cu)) (c5C it acc ns L cl cs co cu) (PySem.isTrue (.Compare (cmpL (cpIf c5)) [.NotEq] [cmpR (cpIf c5)] (exPos (cpIf c5))) (c5Env ns L cl cs co cu) (eval (.Compare (cmpL (cpIf c5)) [.NotEq] [cmpR (cpIf c5)] (exPos (cpIf c5))) (c5Env ns L cl cs co cu)))
      (fun b s₃ => if b = true then wpAt (model pw X.w) (A.under (c5C it acc ns L cl cs co cu)) (c5C it acc ns L cl cs co cu) (emitIn (cpElt c5) (c5Env ns L cl cs co cu) (.ref acc)) (fun _ s₅ => codeAny (model pw X.w) A (c5C it acc ns L cl cs co cu) R s₅) (fun _ _ => False) s₃
          else codeAny (model pw X.w) A (c5C it acc ns L cl cs co cu) R s₃) (fun _ _ => False) s := by
  obtain ⟨p, hp, hd, ho⟩ := hos
  obtain ⟨j, hj⟩ := List.getElem?_of_mem hp
  have e1' : (xs.take (i + 1)).map (·.1) = (xs.take i).map (·.1) ++ [v] := by rw [take_next g, List.map_append]; rfl
  refine at_isTrue_Compare1 ?_ c5_in
  rw [evalT_eq]
  refine pieceV (.ref p.a) (ran (c5l_e ..) hk hA (.cons (c_dget hd) .nil) H fun s1 H1 => ⟨rfl, ?_⟩)
  refine pieceV (.ref n) (ran (c5r_e ..) hk hA .nil H1 fun s2 H2 => ⟨rfl, ?_⟩)
  have hb := (H2.focus hj).own (p.a, lst (ivs p.vs) p.e) (by simp [OV.o])
  have hn := H2.own (n, lst [] 0) (by simp)
  refine ne_ints (ys := []) hb hn (hA.units _) ?_
  have H3 : Rep X (n + 1) (k + 1) ([(co, cel (some (.ref Od))), (acc, lst (ivs as) ea), (ns, dct [en X "u" kn (iv v w)] 1), (it, lit S (i + 1)), (S, lst (ivs xs) e1), (Od, dct (dcs ds) eD)] ++ (os.map OV.o ++ F)) s2 := H2.sub (List.sublist_cons_self ..)
  by_cases h : p.vs.map (·.1) = []
  · rw [decide_eq_true (show p.vs.map (·.1) = ([] : NN).map (·.1) from h)]
    rw [if_neg (by simp)]
    exact q _ _ _ _ ⟨some (_, _, _), _, _, fun _ => ⟨_, rfl⟩, by omega, by rw [hs, e1', List.filter_append]; simp [ho, h], rfl⟩ (H3.cast (List.append_assoc ..).symm)
  · rw [decide_eq_false (show ¬ p.vs.map (·.1) = ([] : NN).map (·.1) from h)]
    rw [if_pos (by simp), emitIn_eq]
    refine pieceF .next (ran (c5t_e ..) hk hA (.cons (c_appI (by omega)) .nil) H3 fun s4 H4 => ⟨rfl, ?_⟩)
    exact q _ _ _ _ ⟨some (_, _, _), _, _, fun _ => ⟨_, rfl⟩, by simp; omega, by rw [List.map_append, hs, e1', List.filter_append]; simp [ho, h], rfl⟩ (H4.cast (List.append_assoc ..).symm)
theorem c5_turn (hk : KtOk X (kt X)) {it acc ns L cl cs co cu S e1 Od eD i : Nat} {xs : NN} {ds : List (Nat × Nat × Nat)} {ov : Nat → List Nat} {os : List OV} (hx : xs.length < 900) (hos : ∀ q ∈ xs, ∃ p ∈ os, dfind ds q.1 = some p.a ∧ ov q.1 = p.vs.map (·.1)) (hi : i < xs.length) : Turn X 70 (c5C it acc ns L cl cs co cu) (c5I X it acc ns co S e1 Od eD xs ds ov os i) (c5I X it acc ns co S e1 Od eD xs ds ov os (i + 1)) := by
  rintro n k T ⟨fv, as, ea, h0, hl, hs, rfl⟩ A s F R hA H q
  obtain ⟨⟨v, w⟩, g⟩ := get_some (l := xs) hi
  have hv := hos _ (List.mem_of_getElem? g)
  rw [List.append_assoc] at H
  refine comp_at (show c5C it acc ns L cl cs co cu = _ by unfold c5C; conv => lhs; rw [c5_eq]) (quiet_comp ⟨_, _, _, _, c5_eq⟩) ?_
  rw [nextIn_eq]
  cases fv with
  | none => exact pieceF (.ret (iv v w)) (ran (c5n0_e ..) hk hA (.cons (c_nextI g) .nil) H fun s1 H1 => ⟨rfl, c5_rest hk hx hv hl hi g hs hA H1 q⟩)
  | some p =>
    obtain ⟨p1, p2, p3⟩ := p
    exact pieceF (.ret (iv v w)) (ran (c5n1_e ..) hk hA (.cons (c_nextI g) .nil) H fun s1 H1 => ⟨rfl, c5_rest hk hx hv hl hi g hs hA H1 q⟩)
theorem c5_does (hk : KtOk X (kt X)) (it acc ns L cl cs co cu S e1 Od eD n k : Nat) (xs : NN) (ds : List (Nat × Nat × Nat)) (ov : Nat → List Nat) (os : List OV) (hx : xs.length < 900) (hos : ∀ q ∈ xs, ∃ p ∈ os, dfind ds q.1 = some p.a ∧ ov q.1 = p.vs.map (·.1)) (hne : 0 < xs.length) : DoesK X 70 (.compStart c5 0 (.ref it) (.ref acc) (c5Env ns L cl cs co cu)) n k ([(co, cel (some (.ref Od))), (acc, lst [] 0), (ns, dct [] 0), (it, lit S 0), (S, lst (ivs xs) e1), (Od, dct (dcs ds) eD)] ++ os.map OV.o)
    (fun K => ∀ n' k' (kn a1 a2 : Nat) (as : NN) (ea : Nat), as.length ≤ xs.length → as.map (·.1) = (xs.map (·.1)).filter (fun x => ov x ≠ []) → K (.ok .next) n' k' ([(co, cel (some (.ref Od))), (acc, lst (ivs as) ea), (ns, dct [en X "u" kn (iv a1 a2)] 1), (S, lst (ivs xs) e1), (Od, dct (dcs ds) eD)] ++ os.map OV.o)) := by
  intro A s F R hA H qk
  refine comp_start_l ⟨_, _, _, _, _, _, _, c5_eq⟩ (H.own (it, lit S 0) (by simp)) ?_
  refine loopK (N := xs.length) (I := c5I X it acc ns co S e1 Od eD xs ds ov os) (fun i hi => c5_turn hk hx hos hi) ?_ xs.length 0 rfl n k _ ⟨none, [], 0, fun h => absurd h (Nat.lt_irrefl 0), Nat.le_refl _, rfl, rfl⟩ A s hA H
  rintro n k T ⟨fv, as, ea, h0, hl, hs, rfl⟩ A s hA H
  obtain ⟨p, rfl⟩ := h0 hne
  rw [List.take_length] at hs
  rw [List.append_assoc] at H
  refine comp_at (show c5C it acc ns L cl cs co cu = _ by unfold c5C; conv => lhs; rw [c5_eq]) (quiet_comp ⟨_, _, _, _, c5_eq⟩) ?_
  rw [nextIn_eq]
  refine pieceF .brk (ran (c5e_e ..) hk hA (.cons (c_endI (Nat.le_refl _)) .nil) H fun s' H' => ⟨rfl, ?_⟩)
  exact qk _ _ _ _ _ _ _ hl hs _ (H'.cast (List.append_assoc ..).symm)
noncomputable abbrev c6C (it acc ns L cl cs co cu : Nat) : Code := .compLoop c6 0 (.ref it) (.ref acc) (c6Env ns L cl cs co cu)
noncomputable def c6I (X : Cx) (it acc ns co S e1 Od eD : Nat) (xs : NN) (ds : List (Nat × Nat × Nat)) (ov : Nat → List Nat) (os : List OV) (i n k : Nat) (T : LG) : Prop := ∃ (fv : Option (Nat × Nat × Nat)) (as : NN) (ea : Nat), (0 < i → ∃ p, fv = some p) ∧ as.length ≤ i ∧ as.map (·.1) = ((xs.take i).map (·.1)).filter (fun x => ov x = []) ∧
  T = [(co, cel (some (.ref Od))), (acc, lst (ivs as) ea), (ns, vfr X "v" fv), (it, lit S i), (S, lst (ivs xs) e1), (Od, dct (dcs ds) eD)] ++ os.map OV.o
theorem c6_rest (hk : KtOk X (kt X)) {it acc ns L cl cs co cu S e1 Od eD i n k kn v w ea : Nat} {xs as : NN} {ds : List (Nat × Nat × Nat)} {ov : Nat → List Nat} {os : List OV} (hx : xs.length < 900) (hos : ∃ p ∈ os, dfind ds v = some p.a ∧ ov v = p.vs.map (·.1)) (hl : as.length ≤ i) (hi : i < xs.length) (g : xs[i]? = some (v, w))
    (hs : as.map (·.1) = ((xs.take i).map (·.1)).filter (fun x => ov x = [])) {A : Around} {s : Shared} {F : LG} {R : Result → Shared → Prop} (hA : Fine 70 A)
    (H : Rep X n k ([(co, cel (some (.ref Od))), (acc, lst (ivs as) ea), (ns, dct [en X "v" kn (iv v w)] 1), (it, lit S (i + 1)), (S, lst (ivs xs) e1), (Od, dct (dcs ds) eD)] ++ (os.map OV.o ++ F)) s)
    (q : ∀ n' k' T' s', c6I X it acc ns co S e1 Od eD xs ds ov os (i + 1) n' k' T' → Rep X n' k' (T' ++ F) s' → codeAny (model pw X.w) A (c6C it acc ns L cl cs co cu) R s') :
    wpAt (model pw X.w) (A.under (c6C it acc ns L cl cs co cu)) (c6C it acc ns L cl cs co cu) (PySem.isTrue (.Compare (cmpL (cpIf c6)) [.Eq] [cmpR (cpIf c6)] (exPos (cpIf c6))) (c6Env ns L cl cs co cu) (eval (.Compare (cmpL (cpIf c6)) [.Eq] [cmpR (cpIf c6)] (exPos (cpIf c6))) (c6Env ns L cl cs co cu)))
      (fun b s₃ => if b = true then wpAt (model pw X.w) (A.under (c6C it acc ns L cl cs co cu)) (c6C it acc ns L cl cs co cu) (emitIn (cpElt c6) (c6Env ns L cl cs co cu) (.ref acc)) (fun _ s₅ => codeAny (model pw X.w) A (c6C it acc ns L cl cs co cu) R s₅) (fun _ _ => False) s₃
          else codeAny (model pw X.w) A (c6C it acc ns L cl cs co cu) R s₃) (fun _ _ => False) s := by
  obtain ⟨p, hp, hd, ho⟩ := hos
  obtain ⟨j, hj⟩ := List.getElem?_of_mem hp
  have e1' : (xs.take (i + 1)).map (·.1) = (xs.take i).map (·.1) ++ [v] := by rw [take_next g, List.map_append]; rfl
  refine at_isTrue_Compare1 ?_ c6_in
  rw [evalT_eq]
  refine pieceV (.ref p.a) (ran (c6l_e ..) hk hA (.cons (c_dget hd) .nil) H fun s1 H1 => ⟨rfl, ?_⟩)
  refine pieceV (.ref n) (ran (c6r_e ..) hk hA .nil H1 fun s2 H2 => ⟨rfl, ?_⟩)
  have hb := (H2.focus hj).own (p.a, lst (ivs p.vs) p.e) (by simp [OV.o])
  have hn := H2.own (n, lst [] 0) (by simp)
  refine eq_ints (ys := []) hb hn (hA.units _) ?_
  have H3 : Rep X (n + 1) (k + 1) ([(co, cel (some (.ref Od))), (acc, lst (ivs as) ea), (ns, dct [en X "v" kn (iv v w)] 1), (it, lit S (i + 1)), (S, lst (ivs xs) e1), (Od, dct (dcs ds) eD)] ++ (os.map OV.o ++ F)) s2 := H2.sub (List.sublist_cons_self ..)
  by_cases h : p.vs.map (·.1) = []
  · rw [decide_eq_true (show p.vs.map (·.1) = ([] : NN).map (·.1) from h)]
    rw [if_pos (by simp), emitIn_eq]
    refine pieceF .next (ran (c6t_e ..) hk hA (.cons (c_appI (by omega)) .nil) H3 fun s4 H4 => ⟨rfl, ?_⟩)
    exact q _ _ _ _ ⟨some (_, _, _), _, _, fun _ => ⟨_, rfl⟩, by simp; omega, by rw [List.map_append, hs, e1', List.filter_append]; simp [ho, h], rfl⟩ (H4.cast (List.append_assoc ..).symm)
  · rw [decide_eq_false (show ¬ p.vs.map (·.1) = ([] : NN).map (·.1) from h)]
    rw [if_neg (by simp)]
    exact q _ _ _ _ ⟨some (_, _, _), _, _, fun _ => ⟨_, rfl⟩, by omega, by rw [hs, e1', List.filter_append]; simp [ho, h], rfl⟩ (H3.cast (List.append_assoc ..).symm)
theorem c6_turn (hk : KtOk X (kt X)) {it acc ns L cl cs co cu S e1 Od eD i : Nat} {xs : NN} {ds : List (Nat × Nat × Nat)} {ov : Nat → List Nat} {os : List OV} (hx : xs.length < 900) (hos : ∀ q ∈ xs, ∃ p ∈ os, dfind ds q.1 = some p.a ∧ ov q.1 = p.vs.map (·.1)) (hi : i < xs.length) : Turn X 70 (c6C it acc ns L cl cs co cu) (c6I X it acc ns co S e1 Od eD xs ds ov os i) (c6I X it acc ns co S e1 Od eD xs ds ov os (i + 1)) := by
  rintro n k T ⟨fv, as, ea, h0, hl, hs, rfl⟩ A s F R hA H q
  obtain ⟨⟨v, w⟩, g⟩ := get_some (l := xs) hi
  have hv := hos _ (List.mem_of_getElem? g)
  rw [List.append_assoc] at H
  refine comp_at (show c6C it acc ns L cl cs co cu = _ by unfold c6C; conv => lhs; rw [c6_eq]) (quiet_comp ⟨_, _, _, _, c6_eq⟩) ?_
  rw [nextIn_eq]
  cases fv with
  | none => exact pieceF (.ret (iv v w)) (ran (c6n0_e ..) hk hA (.cons (c_nextI g) .nil) H fun s1 H1 => ⟨rfl, c6_rest hk hx hv hl hi g hs hA H1 q⟩)
  | some p =>
    obtain ⟨p1, p2, p3⟩ := p
    exact pieceF (.ret (iv v w)) (ran (c6n1_e ..) hk hA (.cons (c_nextI g) .nil) H fun s1 H1 => ⟨rfl, c6_rest hk hx hv hl hi g hs hA H1 q⟩)
theorem c6_does (hk : KtOk X (kt X)) (it acc ns L cl cs co cu S e1 Od eD n k : Nat) (xs : NN) (ds : List (Nat × Nat × Nat)) (ov : Nat → List Nat) (os : List OV) (hx : xs.length < 900) (hos : ∀ q ∈ xs, ∃ p ∈ os, dfind ds q.1 = some p.a ∧ ov q.1 = p.vs.map (·.1)) (hne : 0 < xs.length) : DoesK X 70 (.compStart c6 0 (.ref it) (.ref acc) (c6Env ns L cl cs co cu)) n k ([(co, cel (some (.ref Od))), (acc, lst [] 0), (ns, dct [] 0), (it, lit S 0), (S, lst (ivs xs) e1), (Od, dct (dcs ds) eD)] ++ os.map OV.o)
    (fun K => ∀ n' k' (kn a1 a2 : Nat) (as : NN) (ea : Nat), as.length ≤ xs.length → as.map (·.1) = (xs.map (·.1)).filter (fun x => ov x = []) → K (.ok .next) n' k' ([(co, cel (some (.ref Od))), (acc, lst (ivs as) ea), (ns, dct [en X "v" kn (iv a1 a2)] 1), (S, lst (ivs xs) e1), (Od, dct (dcs ds) eD)] ++ os.map OV.o)) := by
  intro A s F R hA H qk
  refine comp_start_l ⟨_, _, _, _, _, _, _, c6_eq⟩ (H.own (it, lit S 0) (by simp)) ?_
  refine loopK (N := xs.length) (I := c6I X it acc ns co S e1 Od eD xs ds ov os) (fun i hi => c6_turn hk hx hos hi) ?_ xs.length 0 rfl n k _ ⟨none, [], 0, fun h => absurd h (Nat.lt_irrefl 0), Nat.le_refl _, rfl, rfl⟩ A s hA H
  rintro n k T ⟨fv, as, ea, h0, hl, hs, rfl⟩ A s hA H
  obtain ⟨p, rfl⟩ := h0 hne
  rw [List.take_length] at hs
  rw [List.append_assoc] at H
  refine comp_at (show c6C it acc ns L cl cs co cu = _ by unfold c6C; conv => lhs; rw [c6_eq]) (quiet_comp ⟨_, _, _, _, c6_eq⟩) ?_
  rw [nextIn_eq]
  refine pieceF .brk (ran (c6e_e ..) hk hA (.cons (c_endI (Nat.le_refl _)) .nil) H fun s' H' => ⟨rfl, ?_⟩)
  exact qk _ _ _ _ _ _ _ hl hs _ (H'.cast (List.append_assoc ..).symm)
end
end
section
section
variable {X : Cx}
theorem quiet_over (it L cl cs co cu : Addr) : (overLoop it L cl cs co cu).quiet = true := by unfold overLoop; rfl
noncomputable def overOf (xs ss : NN) (u : Nat) : List Nat := (xs.map (·.1)).filter (fun x => less (at0 ss u) (at0 ss x))
noncomputable def ofr (X : Cx) (L N Fo M S kt1 kt2 kt3 ks cn : Nat) (es : List DictEntry) : Addr × Obj := (L, frm (en X "near" kt1 (.ref N) :: en X "folds" kt2 (.ref Fo) :: en X "marks" kt3 (.ref M) :: en X "spots" ks (.ref S) :: es) cn)
theorem dfind_none {os : List OV} {u : Nat} (h : ∀ p ∈ os, p.u ≠ u) : dfind (os.map OV.d) u = none := by
  induction os with
  | nil => rfl
  | cons p r ih =>
    show (if p.u = u then _ else dfind (r.map OV.d) u) = none
    rw [if_neg (h p (.head _)), ih fun q hq => h q (.tail _ hq)]
noncomputable def overI (X : Cx) (it L cs co cu N Fo M Od S Se eS eE kt1 kt2 kt3 ks cn : Nat) (xs ss : NN) (es : List DictEntry) (i n k : Nat) (T : LG) : Prop := ∃ (ocu : Option Value) (os : List OV) (eD : Nat), os.map OV.v = (xs.take i).map (fun (p : Nat × Nat) => (p.1, overOf xs ss p.1)) ∧ (∀ p ∈ os, p.vs.length < 900) ∧
  T = [(cs, cel (some (.ref Se))), (co, cel (some (.ref Od))), (cu, cel ocu), (Od, dct (dcs (os.map OV.d)) eD), (S, lst (ivs xs) eS), (Se, lst (ivs ss) eE), (it, lit S i), ofr X L N Fo M S kt1 kt2 kt3 ks cn es] ++ os.map OV.o
theorem over_turn (hk : KtOk X (kt X)) {it L cl cs co cu N Fo M Od S Se eS eE kt1 kt2 kt3 ks cn i : Nat} {xs ss : NN} {es : List DictEntry} (hx : xs.length < 900) (hnd : (xs.map (·.1)).Nodup) (hb : ∀ p ∈ xs, p.1 < ss.length) (hss : ss.length < 900) (hi : i < xs.length) :
    Turn X 210 (overLoop it L cl cs co cu) (overI X it L cs co cu N Fo M Od S Se eS eE kt1 kt2 kt3 ks cn xs ss es i) (overI X it L cs co cu N Fo M Od S Se eS eE kt1 kt2 kt3 ks cn xs ss es (i + 1)) := by
  rintro n k T ⟨ocu, os, eD, hos, hsz, rfl⟩ A s F R hA H q
  obtain ⟨⟨u, tu⟩, g⟩ := get_some (l := xs) hi
  have hu : u < ss.length := hb _ (List.mem_of_getElem? g)
  have hlen : os.length = i := by
    have := congrArg List.length hos
    simpa [Nat.min_eq_left (Nat.le_of_lt hi)] using this
  have hnew : dfind (os.map OV.d) u = none := dfind_none fun p hp e => by
    have h1 : (p.u, p.vs.map (·.1)) ∈ os.map OV.v := List.mem_map.mpr ⟨p, hp, rfl⟩
    rw [hos] at h1
    obtain ⟨y, hy, e2⟩ := List.mem_map.mp h1
    have e3 : y.1 = u := (Prod.mk.inj e2).1.trans e
    obtain ⟨j, hj⟩ := List.mem_iff_getElem?.mp hy
    have hji : j < i := by
      rcases Nat.lt_or_ge j i with z | z
      · exact z
      · rw [List.getElem?_eq_none (by simp; omega)] at hj; cases hj
    rw [List.getElem?_take_of_lt hji] at hj
    have a1 : (xs.map (·.1))[j]? = some u := by simp [hj, e3]
    have a2 : (xs.map (·.1))[i]? = some u := by simp [g]
    have : j = i := (List.getElem?_inj (by simp; omega) hnd).mp (a1.trans a2.symm)
    omega
  rw [List.append_assoc] at H
  refine startC (paused (over1_e ..) hk hA (.cons (c_nextI g) .nil) H fun s' A' hA' H' => ?_)
  refine c4_does hk n (n + 1) (n + 2) L cl cs co cu S eS Se eE u tu _ _ xs ss hx hb hu hss (by omega) (hA'.mono (by decide)) (F := [(co, cel (some (.ref Od))), (Od, dct (dcs (os.map OV.d)) eD), (it, lit S (i + 1)), ofr X L N Fo M S kt1 kt2 kt3 ks cn es] ++ (os.map OV.o ++ F)) H' ?_
  rintro n' k' kn a1 a2 vs ea hvl hvs s'' H''
  refine ranAgain (over2_e ..) (quiet_over ..) hk hA (.cons (c_dset hnew (by simp; omega)) .nil) H'' fun s3 H3 => ?_
  have H4 := H3.enter (a := (⟨u, tu, n + 1, ea, vs⟩ : OV)) rfl
  refine q _ _ _ _ ⟨some (iv u tu), os ++ [⟨u, tu, n + 1, ea, vs⟩], eD + 1, ?_, ?_, rfl⟩ (H4.cast ?_)
  · rw [List.map_append, hos, take_next g, List.map_append, List.map_singleton, List.map_singleton]
    show _ ++ [(u, vs.map (·.1))] = _
    rw [hvs]; rfl
  · intro p hp
    rcases List.mem_append.mp hp with z | z
    · exact hsz p z
    · rw [List.mem_singleton] at z; subst z; show vs.length < 900; omega
  · rw [List.map_append (f := OV.d), List.append_assoc]; rfl
theorem over_does (hk : KtOk X (kt X)) (it L cl cs co cu N Fo M Od S Se eS eE kt1 kt2 kt3 ks cn n k : Nat) (xs ss : NN) (es : List DictEntry) (ocu : Option Value) (hx : xs.length < 900) (hnd : (xs.map (·.1)).Nodup) (hb : ∀ p ∈ xs, p.1 < ss.length) (hss : ss.length < 900) :
    DoesK X 210 (overLoop it L cl cs co cu) n k [(cs, cel (some (.ref Se))), (co, cel (some (.ref Od))), (cu, cel ocu), (Od, dct [] 0), (S, lst (ivs xs) eS), (Se, lst (ivs ss) eE), (it, lit S 0), ofr X L N Fo M S kt1 kt2 kt3 ks cn es]
      (fun K => ∀ n' k' (ocu : Option Value) (os : List OV) (eD : Nat), (∀ p ∈ os, p.vs.length < 900) → os.map OV.v = xs.map (fun (p : Nat × Nat) => (p.1, overOf xs ss p.1)) → K (.ok .next) n' k' ([(cs, cel (some (.ref Se))), (co, cel (some (.ref Od))), (cu, cel ocu), (Od, dct (dcs (os.map OV.d)) eD), (S, lst (ivs xs) eS), (Se, lst (ivs ss) eE), ofr X L N Fo M S kt1 kt2 kt3 ks cn es] ++ os.map OV.o)) := by
  intro A s F R hA H qk
  refine loopK (N := xs.length) (I := overI X it L cs co cu N Fo M Od S Se eS eE kt1 kt2 kt3 ks cn xs ss es) (fun i hi => over_turn hk hx hnd hb hss hi) ?_ xs.length 0 rfl n k _ ⟨ocu, [], 0, rfl, (fun _ h => nomatch h), rfl⟩ A s hA H
  rintro n k T ⟨ocu, os, eD, hos, hsz, rfl⟩ A s hA H
  rw [List.take_length] at hos
  rw [List.append_assoc] at H
  refine startC (ran (over3_e ..) hk hA (.cons (c_endI (Nat.le_refl _)) .nil) H fun s' H' => ?_)
  exact qk _ _ ocu os eD hsz hos _ (H'.cast (List.append_assoc ..).symm)
end
end
section
noncomputable def seenOf (near : List Nat) (lv : Nat) : List Nat := near.map (lv &&& ·)
noncomputable def hubsOf (near : List Nat) (lv : Nat) : List Nat := (bits lv).filter fun x => (seenOf near lv).getD x 0 == lv
noncomputable def overP (near : List Nat) (lv u : Nat) : List Nat := (bits lv).filter fun x => less ((seenOf near lv).getD u 0) ((seenOf near lv).getD x 0)
noncomputable def goneOf (near : List Nat) (lv : Nat) : List Nat := (bits lv).filter fun u => overP near lv u ≠ []
theorem bits_lt {m x : Nat} (h : x ∈ bits m) : x < 7 := List.mem_range.mp (List.mem_filter.mp h).1
theorem bits_nd (m : Nat) : (bits m).Nodup := List.nodup_range.filter _
theorem ofind_map {f : Nat → List Nat} : ∀ {l : NN} {x : Nat}, x ∈ l.map (·.1) → ofind (l.map fun (p : Nat × Nat) => (p.1, f p.1)) x = f x
  | [], _, h => by cases h
  | p :: r, x, h => by
    show (if p.1 = x then f p.1 else ofind (r.map _) x) = f x
    by_cases e : p.1 = x
    · rw [if_pos e, e]
    · rw [if_neg e]
      rcases List.mem_cons.mp h with z | z
      · exact absurd z.symm e
      · exact ofind_map z
section
variable {X : Cx}
theorem part1_0 (hk : KtOk X (kt X)) {L cl cs co cu N Fo M e1 eM lv lt kt1 kt2 kt3 n k : Nat} {xs ms : NN} {ocs oco ocu : Option Value} (hx : xs.length = 7) (hlv : bits lv ≠ []) {A : Around} {s : Shared} {F : LG} {Q : Flow → Shared → Prop} {E : Value → Shared → Prop} (hA : Fine 280 A)
    (H : Rep X n k ([(L, frm [en X "near" kt1 (.ref N), en X "folds" kt2 (.ref Fo), en X "marks" kt3 (.ref M)] 3), (cl, cel (some (iv lv lt))), (cs, cel ocs), (co, cel oco), (cu, cel ocu), (M, lst (ivs ms) eM), (N, lst (ivs xs) e1)] ++ F) s)
    (q : ∀ n' k' s' (ks kh kg S H G Od Se eD eH eG : Nat) (ocu : Option Value) (hs gs : NN) (os : List OV), hs.map (·.1) = hubsOf (xs.map (·.1)) lv → gs.map (·.1) = goneOf (xs.map (·.1)) lv → gs.length ≤ 7 → os.map OV.v = (bits lv).map (fun u => (u, overP (xs.map (·.1)) lv u)) → (∀ p ∈ os, p.vs.length < 900) →
      Rep X n' k' ([(L, frm [en X "near" kt1 (.ref N), en X "folds" kt2 (.ref Fo), en X "marks" kt3 (.ref M), en X "spots" ks (.ref S), en X "hubs" kh (.ref H), en X "gone" kg (.ref G)] 6), (cl, cel (some (iv lv lt))), (cs, cel (some (.ref Se))), (co, cel (some (.ref Od))), (cu, cel ocu), (M, lst (ivs ms) eM), (N, lst (ivs xs) e1), (Od, dct (dcs (os.map OV.d)) eD), (H, lst (ivs hs) eH), (G, lst (ivs gs) eG)] ++ (os.map OV.o ++ F)) s' → Q .next s') :
    wpAt (model pw X.w) (A.under (peelLoop L cl cs co cu)) (peelLoop L cl cs co cu) (execs (peelW.take 6) (peelEnv L cl cs co cu)) Q E s := by
  rw [execsT_eq]
  refine pieceF .next ?_
  refine paused (peel0a_e ..) hk hA .nil H fun s1 A1 hA1 H1 => ?_
  refine c1_does hk (n + 1) (n + 2) (n + 3) L cl cs co cu lv lt _ _ (hA1.mono (by decide)) (F := [(L, frm [en X "near" kt1 (.ref N), en X "folds" kt2 (.ref Fo), en X "marks" kt3 (.ref M)] 3), (cs, cel ocs), (co, cel oco), (cu, cel ocu), (M, lst (ivs ms) eM), (N, lst (ivs xs) e1)] ++ F) H1 ?_
  rintro n1 k1 kn1 p1 p2 as ea1 has s1' H1'
  have hal : as.length ≤ 7 := by
    have h1 := congrArg List.length has
    rw [List.length_map] at h1
    rw [h1]
    exact Nat.le_trans (List.length_filter_le _ _) (by simp)
  have hane : 0 < as.length := by
    rw [List.length_pos_iff]
    intro z
    subst z
    exact hlv has.symm
  have hamem : ∀ p ∈ as, p.1 < 7 := fun p hp => bits_lt (has ▸ List.mem_map_of_mem hp)
  refine paused (peel0b_e ..) hk hA .nil H1' fun s2 A2 hA2 H2 => ?_
  refine c2_does hk n1 (n1 + 1) (n1 + 2) L cl cs co cu lv lt N e1 _ _ xs (by omega) (by omega) (hA2.mono (by decide)) (F := [(L, frm [en X "near" kt1 (.ref N), en X "folds" kt2 (.ref Fo), en X "marks" kt3 (.ref M), en X "spots" k1 (.ref (n + 2))] 4), (cs, cel ocs), (co, cel oco), (cu, cel ocu), (M, lst (ivs ms) eM), (n + 2, lst (ivs as) ea1)] ++ F) H2 ?_
  rintro n2 k2 kn2 q1 q2 ss ea2 hss s2' H2'
  have hsl : ss.length = 7 := by
    have h1 := congrArg List.length hss
    rwa [List.length_map, List.length_map, hx] at h1
  have hsle : ∀ p ∈ ss, p.1 ≤ lv := fun p hp => by
    have h1 : p.1 ∈ ss.map (·.1) := List.mem_map_of_mem hp
    rw [hss] at h1
    obtain ⟨y, _, e⟩ := List.mem_map.mp h1
    rw [← e]; exact Nat.and_le_left
  have hat : ∀ x, at0 ss x = (seenOf (xs.map (·.1)) lv).getD x 0 := fun x => by
    show (ss.map (·.1)).getD x 0 = _
    rw [hss, seenOf, List.map_map]; rfl
  refine paused (peel0c_e ..) hk hA .nil H2' fun s3 A3 hA3 H3 => ?_
  refine c3_does hk n2 (n2 + 1) (n2 + 2) L cl cs co cu lv lt (n + 2) ea1 (n1 + 1) ea2 _ _ as ss (by omega) (by rw [hsl]; exact hamem) (by omega) hsle hane (hA3.mono (by decide)) (F := [(L, frm [en X "near" kt1 (.ref N), en X "folds" kt2 (.ref Fo), en X "marks" kt3 (.ref M), en X "spots" k1 (.ref (n + 2))] 4), (co, cel oco), (cu, cel ocu), (M, lst (ivs ms) eM), (N, lst (ivs xs) e1)] ++ F) H3 ?_
  rintro n3 k3 kn3 r1 r2 hs ea3 hhs s3' H3'
  refine paused (peel0d_e ..) hk hA .nil H3' fun s4 A4 hA4 H4 => ?_
  refine over_does hk (n3 + 1) L cl cs co cu N Fo M n3 (n + 2) (n1 + 1) ea1 ea2 kt1 kt2 kt3 k1 5 _ _ as ss [en X "hubs" k3 (.ref (n2 + 1))] ocu (by omega) (by rw [has]; exact bits_nd _) (by rw [hsl]; exact hamem) (by omega) hA4 (F := [(cl, cel (some (iv lv lt))), (M, lst (ivs ms) eM), (N, lst (ivs xs) e1), (n2 + 1, lst (ivs hs) ea3)] ++ F) H4 ?_
  rintro n4 k4 ocu' os eD hosl hos s4' H4'
  have hov : ∀ u, overOf as ss u = overP (xs.map (·.1)) lv u := fun u => by
    unfold overOf overP
    rw [has]
    simp only [hat]
  have hos' : os.map OV.v = (bits lv).map (fun u => (u, overP (xs.map (·.1)) lv u)) := by
    rw [hos, ← has, List.map_map]
    exact List.map_congr_left fun p _ => by rw [hov]; rfl
  rw [List.append_assoc] at H4'
  have H4p : Rep X n4 k4 ([(cs, cel (some (.ref (n1 + 1)))), (co, cel (some (.ref n3))), (cu, cel ocu'), (n3, dct (dcs (os.map OV.d)) eD), (n + 2, lst (ivs as) ea1), (n1 + 1, lst (ivs ss) ea2), (L, frm [en X "near" kt1 (.ref N), en X "folds" kt2 (.ref Fo), en X "marks" kt3 (.ref M), en X "spots" k1 (.ref (n + 2)), en X "hubs" k3 (.ref (n2 + 1))] 5), (cl, cel (some (iv lv lt))), (M, lst (ivs ms) eM), (N, lst (ivs xs) e1), (n2 + 1, lst (ivs hs) ea3)] ++ (os.map OV.o ++ F)) s4' := H4'.rot
  refine paused (peel0e_e ..) hk hA .nil H4p fun s5 A5 hA5 H5 => ?_
  have hmem : ∀ q ∈ as, ∃ p ∈ os, dfind (os.map OV.d) q.1 = some p.a ∧ ofind (os.map OV.v) q.1 = p.vs.map (·.1) := fun q hq => by
    have h1 : (q.1, overP (xs.map (·.1)) lv q.1) ∈ os.map OV.v := by
      rw [hos']
      exact List.mem_map.mpr ⟨q.1, has ▸ List.mem_map_of_mem hq, rfl⟩
    obtain ⟨p, hp, e⟩ := List.mem_map.mp h1
    obtain ⟨i, p', h1, h2, h3⟩ := dfind_ov (os := os) (u := q.1) ⟨p, hp, (Prod.mk.inj e).1⟩
    exact ⟨p', List.mem_of_getElem? h1, h2, h3⟩
  have H5p : Rep X (n4 + 3) k4 (([(co, cel (some (.ref n3))), (n4 + 1, lst [] 0), (n4 + 2, dct [] 0), (n4, lit (n + 2) 0), (n + 2, lst (ivs as) ea1), (n3, dct (dcs (os.map OV.d)) eD)] ++ os.map OV.o) ++ ([(cs, cel (some (.ref (n1 + 1)))), (cu, cel ocu'), (n1 + 1, lst (ivs ss) ea2), (L, frm [en X "near" kt1 (.ref N), en X "folds" kt2 (.ref Fo), en X "marks" kt3 (.ref M), en X "spots" k1 (.ref (n + 2)), en X "hubs" k3 (.ref (n2 + 1))] 5), (cl, cel (some (iv lv lt))), (M, lst (ivs ms) eM), (N, lst (ivs xs) e1), (n2 + 1, lst (ivs hs) ea3)] ++ F)) s5 := (Rep.rot (A := [_, _, _, _, _, _]) H5).cast (List.append_assoc ..).symm
  refine c5_does hk n4 (n4 + 1) (n4 + 2) L cl cs co cu (n + 2) ea1 n3 eD _ _ as (os.map OV.d) (ofind (os.map OV.v)) os (by omega) hmem hane (hA5.mono (by decide)) H5p ?_
  rintro n5 k5 kn5 t1 t2 gs ea5 hgl hgs s5' H5'
  have H5q : Rep X n5 k5 ([(co, cel (some (.ref n3))), (n4 + 1, lst (ivs gs) ea5), (n4 + 2, dct [en X "u" kn5 (iv t1 t2)] 1), (n + 2, lst (ivs as) ea1), (n3, dct (dcs (os.map OV.d)) eD), (cs, cel (some (.ref (n1 + 1)))), (cu, cel ocu'), (n1 + 1, lst (ivs ss) ea2), (L, frm [en X "near" kt1 (.ref N), en X "folds" kt2 (.ref Fo), en X "marks" kt3 (.ref M), en X "spots" k1 (.ref (n + 2)), en X "hubs" k3 (.ref (n2 + 1))] 5), (cl, cel (some (iv lv lt))), (M, lst (ivs ms) eM), (N, lst (ivs xs) e1), (n2 + 1, lst (ivs hs) ea3)] ++ (os.map OV.o ++ F)) s5' := by
    rw [List.append_assoc] at H5'
    exact H5'.rot
  refine ran (peel0f_e ..) hk hA .nil H5q fun s6 H6 => ⟨rfl, ?_⟩
  refine q _ _ s6 _ _ _ _ _ _ _ _ _ _ _ _ hs gs os ?_ ?_ (by omega) hos' hosl H6
  · rw [hhs, has]
    unfold hubsOf
    simp only [hat]
  · rw [hgs, has]
    unfold goneOf
    refine List.filter_congr fun x hx => ?_
    have : ofind (os.map OV.v) x = overP (xs.map (·.1)) lv x := by
      rw [hos]
      rw [ofind_map (f := overOf as ss) (by rw [has]; exact hx), hov]
    rw [this]
theorem part1_1 (hk : KtOk X (kt X)) {L cl cs co cu N Fo M e1 eM lv lt kt1 kt2 kt3 ks kh kg b1 b2 b3 n k : Nat} {xs ms : NN} {ocs oco ocu : Option Value} (hx : xs.length = 7) (hlv : bits lv ≠ []) {A : Around} {s : Shared} {F : LG} {Q : Flow → Shared → Prop} {E : Value → Shared → Prop} (hA : Fine 280 A)
    (H : Rep X n k ([(L, frm [en X "near" kt1 (.ref N), en X "folds" kt2 (.ref Fo), en X "marks" kt3 (.ref M), en X "spots" ks (.ref b1), en X "hubs" kh (.ref b2), en X "gone" kg (.ref b3)] 6), (cl, cel (some (iv lv lt))), (cs, cel ocs), (co, cel oco), (cu, cel ocu), (M, lst (ivs ms) eM), (N, lst (ivs xs) e1)] ++ F) s)
    (q : ∀ n' k' s' (ks kh kg S H G Od Se eD eH eG : Nat) (ocu : Option Value) (hs gs : NN) (os : List OV), hs.map (·.1) = hubsOf (xs.map (·.1)) lv → gs.map (·.1) = goneOf (xs.map (·.1)) lv → gs.length ≤ 7 → os.map OV.v = (bits lv).map (fun u => (u, overP (xs.map (·.1)) lv u)) → (∀ p ∈ os, p.vs.length < 900) →
      Rep X n' k' ([(L, frm [en X "near" kt1 (.ref N), en X "folds" kt2 (.ref Fo), en X "marks" kt3 (.ref M), en X "spots" ks (.ref S), en X "hubs" kh (.ref H), en X "gone" kg (.ref G)] 6), (cl, cel (some (iv lv lt))), (cs, cel (some (.ref Se))), (co, cel (some (.ref Od))), (cu, cel ocu), (M, lst (ivs ms) eM), (N, lst (ivs xs) e1), (Od, dct (dcs (os.map OV.d)) eD), (H, lst (ivs hs) eH), (G, lst (ivs gs) eG)] ++ (os.map OV.o ++ F)) s' → Q .next s') :
    wpAt (model pw X.w) (A.under (peelLoop L cl cs co cu)) (peelLoop L cl cs co cu) (execs (peelW.take 6) (peelEnv L cl cs co cu)) Q E s := by
  rw [execsT_eq]
  refine pieceF .next ?_
  refine paused (peel1a_e ..) hk hA .nil H fun s1 A1 hA1 H1 => ?_
  refine c1_does hk (n + 1) (n + 2) (n + 3) L cl cs co cu lv lt _ _ (hA1.mono (by decide)) (F := [(L, frm [en X "near" kt1 (.ref N), en X "folds" kt2 (.ref Fo), en X "marks" kt3 (.ref M), en X "spots" ks (.ref b1), en X "hubs" kh (.ref b2), en X "gone" kg (.ref b3)] 6), (cs, cel ocs), (co, cel oco), (cu, cel ocu), (M, lst (ivs ms) eM), (N, lst (ivs xs) e1)] ++ F) H1 ?_
  rintro n1 k1 kn1 p1 p2 as ea1 has s1' H1'
  have hal : as.length ≤ 7 := by
    have h1 := congrArg List.length has
    rw [List.length_map] at h1
    rw [h1]
    exact Nat.le_trans (List.length_filter_le _ _) (by simp)
  have hane : 0 < as.length := by
    rw [List.length_pos_iff]
    intro z
    subst z
    exact hlv has.symm
  have hamem : ∀ p ∈ as, p.1 < 7 := fun p hp => bits_lt (has ▸ List.mem_map_of_mem hp)
  refine paused (peel1b_e ..) hk hA .nil H1' fun s2 A2 hA2 H2 => ?_
  refine c2_does hk n1 (n1 + 1) (n1 + 2) L cl cs co cu lv lt N e1 _ _ xs (by omega) (by omega) (hA2.mono (by decide)) (F := [(L, frm [en X "near" kt1 (.ref N), en X "folds" kt2 (.ref Fo), en X "marks" kt3 (.ref M), en X "spots" ks (.ref (n + 2)), en X "hubs" kh (.ref b2), en X "gone" kg (.ref b3)] 6), (cs, cel ocs), (co, cel oco), (cu, cel ocu), (M, lst (ivs ms) eM), (n + 2, lst (ivs as) ea1)] ++ F) H2 ?_
  rintro n2 k2 kn2 q1 q2 ss ea2 hss s2' H2'
  have hsl : ss.length = 7 := by
    have h1 := congrArg List.length hss
    rwa [List.length_map, List.length_map, hx] at h1
  have hsle : ∀ p ∈ ss, p.1 ≤ lv := fun p hp => by
    have h1 : p.1 ∈ ss.map (·.1) := List.mem_map_of_mem hp
    rw [hss] at h1
    obtain ⟨y, _, e⟩ := List.mem_map.mp h1
    rw [← e]; exact Nat.and_le_left
  have hat : ∀ x, at0 ss x = (seenOf (xs.map (·.1)) lv).getD x 0 := fun x => by
    show (ss.map (·.1)).getD x 0 = _
    rw [hss, seenOf, List.map_map]; rfl
  refine paused (peel1c_e ..) hk hA .nil H2' fun s3 A3 hA3 H3 => ?_
  refine c3_does hk n2 (n2 + 1) (n2 + 2) L cl cs co cu lv lt (n + 2) ea1 (n1 + 1) ea2 _ _ as ss (by omega) (by rw [hsl]; exact hamem) (by omega) hsle hane (hA3.mono (by decide)) (F := [(L, frm [en X "near" kt1 (.ref N), en X "folds" kt2 (.ref Fo), en X "marks" kt3 (.ref M), en X "spots" ks (.ref (n + 2)), en X "hubs" kh (.ref b2), en X "gone" kg (.ref b3)] 6), (co, cel oco), (cu, cel ocu), (M, lst (ivs ms) eM), (N, lst (ivs xs) e1)] ++ F) H3 ?_
  rintro n3 k3 kn3 r1 r2 hs ea3 hhs s3' H3'
  refine paused (peel1d_e ..) hk hA .nil H3' fun s4 A4 hA4 H4 => ?_
  refine over_does hk (n3 + 1) L cl cs co cu N Fo M n3 (n + 2) (n1 + 1) ea1 ea2 kt1 kt2 kt3 ks 6 _ _ as ss [en X "hubs" kh (.ref (n2 + 1)), en X "gone" kg (.ref b3)] ocu (by omega) (by rw [has]; exact bits_nd _) (by rw [hsl]; exact hamem) (by omega) hA4 (F := [(cl, cel (some (iv lv lt))), (M, lst (ivs ms) eM), (N, lst (ivs xs) e1), (n2 + 1, lst (ivs hs) ea3)] ++ F) H4 ?_
  rintro n4 k4 ocu' os eD hosl hos s4' H4'
  have hov : ∀ u, overOf as ss u = overP (xs.map (·.1)) lv u := fun u => by
    unfold overOf overP
    rw [has]
    simp only [hat]
  have hos' : os.map OV.v = (bits lv).map (fun u => (u, overP (xs.map (·.1)) lv u)) := by
    rw [hos, ← has, List.map_map]
    exact List.map_congr_left fun p _ => by rw [hov]; rfl
  rw [List.append_assoc] at H4'
  have H4p : Rep X n4 k4 ([(cs, cel (some (.ref (n1 + 1)))), (co, cel (some (.ref n3))), (cu, cel ocu'), (n3, dct (dcs (os.map OV.d)) eD), (n + 2, lst (ivs as) ea1), (n1 + 1, lst (ivs ss) ea2), (L, frm [en X "near" kt1 (.ref N), en X "folds" kt2 (.ref Fo), en X "marks" kt3 (.ref M), en X "spots" ks (.ref (n + 2)), en X "hubs" kh (.ref (n2 + 1)), en X "gone" kg (.ref b3)] 6), (cl, cel (some (iv lv lt))), (M, lst (ivs ms) eM), (N, lst (ivs xs) e1), (n2 + 1, lst (ivs hs) ea3)] ++ (os.map OV.o ++ F)) s4' := H4'.rot
  refine paused (peel1e_e ..) hk hA .nil H4p fun s5 A5 hA5 H5 => ?_
  have hmem : ∀ q ∈ as, ∃ p ∈ os, dfind (os.map OV.d) q.1 = some p.a ∧ ofind (os.map OV.v) q.1 = p.vs.map (·.1) := fun q hq => by
    have h1 : (q.1, overP (xs.map (·.1)) lv q.1) ∈ os.map OV.v := by
      rw [hos']
      exact List.mem_map.mpr ⟨q.1, has ▸ List.mem_map_of_mem hq, rfl⟩
    obtain ⟨p, hp, e⟩ := List.mem_map.mp h1
    obtain ⟨i, p', h1, h2, h3⟩ := dfind_ov (os := os) (u := q.1) ⟨p, hp, (Prod.mk.inj e).1⟩
    exact ⟨p', List.mem_of_getElem? h1, h2, h3⟩
  have H5p : Rep X (n4 + 3) k4 (([(co, cel (some (.ref n3))), (n4 + 1, lst [] 0), (n4 + 2, dct [] 0), (n4, lit (n + 2) 0), (n + 2, lst (ivs as) ea1), (n3, dct (dcs (os.map OV.d)) eD)] ++ os.map OV.o) ++ ([(cs, cel (some (.ref (n1 + 1)))), (cu, cel ocu'), (n1 + 1, lst (ivs ss) ea2), (L, frm [en X "near" kt1 (.ref N), en X "folds" kt2 (.ref Fo), en X "marks" kt3 (.ref M), en X "spots" ks (.ref (n + 2)), en X "hubs" kh (.ref (n2 + 1)), en X "gone" kg (.ref b3)] 6), (cl, cel (some (iv lv lt))), (M, lst (ivs ms) eM), (N, lst (ivs xs) e1), (n2 + 1, lst (ivs hs) ea3)] ++ F)) s5 := (Rep.rot (A := [_, _, _, _, _, _]) H5).cast (List.append_assoc ..).symm
  refine c5_does hk n4 (n4 + 1) (n4 + 2) L cl cs co cu (n + 2) ea1 n3 eD _ _ as (os.map OV.d) (ofind (os.map OV.v)) os (by omega) hmem hane (hA5.mono (by decide)) H5p ?_
  rintro n5 k5 kn5 t1 t2 gs ea5 hgl hgs s5' H5'
  have H5q : Rep X n5 k5 ([(co, cel (some (.ref n3))), (n4 + 1, lst (ivs gs) ea5), (n4 + 2, dct [en X "u" kn5 (iv t1 t2)] 1), (n + 2, lst (ivs as) ea1), (n3, dct (dcs (os.map OV.d)) eD), (cs, cel (some (.ref (n1 + 1)))), (cu, cel ocu'), (n1 + 1, lst (ivs ss) ea2), (L, frm [en X "near" kt1 (.ref N), en X "folds" kt2 (.ref Fo), en X "marks" kt3 (.ref M), en X "spots" ks (.ref (n + 2)), en X "hubs" kh (.ref (n2 + 1)), en X "gone" kg (.ref b3)] 6), (cl, cel (some (iv lv lt))), (M, lst (ivs ms) eM), (N, lst (ivs xs) e1), (n2 + 1, lst (ivs hs) ea3)] ++ (os.map OV.o ++ F)) s5' := by
    rw [List.append_assoc] at H5'
    exact H5'.rot
  refine ran (peel1f_e ..) hk hA .nil H5q fun s6 H6 => ⟨rfl, ?_⟩
  refine q _ _ s6 _ _ _ _ _ _ _ _ _ _ _ _ hs gs os ?_ ?_ (by omega) hos' hosl H6
  · rw [hhs, has]
    unfold hubsOf
    simp only [hat]
  · rw [hgs, has]
    unfold goneOf
    refine List.filter_congr fun x hx => ?_
    have : ofind (os.map OV.v) x = overP (xs.map (·.1)) lv x := by
      rw [hos]
      rw [ofind_map (f := overOf as ss) (by rw [has]; exact hx), hov]
    rw [this]
end
end
section
structure FO where
  a : Nat
  u : Nat
  v : Nat
  tu : Nat
  tv : Nat
noncomputable def FO.o (p : FO) : Addr × Obj := (p.a, tup [.str (sd p.u) p.tu, .str (sd p.v) p.tv])
noncomputable def FO.v2 (p : FO) : Nat × Nat := (p.u, p.v)
noncomputable def offs (lv : Nat) (l : List Nat) : Nat := l.foldl (fun m u => m - 1 <<< u) lv
theorem offs_next {lv : Nat} {l : List Nat} {u : Nat} : offs lv (l ++ [u]) = offs lv l - 1 <<< u := by simp [offs]
noncomputable def holdOf (ov : Nat → List Nat) (u : Nat) : Nat := ((ov u).filter fun x => ov x = []).headD 0
section
variable {X : Cx}
theorem quiet_gone (it L cl cs co cu : Addr) : (goneLoop it L cl cs co cu).quiet = true := by unfold goneLoop; rfl
noncomputable def gfr (X : Cx) (L N Fo M S H G kt1 kt2 kt3 ks kh kg : Nat) : Addr × Obj := (L, frm [en X "near" kt1 (.ref N), en X "folds" kt2 (.ref (Fo + 228)), en X "marks" kt3 (.ref M), en X "spots" ks (.ref S), en X "hubs" kh (.ref H), en X "gone" kg (.ref G)] 6)
noncomputable def goneI (X : Cx) (it L cl co cu N Fo M S H G kt1 kt2 kt3 ks kh kg Od eD eG Dd kd td lv : Nat) (gs : NN) (ds : List (Nat × Nat × Nat)) (ov : Nat → List Nat) (os : List OV) (fs0 : NN) (i n k : Nat) (T : LG) : Prop :=
  ∃ (ocu : Option Value) (lt eF : Nat) (fs : List FO), fs.map FO.v2 = fs0 ++ (gs.take i).map (fun (p : Nat × Nat) => (p.1, holdOf ov p.1)) ∧
  T = [gfr X L N Fo M S H G kt1 kt2 kt3 ks kh kg, (cl, cel (some (iv (offs lv ((gs.take i).map (·.1))) lt))), (co, cel (some (.ref Od))), (cu, cel ocu), (Od, dct (dcs ds) eD), (G, lst (ivs gs) eG), (it, lit G i), (Fo + 228, acc Dd (rfs (fs.map FO.a)) eF), (Dd, dct [en X "_initial_size" kd (iv 0 td)] 1)] ++ (os.map OV.o ++ fs.map FO.o)
theorem gone_turn (hk : KtOk X (kt X)) {it L cl cs co cu N Fo M S H G kt1 kt2 kt3 ks kh kg Od eD eG Dd kd td lv i : Nat} {gs : NN} {ds : List (Nat × Nat × Nat)} {ov : Nat → List Nat} {os : List OV} {fs0 : NN} (hg : gs.length < 300) (hf : fs0.length < 300)
    (hos : ∀ u, u < 7 → ∀ p ∈ os, p.u = u → dfind ds u = some p.a ∧ ov u = p.vs.map (·.1)) (hall : ∀ q ∈ gs, (∃ p ∈ os, p.u = q.1) ∧ q.1 < 7 ∧ ∀ v ∈ ov q.1, v < 7 ∧ v ≠ q.1 ∧ ∃ p ∈ os, p.u = v) (hosl : ∀ p ∈ os, p.vs.length < 900)
    (hh : ∀ q ∈ gs, (ov q.1).filter (fun x => ov x = []) ≠ []) (hsub : ∀ j q, gs[j]? = some q → 1 <<< q.1 ≤ offs lv ((gs.take j).map (·.1))) (hi : i < gs.length) :
    Turn X 210 (goneLoop it L cl cs co cu) (goneI X it L cl co cu N Fo M S H G kt1 kt2 kt3 ks kh kg Od eD eG Dd kd td lv gs ds ov os fs0 i) (goneI X it L cl co cu N Fo M S H G kt1 kt2 kt3 ks kh kg Od eD eG Dd kd td lv gs ds ov os fs0 (i + 1)) := by
  rintro n k T ⟨ocu, lt, eF, fs, hfs, rfl⟩ A s F R hA H0 q
  obtain ⟨⟨u, tu⟩, g⟩ := get_some (l := gs) hi
  have hgm := List.mem_of_getElem? g
  obtain ⟨⟨p, hp, hpu⟩, hu7, hvs7⟩ := hall _ hgm
  have hpu : p.u = u := hpu
  have hu7 : u < 7 := hu7
  obtain ⟨hd, ho⟩ := hos u hu7 p hp hpu
  obtain ⟨j, hj⟩ := List.getElem?_of_mem hp
  have hsz := hosl p hp
  have hne : 0 < p.vs.length := by
    rw [List.length_pos_iff]
    intro z
    have h1 := hh _ hgm
    rw [show ov (u, tu).1 = p.vs.map (·.1) from ho, z] at h1
    exact h1 rfl
  have H1 : Rep X n k ([gfr X L N Fo M S H G kt1 kt2 kt3 ks kh kg, (cl, cel (some (iv (offs lv ((gs.take i).map (·.1))) lt))), (co, cel (some (.ref Od))), (cu, cel ocu), (Od, dct (dcs ds) eD), (G, lst (ivs gs) eG), (it, lit G i), (Fo + 228, acc Dd (rfs (fs.map FO.a)) eF), (Dd, dct [en X "_initial_size" kd (iv 0 td)] 1)] ++ (os.map OV.o ++ (fs.map FO.o ++ F))) s := by
    rw [List.append_assoc, List.append_assoc] at H0; exact H0
  refine startC (paused (g1_e ..) hk hA (.cons (c_dget hd) (.cons (c_repr hu7) (.cons (c_nextI g) .nil))) (H1.focus hj) fun s1 A1 hA1 H2 => ?_)
  have H2r : Rep X (n + 3) (k + 2) ([(co, cel (some (.ref Od))), (n + 1, lst [] 0), (n + 2, dct [] 0), (n, lit p.a 0), (p.a, lst (ivs p.vs) p.e), (Od, dct (dcs ds) eD)] ++ ((os.eraseIdx j).map OV.o ++ ([gfr X L N Fo M S H G kt1 kt2 kt3 ks kh kg, (cl, cel (some (iv (offs lv ((gs.take i).map (·.1))) lt))), (cu, cel (some (iv u tu))), (G, lst (ivs gs) eG), (it, lit G (i + 1)), (Fo + 228, acc Dd (rfs (fs.map FO.a)) eF), (Dd, dct [en X "_initial_size" kd (iv 0 td)] 1)] ++ (fs.map FO.o ++ F)))) s1 :=
    Rep.rot (A := [_, _, _, _, _, _]) (B := [_, _, _, _, _, _, _]) H2
  have hvs : ∀ y ∈ p.vs, ∃ p' ∈ os.eraseIdx j, dfind ds y.1 = some p'.a ∧ ov y.1 = p'.vs.map (·.1) := fun y hy => by
    have h1 : y.1 ∈ ov u := by rw [ho]; exact List.mem_map_of_mem hy
    obtain ⟨a1, a2, p', hp', e⟩ := hvs7 y.1 h1
    have a2 : y.1 ≠ u := a2
    refine ⟨p', ?_, hos y.1 a1 p' hp' e⟩
    rw [List.mem_eraseIdx_iff_getElem?]
    obtain ⟨j', hj'⟩ := List.getElem?_of_mem hp'
    refine ⟨j', fun z => ?_, hj'⟩
    subst z
    rw [hj] at hj'
    cases hj'
    exact a2 (e.symm.trans hpu)
  refine c6_does hk n (n + 1) (n + 2) L cl cs co cu p.a p.e Od eD _ _ p.vs ds ov (os.eraseIdx j) hsz hvs hne (hA1.mono (by decide)) (H2r.cast (List.append_assoc ..).symm) ?_
  rintro n1 k1 kn b1 b2 as ea hal has s1' H3
  have hhd : as.map (·.1) ≠ [] := by
    rw [has, ← ho]; exact hh _ hgm
  obtain ⟨⟨v, tv⟩, hv⟩ : ∃ x, as[0]? = some x := by
    cases as with
    | nil => exact absurd rfl hhd
    | cons x r => exact ⟨x, rfl⟩
  have hvm : v ∈ as.map (·.1) := List.mem_map.mpr ⟨(v, tv), List.mem_of_getElem? hv, rfl⟩
  have hv7 : v < 7 := by
    rw [has, ← ho] at hvm
    exact (hvs7 v (List.mem_filter.mp hvm).1).1
  have hhold : holdOf ov u = v := by
    unfold holdOf
    rw [ho, ← has]
    cases as with
    | nil => cases hv
    | cons x r => cases hv; rfl
  have hfl : fs.length < 700 := by
    have := congrArg List.length hfs
    rw [List.length_map, List.length_append, List.length_map, List.length_take] at this
    omega
  rw [List.append_assoc] at H3
  refine ranAgain (g2_e ..) (quiet_gone ..) hk hA (.cons (c_subN (hsub i _ g)) (.cons (c_shl hu7) (.cons (c_appA hk (by simp; omega)) (.cons (c_repr hv7) (.cons (c_getI hv (by omega)) .nil))))) (Rep.rot (A := [_, _, _, _, _]) (C := [_, _, _, _, _, _, _]) H3) fun s2 H4 => ?_
  have H5 := (((H4.unfocus hj rfl).rot.enter (a := (⟨n1 + 1, u, v, k, k1 + 1⟩ : FO)) rfl)).rot
  refine q _ _ _ _ ⟨some (iv u tu), k1 + 7, eF + 1, fs ++ [⟨n1 + 1, u, v, k, k1 + 1⟩], ?_, rfl⟩ (H5.cast ?_)
  · rw [List.map_append, hfs, take_next g, List.map_append, List.append_assoc]
    show _ ++ (_ ++ [(u, v)]) = _ ++ (_ ++ [(u, holdOf ov u)])
    rw [hhold]
  · have e1 : (gs.take i ++ [(u, tu)]).map (·.1) = (gs.take i).map (·.1) ++ [u] := by simp
    rw [take_next g, e1, offs_next]
    simp only [List.append_assoc, List.map_append]
    rfl
theorem gone_does (hk : KtOk X (kt X)) {it L cl cs co cu N Fo M S H G kt1 kt2 kt3 ks kh kg Od eD eG Dd kd td lv lt eF n k : Nat} {gs : NN} {ds : List (Nat × Nat × Nat)} {ov : Nat → List Nat} {os : List OV} {fs : List FO} {ocu : Option Value} (hg : gs.length < 300) (hf : fs.length < 300)
    (hos : ∀ u, u < 7 → ∀ p ∈ os, p.u = u → dfind ds u = some p.a ∧ ov u = p.vs.map (·.1)) (hall : ∀ q ∈ gs, (∃ p ∈ os, p.u = q.1) ∧ q.1 < 7 ∧ ∀ v ∈ ov q.1, v < 7 ∧ v ≠ q.1 ∧ ∃ p ∈ os, p.u = v) (hosl : ∀ p ∈ os, p.vs.length < 900)
    (hh : ∀ q ∈ gs, (ov q.1).filter (fun x => ov x = []) ≠ []) (hsub : ∀ j q, gs[j]? = some q → 1 <<< q.1 ≤ offs lv ((gs.take j).map (·.1))) :
    DoesK X 210 (goneLoop it L cl cs co cu) n k ([gfr X L N Fo M S H G kt1 kt2 kt3 ks kh kg, (cl, cel (some (iv lv lt))), (co, cel (some (.ref Od))), (cu, cel ocu), (Od, dct (dcs ds) eD), (G, lst (ivs gs) eG), (it, lit G 0), (Fo + 228, acc Dd (rfs (fs.map FO.a)) eF), (Dd, dct [en X "_initial_size" kd (iv 0 td)] 1)] ++ (os.map OV.o ++ fs.map FO.o))
      (fun K => ∀ n' k' (ocu : Option Value) (lt eF : Nat) (fs' : List FO), fs'.map FO.v2 = fs.map FO.v2 ++ gs.map (fun (p : Nat × Nat) => (p.1, holdOf ov p.1)) → K (.ok .next) n' k' ([gfr X L N Fo M S H G kt1 kt2 kt3 ks kh kg, (cl, cel (some (iv (offs lv (gs.map (·.1))) lt))), (co, cel (some (.ref Od))), (cu, cel ocu), (Od, dct (dcs ds) eD), (G, lst (ivs gs) eG), (Fo + 228, acc Dd (rfs (fs'.map FO.a)) eF), (Dd, dct [en X "_initial_size" kd (iv 0 td)] 1)] ++ (os.map OV.o ++ fs'.map FO.o))) := by
  intro A s F R hA Hs qk
  refine loopK (N := gs.length) (I := goneI X it L cl co cu N Fo M S H G kt1 kt2 kt3 ks kh kg Od eD eG Dd kd td lv gs ds ov os (fs.map FO.v2)) (fun i hi => gone_turn hk hg (by simpa using hf) hos hall hosl hh hsub hi) ?_ gs.length 0 rfl n k _ ⟨ocu, lt, eF, fs, by simp, rfl⟩ A s hA Hs
  rintro n k T ⟨ocu, lt, eF, fs', hfs, rfl⟩ A s hA H1
  rw [List.take_length] at hfs H1
  rw [List.append_assoc] at H1
  refine startC (ran (g3_e ..) hk hA (.cons (c_endI (Nat.le_refl _)) .nil) H1 fun s' H' => ?_)
  exact qk _ _ ocu lt eF fs' hfs _ (H'.cast (List.append_assoc ..).symm)
end
end
section
section
variable {X : Cx}
theorem at_isTrue_Or2 {M : Model} {A : Around} {c : Code} {E : Value → Shared → Prop} {env : Env} {s : Shared} {x y : Expr} {pos : Pos} {whole : Sem Value} {Q : Bool → Shared → Prop}
    (h : wpAt M A c (PySem.isTrue x env (eval x env)) (fun b s₁ => if b = true then Q true s₁ else wpAt M A c (PySem.isTrue y env (eval y env)) Q E s₁) E s) : wpAt M A c (PySem.isTrue (.BoolOp .Or [x, y] pos) env whole) Q E s := by
  show wpAt M A c (do match BoolOp.Or, ← PySem.isTrue x env (eval x env) with | .And, false => pure false | .Or, true => pure true | _, _ => allTrue .Or [y] env) Q E s
  refine wpAt_bind (wpAt_mono h (fun b s₁ h₁ => ?_) fun _ _ x => x)
  cases b with
  | true => exact wpAt_of_wpAny (wpAny_pure h₁)
  | false =>
    show wpAt M A c (do match BoolOp.Or, ← PySem.isTrue y env (eval y env) with | .And, false => pure false | .Or, true => pure true | _, _ => allTrue .Or [] env) Q E s₁
    have h₁ : wpAt M A c (PySem.isTrue y env (eval y env)) Q E s₁ := h₁
    refine wpAt_bind (wpAt_mono h₁ (fun b s₂ h₂ => ?_) fun _ _ x => x)
    cases b with
    | true => exact wpAt_of_wpAny (wpAny_pure h₂)
    | false => exact wpAt_of_wpAny (wpAny_pure h₂)
theorem peelW_eq : peelW = peelW.take 6 ++ (nx peelW 6 :: peelW.drop 7) := by kernel_rfl
theorem s6_eq : ∃ p0 p1 p2 p3, nx peelW 6 = .If (.BoolOp .Or [.Compare (cmpL (boX (ifT (nx peelW 6)) 0)) [.NotEq] [cmpR (boX (ifT (nx peelW 6)) 0)] p1, .Compare (cmpL (boX (ifT (nx peelW 6)) 1)) [.Eq] [cmpR (boX (ifT (nx peelW 6)) 1)] p2] p0) (ifB (nx peelW 6)) [] p3 := ⟨_, _, _, _, rfl⟩
theorem s6_in0 : behindInMarks .NotEq (cmpR (boX (ifT (nx peelW 6)) 0)) = false := by kernel_rfl
theorem s6_in1 : behindInMarks .Eq (cmpR (boX (ifT (nx peelW 6)) 1)) = false := by kernel_rfl
noncomputable def PcDoes (X : Cx) : Prop := ∀ (Fo Dd eF n k : Nat) (vs : List Nat), vs.length < 900 → DoesK X 210 (.call (.ref 128) ⟨[.ref (Fo + 228)], []⟩) n k [(Fo + 228, acc Dd (rfs vs) eF)]
  (fun K => ∀ n' k' t, K (.ok (.ret (iv vs.length t))) n' k' [(Fo + 228, acc Dd (rfs vs) eF)])
noncomputable def wst (X : Cx) (L cl cs co cu M N Fo Dd lv lt eM e1 eF kd td : Nat) (ocs oco ocu : Option Value) (ms xs : NN) (fs : List FO) (fr : Obj) : LG :=
  [(L, fr), (cl, cel (some (iv lv lt))), (cs, cel ocs), (co, cel oco), (cu, cel ocu), (M, lst (ivs ms) eM), (N, lst (ivs xs) e1), (Fo + 228, acc Dd (rfs (fs.map FO.a)) eF), (Dd, dct [en X "_initial_size" kd (iv 0 td)] 1)] ++ fs.map FO.o
noncomputable def fr1 (X : Cx) (N Fo M S H G kt1 kt2 kt3 ks kh kg : Nat) : Obj := frm [en X "near" kt1 (.ref N), en X "folds" kt2 (.ref (Fo + 228)), en X "marks" kt3 (.ref M), en X "spots" ks (.ref S), en X "hubs" kh (.ref H), en X "gone" kg (.ref G)] 6
noncomputable def piecesOf (near : List Nat) (lv : Nat) : NN := (goneOf near lv).map fun u => (u, holdOf (overP near lv) u)
theorem round_tail (hk : KtOk X (kt X)) (hpc : PcDoes X) {L cl cs co cu N Fo M e1 eM lv lt kt1 kt2 kt3 ks kh kg S H G Od Se eD eH eG Dd eF kd td n k : Nat} {xs ms hs gs : NN} {ocu : Option Value} {os : List OV} {fs : List FO} {A : Around} {s : Shared} {F : LG} {R : Result → Shared → Prop} (hA : Fine 280 A)
    (hhs : hs.map (·.1) = hubsOf (xs.map (·.1)) lv) (hgs : gs.map (·.1) = goneOf (xs.map (·.1)) lv) (hgl : gs.length ≤ 7) (hos : os.map OV.v = (bits lv).map (fun u => (u, overP (xs.map (·.1)) lv u))) (hosl : ∀ p ∈ os, p.vs.length < 900) (hfl : fs.length < 200) (hms : ms.length < 200)
    (hh : ∀ u ∈ goneOf (xs.map (·.1)) lv, (overP (xs.map (·.1)) lv u).filter (fun x => overP (xs.map (·.1)) lv x = []) ≠ [])
    (hirr : ∀ u v, v ∈ overP (xs.map (·.1)) lv u → v ≠ u)
    (hsub : ∀ j u, (goneOf (xs.map (·.1)) lv)[j]? = some u → 1 <<< u ≤ offs lv ((goneOf (xs.map (·.1)) lv).take j))
    (H0 : Rep X n k ([(L, fr1 X N Fo M S H G kt1 kt2 kt3 ks kh kg), (cl, cel (some (iv lv lt))), (cs, cel (some (.ref Se))), (co, cel (some (.ref Od))), (cu, cel ocu), (M, lst (ivs ms) eM), (N, lst (ivs xs) e1), (Od, dct (dcs (os.map OV.d)) eD), (H, lst (ivs hs) eH), (G, lst (ivs gs) eG)] ++ (os.map OV.o ++ ([(Fo + 228, acc Dd (rfs (fs.map FO.a)) eF), (Dd, dct [en X "_initial_size" kd (iv 0 td)] 1)] ++ (fs.map FO.o ++ F)))) s)
    (qr : (hubsOf (xs.map (·.1)) lv ≠ [] ∨ goneOf (xs.map (·.1)) lv = []) → ∀ n' k' s' a, Rep X n' k' ([(a, tup [.ref M, .ref H]), (M, lst (ivs ms) eM), (H, lst (ivs hs) eH), (N, lst (ivs xs) e1), (Fo + 228, acc Dd (rfs (fs.map FO.a)) eF), (Dd, dct [en X "_initial_size" kd (iv 0 td)] 1)] ++ (fs.map FO.o ++ F)) s' → R (.ok (.ret (.ref a))) s')
    (qn : (hubsOf (xs.map (·.1)) lv = [] ∧ goneOf (xs.map (·.1)) lv ≠ []) → ∀ n' k' s' lt' eM' eF' (ocs oco ocu : Option Value) ms' (fs' : List FO), ms'.map (·.1) = ms.map (·.1) ++ [fs.length] → fs'.map FO.v2 = fs.map FO.v2 ++ piecesOf (xs.map (·.1)) lv →
      Rep X n' k' (wst X L cl cs co cu M N Fo Dd (offs lv (goneOf (xs.map (·.1)) lv)) lt' eM' e1 eF' kd td ocs oco ocu ms' xs fs' (fr1 X N Fo M S H G kt1 kt2 kt3 ks kh kg) ++ F) s' → codeAny (model pw X.w) A (peelLoop L cl cs co cu) R s') :
    wpAt (model pw X.w) (A.under (peelLoop L cl cs co cu)) (peelLoop L cl cs co cu) (execs (nx peelW 6 :: peelW.drop 7) (peelEnv L cl cs co cu))
      (fun f s' => match f with | .next | .cont => codeAny (model pw X.w) A (peelLoop L cl cs co cu) R s' | .brk => R (.ok .next) s' | .ret v => R (.ok (.ret v)) s') (fun _ _ => False) s := by
  obtain ⟨p0, p1, p2, p3, e6⟩ := s6_eq
  refine ks_wpAt_execs_cons ?_
  rw [e6]
  refine ks_wpAt_If (at_isTrue_Or2 (at_isTrue_Compare1 ?_ s6_in0))
  rw [evalT_eq]
  refine pieceV (.ref H) (ran (p2h_e ..) hk hA .nil H0 fun s1 H1 => ⟨rfl, ?_⟩)
  refine pieceV (.ref n) (ran (p2i_e ..) hk hA .nil H1 fun s2 H2 => ⟨rfl, ?_⟩)
  refine ne_ints (ys := []) (H2.own (H, lst (ivs hs) eH) (by simp)) (H2.own (n, lst [] 0) (by simp)) (hA.units _) ?_
  have H3 := H2.sub (List.sublist_cons_self ..)
  have hret : (hubsOf (xs.map (·.1)) lv ≠ [] ∨ goneOf (xs.map (·.1)) lv = []) → ∀ {n k : Nat} {s : Shared}, Rep X n k ([(L, fr1 X N Fo M S H G kt1 kt2 kt3 ks kh kg), (cl, cel (some (iv lv lt))), (cs, cel (some (.ref Se))), (co, cel (some (.ref Od))), (cu, cel ocu), (M, lst (ivs ms) eM), (N, lst (ivs xs) e1), (Od, dct (dcs (os.map OV.d)) eD), (H, lst (ivs hs) eH), (G, lst (ivs gs) eG)] ++ (os.map OV.o ++ ([(Fo + 228, acc Dd (rfs (fs.map FO.a)) eF), (Dd, dct [en X "_initial_size" kd (iv 0 td)] 1)] ++ (fs.map FO.o ++ F)))) s →
      wpAt (model pw X.w) (A.under (peelLoop L cl cs co cu)) (peelLoop L cl cs co cu) (execs (ifB (nx peelW 6)) (peelEnv L cl cs co cu))
        (fun f s' => match f with | .next => wpAt (model pw X.w) (A.under (peelLoop L cl cs co cu)) (peelLoop L cl cs co cu) (execs (peelW.drop 7) (peelEnv L cl cs co cu)) (fun f s' => match f with | .next | .cont => codeAny (model pw X.w) A (peelLoop L cl cs co cu) R s' | .brk => R (.ok .next) s' | .ret v => R (.ok (.ret v)) s') (fun _ _ => False) s' | f => (match f with | .next | .cont => codeAny (model pw X.w) A (peelLoop L cl cs co cu) R s' | .brk => R (.ok .next) s' | .ret v => R (.ok (.ret v)) s')) (fun _ _ => False) s := by
    intro hor n k s Hs
    rw [execsT_eq]
    refine pieceF (.ret (.ref n)) (ran (p2r_e ..) hk hA .nil Hs fun s' H' => ⟨rfl, ?_⟩)
    refine qr hor _ _ s' n ((Rep.rot (A := [_, _, _, _]) (C := [_, _]) H').sub ?_)
    refine List.Sublist.append_left (l := [_, _, _, _, _, _]) ?_
    exact List.sublist_append_right _ _
  by_cases hh1 : hs.map (·.1) = []
  · rw [decide_eq_true (show hs.map (·.1) = ([] : NN).map (·.1) from hh1)]
    rw [if_neg (by simp)]
    refine at_isTrue_Compare1 ?_ s6_in1
    rw [evalT_eq]
    refine pieceV (.ref G) (ran (p2g_e ..) hk hA .nil H3 fun s4 H4 => ⟨rfl, ?_⟩)
    refine pieceV (.ref (n + 1)) (ran (p2j_e ..) hk hA .nil H4 fun s5 H5 => ⟨rfl, ?_⟩)
    refine eq_ints (ys := []) (H5.own (G, lst (ivs gs) eG) (by simp)) (H5.own (n + 1, lst [] 0) (by simp)) (hA.units _) ?_
    have H6 := H5.sub (List.sublist_cons_self ..)
    by_cases hg1 : gs.map (·.1) = []
    · rw [decide_eq_true (show gs.map (·.1) = ([] : NN).map (·.1) from hg1)]
      exact hret (.inr (hgs ▸ hg1)) H6
    · rw [decide_eq_false (show ¬ gs.map (·.1) = ([] : NN).map (·.1) from hg1)]
      rw [if_neg (by simp)]
      refine wpAt_of_wpAny (wpAny_execs_nil ?_)
      show wpAt _ _ _ (execs (peelW.drop 7) (peelEnv L cl cs co cu)) _ _ _
      rw [execsT_eq]
      refine pieceF .next ?_
      refine paused (p3a_e ..) hk hA .nil (Rep.rot (A := [_, _, _, _, _, _, _, _, _, _]) (C := [_, _]) H6) fun s7 A7 hA7 H7 => ?_
      have hfr : (rfs (fs.map FO.a)).length = fs.length := by rw [rfs_len, List.length_map]
      refine hpc Fo Dd eF _ _ (fs.map FO.a) (by rw [List.length_map]; omega) hA7 (F := [(L, fr1 X N Fo M S H G kt1 kt2 kt3 ks kh kg), (cl, cel (some (iv lv lt))), (cs, cel (some (.ref Se))), (co, cel (some (.ref Od))), (cu, cel ocu), (M, lst (ivs ms) eM), (N, lst (ivs xs) e1), (Od, dct (dcs (os.map OV.d)) eD), (H, lst (ivs hs) eH), (G, lst (ivs gs) eG), (Dd, dct [en X "_initial_size" kd (iv 0 td)] 1)] ++ (os.map OV.o ++ (fs.map FO.o ++ F))) H7 ?_
      rintro n8 k8 t8 s8 H8
      refine paused (p3b_e ..) hk hA (.cons (c_appI (by omega)) .nil) H8 fun s9 A9 hA9 H9 => ?_
      have H9r := Rep.rot (A := [_, _, _, _, _, _, _, _, _]) (B := [_, _, _, _]) (C := os.map OV.o ++ fs.map FO.o) (F := F) (H9.cast (by simp only [List.append_assoc]; rfl))
      have hgm : ∀ q ∈ gs, q.1 ∈ goneOf (xs.map (·.1)) lv := fun q hq => hgs ▸ List.mem_map_of_mem hq
      have hou : ∀ u ∈ bits lv, ∃ p ∈ os, p.u = u := fun u hu => by
        have h1 : (u, overP (xs.map (·.1)) lv u) ∈ os.map OV.v := by rw [hos]; exact List.mem_map_of_mem (f := fun u => (u, overP (xs.map (·.1)) lv u)) hu
        obtain ⟨p, hp, e⟩ := List.mem_map.mp h1
        exact ⟨p, hp, (Prod.mk.inj e).1⟩
      have hnd : (os.map (·.u)).Nodup := by
        have h1 : os.map (·.u) = bits lv := by
          have := congrArg (List.map Prod.fst) hos
          rw [List.map_map, List.map_map] at this
          simpa [OV.v, Function.comp_def] using this
        rw [h1]; exact bits_nd lv
      have hosd : ∀ u, u < 7 → ∀ p ∈ os, p.u = u → dfind (os.map OV.d) u = some p.a ∧ overP (xs.map (·.1)) lv u = p.vs.map (·.1) := fun u _ p hp hu => by
        have h1 : ∀ {os : List OV}, (os.map (·.u)).Nodup → ∀ p ∈ os, p.u = u → dfind (os.map OV.d) u = some p.a := by
          intro os
          induction os with
          | nil => intro _ p hp; cases hp
          | cons y r ih =>
            intro nd p hp hu
            show (if y.u = u then some y.a else dfind (r.map OV.d) u) = some p.a
            have nd' := List.nodup_cons.mp nd
            rcases List.mem_cons.mp hp with z | z
            · subst z; rw [if_pos hu]
            · rw [if_neg fun e => nd'.1 (List.mem_map.mpr ⟨p, z, hu.trans e.symm⟩)]
              exact ih nd'.2 p z hu
        refine ⟨h1 hnd p hp hu, ?_⟩
        have h2 : (p.u, p.vs.map (·.1)) ∈ os.map OV.v := List.mem_map.mpr ⟨p, hp, rfl⟩
        rw [hos] at h2
        obtain ⟨y, _, e⟩ := List.mem_map.mp h2
        have e1 := (Prod.mk.inj e).1
        have e2 := (Prod.mk.inj e).2
        rw [← hu, ← e2, e1]
      have hall : ∀ q ∈ gs, (∃ p ∈ os, p.u = q.1) ∧ q.1 < 7 ∧ ∀ v ∈ overP (xs.map (·.1)) lv q.1, v < 7 ∧ v ≠ q.1 ∧ ∃ p ∈ os, p.u = v := fun q hq => by
        have h1 := (List.mem_filter.mp (hgm q hq)).1
        refine ⟨hou _ h1, bits_lt h1, fun v hv => ?_⟩
        have h2 := (List.mem_filter.mp hv).1
        exact ⟨bits_lt h2, hirr _ _ hv, hou _ h2⟩
      have hsub' : ∀ j (q : Nat × Nat), gs[j]? = some q → 1 <<< q.1 ≤ offs lv ((gs.take j).map (·.1)) := fun j q hj => by
        have := hsub j q.1 (by rw [← hgs]; simp [hj])
        rwa [← hgs, ← List.map_take] at this
      refine gone_does hk (it := n8) (L := L) (cl := cl) (cs := cs) (co := co) (cu := cu) (N := N) (Fo := Fo) (M := M) (S := S) (H := H) (G := G) (kt1 := kt1) (kt2 := kt2) (kt3 := kt3) (ks := ks) (kh := kh) (kg := kg) (Od := Od) (eD := eD) (eG := eG) (Dd := Dd) (kd := kd) (td := td) (lv := lv) (lt := lt) (eF := eF) (gs := gs) (ds := os.map OV.d) (ov := overP (xs.map (·.1)) lv) (os := os) (fs := fs) (ocu := ocu) (by omega) (by omega) hosd hall hosl (fun q hq => hh _ (hgm q hq)) hsub' hA9 H9r ?_
      rintro n10 k10 ocu' lt' eF' fs' hfs s10 H10
      refine ran (p3c_e ..) hk hA .nil (Rep.rot (A := [_, _, _, _, _, _, _, _]) (B := os.map OV.o ++ fs'.map FO.o) (C := [_, _, _, _]) (H10.cast (List.append_assoc ..))) fun s11 H11 => ⟨rfl, ?_⟩
      refine qn ⟨hhs ▸ hh1, fun z => hg1 (hgs.trans z)⟩ n10 k10 s11 lt' (eM + 1) eF' (some (.ref Se)) (some (.ref Od)) ocu' (ms ++ [((fs.map FO.a).length, t8)]) fs' ?_ ?_ ?_
      · rw [List.map_append, List.length_map]; rfl
      · rw [hfs, piecesOf, ← hgs, List.map_map]; rfl
      · rw [← hgs]
        refine H11.sub ?_
        unfold wst
        rw [List.append_assoc, List.append_assoc]
        exact List.Sublist.append_left (List.sublist_append_right _ _) [_, _, _, _, _, _, _, _, _]
  · rw [decide_eq_false (show ¬ hs.map (·.1) = ([] : NN).map (·.1) from hh1)]
    exact hret (.inl (hhs ▸ hh1)) H3
end
end
section
noncomputable def ob (X : Cx) (i : Nat) : Obj := ((kt X).get i).getD (cel none)
noncomputable def fdOf : Obj → FuncData
  | ⟨_, _, .func d, _⟩ => d
  | _ => default
noncomputable def arOf (o : Obj) : Arg := (((fdOf o).params.posonlyargs ++ (fdOf o).params.args).head?).getD default
noncomputable def vsOf : Obj → Array Value
  | ⟨_, _, .fields v, _⟩ => v
  | _ => #[]
noncomputable def sOf : Value → Str
  | .str s _ => s
  | _ => ⟨#[]⟩
noncomputable def tOf : Value → Tok
  | .str _ t => t
  | _ => 0
noncomputable def fileOf (o : Obj) : Str := sOf ((vsOf o)[2]?.getD .none)
noncomputable def fileT (o : Obj) : Tok := tOf ((vsOf o)[2]?.getD .none)
section
variable {X : Cx}
theorem ob128 (X : Cx) : (kt X).get 128 = some (ob X 128) ∧ (ob X 128).data = .func (fdOf (ob X 128)) ∧ ((fdOf (ob X 128)).params.posonlyargs ++ (fdOf (ob X 128)).params.args).head? = some (arOf (ob X 128)) ∧ (arOf (ob X 128)).arg = "self" := by
  obtain ⟨w, b, h, g, d, os⟩ := X
  cases b <;> exact ⟨by kernel_rfl, by kernel_rfl, by kernel_rfl, by kernel_rfl⟩
theorem ob127 (X : Cx) : (kt X).get 127 = some (ob X 127) ∧ (ob X 127).data = .fields (vsOf (ob X 127)) ∧ (vsOf (ob X 127))[2]? = some (.str (fileOf (ob X 127)) (fileT (ob X 127))) ∧ (pw.main.file == fileOf (ob X 127)) = true := by
  obtain ⟨w, b, h, g, d, os⟩ := X
  cases b <;> exact ⟨by kernel_rfl, by kernel_rfl, by kernel_rfl, by kernel_rfl⟩
theorem ob68 (X : Cx) : (kt X).get 68 = some (ob X 68) ∧ (ob X 68).data = .func (fdOf (ob X 68)) ∧ ((fdOf (ob X 68)).params.posonlyargs ++ (fdOf (ob X 68)).params.args).head? = some (arOf (ob X 68)) ∧ (arOf (ob X 68)).arg = "self" := by
  obtain ⟨w, b, h, g, d, os⟩ := X
  cases b <;> exact ⟨by kernel_rfl, by kernel_rfl, by kernel_rfl, by kernel_rfl⟩
theorem ob67 (X : Cx) : (kt X).get 67 = some (ob X 67) ∧ (ob X 67).data = .fields (vsOf (ob X 67)) ∧ (vsOf (ob X 67))[2]? = some (.str (fileOf (ob X 67)) (fileT (ob X 67))) ∧ (pw.main.file == fileOf (ob X 67)) = true := by
  obtain ⟨w, b, h, g, d, os⟩ := X
  cases b <;> exact ⟨by kernel_rfl, by kernel_rfl, by kernel_rfl, by kernel_rfl⟩
theorem noSuper : (pw.main.scope.names.lookup ("super" : Str)).isSome = false := by kernel_rfl
theorem pcE_eq : ∃ p0 p1, pcE = .Call (.Attribute (.Call (.Name "super" p0) [] [] p1) "__len__" (attP (calF pcE))) [] [] (calP pcE) ∧ ∀ L, eval (.Call (.Attribute (.Call (.Name "super" p0) [] [] p1) "__len__" (attP (calF pcE))) [] [] (calP pcE)) (pcEnv L) = (do
      let ov ← attributeBase (.Call (.Name "super" p0) [] [] p1) "__len__" (pcEnv L) (eval (.Call (.Name "super" p0) [] [] p1) (pcEnv L))
      standAt (attP (calF pcE)).atName
      let (f, first) ← holding [ov] (getMethod ov "__len__" (supPl pcE (pcEnv L)))
      callWith (calP pcE) f first (backTo (calP pcE) (starEach [] (pcEnv L))) []) := ⟨_, _, rfl, fun L => by rfl⟩
theorem inE_eq : ∃ p0 p1, inE = .Call (.Attribute (.Call (.Name "super" p0) [] [] p1) "__init__" (attP (calF inE))) [] [] (calP inE) ∧ ∀ L, eval (.Call (.Attribute (.Call (.Name "super" p0) [] [] p1) "__init__" (attP (calF inE))) [] [] (calP inE)) (inEnv 68 67 L) = (do
      let ov ← attributeBase (.Call (.Name "super" p0) [] [] p1) "__init__" (inEnv 68 67 L) (eval (.Call (.Name "super" p0) [] [] p1) (inEnv 68 67 L))
      standAt (attP (calF inE)).atName
      let (f, first) ← holding [ov] (getMethod ov "__init__" (supPl inE (inEnv 68 67 L)))
      callWith (calP inE) f first (backTo (calP inE) (starEach [] (inEnv 68 67 L))) []) := ⟨_, _, rfl, fun L => by rfl⟩
theorem pcB_eq : ∃ p, fB (aS 8) = [.Return (some pcE) p] := ⟨_, rfl⟩
theorem inB_eq : ∃ p, fB (aS 0) = (fB (aS 0)).take 1 ++ [.Expr inE p] := ⟨_, rfl⟩
theorem pcE_at (hk : KtOk X (kt X)) {L : Addr} {A : Around} {Q : Value → Shared → Prop} {E : Value → Shared → Prop} {s : Shared} {n k : Nat} {T : LG} (H : Rep X n k T s)
    (h : wpAt (model pw X.w) A (.func (fB (aS 8)) (pcEnv L)) (supE pcE "__len__" (pcEnv L)) Q E s) : wpAt (model pw X.w) A (.func (fB (aS 8)) (pcEnv L)) (eval pcE (pcEnv L)) Q E s := by
  obtain ⟨a1, a2, a3, a4⟩ := ob128 X
  obtain ⟨b1, b2, b3, b4⟩ := ob127 X
  obtain ⟨p0, p1, e, e2⟩ := pcE_eq
  rw [show eval pcE (pcEnv L) = _ from congrArg (fun x => eval x (pcEnv L)) e]
  refine at_super (pl := supPl pcE (pcEnv L)) rfl rfl rfl rfl (H.base.old 128 _ (by decide) (hk.at_ _ _ a1)) a2 a3 rfl (H.base.old 127 _ (by decide) (hk.at_ _ _ b1)) b2 b3 b4 noSuper ?_ (e2 L)
  rw [a4, supC_eq]; exact h
theorem inE_at (hk : KtOk X (kt X)) {L : Addr} {A : Around} {Q : Value → Shared → Prop} {E : Value → Shared → Prop} {s : Shared} {n k : Nat} {T : LG} (H : Rep X n k T s)
    (h : wpAt (model pw X.w) A (.func (fB (aS 0)) (inEnv 68 67 L)) (supE inE "__init__" (inEnv 68 67 L)) Q E s) : wpAt (model pw X.w) A (.func (fB (aS 0)) (inEnv 68 67 L)) (eval inE (inEnv 68 67 L)) Q E s := by
  obtain ⟨a1, a2, a3, a4⟩ := ob68 X
  obtain ⟨b1, b2, b3, b4⟩ := ob67 X
  obtain ⟨p0, p1, e, e2⟩ := inE_eq
  rw [show eval inE (inEnv 68 67 L) = _ from congrArg (fun x => eval x (inEnv 68 67 L)) e]
  refine at_super (pl := supPl inE (inEnv 68 67 L)) rfl rfl rfl rfl (H.base.old 68 _ (by decide) (hk.at_ _ _ a1)) a2 a3 rfl (H.base.old 67 _ (by decide) (hk.at_ _ _ b1)) b2 b3 b4 noSuper ?_ (e2 L)
  rw [a4, supC_eq]; exact h
theorem pc_does (hk : KtOk X (kt X)) : PcDoes X := by
  intro Fo Dd eF n k vs hv
  intro A s F R hA H0 qk
  obtain ⟨p, e⟩ := pcB_eq
  refine startC (ranAgain (pc1_e ..) rfl hk hA .nil H0 fun s1 H1 => ?_)
  refine ks_codeAny_funcAt ?_
  rw [show execs (fB (aS 8)) (pcEnv n) = execs [.Return (some pcE) p] (pcEnv n) from congrArg (fun x => execs x (pcEnv n)) e]
  refine ks_wpAt_execs_cons (ks_wpAt_Return_some (pcE_at hk H1 ?_))
  refine pieceV (iv vs.length (k + 1 + 1)) (ran (pc2_e ..) hk hA .nil H1 fun s2 H2 => ⟨by simp [rfs], ?_⟩)
  exact qk _ _ _ _ H2
theorem new_does (hk : KtOk X (kt X)) {m k : Nat} : DoesK X 280 (.call (.ref 131) ⟨[], []⟩) (m + 228) k [] (fun K => ∀ n' k' eF kd, K (.ok (.ret (.ref (m + 229)))) n' k' ([(m + 229, acc (m + 228) [] eF), (m + 228, dct [en X "_initial_size" kd (iv 0 250)] 1)])) := by
  intro A s F R hA H0 qk
  obtain ⟨p, e⟩ := inB_eq
  refine startC (paused (in1_e ..) hk hA .nil H0 fun s1 A1 hA1 H1 => ?_)
  refine startC (ranAgain (in2_e ..) rfl hk hA1 .nil H1 fun s2 H2 => ?_)
  refine ks_codeAny_funcAt ?_
  rw [show execs (fB (aS 0)) (inEnv 68 67 (m+230)) = execs ((fB (aS 0)).take 1 ++ [.Expr inE p]) (inEnv 68 67 (m+230)) from congrArg (fun x => execs x (inEnv 68 67 (m+230))) e]
  refine at_execs_app ?_
  rw [execsT_eq]
  refine pieceF .next (ran (in3_e ..) hk hA1 .nil H2 fun s3 H3 => ⟨rfl, ?_⟩)
  rw [← execsT_eq]
  refine ks_wpAt_execs_cons (ks_wpAt_Expr_any (inE_at hk H3 ?_))
  refine pieceV .none (ran (in4_e ..) hk hA1 .nil H3 fun s4 H4 => ⟨rfl, ?_⟩)
  refine wpAt_of_wpAny (wpAny_execs_nil ?_)
  refine ran (in5_e ..) hk hA .nil H4 fun s5 H5 => ?_
  exact qk _ _ _ _ _ H5
end
end
noncomputable def cat {α : Type} : List (List α) → List α → List α
  | [], F => F
  | b :: r, F => b ++ cat r F
theorem cat_perm {α : Type} {F : List α} {A B : List (List α)} (h : A.Perm B) : (cat A F).Perm (cat B F) := by
  induction h with
  | nil => exact .refl _
  | cons x _ ih => exact ih.append_left x
  | swap x y l =>
    show (y ++ (x ++ cat l F)).Perm (x ++ (y ++ cat l F))
    rw [← List.append_assoc, ← List.append_assoc]
    exact List.perm_append_comm.append_right _
  | trans _ _ h1 h2 => exact h1.trans h2
theorem getD_range {α : Type} (L : List (List α)) : (List.range L.length).map (fun j => L.getD j []) = L := by
  apply List.ext_getElem
  · simp
  · intro i h1 h2; simp [List.getElem?_eq_getElem h2]
noncomputable def pickB {α : Type} (js : List Nat) (Bs : List (List α)) : List (List α) := js.map fun j => Bs.getD j []
theorem Rep.blk {X : Cx} {n k : Nat} {s : Shared} {Bs : List (LG)} {F : LG} (js : List Nat) (h : js.isPerm (List.range Bs.length) = true) (H : Rep X n k (cat Bs F) s) :
    Rep X n k (cat (pickB js Bs) F) s := by
  refine H.perm (cat_perm ?_)
  have h1 : js.Perm (List.range Bs.length) := List.isPerm_iff.mp h
  have h2 := h1.map (fun j => Bs.getD j [])
  rw [getD_range] at h2
  exact h2.symm
theorem Rep.dropB {X : Cx} {n k : Nat} {s : Shared} {Bs Cs : List (LG)} {F : LG} (H : Rep X n k (cat Bs (cat Cs F)) s) : Rep X n k (cat Bs F) s := by
  have h1 : ∀ (Cs : List (LG)), F.Sublist (cat Cs F) := by
    intro Cs
    induction Cs with
    | nil => exact List.Sublist.refl _
    | cons c r ih => exact ih.trans (List.sublist_append_right c _)
  refine Rep.sub H ?_
  clear H
  induction Bs with
  | nil => exact h1 Cs
  | cons b r ih => exact ih.append_left b
section
noncomputable def cellsOf (zs : List Int) : List Nat := addUp [249, 0, 2, 14, 6, 35] 0 (zs.take 12)
noncomputable def firstOf (zs : List Int) : Nat := 1 + (cellsOf zs).getD 0 0 % 250
noncomputable def drawnOf (zs : List Int) : NN := drawFrom (cellsOf zs) 1 6
section
variable {X : Cx}
theorem law_A (hk : KtOk X (kt X)) {k kt1 eS : Nat} {vs : List (Int × Nat)} (hv : vs.length < 1000) {A : Around} {s : Shared} {F : LG} {Q : Flow → Shared → Prop} {E : Value → Shared → Prop} (hA : Fine 560 A)
    (H0 : Rep X 230 k ([(229, frm [en X "script" kt1 (.ref 228)] 1), (228, lst (zvs vs) eS)] ++ F) s)
    (q : ∀ n' k' s' kt2 kt3 kt4 tf P eP (qs : List PQ), qs.map PQ.v = drawnOf (vs.map (·.1)) →
      Rep X n' k' ([(229, frm [en X "script" kt1 (.ref 228), en X "cells" kt2 (.ref 230), en X "first" kt3 (iv (firstOf (vs.map (·.1))) tf), en X "drawn" kt4 (.ref P)] 4), (P, lst (rfs (qs.map (·.a))) eP)] ++ (qs.map PQ.o ++ ([(228, lst (zvs vs) eS)] ++ F))) s' → Q .next s') :
    wpAt (model pw X.w) (A.under lawC) lawC (execs (lawB.take 3) lawEnv) Q E s := by
  rw [execsT_eq]
  refine pieceF .next ?_
  refine paused (lw1_e ..) hk hA .nil H0 fun s1 A1 hA1 H1 => ?_
  refine cells_does hk vs hv _ eS [(249, k), (0, k + 1), (2, k + 2), (14, k + 3), (6, k + 4), (35, k + 5)] rfl (hA1.mono (by decide)) (F := [(229, frm [en X "script" kt1 (.ref 228)] 1)] ++ F) H1 ?_
  rintro n1 k1 xs hxs s2 H2
  have hxs' : xs.map (·.1) = cellsOf (vs.map (·.1)) := by rw [hxs, List.map_take]; rfl
  have hxl : xs.length = 6 := by
    have := congrArg List.length hxs'
    rw [List.length_map] at this
    rw [this]; exact addUp_len
  have H3 := Rep.blk (Bs := [[_], [_], [_]]) [2, 0, 1] (by kernel_rfl) H2
  obtain ⟨⟨x, t⟩, g⟩ := get_some (l := xs) (i := 0) (by omega)
  have hf : 1 + x % 250 = firstOf (vs.map (·.1)) := by
    unfold firstOf
    rw [← hxs', show (xs.map (·.1)).getD 0 0 = x from getD_of (by simp [g])]
  refine paused (lw2_e ..) hk hA (.cons c_addN (.cons (c_modN (by decide)) (.cons (c_getI g (by decide)) .nil))) H3 fun s3 A3 hA3 H4 => ?_
  refine drawn_does hk xs hxl _ _ _ _ (hA3.mono (by decide)) H4 ?_
  rintro n2 k2 P qs eP hqs s4 H5
  rw [List.append_assoc] at H5
  have H6 := Rep.blk (Bs := [[_], [_], qs.map PQ.o, [_]]) [3, 1, 0, 2] (by kernel_rfl) H5
  refine ran (lw3_e ..) hk hA .nil H6 fun s5 H7 => ⟨rfl, ?_⟩
  rw [hf] at H7
  exact q _ _ _ _ _ _ _ _ _ qs (by rw [hqs, hxs']; rfl) H7
end
end
section
section
variable {X : Cx}
theorem pieceW {A : Around} {c : Code} {s : Shared} {m : Sem Value} {Q : Value → Shared → Prop} {E : Value → Shared → Prop} (h : Tells X A (fun r s' => ∃ v, r = .ok (.ret v) ∧ Q v s') [] c (PySem.W.R.bindR m fun a => .pure (.done (.ret a))) s) : wpAt (model pw X.w) (A.under c) c m Q E s := by
  refine wpAt_mono (piece (f := Flow.ret) h) (fun a s' z => ?_) fun e s' z => nomatch z.choose_spec.1
  obtain ⟨v, z1, z2⟩ := z
  cases z1; exact z2
theorem l3_eq : ∃ p1 p3, nx lawB 3 = .If (.Compare (cmpL (ifT (nx lawB 3))) [.NotEq] [cmpR (ifT (nx lawB 3))] p1) (ifB (nx lawB 3)) [] p3 := ⟨_, _, rfl⟩
theorem l3_in : behindInMarks .NotEq (cmpR (ifT (nx lawB 3))) = false := by kernel_rfl
theorem l8_eq : ∃ p1 p3, nx lawB 8 = .If (.Compare (cmpL (ifT (nx lawB 8))) [.Eq] [cmpR (ifT (nx lawB 8))] p1) (ifB (nx lawB 8)) [] p3 := ⟨_, _, rfl⟩
theorem l8_in : behindInMarks .Eq (cmpR (ifT (nx lawB 8))) = false := by kernel_rfl
theorem lawB_eq : lawB = lawB.take 3 ++ (nx lawB 3 :: ((lawB.drop 4).take 4 ++ (nx lawB 8 :: lawB.drop 9))) := by kernel_rfl
noncomputable def lfr (X : Cx) (P f tf kt1 kt2 kt3 kt4 : Nat) : Addr × Obj := (229, frm [en X "script" kt1 (.ref 228), en X "cells" kt2 (.ref 230), en X "first" kt3 (iv f tf), en X "drawn" kt4 (.ref P)] 4)
theorem law_B (hk : KtOk X (kt X)) {n k kt1 kt2 kt3 kt4 f tf P eP : Nat} {qs : List PQ} {rest : List Stmt} (hf : 1 ≤ f) (hb : ∀ p ∈ qs.map PQ.v, p.1 ≤ 6 ∧ f + p.2 < 256) (hl : qs.length ≤ 100) (h0 : ∃ q, qs[0]? = some q ∧ q.x ≠ 0) {A : Around} {s : Shared} {F : LG} {Q : Flow → Shared → Prop} {E : Value → Shared → Prop} (hA : Fine 560 A)
    (H0 : Rep X n k ([lfr X P f tf kt1 kt2 kt3 kt4, (P, lst (rfs (qs.map (·.a))) eP)] ++ (qs.map PQ.o ++ F)) s)
    (q : ∀ n' k' s', Rep X n' k' ([lfr X P f tf kt1 kt2 kt3 kt4, (P, lst (rfs (qs.map (·.a))) eP)] ++ (qs.map PQ.o ++ F)) s' → wpAt (model pw X.w) (A.under lawC) lawC (execs rest lawEnv) Q E s') :
    wpAt (model pw X.w) (A.under lawC) lawC (execs (nx lawB 3 :: rest) lawEnv) Q E s := by
  obtain ⟨p1, p3, e⟩ := l3_eq
  refine ks_wpAt_execs_cons ?_
  rw [e]
  refine ks_wpAt_If (at_isTrue_Compare1 ?_ l3_in)
  rw [evalT_eq]
  have hbx : ∀ q ∈ qs, q.x ≤ 6 := fun q hq => (hb q.v (List.mem_map_of_mem hq)).1
  refine pieceW (paused (lw4_e ..) hk hA .nil (Rep.blk (Bs := [[_], [_], qs.map PQ.o]) [0, 1, 2] (by kernel_rfl) H0) fun s1 A1 hA1 H1 => ?_)
  have H2 := Rep.blk (Bs := [[_], [_], qs.map PQ.o]) [0, 2, 1] (by kernel_rfl) H1
  refine sym_does hk qs hbx hl h0 _ _ _ _ _ _ (hA1.mono (by decide)) (H2.cast (List.append_assoc ..).symm) ?_
  rintro n1 k1 Y ys hys s2 H3
  rw [List.append_assoc] at H3
  have H4 := Rep.blk (Bs := [[_], [_], qs.map PQ.o, [_]]) [3, 0, 1, 2] (by kernel_rfl) H3
  refine paused (lw5_e ..) hk hA .nil H4 fun s3 A3 hA3 H5 => ?_
  have hy1 : ∃ y t, ys[0]? = some (y, t) ∧ 256 ≤ y := by
    obtain ⟨q0, hq0, hx0⟩ := h0
    cases qs with
    | nil => cases hq0
    | cons a r =>
      have ha : a = q0 := Option.some.inj hq0
      rw [← ha] at hx0
      have h6 := hbx a (.head _)
      cases ys with
      | nil =>
        have := congrArg List.length hys
        simp at this
      | cons z w =>
        refine ⟨z.1, z.2, rfl, ?_⟩
        have : z.1 = 262 - a.x := by
          have := congrArg List.head? hys
          simp only [List.map_cons, symF, PQ.v, List.head?_cons] at this
          rw [if_neg hx0] at this
          simpa using this
        omega
  have hyl : ys.length ≤ 500 := by
    have h1 := congrArg List.length hys
    have h2 : ∀ (l : NN) (sp : Nat), (symF f sp l).length ≤ 2 * l.length := by
      intro l
      induction l with
      | nil => intro sp; exact Nat.le_refl _
      | cons a r ih =>
        intro sp
        have := ih a.1
        unfold symF
        split <;> simp <;> omega
    have h3 := h2 (qs.map PQ.v) 0
    simp at h1 h3
    omega
  refine read_does hk ys hyl (by rw [hys]; exact legible_sym f hf _ _ _ hb) hy1 _ _ _ _ _ (hA3.mono (by decide)) H5 ?_
  rintro n2 k2 Q' eQ ps hps s4 H6
  rw [List.append_assoc] at H6
  have hpq : ps.map PQ.v = qs.map PQ.v := by rw [hps, hys]; exact read_sym f hf _ _ _ hb
  have H7 := Rep.blk (Bs := [[_], [_], ps.map PQ.o, [_], [_], qs.map PQ.o]) [4, 0, 3, 2, 5, 1] (by kernel_rfl) H6
  refine ran (lw6_e ..) hk hA .nil H7 fun s5 H8 => ⟨_, rfl, ?_⟩
  have H9 := Rep.blk (Bs := [[_], [_], [_], ps.map PQ.o, qs.map PQ.o]) [2, 0, 1, 3, 4] (by kernel_rfl) H8
  refine pieceV (.ref P) (ran (lw7_e ..) hk hA .nil H9 fun s6 H10 => ⟨rfl, ?_⟩)
  refine ne_pairs (qs := ps) (ps := qs) (H10.own (Q', lst (rfs (ps.map (·.a))) eQ) (by simp)) (H10.own (P, lst (rfs (qs.map (·.a))) eP) (by simp)) (fun q hq => H10.own q.o ?_) (fun q hq => H10.own q.o ?_) hpq (hA.units _) ?_
  · exact List.mem_append_right _ (List.mem_append_left _ (List.mem_map_of_mem hq))
  · exact List.mem_append_right _ (List.mem_append_right _ (List.mem_append_left _ (List.mem_map_of_mem hq)))
  rw [if_neg (by simp)]
  refine wpAt_of_wpAny (wpAny_execs_nil ?_)
  have H11 := Rep.blk (Bs := [[_], [_], [_], ps.map PQ.o, qs.map PQ.o]) [2, 1, 4, 0, 3] (by kernel_rfl) H10
  refine q _ _ _ (Rep.sub H11 ?_)
  exact (((((List.sublist_append_right [_] F).trans (List.sublist_append_right _ _)).trans (List.sublist_append_right [_] _)).append_left _).append_left [_]).append_left [_]
end
end
noncomputable def pl1_o (X : Cx) (n k N Fo e1 : Nat) (xs : NN) (F : LG) : Out := goC X (kt X) 280 36 [.o 0, .o 0, .o 5, .o 5, .o 5, .o 5, .frame, .o 4, .o 4, .o 6, .o 6] (.call (.ref 203) ⟨[.ref N, .ref (Fo + 228)], []⟩) n k ([(N, lst (ivs xs) e1)] ++ F)
theorem pl1_e (X : Cx) (n k N Fo e1 : Nat) (xs : NN) (F : LG) : RAC X 280 (.call (.ref 203) ⟨[.ref N, .ref (Fo + 228)], []⟩) n k ([(N, lst (ivs xs) e1)] ++ F) (pl1_o X n k N Fo e1 xs F) [5, 4, 3, 2, 1, 0, 6] 7 true (peelLoop n (n+1) (n+2) (n+3) (n+4)) (n + 6) (k + 4) ([(n, frm [en X "near" k (.ref N), en X "folds" (k + 1) (.ref (Fo + 228)), en X "marks" (k + 3) (.ref (n + 5))] 3), ((n + 1), cel (some (iv 127 (k + 2)))), ((n + 2), cel none), ((n + 3), cel none), ((n + 4), cel none), ((n + 5), lst [] 0), (N, lst (ivs xs) e1)] ++ F) [] := by delta pl1_o; exact .mC (by kernel_rfl!)
theorem pl2_e (X : Cx) (n k N Fo e1 : Nat) (xs : NN) (n1 k1 a M H : Nat) (G1 : LG) (F : LG) : REN X 280 (pl1_o X n k N Fo e1 xs G1) (.ok (.ret (.ref a))) n1 k1 ([(a, tup [.ref M, .ref H])] ++ F) [0] 1 (.done (.ret (.ref a))) n1 k1 ([(a, tup [(.ref M), (.ref H)])] ++ F) [] := .mk 0 [] (by kernel_rfl!)
section
noncomputable def RoundOk (near : List Nat) (lv : Nat) : Prop := bits lv ≠ [] ∧ (∀ u ∈ goneOf near lv, (overP near lv u).filter (fun x => overP near lv x = []) ≠ []) ∧ (∀ j u, (goneOf near lv)[j]? = some u → 1 <<< u ≤ offs lv ((goneOf near lv).take j))
noncomputable def Ends (near : List Nat) (lv : Nat) : Prop := hubsOf near lv ≠ [] ∨ goneOf near lv = []
noncomputable def PeelOk (near : List Nat) : Nat → Nat → Prop
  | 0, _ => False
  | m + 1, lv => RoundOk near lv ∧ (Ends near lv ∨ (¬ Ends near lv ∧ PeelOk near m (offs lv (goneOf near lv))))
structure PeelR where
  lv : Nat
  ms : List Nat
  fs : NN
noncomputable def peelP (near : List Nat) : Nat → PeelR → PeelR
  | 0, p => p
  | m + 1, p => match hubsOf near p.lv, goneOf near p.lv with
    | [], _ :: _ => peelP near m ⟨offs p.lv (goneOf near p.lv), p.ms ++ [p.fs.length], p.fs ++ piecesOf near p.lv⟩
    | _, _ => p
theorem peelP_end {near : List Nat} {m : Nat} {p : PeelR} (h : Ends near p.lv) : peelP near (m + 1) p = p := by
  unfold peelP
  split
  · rename_i h1 h2
    rcases h with z | z
    · exact absurd h1 z
    · rw [z] at h2; cases h2
  · rfl
theorem peelP_more {near : List Nat} {m : Nat} {p : PeelR} (h : ¬ Ends near p.lv) : peelP near (m + 1) p = peelP near m ⟨offs p.lv (goneOf near p.lv), p.ms ++ [p.fs.length], p.fs ++ piecesOf near p.lv⟩ := by
  conv => lhs; unfold peelP
  split
  · rfl
  · rename_i h1
    exfalso
    refine h ?_
    unfold Ends
    by_cases z : hubsOf near p.lv = []
    · right
      cases z2 : goneOf near p.lv with
      | nil => rfl
      | cons a r => exact absurd z2 (h1 a r z)
    · exact .inl z
theorem less_irr (a : Nat) : less a a = false := by simp [less]
theorem over_irr {near : List Nat} {lv u v : Nat} (h : v ∈ overP near lv u) : v ≠ u := by
  intro e
  subst e
  have := (List.mem_filter.mp h).2
  simp [less_irr] at this
theorem pieces_le (near : List Nat) (lv : Nat) : (piecesOf near lv).length ≤ 7 := by
  unfold piecesOf
  rw [List.length_map]
  exact Nat.le_trans (List.length_filter_le _ _) (Nat.le_trans (List.length_filter_le _ _) (by simp))
section
variable {X : Cx}
theorem quiet_peel (L cl cs co cu : Addr) : (peelLoop L cl cs co cu).quiet = true := by unfold peelLoop; rfl
theorem peelT_eq : ∃ k p, whT (nx (fB (st 21)) 2) = .Constant (.bool true) k p := ⟨_, _, rfl⟩
noncomputable def fr0 (X : Cx) (N Fo M kt1 kt2 kt3 : Nat) : Obj := frm [en X "near" kt1 (.ref N), en X "folds" kt2 (.ref (Fo + 228)), en X "marks" kt3 (.ref M)] 3
theorem peel_test {L cl cs co cu : Addr} {A : Around} {s : Shared} {Q : Bool → Shared → Prop} {E : Value → Shared → Prop} {c : Code} (h : Q true s) : wpAt (model pw X.w) A c (PySem.isTrue (whT (nx (fB (st 21)) 2)) (peelEnv L cl cs co cu) (eval (whT (nx (fB (st 21)) 2)) (peelEnv L cl cs co cu))) Q E s := by
  obtain ⟨k, p, e⟩ := peelT_eq
  rw [e]
  exact wpAt_of_wpAny (wpAny_isTrue_value (wpAny_Constant_bool (wpAny_truthy_bool h)))
theorem round_0 (hk : KtOk X (kt X)) (hpc : PcDoes X) {L cl cs co cu N Fo M e1 eM lv lt kt1 kt2 kt3 Dd eF kd td n k : Nat} {xs ms : NN} {ocs oco ocu : Option Value} {fs : List FO} {A : Around} {s : Shared} {F : LG} {R : Result → Shared → Prop} (hA : Fine 280 A)
    (hx : xs.length = 7) (ho : RoundOk (xs.map (·.1)) lv) (hfl : fs.length < 200) (hms : ms.length < 200)
    (H0 : Rep X n k (wst X L cl cs co cu M N Fo Dd lv lt eM e1 eF kd td ocs oco ocu ms xs fs (fr0 X N Fo M kt1 kt2 kt3) ++ F) s)
    (qr : Ends (xs.map (·.1)) lv → ∀ n' k' s' a H eH hs, hs.map (·.1) = hubsOf (xs.map (·.1)) lv → Rep X n' k' ([(a, tup [.ref M, .ref H]), (M, lst (ivs ms) eM), (H, lst (ivs hs) eH), (N, lst (ivs xs) e1), (Fo + 228, acc Dd (rfs (fs.map FO.a)) eF), (Dd, dct [en X "_initial_size" kd (iv 0 td)] 1)] ++ (fs.map FO.o ++ F)) s' → R (.ok (.ret (.ref a))) s')
    (qn : ¬ Ends (xs.map (·.1)) lv → ∀ n' k' s' S H G ks kh kg lt' eM' eF' (ocs oco ocu : Option Value) ms' (fs' : List FO), ms'.map (·.1) = ms.map (·.1) ++ [fs.length] → fs'.map FO.v2 = fs.map FO.v2 ++ piecesOf (xs.map (·.1)) lv →
      Rep X n' k' (wst X L cl cs co cu M N Fo Dd (offs lv (goneOf (xs.map (·.1)) lv)) lt' eM' e1 eF' kd td ocs oco ocu ms' xs fs' (fr1 X N Fo M S H G kt1 kt2 kt3 ks kh kg) ++ F) s' → codeAny (model pw X.w) A (peelLoop L cl cs co cu) R s') :
    codeAny (model pw X.w) A (peelLoop L cl cs co cu) R s := by
  refine while_at (quiet_peel ..) (peel_test ⟨rfl, ?_⟩)
  show wpAt (model pw X.w) (A.under (peelLoop L cl cs co cu)) (peelLoop L cl cs co cu) (execs peelW (peelEnv L cl cs co cu)) _ _ s
  rw [peelW_eq]
  refine at_execs_app ?_
  unfold wst at H0
  rw [List.append_assoc] at H0
  refine part1_0 hk (F := [(Fo + 228, acc Dd (rfs (fs.map FO.a)) eF), (Dd, dct [en X "_initial_size" kd (iv 0 td)] 1)] ++ (fs.map FO.o ++ F)) hx ho.1 hA H0 ?_
  intro n' k' s' ks' kh' kg' S' H' G' Od Se eD eH eG ocu' hs gs os h1 h2 h3 h4 h5 H2
  refine round_tail hk hpc hA h1 h2 h3 h4 h5 hfl hms ho.2.1 (fun u v => over_irr) ho.2.2 H2 (fun e n2 k2 s2 a Ha => qr e _ _ _ _ _ _ _ h1 Ha) ?_
  intro e n2 k2 s2 lt' eM' eF' ocs' oco' ocu2 ms' fs' hm hf Hn
  exact qn (fun z => z.elim (fun z => z e.1) (fun z => e.2 z)) _ _ _ _ _ _ _ _ _ _ _ _ _ _ _ _ _ hm hf Hn
theorem round_1 (hk : KtOk X (kt X)) (hpc : PcDoes X) {L cl cs co cu N Fo M e1 eM lv lt kt1 kt2 kt3 S H G ks kh kg Dd eF kd td n k : Nat} {xs ms : NN} {ocs oco ocu : Option Value} {fs : List FO} {A : Around} {s : Shared} {F : LG} {R : Result → Shared → Prop} (hA : Fine 280 A)
    (hx : xs.length = 7) (ho : RoundOk (xs.map (·.1)) lv) (hfl : fs.length < 200) (hms : ms.length < 200)
    (H0 : Rep X n k (wst X L cl cs co cu M N Fo Dd lv lt eM e1 eF kd td ocs oco ocu ms xs fs (fr1 X N Fo M S H G kt1 kt2 kt3 ks kh kg) ++ F) s)
    (qr : Ends (xs.map (·.1)) lv → ∀ n' k' s' a H eH hs, hs.map (·.1) = hubsOf (xs.map (·.1)) lv → Rep X n' k' ([(a, tup [.ref M, .ref H]), (M, lst (ivs ms) eM), (H, lst (ivs hs) eH), (N, lst (ivs xs) e1), (Fo + 228, acc Dd (rfs (fs.map FO.a)) eF), (Dd, dct [en X "_initial_size" kd (iv 0 td)] 1)] ++ (fs.map FO.o ++ F)) s' → R (.ok (.ret (.ref a))) s')
    (qn : ¬ Ends (xs.map (·.1)) lv → ∀ n' k' s' S H G ks kh kg lt' eM' eF' (ocs oco ocu : Option Value) ms' (fs' : List FO), ms'.map (·.1) = ms.map (·.1) ++ [fs.length] → fs'.map FO.v2 = fs.map FO.v2 ++ piecesOf (xs.map (·.1)) lv →
      Rep X n' k' (wst X L cl cs co cu M N Fo Dd (offs lv (goneOf (xs.map (·.1)) lv)) lt' eM' e1 eF' kd td ocs oco ocu ms' xs fs' (fr1 X N Fo M S H G kt1 kt2 kt3 ks kh kg) ++ F) s' → codeAny (model pw X.w) A (peelLoop L cl cs co cu) R s') :
    codeAny (model pw X.w) A (peelLoop L cl cs co cu) R s := by
  refine while_at (quiet_peel ..) (peel_test ⟨rfl, ?_⟩)
  show wpAt (model pw X.w) (A.under (peelLoop L cl cs co cu)) (peelLoop L cl cs co cu) (execs peelW (peelEnv L cl cs co cu)) _ _ s
  rw [peelW_eq]
  refine at_execs_app ?_
  unfold wst at H0
  rw [List.append_assoc] at H0
  refine part1_1 hk (F := [(Fo + 228, acc Dd (rfs (fs.map FO.a)) eF), (Dd, dct [en X "_initial_size" kd (iv 0 td)] 1)] ++ (fs.map FO.o ++ F)) hx ho.1 hA H0 ?_
  intro n' k' s' ks' kh' kg' S' H' G' Od Se eD eH eG ocu' hs gs os h1 h2 h3 h4 h5 H2
  refine round_tail hk hpc hA h1 h2 h3 h4 h5 hfl hms ho.2.1 (fun u v => over_irr) ho.2.2 H2 (fun e n2 k2 s2 a Ha => qr e _ _ _ _ _ _ _ h1 Ha) ?_
  intro e n2 k2 s2 lt' eM' eF' ocs' oco' ocu2 ms' fs' hm hf Hn
  exact qn (fun z => z.elim (fun z => z e.1) (fun z => e.2 z)) _ _ _ _ _ _ _ _ _ _ _ _ _ _ _ _ _ hm hf Hn
theorem peel_rounds (hk : KtOk X (kt X)) (hpc : PcDoes X) {L cl cs co cu N Fo M e1 kt1 kt2 kt3 Dd kd td : Nat} {xs : NN} {A : Around} {F : LG} {R : Result → Shared → Prop} (hA : Fine 280 A) (hx : xs.length = 7) : ∀ (m : Nat) {S H G ks kh kg eM lv lt eF n k : Nat} {ms : NN} {ocs oco ocu : Option Value} {fs : List FO} {s : Shared}, PeelOk (xs.map (·.1)) m lv → fs.length + 7 * m < 200 → ms.length + m < 200 →
    Rep X n k (wst X L cl cs co cu M N Fo Dd lv lt eM e1 eF kd td ocs oco ocu ms xs fs (fr1 X N Fo M S H G kt1 kt2 kt3 ks kh kg) ++ F) s →
    (∀ n' k' s' a H eH eM eF hs ms' (fs' : List FO), (⟨(peelP (xs.map (·.1)) m ⟨lv, ms.map (·.1), fs.map FO.v2⟩).lv, ms'.map (·.1), fs'.map FO.v2⟩ : PeelR) = peelP (xs.map (·.1)) m ⟨lv, ms.map (·.1), fs.map FO.v2⟩ → hs.map (·.1) = hubsOf (xs.map (·.1)) (peelP (xs.map (·.1)) m ⟨lv, ms.map (·.1), fs.map FO.v2⟩).lv →
      Rep X n' k' ([(a, tup [.ref M, .ref H]), (M, lst (ivs ms') eM), (H, lst (ivs hs) eH), (N, lst (ivs xs) e1), (Fo + 228, acc Dd (rfs (fs'.map FO.a)) eF), (Dd, dct [en X "_initial_size" kd (iv 0 td)] 1)] ++ (fs'.map FO.o ++ F)) s' → R (.ok (.ret (.ref a))) s') →
    codeAny (model pw X.w) A (peelLoop L cl cs co cu) R s := by
  intro m
  induction m with
  | zero => intro S H G ks kh kg eM lv lt eF n k ms ocs oco ocu fs s h; exact h.elim
  | succ m ih =>
    intro S H G ks kh kg eM lv lt eF n k ms ocs oco ocu fs s ho hf hm H0 q
    refine round_1 hk hpc hA hx ho.1 (by omega) (by omega) H0 (fun e n' k' s' a H eH hs h1 Ha => ?_) (fun e n' k' s' S H G ks kh kg lt' eM' eF' ocs oco ocu ms' fs' h1 h2 Hn => ?_)
    · refine q _ _ _ _ _ _ _ _ hs ms fs ?_ ?_ Ha
      · rw [peelP_end e]
      · rw [peelP_end e]; exact h1
    · have ho' := (ho.2.resolve_left e).2
      have hpl := pieces_le (xs.map (·.1)) lv
      have l1 := congrArg List.length h1
      have l2 := congrArg List.length h2
      simp only [List.length_map, List.length_append, List.length_singleton] at l1 l2
      refine ih ho' (by omega) (by omega) Hn fun n2 k2 s2 a H eH eM eF hs ms2 fs2 e1 e2 Ha => ?_
      have e3 : peelP (xs.map (·.1)) (m + 1) ⟨lv, ms.map (·.1), fs.map FO.v2⟩ = peelP (xs.map (·.1)) m ⟨offs lv (goneOf (xs.map (·.1)) lv), ms'.map (·.1), fs'.map FO.v2⟩ := by
        rw [peelP_more (p := ⟨lv, ms.map (·.1), fs.map FO.v2⟩) e, h1, h2, List.length_map]
      refine q _ _ _ _ _ _ _ _ hs ms2 fs2 ?_ ?_ Ha
      · rw [e3]; exact e1
      · rw [e3]; exact e2
theorem peel_does (hk : KtOk X (kt X)) (hpc : PcDoes X) {N Fo e1 Dd eF kd td n k m : Nat} {xs : NN} (hx : xs.length = 7) (hm : m < 20) (ho : PeelOk (xs.map (·.1)) (m + 1) 127) :
    DoesK X 350 (.call (.ref 203) ⟨[.ref N, .ref (Fo + 228)], []⟩) n k [(N, lst (ivs xs) e1), (Fo + 228, acc Dd [] eF), (Dd, dct [en X "_initial_size" kd (iv 0 td)] 1)]
      (fun K => ∀ n' k' (a M H eM eH eF : Nat) (hs ms : NN) (fs : List FO), (⟨(peelP (xs.map (·.1)) (m + 1) ⟨127, [], []⟩).lv, ms.map (·.1), fs.map FO.v2⟩ : PeelR) = peelP (xs.map (·.1)) (m + 1) ⟨127, [], []⟩ → hs.map (·.1) = hubsOf (xs.map (·.1)) (peelP (xs.map (·.1)) (m + 1) ⟨127, [], []⟩).lv → K (.ok (.ret (.ref a))) n' k' ([(a, tup [.ref M, .ref H]), (M, lst (ivs ms) eM), (H, lst (ivs hs) eH), (N, lst (ivs xs) e1), (Fo + 228, acc Dd (rfs (fs.map FO.a)) eF), (Dd, dct [en X "_initial_size" kd (iv 0 td)] 1)] ++ fs.map FO.o)) := by
  intro A s F R hA H0 qk
  refine startC (paused (pl1_e ..) hk hA .nil (T := [(N, lst (ivs xs) e1)] ++ ([(Fo + 228, acc Dd [] eF), (Dd, dct [en X "_initial_size" kd (iv 0 td)] 1)] ++ F)) H0 fun s1 A1 hA1 H1 => ?_)
  have fin : ∀ n' k' s' a H eH eM eF2 hs ms' (fs' : List FO), (⟨(peelP (xs.map (·.1)) (m + 1) ⟨127, [], []⟩).lv, ms'.map (·.1), fs'.map FO.v2⟩ : PeelR) = peelP (xs.map (·.1)) (m + 1) ⟨127, [], []⟩ → hs.map (·.1) = hubsOf (xs.map (·.1)) (peelP (xs.map (·.1)) (m + 1) ⟨127, [], []⟩).lv →
      Rep X n' k' ([(a, tup [.ref (n + 5), .ref H]), (n + 5, lst (ivs ms') eM), (H, lst (ivs hs) eH), (N, lst (ivs xs) e1), (Fo + 228, acc Dd (rfs (fs'.map FO.a)) eF2), (Dd, dct [en X "_initial_size" kd (iv 0 td)] 1)] ++ (fs'.map FO.o ++ F)) s' → Tells X A R (pl1_o X n k N Fo e1 xs ([(Fo + 228, acc Dd [] eF), (Dd, dct [en X "_initial_size" kd (iv 0 td)] 1)] ++ F)).κ (pl1_o X n k N Fo e1 xs ([(Fo + 228, acc Dd [] eF), (Dd, dct [en X "_initial_size" kd (iv 0 td)] 1)] ++ F)).cc ((pl1_o X n k N Fo e1 xs ([(Fo + 228, acc Dd [] eF), (Dd, dct [en X "_initial_size" kd (iv 0 td)] 1)] ++ F)).next (.ok (.ret (.ref a)))) s' := by
    intro n' k' s' a H eH eM eF hs ms' fs' e1 e2 Ha
    refine ran (pl2_e ..) hk hA .nil Ha fun s2 H2 => ?_
    exact qk _ _ a _ H eM eH eF hs ms' fs' e1 e2 _ (H2.cast (by rw [List.append_assoc]; rfl))
  have H1' : Rep X (n + 6) (k + 4) (wst X n (n + 1) (n + 2) (n + 3) (n + 4) (n + 5) N Fo Dd 127 (k + 2) 0 e1 eF kd td none none none [] xs [] (fr0 X N Fo (n + 5) k (k + 1) (k + 3)) ++ F) s1 := H1
  refine round_0 hk hpc hA1 hx ho.1 (by simp) (by simp) H1' (fun e n' k' s' a H eH hs h1 Ha => ?_) (fun e n' k' s' S H G ks kh kg lt' eM' eF' ocs oco ocu ms' fs' h1 h2 Hn => ?_)
  · refine fin _ _ _ _ _ _ _ _ hs [] [] ?_ ?_ Ha
    · rw [peelP_end e]; rfl
    · rw [peelP_end e]; exact h1
  · have ho' := (ho.2.resolve_left e).2
    have hpl := pieces_le (xs.map (·.1)) 127
    have l1 := congrArg List.length h1
    have l2 := congrArg List.length h2
    simp only [List.length_map, List.length_append, List.length_singleton, List.length_nil] at l1 l2
    refine peel_rounds hk hpc hA1 hx m ho' (by omega) (by omega) Hn fun n2 k2 s2 a H eH eM eF hs ms2 fs2 e1 e2 Ha => ?_
    have e3 : peelP (xs.map (·.1)) (m + 1) ⟨127, [], []⟩ = peelP (xs.map (·.1)) m ⟨offs 127 (goneOf (xs.map (·.1)) 127), ms'.map (·.1), fs'.map FO.v2⟩ := by
      rw [peelP_more (p := ⟨127, [], []⟩) e, h1, h2]; rfl
    refine fin _ _ _ _ _ _ _ _ hs ms2 fs2 ?_ ?_ Ha
    · rw [e3]; exact e1
    · rw [e3]; exact e2
end
end
noncomputable def clockEnv (L cn : Addr) : Env := envF 22 208 207 L [("near", cn)] "_law_clock.<locals>."
noncomputable def clockB : List Stmt := fB (st 22)
noncomputable def clockW : List Stmt := whB (nx clockB 3)
noncomputable def clockLoop (L cn : Addr) : Code := .whileLoop (whT (nx clockB 3)) clockW [] (clockEnv L cn)
noncomputable def c7 : Expr := asE (nx clockB 0)
noncomputable def c8 : Expr := cpElt c7
noncomputable def c7Env (ns L cn sg : Addr) : Env := cpEnv c7 (clockEnv L cn) ns [("sight", sg)]
noncomputable def c8Env (ns ns' L cn sg : Addr) : Env := cpEnv c8 (c7Env ns L cn sg) ns' [("sight", sg)]
noncomputable def c7C (it acc ns L cn sg : Addr) : Code := .compLoop c7 0 (.ref it) (.ref acc) (c7Env ns L cn sg)
noncomputable def c8C (it acc ns ns' L cn sg : Addr) : Code := .compLoop c8 0 (.ref it) (.ref acc) (c8Env ns ns' L cn sg)
noncomputable def kLoop (it L cn : Addr) : Code := .forLoop (forT (nx clockW 1)) (.ref it) (forB (nx clockW 1)) [] (clockEnv L cn)
noncomputable def dLoop (it L cn : Addr) : Code := .forLoop (forT (nx (forB (nx clockW 1)) 1)) (.ref it) (forB (nx (forB (nx clockW 1)) 1)) [] (clockEnv L cn)
noncomputable def c9 : Expr := asE (nx clockW 5)
noncomputable def c10 : Expr := callArg (cpElt c9) 0
noncomputable def c9Env (ns L cn rg : Addr) : Env := cpEnv c9 (clockEnv L cn) ns [("reach", rg), ("near", cn)]
noncomputable def c10Env (ns ns' L cn rg : Addr) : Env := cpEnv c10 (c9Env ns L cn rg) ns' [("reach", rg), ("near", cn)]
noncomputable def c9C (it acc ns L cn rg : Addr) : Code := .compLoop c9 0 (.ref it) (.ref acc) (c9Env ns L cn rg)
noncomputable def c10C (it acc ns ns' L cn rg : Addr) : Code := .compLoop c10 0 (.ref it) (.ref acc) (c10Env ns ns' L cn rg)
noncomputable def w0a_o (X : Cx) (n k L cn N e1 eBs eLo eT kt1 Bs kt2 Lo kt3 Ta : Nat) (xs ls : NN) (bs ts : List Nat) (F : LG) : Out := go X (kt X) 210 47 [.o 2, .o 2, .o 0, .o 0, .e, .e, .o 1, .o 1, .e, .o 1, .o 1, .o 1, .o 1, .e, .o 1, .o 1, .o 1, .o 1, .o 1] [] (clockLoop L cn) (PySem.W.R.bindR (execsT (clockW.take 2) (clockEnv L cn)) (fun f => .pure (.done f))) n k ([(L, frm [en X "beside" kt1 (.ref Bs), en X "lost" kt2 (.ref Lo), en X "tables" kt3 (.ref Ta)] 3), (cn, cel (some (.ref N))), (N, lst (ivs xs) e1), (Bs, lst (rfs bs) eBs), (Lo, lst (ivs ls) eLo), (Ta, lst (rfs ts) eT)] ++ F)
theorem w0a_e (X : Cx) (n k L cn N e1 eBs eLo eT kt1 Bs kt2 Lo kt3 Ta : Nat) (xs ls : NN) (bs ts : List Nat) (F : LG) : RA X 210 [] (clockLoop L cn) (PySem.W.R.bindR (execsT (clockW.take 2) (clockEnv L cn)) (fun f => .pure (.done f))) n k ([(L, frm [en X "beside" kt1 (.ref Bs), en X "lost" kt2 (.ref Lo), en X "tables" kt3 (.ref Ta)] 3), (cn, cel (some (.ref N))), (N, lst (ivs xs) e1), (Bs, lst (rfs bs) eBs), (Lo, lst (ivs ls) eLo), (Ta, lst (rfs ts) eT)] ++ F) (w0a_o X n k L cn N e1 eBs eLo eT kt1 Bs kt2 Lo kt3 Ta xs ls bs ts F) [3, 6, 7, 2, 0, 4, 5, 8] 9 true (kLoop (n+2) L cn) (n + 3) (k + 4) ([(L, frm [en X "beside" kt1 (.ref Bs), en X "lost" kt2 (.ref Lo), en X "tables" kt3 (.ref Ta), en X "won" k (.ref n)] 4), (Bs, lst (rfs bs) eBs), (Lo, lst (ivs ls) eLo), (n, lst [] 0), ((n + 2), rit 0 7), (cn, cel (some (.ref N))), (N, lst (ivs xs) e1), (Ta, lst (rfs ts) eT)] ++ F) [] := by delta w0a_o; exact .m (by apply X.both <;> kernel_rfl!)
noncomputable def w1a_o (X : Cx) (n k L cn N e1 eBs eLo eT kt1 Bs kt2 Lo kt3 Ta kt4 Wo kt5 v5 t5 kt6 v6 t6 kt7 v7 t7 : Nat) (xs ls : NN) (bs ts : List Nat) (F : LG) : Out := go X (kt X) 210 47 [.o 2, .o 2, .o 0, .o 0, .e, .e, .o 1, .o 1, .e, .o 1, .o 1, .o 1, .o 1, .e, .o 1, .o 1, .o 1, .o 1, .o 1] [] (clockLoop L cn) (PySem.W.R.bindR (execsT (clockW.take 2) (clockEnv L cn)) (fun f => .pure (.done f))) n k ([(L, frm [en X "beside" kt1 (.ref Bs), en X "lost" kt2 (.ref Lo), en X "tables" kt3 (.ref Ta), en X "won" kt4 (.ref Wo), en X "k" kt5 (iv v5 t5), en X "reach" kt6 (iv v6 t6), en X "d" kt7 (iv v7 t7)] 7), (cn, cel (some (.ref N))), (N, lst (ivs xs) e1), (Bs, lst (rfs bs) eBs), (Lo, lst (ivs ls) eLo), (Ta, lst (rfs ts) eT)] ++ F)
theorem w1a_e (X : Cx) (n k L cn N e1 eBs eLo eT kt1 Bs kt2 Lo kt3 Ta kt4 Wo kt5 v5 t5 kt6 v6 t6 kt7 v7 t7 : Nat) (xs ls : NN) (bs ts : List Nat) (F : LG) : RA X 210 [] (clockLoop L cn) (PySem.W.R.bindR (execsT (clockW.take 2) (clockEnv L cn)) (fun f => .pure (.done f))) n k ([(L, frm [en X "beside" kt1 (.ref Bs), en X "lost" kt2 (.ref Lo), en X "tables" kt3 (.ref Ta), en X "won" kt4 (.ref Wo), en X "k" kt5 (iv v5 t5), en X "reach" kt6 (iv v6 t6), en X "d" kt7 (iv v7 t7)] 7), (cn, cel (some (.ref N))), (N, lst (ivs xs) e1), (Bs, lst (rfs bs) eBs), (Lo, lst (ivs ls) eLo), (Ta, lst (rfs ts) eT)] ++ F) (w1a_o X n k L cn N e1 eBs eLo eT kt1 Bs kt2 Lo kt3 Ta kt4 Wo kt5 v5 t5 kt6 v6 t6 kt7 v7 t7 xs ls bs ts F) [3, 6, 7, 2, 0, 4, 5, 8] 9 true (kLoop (n+2) L cn) (n + 3) (k + 4) ([(L, frm [en X "beside" kt1 (.ref Bs), en X "lost" kt2 (.ref Lo), en X "tables" kt3 (.ref Ta), en X "won" kt4 (.ref n), en X "k" kt5 (iv v5 t5), en X "reach" kt6 (iv v6 t6), en X "d" kt7 (iv v7 t7)] 7), (Bs, lst (rfs bs) eBs), (Lo, lst (ivs ls) eLo), (n, lst [] 0), ((n + 2), rit 0 7), (cn, cel (some (.ref N))), (N, lst (ivs xs) e1), (Ta, lst (rfs ts) eT)] ++ F) [] := by delta w1a_o; exact .m (by apply X.both <;> kernel_rfl!)
noncomputable def k0a_o (X : Cx) (n k it L cn x lf eBs eLo eWo kt1 Bs kt2 Lo kt3 Ta kt4 Wo : Nat) (bs : List Nat) (ls ws : NN) (W eW : Nat) (vs : NN) (F : LG) (y1 : Nat) : Out := goC X (kt X) 140 39 [.o 6, .g false (.ok (.ret (iv x k))) (k + 1) [5] [(5, rit (x + 1) y1)] [], .o 2, .o 2, .o 2, .o 2, .o 2, .o 2, .o 3, .o 3, .o 3, .v (.ref W) (k + 4) [2], .o 1, .o 1, .e, .o 1, .o 1] (kLoop it L cn) n k ([(W, lst (ivs vs) eW), (L, frm [en X "beside" kt1 (.ref Bs), en X "lost" kt2 (.ref Lo), en X "tables" kt3 (.ref Ta), en X "won" kt4 (.ref Wo)] 4), (Bs, lst (rfs bs) eBs), (Lo, lst (ivs ls) eLo), (Wo, lst (ivs ws) eWo), (it, rit x lf)] ++ F)
theorem k0a_e (X : Cx) (n k it L cn x lf eBs eLo eWo kt1 Bs kt2 Lo kt3 Ta kt4 Wo : Nat) (bs : List Nat) (ls ws : NN) (W eW : Nat) (vs : NN) (F : LG) (y1 : Nat) : RAC X 140 (kLoop it L cn) n k ([(W, lst (ivs vs) eW), (L, frm [en X "beside" kt1 (.ref Bs), en X "lost" kt2 (.ref Lo), en X "tables" kt3 (.ref Ta), en X "won" kt4 (.ref Wo)] 4), (Bs, lst (rfs bs) eBs), (Lo, lst (ivs ls) eLo), (Wo, lst (ivs ws) eWo), (it, rit x lf)] ++ F) (k0a_o X n k it L cn x lf eBs eLo eWo kt1 Bs kt2 Lo kt3 Ta kt4 Wo bs ls ws W eW vs F y1) [2, 4, 1, 0, 3, 5, 6] 7 true (dLoop n L cn) (n + 1) (k + 4) ([(L, frm [en X "beside" kt1 (.ref Bs), en X "lost" kt2 (.ref Lo), en X "tables" kt3 (.ref Ta), en X "won" kt4 (.ref Wo), en X "k" (k + 1) (iv x k), en X "reach" (k + 3) (iv 0 (k + 2))] 6), (Lo, lst (ivs ls) eLo), (W, lst (ivs vs) eW), (n, lit W 0), (Bs, lst (rfs bs) eBs), (Wo, lst (ivs ws) eWo), (it, rit (x + 1) y1)] ++ F) [CutB X (bi "list.__getitem__" [(.ref Bs), (iv x k)]) (.ref W) [(Bs, lst (rfs bs) eBs)] (k + 4) (k + 4), CutG X 140 false (bi "range_iterator.__next__" [(.ref it)]) (.ok (.ret (iv x k))) [(it, rit x lf)] n k (k + 1) [(it, rit (x + 1) y1)] []] := by delta k0a_o; exact .mC (by apply X.both <;> kernel_rfl!)
noncomputable def k1a_o (X : Cx) (n k it L cn x lf eBs eLo eWo kt1 Bs kt2 Lo kt3 Ta kt4 Wo kt5 v5 t5 kt6 v6 t6 kt7 v7 t7 : Nat) (bs : List Nat) (ls ws : NN) (W eW : Nat) (vs : NN) (F : LG) (y1 : Nat) : Out := goC X (kt X) 140 39 [.o 6, .g false (.ok (.ret (iv x k))) (k + 1) [5] [(5, rit (x + 1) y1)] [], .o 2, .o 2, .o 2, .o 2, .o 2, .o 2, .o 3, .o 3, .o 3, .v (.ref W) (k + 4) [2], .o 1, .o 1, .e, .o 1, .o 1] (kLoop it L cn) n k ([(W, lst (ivs vs) eW), (L, frm [en X "beside" kt1 (.ref Bs), en X "lost" kt2 (.ref Lo), en X "tables" kt3 (.ref Ta), en X "won" kt4 (.ref Wo), en X "k" kt5 (iv v5 t5), en X "reach" kt6 (iv v6 t6), en X "d" kt7 (iv v7 t7)] 7), (Bs, lst (rfs bs) eBs), (Lo, lst (ivs ls) eLo), (Wo, lst (ivs ws) eWo), (it, rit x lf)] ++ F)
theorem k1a_e (X : Cx) (n k it L cn x lf eBs eLo eWo kt1 Bs kt2 Lo kt3 Ta kt4 Wo kt5 v5 t5 kt6 v6 t6 kt7 v7 t7 : Nat) (bs : List Nat) (ls ws : NN) (W eW : Nat) (vs : NN) (F : LG) (y1 : Nat) : RAC X 140 (kLoop it L cn) n k ([(W, lst (ivs vs) eW), (L, frm [en X "beside" kt1 (.ref Bs), en X "lost" kt2 (.ref Lo), en X "tables" kt3 (.ref Ta), en X "won" kt4 (.ref Wo), en X "k" kt5 (iv v5 t5), en X "reach" kt6 (iv v6 t6), en X "d" kt7 (iv v7 t7)] 7), (Bs, lst (rfs bs) eBs), (Lo, lst (ivs ls) eLo), (Wo, lst (ivs ws) eWo), (it, rit x lf)] ++ F) (k1a_o X n k it L cn x lf eBs eLo eWo kt1 Bs kt2 Lo kt3 Ta kt4 Wo kt5 v5 t5 kt6 v6 t6 kt7 v7 t7 bs ls ws W eW vs F y1) [2, 4, 1, 0, 3, 5, 6] 7 true (dLoop n L cn) (n + 1) (k + 4) ([(L, frm [en X "beside" kt1 (.ref Bs), en X "lost" kt2 (.ref Lo), en X "tables" kt3 (.ref Ta), en X "won" kt4 (.ref Wo), en X "k" kt5 (iv x k), en X "reach" kt6 (iv 0 (k + 2)), en X "d" kt7 (iv v7 t7)] 7), (Lo, lst (ivs ls) eLo), (W, lst (ivs vs) eW), (n, lit W 0), (Bs, lst (rfs bs) eBs), (Wo, lst (ivs ws) eWo), (it, rit (x + 1) y1)] ++ F) [CutB X (bi "list.__getitem__" [(.ref Bs), (iv x k)]) (.ref W) [(Bs, lst (rfs bs) eBs)] (k + 4) (k + 4), CutG X 140 false (bi "range_iterator.__next__" [(.ref it)]) (.ok (.ret (iv x k))) [(it, rit x lf)] n k (k + 1) [(it, rit (x + 1) y1)] []] := by delta k1a_o; exact .mC (by apply X.both <;> kernel_rfl!)
theorem d0_e (X : Cx) (n k it L cn i W eW eLo kt1 Bs kt2 Lo kt3 Ta kt4 Wo kt5 v5 t5 kt6 v6 t6 : Nat) (ls vs : NN) (F : LG) (y1 y2 y3 y4 y5 : Nat) : REC X 70 (dLoop it L cn) n k ([(L, frm [en X "beside" kt1 (.ref Bs), en X "lost" kt2 (.ref Lo), en X "tables" kt3 (.ref Ta), en X "won" kt4 (.ref Wo), en X "k" kt5 (iv v5 t5), en X "reach" kt6 (iv v6 t6)] 6), (Lo, lst (ivs ls) eLo), (W, lst (ivs vs) eW), (it, lit W i)] ++ F) [0, 1, 2, 3] 4 (.again (dLoop it L cn)) n (k + 3) ([(L, frm [en X "beside" kt1 (.ref Bs), en X "lost" kt2 (.ref Lo), en X "tables" kt3 (.ref Ta), en X "won" kt4 (.ref Wo), en X "k" kt5 (iv v5 t5), en X "reach" kt6 (iv y5 (k + 1)), en X "d" k (iv y1 y2)] 7), (Lo, lst (ivs ls) eLo), (W, lst (ivs vs) eW), (it, lit W (i + 1))] ++ F) [CutB X (bi "int.__or__" [(iv v6 t6), (iv y3 y4)]) (iv y5 (k + 1)) [] (k + 1) (k + 2), CutB X (bi "list.__getitem__" [(.ref Lo), (iv y1 y2)]) (iv y3 y4) [(Lo, lst (ivs ls) eLo)] (k + 1) (k + 1), CutG X 70 false (bi "list_iterator.__next__" [(.ref it)]) (.ok (.ret (iv y1 y2))) [(it, lit W i), (W, lst (ivs vs) eW)] n k k [(it, lit W (i + 1))] []] := .mk 30 [.o 4, .g false (.ok (.ret (iv y1 y2))) k [3, 2] [(3, lit W (i + 1))] [], .o 1, .o 1, .o 1, .o 1, .o 1, .o 2, .o 2, .o 2, .v (iv y3 y4) (k + 1) [1], .v (iv y5 (k + 1)) (k + 2) [], .o 1, .o 1] (by kernel_rfl!)
theorem d1_e (X : Cx) (n k it L cn i W eW eLo kt1 Bs kt2 Lo kt3 Ta kt4 Wo kt5 v5 t5 kt6 v6 t6 kt7 v7 t7 : Nat) (ls vs : NN) (F : LG) (y1 y2 y3 y4 y5 : Nat) : REC X 70 (dLoop it L cn) n k ([(L, frm [en X "beside" kt1 (.ref Bs), en X "lost" kt2 (.ref Lo), en X "tables" kt3 (.ref Ta), en X "won" kt4 (.ref Wo), en X "k" kt5 (iv v5 t5), en X "reach" kt6 (iv v6 t6), en X "d" kt7 (iv v7 t7)] 7), (Lo, lst (ivs ls) eLo), (W, lst (ivs vs) eW), (it, lit W i)] ++ F) [0, 1, 2, 3] 4 (.again (dLoop it L cn)) n (k + 3) ([(L, frm [en X "beside" kt1 (.ref Bs), en X "lost" kt2 (.ref Lo), en X "tables" kt3 (.ref Ta), en X "won" kt4 (.ref Wo), en X "k" kt5 (iv v5 t5), en X "reach" kt6 (iv y5 (k + 1)), en X "d" kt7 (iv y1 y2)] 7), (Lo, lst (ivs ls) eLo), (W, lst (ivs vs) eW), (it, lit W (i + 1))] ++ F) [CutB X (bi "int.__or__" [(iv v6 t6), (iv y3 y4)]) (iv y5 (k + 1)) [] (k + 1) (k + 2), CutB X (bi "list.__getitem__" [(.ref Lo), (iv y1 y2)]) (iv y3 y4) [(Lo, lst (ivs ls) eLo)] (k + 1) (k + 1), CutG X 70 false (bi "list_iterator.__next__" [(.ref it)]) (.ok (.ret (iv y1 y2))) [(it, lit W i), (W, lst (ivs vs) eW)] n k k [(it, lit W (i + 1))] []] := .mk 30 [.o 4, .g false (.ok (.ret (iv y1 y2))) k [3, 2] [(3, lit W (i + 1))] [], .o 1, .o 1, .o 1, .o 1, .o 1, .o 2, .o 2, .o 2, .v (iv y3 y4) (k + 1) [1], .v (iv y5 (k + 1)) (k + 2) [], .o 1, .o 1] (by kernel_rfl!)
theorem de_e (X : Cx) (n k it L cn i W eW eLo kt1 Bs kt2 Lo kt3 Ta kt4 Wo kt5 v5 t5 kt6 v6 t6 kt7 v7 t7 : Nat) (ls vs : NN) (F : LG) : REC X 70 (dLoop it L cn) n k ([(L, frm [en X "beside" kt1 (.ref Bs), en X "lost" kt2 (.ref Lo), en X "tables" kt3 (.ref Ta), en X "won" kt4 (.ref Wo), en X "k" kt5 (iv v5 t5), en X "reach" kt6 (iv v6 t6), en X "d" kt7 (iv v7 t7)] 7), (Lo, lst (ivs ls) eLo), (W, lst (ivs vs) eW), (it, lit W i)] ++ F) [2, 3, 4] 6 (.done (.next)) (n + 2) k ([(L, frm [en X "beside" kt1 (.ref Bs), en X "lost" kt2 (.ref Lo), en X "tables" kt3 (.ref Ta), en X "won" kt4 (.ref Wo), en X "k" kt5 (iv v5 t5), en X "reach" kt6 (iv v6 t6), en X "d" kt7 (iv v7 t7)] 7), (Lo, lst (ivs ls) eLo), (W, lst (ivs vs) eW)] ++ F) [CutG X 70 false (bi "list_iterator.__next__" [(.ref it)]) (.error (.ref (n + 1))) [(it, lit W i), (W, lst (ivs vs) eW)] n k k [(it, fld "list_iterator" [.none, (iv i 0)])] [tup [], fld "StopIteration" [(.ref n), .none, .none, .none, (.bool false), .none]]] := .mk 5 [.o 4, .g false (.error (.ref (n + 1))) k [3, 2] [(3, fld "list_iterator" [.none, (iv i 0)])] [tup [], fld "StopIteration" [(.ref n), .none, .none, .none, (.bool false), .none]], .o 1] (by kernel_rfl!)
theorem k0b_e (X : Cx) (n k it L cn x lf eBs eLo eWo kt1 Bs kt2 Lo kt3 Ta kt4 Wo : Nat) (bs : List Nat) (ls ws : NN) (W eW : Nat) (vs : NN) (y1 n1 k1 kt5 v5 t5 kt6 v6 t6 kt7 v7 t7 : Nat) (G1 : LG) (F : LG) (z1 : NN) : REN X 140 (k0a_o X n k it L cn x lf eBs eLo eWo kt1 Bs kt2 Lo kt3 Ta kt4 Wo bs ls ws W eW vs G1 y1) (.ok .next) n1 k1 ([(L, frm [en X "beside" kt1 (.ref Bs), en X "lost" kt2 (.ref Lo), en X "tables" kt3 (.ref Ta), en X "won" kt4 (.ref Wo), en X "k" kt5 (iv v5 t5), en X "reach" kt6 (iv v6 t6), en X "d" kt7 (iv v7 t7)] 7), (Lo, lst (ivs ls) eLo), (W, lst (ivs vs) eW), (Bs, lst (rfs bs) eBs), (Wo, lst (ivs ws) eWo), (it, rit (x+1) y1)] ++ F) [2, 0, 3, 1, 4, 5] 6 (.again (kLoop it L cn)) n1 k1 ([(W, lst (ivs vs) eW), (L, frm [en X "beside" kt1 (.ref Bs), en X "lost" kt2 (.ref Lo), en X "tables" kt3 (.ref Ta), en X "won" kt4 (.ref Wo), en X "k" kt5 (iv v5 t5), en X "reach" kt6 (iv v6 t6), en X "d" kt7 (iv v7 t7)] 7), (Bs, lst (rfs bs) eBs), (Lo, lst (ivs ls) eLo), (Wo, lst (ivs z1) (eWo + 1)), (it, rit (x + 1) y1)] ++ F) [CutG X 140 false (bi "list.append" [(.ref Wo), (iv v6 t6)]) (.ok (.ret .none)) [(Wo, lst (ivs ws) eWo)] n1 k1 k1 [(Wo, lst (ivs z1) (eWo + 1))] []] := .mk 14 [.o 1, .o 5, .o 5, .o 5, .o 5, .o 1, .g false (.ok (.ret .none)) k1 [4] [(4, lst (ivs z1) (eWo + 1))] []] (by apply X.both <;> kernel_rfl!)
theorem k1b_e (X : Cx) (n k it L cn x lf eBs eLo eWo kt1 Bs kt2 Lo kt3 Ta kt4 Wo kt5 v5 t5 kt6 v6 t6 kt7 v7 t7 : Nat) (bs : List Nat) (ls ws : NN) (W eW : Nat) (vs : NN) (ya n1 k1 v5' t5' v6' t6' kt7' v7' t7' : Nat) (G1 : LG) (F : LG) (z1 : NN) : REN X 140 (k1a_o X n k it L cn x lf eBs eLo eWo kt1 Bs kt2 Lo kt3 Ta kt4 Wo kt5 v5 t5 kt6 v6 t6 kt7 v7 t7 bs ls ws W eW vs G1 ya) (.ok .next) n1 k1 ([(L, frm [en X "beside" kt1 (.ref Bs), en X "lost" kt2 (.ref Lo), en X "tables" kt3 (.ref Ta), en X "won" kt4 (.ref Wo), en X "k" kt5 (iv v5' t5'), en X "reach" kt6 (iv v6' t6'), en X "d" kt7' (iv v7' t7')] 7), (Lo, lst (ivs ls) eLo), (W, lst (ivs vs) eW), (Bs, lst (rfs bs) eBs), (Wo, lst (ivs ws) eWo), (it, rit (x+1) ya)] ++ F) [2, 0, 3, 1, 4, 5] 6 (.again (kLoop it L cn)) n1 k1 ([(W, lst (ivs vs) eW), (L, frm [en X "beside" kt1 (.ref Bs), en X "lost" kt2 (.ref Lo), en X "tables" kt3 (.ref Ta), en X "won" kt4 (.ref Wo), en X "k" kt5 (iv v5' t5'), en X "reach" kt6 (iv v6' t6'), en X "d" kt7' (iv v7' t7')] 7), (Bs, lst (rfs bs) eBs), (Lo, lst (ivs ls) eLo), (Wo, lst (ivs z1) (eWo + 1)), (it, rit (x + 1) ya)] ++ F) [CutG X 140 false (bi "list.append" [(.ref Wo), (iv v6' t6')]) (.ok (.ret .none)) [(Wo, lst (ivs ws) eWo)] n1 k1 k1 [(Wo, lst (ivs z1) (eWo + 1))] []] := .mk 14 [.o 1, .o 5, .o 5, .o 5, .o 5, .o 1, .g false (.ok (.ret .none)) k1 [4] [(4, lst (ivs z1) (eWo + 1))] []] (by apply X.both <;> kernel_rfl!)
theorem ke_e (X : Cx) (n k it L cn x lf eBs eLo eWo kt1 Bs kt2 Lo kt3 Ta kt4 Wo kt5 v5 t5 kt6 v6 t6 kt7 v7 t7 : Nat) (bs : List Nat) (ls ws : NN) (F : LG) : REC X 140 (kLoop it L cn) n k ([(L, frm [en X "beside" kt1 (.ref Bs), en X "lost" kt2 (.ref Lo), en X "tables" kt3 (.ref Ta), en X "won" kt4 (.ref Wo), en X "k" kt5 (iv v5 t5), en X "reach" kt6 (iv v6 t6), en X "d" kt7 (iv v7 t7)] 7), (Bs, lst (rfs bs) eBs), (Lo, lst (ivs ls) eLo), (Wo, lst (ivs ws) eWo), (it, rit x lf)] ++ F) [2, 3, 4, 5] 7 (.done (.next)) (n + 2) k ([(L, frm [en X "beside" kt1 (.ref Bs), en X "lost" kt2 (.ref Lo), en X "tables" kt3 (.ref Ta), en X "won" kt4 (.ref Wo), en X "k" kt5 (iv v5 t5), en X "reach" kt6 (iv v6 t6), en X "d" kt7 (iv v7 t7)] 7), (Bs, lst (rfs bs) eBs), (Lo, lst (ivs ls) eLo), (Wo, lst (ivs ws) eWo)] ++ F) [CutG X 140 false (bi "range_iterator.__next__" [(.ref it)]) (.error (.ref (n + 1))) [(it, rit x lf)] n k k [] [tup [], fld "StopIteration" [(.ref n), .none, .none, .none, (.bool false), .none]]] := .mk 5 [.o 5, .g false (.error (.ref (n + 1))) k [4] [] [tup [], fld "StopIteration" [(.ref n), .none, .none, .none, (.bool false), .none]], .o 1] (by kernel_rfl!)
theorem w0b_e (X : Cx) (n k L cn N e1 eBs eLo eT kt1 Bs kt2 Lo kt3 Ta : Nat) (xs ls : NN) (bs ts : List Nat) (n1 k1 kt4 kt5 v5 t5 kt6 v6 t6 kt7 v7 t7 Wo eWo : Nat) (ws : NN) (G1 : LG) (F : LG) : REN X 210 (w0a_o X n k L cn N e1 eBs eLo eT kt1 Bs kt2 Lo kt3 Ta xs ls bs ts G1) (.ok .next) n1 k1 ([(L, frm [en X "beside" kt1 (.ref Bs), en X "lost" kt2 (.ref Lo), en X "tables" kt3 (.ref Ta), en X "won" kt4 (.ref Wo), en X "k" kt5 (iv v5 t5), en X "reach" kt6 (iv v6 t6), en X "d" kt7 (iv v7 t7)] 7), (Bs, lst (rfs bs) eBs), (Lo, lst (ivs ls) eLo), (Wo, lst (ivs ws) eWo), (cn, cel (some (.ref N))), (N, lst (ivs xs) e1), (Ta, lst (rfs ts) eT)] ++ F) [0, 6, 3, 4, 5, 1, 2] 7 (.done (.next)) n1 k1 ([(L, frm [en X "beside" kt1 (.ref Bs), en X "lost" kt2 (.ref Lo), en X "tables" kt3 (.ref Ta), en X "won" kt4 (.ref Wo), en X "k" kt5 (iv v5 t5), en X "reach" kt6 (iv v6 t6), en X "d" kt7 (iv v7 t7)] 7), (Ta, lst (rfs ts) eT), (Wo, lst (ivs ws) eWo), (cn, cel (some (.ref N))), (N, lst (ivs xs) e1), (Bs, lst (rfs bs) eBs), (Lo, lst (ivs ls) eLo)] ++ F) [] := .mk 0 [] (by apply X.both <;> kernel_rfl!)
theorem w1b_e (X : Cx) (n k L cn N e1 eBs eLo eT kt1 Bs kt2 Lo kt3 Ta kt4 Wo kt5 v5 t5 kt6 v6 t6 kt7 v7 t7 : Nat) (xs ls : NN) (bs ts : List Nat) (n1 k1 v5' t5' kt5' kt6' v6' t6' kt7' v7' t7' Wo' eWo : Nat) (ws : NN) (G1 : LG) (F : LG) : REN X 210 (w1a_o X n k L cn N e1 eBs eLo eT kt1 Bs kt2 Lo kt3 Ta kt4 Wo kt5 v5 t5 kt6 v6 t6 kt7 v7 t7 xs ls bs ts G1) (.ok .next) n1 k1 ([(L, frm [en X "beside" kt1 (.ref Bs), en X "lost" kt2 (.ref Lo), en X "tables" kt3 (.ref Ta), en X "won" kt4 (.ref Wo'), en X "k" kt5' (iv v5' t5'), en X "reach" kt6' (iv v6' t6'), en X "d" kt7' (iv v7' t7')] 7), (Bs, lst (rfs bs) eBs), (Lo, lst (ivs ls) eLo), (Wo', lst (ivs ws) eWo), (cn, cel (some (.ref N))), (N, lst (ivs xs) e1), (Ta, lst (rfs ts) eT)] ++ F) [0, 6, 3, 4, 5, 1, 2] 7 (.done (.next)) n1 k1 ([(L, frm [en X "beside" kt1 (.ref Bs), en X "lost" kt2 (.ref Lo), en X "tables" kt3 (.ref Ta), en X "won" kt4 (.ref Wo'), en X "k" kt5' (iv v5' t5'), en X "reach" kt6' (iv v6' t6'), en X "d" kt7' (iv v7' t7')] 7), (Ta, lst (rfs ts) eT), (Wo', lst (ivs ws) eWo), (cn, cel (some (.ref N))), (N, lst (ivs xs) e1), (Bs, lst (rfs bs) eBs), (Lo, lst (ivs ls) eLo)] ++ F) [] := .mk 0 [] (by apply X.both <;> kernel_rfl!)
theorem w2l_e (X : Cx) (n k L cn N e1 eBs eLo eT eWo kt1 Bs kt2 Lo kt3 Ta kt4 Wo kt5 v5 t5 kt6 v6 t6 kt7 v7 t7 : Nat) (ts bs : List Nat) (ws xs ls : NN) (F : LG) : RE X 210 [] (clockLoop L cn) (PySem.W.R.bindR (evalT (cmpL (ifT (nx clockW 2))) (clockEnv L cn)) (fun v => .pure (.done (.ret v)))) n k ([(L, frm [en X "beside" kt1 (.ref Bs), en X "lost" kt2 (.ref Lo), en X "tables" kt3 (.ref Ta), en X "won" kt4 (.ref Wo), en X "k" kt5 (iv v5 t5), en X "reach" kt6 (iv v6 t6), en X "d" kt7 (iv v7 t7)] 7), (Ta, lst (rfs ts) eT), (Wo, lst (ivs ws) eWo), (cn, cel (some (.ref N))), (N, lst (ivs xs) e1), (Bs, lst (rfs bs) eBs), (Lo, lst (ivs ls) eLo)] ++ F) [0, 1, 2, 3, 4, 5, 6] 7 (.done (.ret (.ref Wo))) n k ([(L, frm [en X "beside" kt1 (.ref Bs), en X "lost" kt2 (.ref Lo), en X "tables" kt3 (.ref Ta), en X "won" kt4 (.ref Wo), en X "k" kt5 (iv v5 t5), en X "reach" kt6 (iv v6 t6), en X "d" kt7 (iv v7 t7)] 7), (Ta, lst (rfs ts) eT), (Wo, lst (ivs ws) eWo), (cn, cel (some (.ref N))), (N, lst (ivs xs) e1), (Bs, lst (rfs bs) eBs), (Lo, lst (ivs ls) eLo)] ++ F) [] := .mk 2 [.o 1] (by kernel_rfl!)
theorem w2r_e (X : Cx) (n k L cn N e1 eBs eLo eT eWo kt1 Bs kt2 Lo kt3 Ta kt4 Wo kt5 v5 t5 kt6 v6 t6 kt7 v7 t7 : Nat) (ts bs : List Nat) (ws xs ls : NN) (Tl : Nat) (F : LG) : RE X 210 [] (clockLoop L cn) (PySem.W.R.bindR (evalT (cmpR (ifT (nx clockW 2))) (clockEnv L cn)) (fun v => .pure (.done (.ret v)))) n k ([(L, frm [en X "beside" kt1 (.ref Bs), en X "lost" kt2 (.ref Lo), en X "tables" kt3 (.ref Ta), en X "won" kt4 (.ref Wo), en X "k" kt5 (iv v5 t5), en X "reach" kt6 (iv v6 t6), en X "d" kt7 (iv v7 t7)] 7), (Ta, lst (rfs ts) eT), (Wo, lst (ivs ws) eWo), (cn, cel (some (.ref N))), (N, lst (ivs xs) e1), (Bs, lst (rfs bs) eBs), (Lo, lst (ivs ls) eLo)] ++ F) [0, 1, 2, 3, 4, 5, 6] 7 (.done (.ret (.ref Tl))) n (k + 2) ([(L, frm [en X "beside" kt1 (.ref Bs), en X "lost" kt2 (.ref Lo), en X "tables" kt3 (.ref Ta), en X "won" kt4 (.ref Wo), en X "k" kt5 (iv v5 t5), en X "reach" kt6 (iv v6 t6), en X "d" kt7 (iv v7 t7)] 7), (Ta, lst (rfs ts) eT), (Wo, lst (ivs ws) eWo), (cn, cel (some (.ref N))), (N, lst (ivs xs) e1), (Bs, lst (rfs bs) eBs), (Lo, lst (ivs ls) eLo)] ++ F) [CutB X (bi "list.__getitem__" [(.ref Ta), (.int (.negSucc 0) (k + 1))]) (.ref Tl) [(Ta, lst (rfs ts) eT)] (k + 2) (k + 2)] := .mk 13 [.o 1, .e, .o 2, .o 2, .o 2, .v (.ref Tl) (k + 2) [1]] (by kernel_rfl!)
theorem w2t_e (X : Cx) (n k L cn N e1 eBs eLo eT eWo kt1 Bs kt2 Lo kt3 Ta kt4 Wo kt5 v5 t5 kt6 v6 t6 kt7 v7 t7 : Nat) (ts bs : List Nat) (ws xs ls : NN) (F : LG) : RE X 210 [] (clockLoop L cn) (PySem.W.R.bindR (execsT (ifB (nx clockW 2)) (clockEnv L cn)) (fun f => .pure (.done f))) n k ([(L, frm [en X "beside" kt1 (.ref Bs), en X "lost" kt2 (.ref Lo), en X "tables" kt3 (.ref Ta), en X "won" kt4 (.ref Wo), en X "k" kt5 (iv v5 t5), en X "reach" kt6 (iv v6 t6), en X "d" kt7 (iv v7 t7)] 7), (Ta, lst (rfs ts) eT), (Wo, lst (ivs ws) eWo), (cn, cel (some (.ref N))), (N, lst (ivs xs) e1), (Bs, lst (rfs bs) eBs), (Lo, lst (ivs ls) eLo)] ++ F) [1, 4, 6] 7 (.done (.ret (.ref Ta))) n k ([(Ta, lst (rfs ts) eT), (N, lst (ivs xs) e1), (Lo, lst (ivs ls) eLo)] ++ F) [] := .mk 3 [.o 1] (by kernel_rfl!)
theorem w3_e (X : Cx) (n k L cn N e1 eBs eLo eT eWo kt1 Bs kt2 Lo kt3 Ta kt4 Wo kt5 v5 t5 kt6 v6 t6 kt7 v7 t7 : Nat) (ts bs : List Nat) (ws xs ls : NN) (F : LG) (r1 : List Nat) : RE X 210 [] (clockLoop L cn) (PySem.W.R.bindR (execsT (clockW.drop 3) (clockEnv L cn)) (fun f => .pure (.done f))) n k ([(L, frm [en X "beside" kt1 (.ref Bs), en X "lost" kt2 (.ref Lo), en X "tables" kt3 (.ref Ta), en X "won" kt4 (.ref Wo), en X "k" kt5 (iv v5 t5), en X "reach" kt6 (iv v6 t6), en X "d" kt7 (iv v7 t7)] 7), (Ta, lst (rfs ts) eT), (Wo, lst (ivs ws) eWo), (cn, cel (some (.ref N))), (N, lst (ivs xs) e1), (Bs, lst (rfs bs) eBs), (Lo, lst (ivs ls) eLo)] ++ F) [1, 4, 6, 2] 7 (.done (.ret (.ref Ta))) n (k + 1) ([(Ta, lst (rfs r1) (eT + 1)), (N, lst (ivs xs) e1), (Lo, lst (ivs ls) eLo), (Wo, lst (ivs ws) eWo)] ++ F) [CutB X (bi "list.__contains__" [(.ref Wo), (iv 127 k)]) (.bool true) [(Wo, lst (ivs ws) eWo)] (k + 1) (k + 1), CutG X 210 false (bi "list.append" [(.ref Ta), (.ref Wo)]) (.ok (.ret .none)) [(Ta, lst (rfs ts) eT)] n k k [(Ta, lst (rfs r1) (eT + 1))] []] := .mk 25 [.o 1, .o 2, .o 2, .o 2, .o 2, .o 1, .g false (.ok (.ret .none)) k [1] [(1, lst (rfs r1) (eT + 1))] [], .o 1, .o 3, .o 3, .v (.bool true) (k + 1) [2], .o 1] (by kernel_rfl!)
noncomputable def w4_o (X : Cx) (n k L cn N e1 eBs eLo eT eWo kt1 Bs kt2 Lo kt3 Ta kt4 Wo kt5 v5 t5 kt6 v6 t6 kt7 v7 t7 : Nat) (ts bs : List Nat) (ws xs ls : NN) (F : LG) (r1 : List Nat) : Out := go X (kt X) 210 39 [.o 1, .o 2, .o 2, .o 2, .o 2, .o 1, .g false (.ok (.ret .none)) k [1] [(1, lst (rfs r1) (eT + 1))] [], .o 1, .o 3, .o 3, .v (.bool false) (k + 1) [2], .o 1, .o 3, .o 3, .e, .o 3, .o 1] [] (clockLoop L cn) (PySem.W.R.bindR (execsT (clockW.drop 3) (clockEnv L cn)) (fun f => .pure (.done f))) n k ([(L, frm [en X "beside" kt1 (.ref Bs), en X "lost" kt2 (.ref Lo), en X "tables" kt3 (.ref Ta), en X "won" kt4 (.ref Wo), en X "k" kt5 (iv v5 t5), en X "reach" kt6 (iv v6 t6), en X "d" kt7 (iv v7 t7)] 7), (Ta, lst (rfs ts) eT), (Wo, lst (ivs ws) eWo), (cn, cel (some (.ref N))), (N, lst (ivs xs) e1), (Bs, lst (rfs bs) eBs), (Lo, lst (ivs ls) eLo)] ++ F)
theorem w4_e (X : Cx) (n k L cn N e1 eBs eLo eT eWo kt1 Bs kt2 Lo kt3 Ta kt4 Wo kt5 v5 t5 kt6 v6 t6 kt7 v7 t7 : Nat) (ts bs : List Nat) (ws xs ls : NN) (F : LG) (r1 : List Nat) : RA X 210 [] (clockLoop L cn) (PySem.W.R.bindR (execsT (clockW.drop 3) (clockEnv L cn)) (fun f => .pure (.done f))) n k ([(L, frm [en X "beside" kt1 (.ref Bs), en X "lost" kt2 (.ref Lo), en X "tables" kt3 (.ref Ta), en X "won" kt4 (.ref Wo), en X "k" kt5 (iv v5 t5), en X "reach" kt6 (iv v6 t6), en X "d" kt7 (iv v7 t7)] 7), (Ta, lst (rfs ts) eT), (Wo, lst (ivs ws) eWo), (cn, cel (some (.ref N))), (N, lst (ivs xs) e1), (Bs, lst (rfs bs) eBs), (Lo, lst (ivs ls) eLo)] ++ F) (w4_o X n k L cn N e1 eBs eLo eT eWo kt1 Bs kt2 Lo kt3 Ta kt4 Wo kt5 v5 t5 kt6 v6 t6 kt7 v7 t7 ts bs ws xs ls F r1) [0, 7, 8, 2, 1, 3, 6, 4, 5, 9, 10] 11 true (.compStart c9 0 (.ref n) (.ref (n+1)) (c9Env (n+2) L cn (n+3))) (n + 4) (k + 1) ([((n + 3), cel none), (cn, cel (some (.ref N))), (N, lst (ivs xs) e1), ((n + 1), lst [] 0), ((n + 2), dct [] 0), (n, lit Wo 0), (Wo, lst (ivs ws) eWo), (L, frm [en X "beside" kt1 (.ref Bs), en X "lost" kt2 (.ref Lo), en X "tables" kt3 (.ref Ta), en X "won" kt4 (.ref Wo), en X "k" kt5 (iv v5 t5), en X "reach" kt6 (iv v6 t6), en X "d" kt7 (iv v7 t7)] 7), (Ta, lst (rfs r1) (eT + 1)), (Bs, lst (rfs bs) eBs), (Lo, lst (ivs ls) eLo)] ++ F) [CutB X (bi "list.__contains__" [(.ref Wo), (iv 127 k)]) (.bool false) [(Wo, lst (ivs ws) eWo)] (k + 1) (k + 1), CutG X 210 false (bi "list.append" [(.ref Ta), (.ref Wo)]) (.ok (.ret .none)) [(Ta, lst (rfs ts) eT)] n k k [(Ta, lst (rfs r1) (eT + 1))] []] := by delta w4_o; exact .m (by apply X.both <;> kernel_rfl!)
theorem c10t0_e (X : Cx) (n k L cn rg it acc ns ns2 ea rv rt x lf N e1 : Nat) (as xs : NN) (F : LG) (y1 y2 y3 y4 y5 : Nat) (z1 : NN) : REC X 0 (c10C it acc ns ns2 L cn rg) n k ([(rg, cel (some (iv rv rt))), (cn, cel (some (.ref N))), (N, lst (ivs xs) e1), (acc, lst (ivs as) ea), (ns2, dct [] 0), (it, rit x lf)] ++ F) [0, 1, 2, 3, 4, 5] 6 (.again (c10C it acc ns ns2 L cn rg)) n (k + 5) ([(rg, cel (some (iv rv rt))), (cn, cel (some (.ref N))), (N, lst (ivs xs) e1), (acc, lst (ivs z1) (ea + 1)), (ns2, dct [en X "r" (k + 1) (iv x k)] 1), (it, rit (x + 1) y1)] ++ F) [CutG X 0 false (bi "list.append" [(.ref acc), (iv y5 (k + 4))]) (.ok (.ret .none)) [(acc, lst (ivs as) ea)] n (k + 5) (k + 5) [(acc, lst (ivs z1) (ea + 1))] [], CutB X (bi "int.__lshift__" [(iv 1 (k + 3)), (iv x k)]) (iv y5 (k + 4)) [] (k + 4) (k + 5), CutB X (bi "int.__eq__" [(iv y4 (k + 2)), (iv rv rt)]) (.bool true) [] (k + 3) (k + 3), CutB X (bi "int.__or__" [(iv y2 y3), (iv rv rt)]) (iv y4 (k + 2)) [] (k + 2) (k + 3), CutB X (bi "list.__getitem__" [(.ref N), (iv x k)]) (iv y2 y3) [(N, lst (ivs xs) e1)] (k + 2) (k + 2), CutG X 0 false (bi "range_iterator.__next__" [(.ref it)]) (.ok (.ret (iv x k))) [(it, rit x lf)] n k (k + 1) [(it, rit (x + 1) y1)] []] := .mk 34 [.o 6, .g false (.ok (.ret (iv x k))) (k + 1) [5] [(5, rit (x + 1) y1)] [], .o 5, .o 5, .o 2, .o 5, .o 3, .o 3, .o 3, .v (iv y2 y3) (k + 2) [2], .o 1, .v (iv y4 (k + 2)) (k + 3) [], .o 1, .v (.bool true) (k + 3) [], .o 5, .v (iv y5 (k + 4)) (k + 5) [], .g false (.ok (.ret .none)) (k + 5) [3] [(3, lst (ivs z1) (ea + 1))] []] (by apply X.both <;> kernel_rfl!)
theorem c10t1_e (X : Cx) (n k L cn rg it acc ns ns2 ea rv rt x lf N e1 : Nat) (as xs : NN) (kn a1 a2 : Nat) (F : LG) (y1 y2 y3 y4 y5 : Nat) (z1 : NN) : REC X 0 (c10C it acc ns ns2 L cn rg) n k ([(rg, cel (some (iv rv rt))), (cn, cel (some (.ref N))), (N, lst (ivs xs) e1), (acc, lst (ivs as) ea), (ns2, dct [en X "r" kn (iv a1 a2)] 1), (it, rit x lf)] ++ F) [0, 1, 2, 3, 4, 5] 6 (.again (c10C it acc ns ns2 L cn rg)) n (k + 5) ([(rg, cel (some (iv rv rt))), (cn, cel (some (.ref N))), (N, lst (ivs xs) e1), (acc, lst (ivs z1) (ea + 1)), (ns2, dct [en X "r" kn (iv x k)] 1), (it, rit (x + 1) y1)] ++ F) [CutG X 0 false (bi "list.append" [(.ref acc), (iv y5 (k + 4))]) (.ok (.ret .none)) [(acc, lst (ivs as) ea)] n (k + 5) (k + 5) [(acc, lst (ivs z1) (ea + 1))] [], CutB X (bi "int.__lshift__" [(iv 1 (k + 3)), (iv x k)]) (iv y5 (k + 4)) [] (k + 4) (k + 5), CutB X (bi "int.__eq__" [(iv y4 (k + 2)), (iv rv rt)]) (.bool true) [] (k + 3) (k + 3), CutB X (bi "int.__or__" [(iv y2 y3), (iv rv rt)]) (iv y4 (k + 2)) [] (k + 2) (k + 3), CutB X (bi "list.__getitem__" [(.ref N), (iv x k)]) (iv y2 y3) [(N, lst (ivs xs) e1)] (k + 2) (k + 2), CutG X 0 false (bi "range_iterator.__next__" [(.ref it)]) (.ok (.ret (iv x k))) [(it, rit x lf)] n k (k + 1) [(it, rit (x + 1) y1)] []] := .mk 34 [.o 6, .g false (.ok (.ret (iv x k))) (k + 1) [5] [(5, rit (x + 1) y1)] [], .o 5, .o 5, .o 2, .o 5, .o 3, .o 3, .o 3, .v (iv y2 y3) (k + 2) [2], .o 1, .v (iv y4 (k + 2)) (k + 3) [], .o 1, .v (.bool true) (k + 3) [], .o 5, .v (iv y5 (k + 4)) (k + 5) [], .g false (.ok (.ret .none)) (k + 5) [3] [(3, lst (ivs z1) (ea + 1))] []] (by apply X.both <;> kernel_rfl!)
theorem c10s0_e (X : Cx) (n k L cn rg it acc ns ns2 ea rv rt x lf N e1 : Nat) (as xs : NN) (F : LG) (y1 y2 y3 y4 : Nat) : REC X 0 (c10C it acc ns ns2 L cn rg) n k ([(rg, cel (some (iv rv rt))), (cn, cel (some (.ref N))), (N, lst (ivs xs) e1), (acc, lst (ivs as) ea), (ns2, dct [] 0), (it, rit x lf)] ++ F) [0, 1, 2, 3, 4, 5] 6 (.again (c10C it acc ns ns2 L cn rg)) n (k + 3) ([(rg, cel (some (iv rv rt))), (cn, cel (some (.ref N))), (N, lst (ivs xs) e1), (acc, lst (ivs as) ea), (ns2, dct [en X "r" (k + 1) (iv x k)] 1), (it, rit (x + 1) y1)] ++ F) [CutB X (bi "int.__eq__" [(iv y4 (k + 2)), (iv rv rt)]) (.bool false) [] (k + 3) (k + 3), CutB X (bi "int.__or__" [(iv y2 y3), (iv rv rt)]) (iv y4 (k + 2)) [] (k + 2) (k + 3), CutB X (bi "list.__getitem__" [(.ref N), (iv x k)]) (iv y2 y3) [(N, lst (ivs xs) e1)] (k + 2) (k + 2), CutG X 0 false (bi "range_iterator.__next__" [(.ref it)]) (.ok (.ret (iv x k))) [(it, rit x lf)] n k (k + 1) [(it, rit (x + 1) y1)] []] := .mk 28 [.o 6, .g false (.ok (.ret (iv x k))) (k + 1) [5] [(5, rit (x + 1) y1)] [], .o 5, .o 5, .o 2, .o 5, .o 3, .o 3, .o 3, .v (iv y2 y3) (k + 2) [2], .o 1, .v (iv y4 (k + 2)) (k + 3) [], .o 1, .v (.bool false) (k + 3) []] (by apply X.both <;> kernel_rfl!)
theorem c10s1_e (X : Cx) (n k L cn rg it acc ns ns2 ea rv rt x lf N e1 : Nat) (as xs : NN) (kn a1 a2 : Nat) (F : LG) (y1 y2 y3 y4 : Nat) : REC X 0 (c10C it acc ns ns2 L cn rg) n k ([(rg, cel (some (iv rv rt))), (cn, cel (some (.ref N))), (N, lst (ivs xs) e1), (acc, lst (ivs as) ea), (ns2, dct [en X "r" kn (iv a1 a2)] 1), (it, rit x lf)] ++ F) [0, 1, 2, 3, 4, 5] 6 (.again (c10C it acc ns ns2 L cn rg)) n (k + 3) ([(rg, cel (some (iv rv rt))), (cn, cel (some (.ref N))), (N, lst (ivs xs) e1), (acc, lst (ivs as) ea), (ns2, dct [en X "r" kn (iv x k)] 1), (it, rit (x + 1) y1)] ++ F) [CutB X (bi "int.__eq__" [(iv y4 (k + 2)), (iv rv rt)]) (.bool false) [] (k + 3) (k + 3), CutB X (bi "int.__or__" [(iv y2 y3), (iv rv rt)]) (iv y4 (k + 2)) [] (k + 2) (k + 3), CutB X (bi "list.__getitem__" [(.ref N), (iv x k)]) (iv y2 y3) [(N, lst (ivs xs) e1)] (k + 2) (k + 2), CutG X 0 false (bi "range_iterator.__next__" [(.ref it)]) (.ok (.ret (iv x k))) [(it, rit x lf)] n k (k + 1) [(it, rit (x + 1) y1)] []] := .mk 28 [.o 6, .g false (.ok (.ret (iv x k))) (k + 1) [5] [(5, rit (x + 1) y1)] [], .o 5, .o 5, .o 2, .o 5, .o 3, .o 3, .o 3, .v (iv y2 y3) (k + 2) [2], .o 1, .v (iv y4 (k + 2)) (k + 3) [], .o 1, .v (.bool false) (k + 3) []] (by apply X.both <;> kernel_rfl!)
theorem c10e_e (X : Cx) (n k L cn rg it acc ns ns2 ea rv rt x lf N e1 : Nat) (as xs : NN) (kn a1 a2 : Nat) (F : LG) : REC X 0 (c10C it acc ns ns2 L cn rg) n k ([(rg, cel (some (iv rv rt))), (cn, cel (some (.ref N))), (N, lst (ivs xs) e1), (acc, lst (ivs as) ea), (ns2, dct [en X "r" kn (iv a1 a2)] 1), (it, rit x lf)] ++ F) [2, 3, 4, 5, 6] 8 (.done (.next)) (n + 2) k ([(rg, cel (some (iv rv rt))), (cn, cel (some (.ref N))), (N, lst (ivs xs) e1), (acc, lst (ivs as) ea), (ns2, dct [en X "r" kn (iv a1 a2)] 1)] ++ F) [CutG X 0 false (bi "range_iterator.__next__" [(.ref it)]) (.error (.ref (n + 1))) [(it, rit x lf)] n k k [] [tup [], fld "StopIteration" [(.ref n), .none, .none, .none, (.bool false), .none]]] := .mk 4 [.o 6, .g false (.error (.ref (n + 1))) k [5] [] [tup [], fld "StopIteration" [(.ref n), .none, .none, .none, (.bool false), .none]], .o 1] (by kernel_rfl!)
noncomputable def c9a_o (X : Cx) (n k L cn rg it acc ns ea N e1 Wo eWo i : Nat) (as xs ws : NN) (org : Option Value) (F : LG) (y1 y2 : Nat) : Out := goC X (kt X) 70 49 [.o 6, .g false (.ok (.ret (iv y1 y2))) k [5, 6] [(5, lit Wo (i + 1))] [], .o 1, .o 1, .o 0, .o 0, .o 0, .o 0, .e, .e, .o 1, .o 1, .e, .o 1, .o 1, .o 1, .o 1, .e, .o 1, .o 1, .o 1, .o 1, .o 1] (c9C it acc ns L cn rg) n k ([(rg, cel org), (cn, cel (some (.ref N))), (N, lst (ivs xs) e1), (acc, lst (ivs as) ea), (ns, dct [] 0), (it, lit Wo i), (Wo, lst (ivs ws) eWo)] ++ F)
theorem c9a_e (X : Cx) (n k L cn rg it acc ns ea N e1 Wo eWo i : Nat) (as xs ws : NN) (org : Option Value) (F : LG) (y1 y2 : Nat) : RAC X 70 (c9C it acc ns L cn rg) n k ([(rg, cel org), (cn, cel (some (.ref N))), (N, lst (ivs xs) e1), (acc, lst (ivs as) ea), (ns, dct [] 0), (it, lit Wo i), (Wo, lst (ivs ws) eWo)] ++ F) (c9a_o X n k L cn rg it acc ns ea N e1 Wo eWo i as xs ws org F y1 y2) [4, 5, 6, 1, 0, 2, 7, 8, 9, 10] 11 true (.compStart c10 0 (.ref (n+1)) (.ref (n+2)) (c10Env ns (n+3) L cn rg)) (n + 4) (k + 3) ([(rg, cel (some (iv y1 y2))), (cn, cel (some (.ref N))), (N, lst (ivs xs) e1), ((n + 2), lst [] 0), ((n + 3), dct [] 0), ((n + 1), rit 0 7), (acc, lst (ivs as) ea), (ns, dct [] 0), (it, lit Wo (i + 1)), (Wo, lst (ivs ws) eWo)] ++ F) [CutG X 70 false (bi "list_iterator.__next__" [(.ref it)]) (.ok (.ret (iv y1 y2))) [(it, lit Wo i), (Wo, lst (ivs ws) eWo)] n k k [(it, lit Wo (i + 1))] []] := by delta c9a_o; exact .mC (by apply X.both <;> kernel_rfl!)
noncomputable def c9b_o (X : Cx) (n k L cn rg it acc ns ea N e1 Wo eWo i : Nat) (as xs ws : NN) (org : Option Value) (rv rt n1 k1 ea1 kn a1 a2 : Nat) (vs : NN) (G1 : LG) (F : LG) : Out := goN X (kt X) 70 6 [.o 5, .o 5, .o 5] (c9a_o X n k L cn rg it acc ns ea N e1 Wo eWo i as xs ws org G1 rv rt) (.ok .next) n1 k1 ([(rg, cel (some (iv rv rt))), (cn, cel (some (.ref N))), (N, lst (ivs xs) e1), (n+2, lst (ivs vs) ea1), (n+3, dct [en X "r" kn (iv a1 a2)] 1), (acc, lst (ivs as) ea), (ns, dct [] 0), (it, lit Wo (i+1)), (Wo, lst (ivs ws) eWo)] ++ F)
theorem c9b_e (X : Cx) (n k L cn rg it acc ns ea N e1 Wo eWo i : Nat) (as xs ws : NN) (org : Option Value) (rv rt n1 k1 ea1 kn a1 a2 : Nat) (vs : NN) (G1 : LG) (F : LG) : RAN X 70 (c9a_o X n k L cn rg it acc ns ea N e1 Wo eWo i as xs ws org G1 rv rt) (.ok .next) n1 k1 ([(rg, cel (some (iv rv rt))), (cn, cel (some (.ref N))), (N, lst (ivs xs) e1), (n+2, lst (ivs vs) ea1), (n+3, dct [en X "r" kn (iv a1 a2)] 1), (acc, lst (ivs as) ea), (ns, dct [] 0), (it, lit Wo (i+1)), (Wo, lst (ivs ws) eWo)] ++ F) (c9b_o X n k L cn rg it acc ns ea N e1 Wo eWo i as xs ws org rv rt n1 k1 ea1 kn a1 a2 vs G1 F) [3, 0, 1, 2, 5, 6, 7, 8] 9 true (bi "sum" [.ref (n+2)]) n1 k1 ([((n + 2), lst (ivs vs) ea1), (rg, cel (some (iv rv rt))), (cn, cel (some (.ref N))), (N, lst (ivs xs) e1), (acc, lst (ivs as) ea), (ns, dct [] 0), (it, lit Wo (i + 1)), (Wo, lst (ivs ws) eWo)] ++ F) [] := by delta c9b_o; exact .mN (by apply X.both <;> kernel_rfl!)
theorem c9c_e (X : Cx) (n k L cn rg it acc ns ea N e1 Wo eWo i : Nat) (as xs ws : NN) (org : Option Value) (rv rt n1 k1 ea1 kn a1 a2 n2 k2 tot tt : Nat) (vs : NN) (G1 G2 : LG) (F : LG) (z1 : NN) : REN X 70 (c9b_o X n k L cn rg it acc ns ea N e1 Wo eWo i as xs ws org rv rt n1 k1 ea1 kn a1 a2 vs G1 G2) (.ok (.ret (iv tot tt))) n2 k2 ([(n+2, lst (ivs vs) ea1), (rg, cel (some (iv rv rt))), (cn, cel (some (.ref N))), (N, lst (ivs xs) e1), (acc, lst (ivs as) ea), (ns, dct [] 0), (it, lit Wo (i+1)), (Wo, lst (ivs ws) eWo)] ++ F) [1, 2, 3, 4, 5, 6, 7] 8 (.again (c9C it acc ns L cn rg)) n2 k2 ([(rg, cel (some (iv rv rt))), (cn, cel (some (.ref N))), (N, lst (ivs xs) e1), (acc, lst (ivs z1) (ea + 1)), (ns, dct [] 0), (it, lit Wo (i + 1)), (Wo, lst (ivs ws) eWo)] ++ F) [CutG X 70 false (bi "list.append" [(.ref acc), (iv tot tt)]) (.ok (.ret .none)) [(acc, lst (ivs as) ea)] n2 k2 k2 [(acc, lst (ivs z1) (ea + 1))] []] := .mk 2 [.g false (.ok (.ret .none)) k2 [4] [(4, lst (ivs z1) (ea + 1))] []] (by apply X.both <;> kernel_rfl!)
theorem c9e_e (X : Cx) (n k L cn rg it acc ns ea N e1 Wo eWo i : Nat) (as xs ws : NN) (org : Option Value) (F : LG) : REC X 70 (c9C it acc ns L cn rg) n k ([(rg, cel org), (cn, cel (some (.ref N))), (N, lst (ivs xs) e1), (acc, lst (ivs as) ea), (ns, dct [] 0), (it, lit Wo i), (Wo, lst (ivs ws) eWo)] ++ F) [2, 3, 4, 5, 6, 8] 9 (.done (.next)) (n + 2) k ([(rg, cel org), (cn, cel (some (.ref N))), (N, lst (ivs xs) e1), (acc, lst (ivs as) ea), (ns, dct [] 0), (Wo, lst (ivs ws) eWo)] ++ F) [CutG X 70 false (bi "list_iterator.__next__" [(.ref it)]) (.error (.ref (n + 1))) [(it, lit Wo i), (Wo, lst (ivs ws) eWo)] n k k [(it, fld "list_iterator" [.none, (iv i 0)])] [tup [], fld "StopIteration" [(.ref n), .none, .none, .none, (.bool false), .none]]] := .mk 4 [.o 6, .g false (.error (.ref (n + 1))) k [5, 6] [(5, fld "list_iterator" [.none, (iv i 0)])] [tup [], fld "StopIteration" [(.ref n), .none, .none, .none, (.bool false), .none]], .o 1] (by kernel_rfl!)
theorem w5_e (X : Cx) (n k L cn N e1 eBs eLo eT eWo kt1 Bs kt2 Lo kt3 Ta kt4 Wo kt5 v5 t5 kt6 v6 t6 kt7 v7 t7 : Nat) (ts bs : List Nat) (ws xs ls : NN) (r1' : List Nat) (n1 k1 ea : Nat) (as : NN) (org : Option Value) (G1 : LG) (F : LG) : REN X 210 (w4_o X n k L cn N e1 eBs eLo eT eWo kt1 Bs kt2 Lo kt3 Ta kt4 Wo kt5 v5 t5 kt6 v6 t6 kt7 v7 t7 ts bs ws xs ls G1 r1') (.ok .next) n1 k1 ([(n+3, cel org), (cn, cel (some (.ref N))), (N, lst (ivs xs) e1), (n+1, lst (ivs as) ea), (n+2, dct [] 0), (Wo, lst (ivs ws) eWo), (L, frm [en X "beside" kt1 (.ref Bs), en X "lost" kt2 (.ref Lo), en X "tables" kt3 (.ref Ta), en X "won" kt4 (.ref Wo), en X "k" kt5 (iv v5 t5), en X "reach" kt6 (iv v6 t6), en X "d" kt7 (iv v7 t7)] 7), (Ta, lst (rfs r1') (eT+1)), (Bs, lst (rfs bs) eBs), (Lo, lst (ivs ls) eLo)] ++ F) [6, 1, 2, 8, 3, 7, 9, 5] 10 (.done (.next)) n1 (k1 + 1) ([(L, frm [en X "beside" kt1 (.ref Bs), en X "lost" kt2 (.ref (n + 1)), en X "tables" kt3 (.ref Ta), en X "won" kt4 (.ref Wo), en X "k" kt5 (iv v5 t5), en X "reach" kt6 (iv v6 t6), en X "d" kt7 (iv v7 t7)] 7), (cn, cel (some (.ref N))), (N, lst (ivs xs) e1), (Bs, lst (rfs bs) eBs), ((n + 1), lst (ivs as) ea), (Ta, lst (rfs r1') (eT + 1)), (Lo, lst (ivs ls) eLo), (Wo, lst (ivs ws) eWo)] ++ F) [] := .mk 9 [.o 7, .o 7] (by apply X.both <;> kernel_rfl!)
noncomputable def ck1_o (X : Cx) (n k N e1 : Nat) (xs : NN) (F : LG) : Out := goC X (kt X) 280 26 [.o 0, .o 0, .o 1, .o 1, .frame, .o 1, .o 3, .o 3, .e, .o 3, .o 1] (.call (.ref 208) ⟨[.ref N], []⟩) n k ([(N, lst (ivs xs) e1)] ++ F)
theorem ck1_e (X : Cx) (n k N e1 : Nat) (xs : NN) (F : LG) : RAC X 280 (.call (.ref 208) ⟨[.ref N], []⟩) n k ([(N, lst (ivs xs) e1)] ++ F) (ck1_o X n k N e1 xs F) [0, 2, 1, 3, 6, 5, 4] 7 true (.compStart c7 0 (.ref (n+2)) (.ref (n+3)) (c7Env (n+4) n (n+1) (n+5))) (n + 6) k ([((n + 5), cel none), ((n + 3), lst [] 0), ((n + 4), dct [] 0), ((n + 2), lit N 0), (N, lst (ivs xs) e1), (n, frm [] 0), ((n + 1), cel (some (.ref N)))] ++ F) [] := by delta ck1_o; exact .mC (by apply X.both <;> kernel_rfl!)
theorem c8t0_e (X : Cx) (n k L cn sg it acc ns ns2 ea sv st x lf : Nat) (as : NN) (F : LG) (y1 y2 y3 : Nat) (z1 : NN) : REC X 0 (c8C it acc ns ns2 L cn sg) n k ([(sg, cel (some (iv sv st))), (acc, lst (ivs as) ea), (ns2, dct [] 0), (it, rit x lf)] ++ F) [0, 1, 2, 3] 4 (.again (c8C it acc ns ns2 L cn sg)) n (k + 5) ([(sg, cel (some (iv sv st))), (acc, lst (ivs z1) (ea + 1)), (ns2, dct [en X "d" (k + 1) (iv x k)] 1), (it, rit (x + 1) y1)] ++ F) [CutG X 0 false (bi "list.append" [(.ref acc), (iv x k)]) (.ok (.ret .none)) [(acc, lst (ivs as) ea)] n (k + 5) (k + 5) [(acc, lst (ivs z1) (ea + 1))] [], CutB X (bi "int.__bool__" [(iv y3 (k + 4))]) (.bool true) [] (k + 5) (k + 5), CutB X (bi "int.__and__" [(iv y2 (k + 2)), (iv 1 (k + 3))]) (iv y3 (k + 4)) [] (k + 4) (k + 5), CutB X (bi "int.__rshift__" [(iv sv st), (iv x k)]) (iv y2 (k + 2)) [] (k + 2) (k + 3), CutG X 0 false (bi "range_iterator.__next__" [(.ref it)]) (.ok (.ret (iv x k))) [(it, rit x lf)] n k (k + 1) [(it, rit (x + 1) y1)] []] := .mk 24 [.o 4, .g false (.ok (.ret (iv x k))) (k + 1) [3] [(3, rit (x + 1) y1)] [], .o 3, .o 3, .o 1, .o 3, .v (iv y2 (k + 2)) (k + 3) [], .v (iv y3 (k + 4)) (k + 5) [], .v (.bool true) (k + 5) [], .o 3, .g false (.ok (.ret .none)) (k + 5) [1] [(1, lst (ivs z1) (ea + 1))] []] (by kernel_rfl!)
theorem c8t1_e (X : Cx) (n k L cn sg it acc ns ns2 ea sv st x lf : Nat) (as : NN) (kn a1 a2 : Nat) (F : LG) (y1 y2 y3 : Nat) (z1 : NN) : REC X 0 (c8C it acc ns ns2 L cn sg) n k ([(sg, cel (some (iv sv st))), (acc, lst (ivs as) ea), (ns2, dct [en X "d" kn (iv a1 a2)] 1), (it, rit x lf)] ++ F) [0, 1, 2, 3] 4 (.again (c8C it acc ns ns2 L cn sg)) n (k + 5) ([(sg, cel (some (iv sv st))), (acc, lst (ivs z1) (ea + 1)), (ns2, dct [en X "d" kn (iv x k)] 1), (it, rit (x + 1) y1)] ++ F) [CutG X 0 false (bi "list.append" [(.ref acc), (iv x k)]) (.ok (.ret .none)) [(acc, lst (ivs as) ea)] n (k + 5) (k + 5) [(acc, lst (ivs z1) (ea + 1))] [], CutB X (bi "int.__bool__" [(iv y3 (k + 4))]) (.bool true) [] (k + 5) (k + 5), CutB X (bi "int.__and__" [(iv y2 (k + 2)), (iv 1 (k + 3))]) (iv y3 (k + 4)) [] (k + 4) (k + 5), CutB X (bi "int.__rshift__" [(iv sv st), (iv x k)]) (iv y2 (k + 2)) [] (k + 2) (k + 3), CutG X 0 false (bi "range_iterator.__next__" [(.ref it)]) (.ok (.ret (iv x k))) [(it, rit x lf)] n k (k + 1) [(it, rit (x + 1) y1)] []] := .mk 24 [.o 4, .g false (.ok (.ret (iv x k))) (k + 1) [3] [(3, rit (x + 1) y1)] [], .o 3, .o 3, .o 1, .o 3, .v (iv y2 (k + 2)) (k + 3) [], .v (iv y3 (k + 4)) (k + 5) [], .v (.bool true) (k + 5) [], .o 3, .g false (.ok (.ret .none)) (k + 5) [1] [(1, lst (ivs z1) (ea + 1))] []] (by kernel_rfl!)
theorem c8s0_e (X : Cx) (n k L cn sg it acc ns ns2 ea sv st x lf : Nat) (as : NN) (F : LG) (y1 y2 y3 : Nat) : REC X 0 (c8C it acc ns ns2 L cn sg) n k ([(sg, cel (some (iv sv st))), (acc, lst (ivs as) ea), (ns2, dct [] 0), (it, rit x lf)] ++ F) [0, 1, 2, 3] 4 (.again (c8C it acc ns ns2 L cn sg)) n (k + 5) ([(sg, cel (some (iv sv st))), (acc, lst (ivs as) ea), (ns2, dct [en X "d" (k + 1) (iv x k)] 1), (it, rit (x + 1) y1)] ++ F) [CutB X (bi "int.__bool__" [(iv y3 (k + 4))]) (.bool false) [] (k + 5) (k + 5), CutB X (bi "int.__and__" [(iv y2 (k + 2)), (iv 1 (k + 3))]) (iv y3 (k + 4)) [] (k + 4) (k + 5), CutB X (bi "int.__rshift__" [(iv sv st), (iv x k)]) (iv y2 (k + 2)) [] (k + 2) (k + 3), CutG X 0 false (bi "range_iterator.__next__" [(.ref it)]) (.ok (.ret (iv x k))) [(it, rit x lf)] n k (k + 1) [(it, rit (x + 1) y1)] []] := .mk 21 [.o 4, .g false (.ok (.ret (iv x k))) (k + 1) [3] [(3, rit (x + 1) y1)] [], .o 3, .o 3, .o 1, .o 3, .v (iv y2 (k + 2)) (k + 3) [], .v (iv y3 (k + 4)) (k + 5) [], .v (.bool false) (k + 5) []] (by kernel_rfl!)
theorem c8s1_e (X : Cx) (n k L cn sg it acc ns ns2 ea sv st x lf : Nat) (as : NN) (kn a1 a2 : Nat) (F : LG) (y1 y2 y3 : Nat) : REC X 0 (c8C it acc ns ns2 L cn sg) n k ([(sg, cel (some (iv sv st))), (acc, lst (ivs as) ea), (ns2, dct [en X "d" kn (iv a1 a2)] 1), (it, rit x lf)] ++ F) [0, 1, 2, 3] 4 (.again (c8C it acc ns ns2 L cn sg)) n (k + 5) ([(sg, cel (some (iv sv st))), (acc, lst (ivs as) ea), (ns2, dct [en X "d" kn (iv x k)] 1), (it, rit (x + 1) y1)] ++ F) [CutB X (bi "int.__bool__" [(iv y3 (k + 4))]) (.bool false) [] (k + 5) (k + 5), CutB X (bi "int.__and__" [(iv y2 (k + 2)), (iv 1 (k + 3))]) (iv y3 (k + 4)) [] (k + 4) (k + 5), CutB X (bi "int.__rshift__" [(iv sv st), (iv x k)]) (iv y2 (k + 2)) [] (k + 2) (k + 3), CutG X 0 false (bi "range_iterator.__next__" [(.ref it)]) (.ok (.ret (iv x k))) [(it, rit x lf)] n k (k + 1) [(it, rit (x + 1) y1)] []] := .mk 21 [.o 4, .g false (.ok (.ret (iv x k))) (k + 1) [3] [(3, rit (x + 1) y1)] [], .o 3, .o 3, .o 1, .o 3, .v (iv y2 (k + 2)) (k + 3) [], .v (iv y3 (k + 4)) (k + 5) [], .v (.bool false) (k + 5) []] (by kernel_rfl!)
theorem c8e_e (X : Cx) (n k L cn sg it acc ns ns2 ea sv st x lf : Nat) (as : NN) (kn a1 a2 : Nat) (F : LG) : REC X 0 (c8C it acc ns ns2 L cn sg) n k ([(sg, cel (some (iv sv st))), (acc, lst (ivs as) ea), (ns2, dct [en X "d" kn (iv a1 a2)] 1), (it, rit x lf)] ++ F) [2, 3, 4] 6 (.done (.next)) (n + 2) k ([(sg, cel (some (iv sv st))), (acc, lst (ivs as) ea), (ns2, dct [en X "d" kn (iv a1 a2)] 1)] ++ F) [CutG X 0 false (bi "range_iterator.__next__" [(.ref it)]) (.error (.ref (n + 1))) [(it, rit x lf)] n k k [] [tup [], fld "StopIteration" [(.ref n), .none, .none, .none, (.bool false), .none]]] := .mk 4 [.o 4, .g false (.error (.ref (n + 1))) k [3] [] [tup [], fld "StopIteration" [(.ref n), .none, .none, .none, (.bool false), .none]], .o 1] (by kernel_rfl!)
noncomputable def c7a_o (X : Cx) (n k L cn sg it acc ns ea N i e1 : Nat) (xs : NN) (bs : List Nat) (osg : Option Value) (F : LG) (y1 y2 : Nat) : Out := goC X (kt X) 70 46 [.o 4, .g false (.ok (.ret (iv y1 y2))) k [3, 4] [(3, lit N (i + 1))] [], .o 1, .o 1, .o 0, .o 0, .e, .e, .o 1, .o 1, .e, .o 1, .o 1, .o 1, .o 1, .e, .o 1, .o 1, .o 1, .o 1, .o 1] (c7C it acc ns L cn sg) n k ([(sg, cel osg), (acc, lst (rfs bs) ea), (ns, dct [] 0), (it, lit N i), (N, lst (ivs xs) e1)] ++ F)
theorem c7a_e (X : Cx) (n k L cn sg it acc ns ea N i e1 : Nat) (xs : NN) (bs : List Nat) (osg : Option Value) (F : LG) (y1 y2 : Nat) : RAC X 70 (c7C it acc ns L cn sg) n k ([(sg, cel osg), (acc, lst (rfs bs) ea), (ns, dct [] 0), (it, lit N i), (N, lst (ivs xs) e1)] ++ F) (c7a_o X n k L cn sg it acc ns ea N i e1 xs bs osg F y1 y2) [4, 1, 0, 2, 5, 6, 7, 8] 9 true (.compStart c8 0 (.ref (n+1)) (.ref (n+2)) (c8Env ns (n+3) L cn sg)) (n + 4) (k + 3) ([(sg, cel (some (iv y1 y2))), ((n + 2), lst [] 0), ((n + 3), dct [] 0), ((n + 1), rit 0 7), (acc, lst (rfs bs) ea), (ns, dct [] 0), (it, lit N (i + 1)), (N, lst (ivs xs) e1)] ++ F) [CutG X 70 false (bi "list_iterator.__next__" [(.ref it)]) (.ok (.ret (iv y1 y2))) [(it, lit N i), (N, lst (ivs xs) e1)] n k k [(it, lit N (i + 1))] []] := by delta c7a_o; exact .mC (by apply X.both <;> kernel_rfl!)
theorem c7b_e (X : Cx) (n k L cn sg it acc ns ea N i e1 : Nat) (xs : NN) (bs : List Nat) (osg : Option Value) (sv st n1 k1 ea1 kn a1 a2 : Nat) (vs : NN) (G1 : LG) (F : LG) (r1 : List Nat) : REN X 70 (c7a_o X n k L cn sg it acc ns ea N i e1 xs bs osg G1 sv st) (.ok .next) n1 k1 ([(sg, cel (some (iv sv st))), (n+2, lst (ivs vs) ea1), (n+3, dct [en X "d" kn (iv a1 a2)] 1), (acc, lst (rfs bs) ea), (ns, dct [] 0), (it, lit N (i+1)), (N, lst (ivs xs) e1)] ++ F) [1, 0, 3, 4, 5, 6] 7 (.again (c7C it acc ns L cn sg)) n1 k1 ([((n + 2), lst (ivs vs) ea1), (sg, cel (some (iv sv st))), (acc, lst (rfs r1) (ea + 1)), (ns, dct [] 0), (it, lit N (i + 1)), (N, lst (ivs xs) e1)] ++ F) [CutG X 70 false (bi "list.append" [(.ref acc), (.ref (n + 2))]) (.ok (.ret .none)) [(acc, lst (rfs bs) ea)] n1 k1 k1 [(acc, lst (rfs r1) (ea + 1))] []] := .mk 6 [.o 3, .o 3, .o 3, .g false (.ok (.ret .none)) k1 [3] [(3, lst (rfs r1) (ea + 1))] []] (by apply X.both <;> kernel_rfl!)
theorem c7e_e (X : Cx) (n k L cn sg it acc ns ea N i e1 : Nat) (xs : NN) (bs : List Nat) (osg : Option Value) (F : LG) : REC X 70 (c7C it acc ns L cn sg) n k ([(sg, cel osg), (acc, lst (rfs bs) ea), (ns, dct [] 0), (it, lit N i), (N, lst (ivs xs) e1)] ++ F) [2, 3, 4, 6] 7 (.done (.next)) (n + 2) k ([(sg, cel osg), (acc, lst (rfs bs) ea), (ns, dct [] 0), (N, lst (ivs xs) e1)] ++ F) [CutG X 70 false (bi "list_iterator.__next__" [(.ref it)]) (.error (.ref (n + 1))) [(it, lit N i), (N, lst (ivs xs) e1)] n k k [(it, fld "list_iterator" [.none, (iv i 0)])] [tup [], fld "StopIteration" [(.ref n), .none, .none, .none, (.bool false), .none]]] := .mk 4 [.o 4, .g false (.error (.ref (n + 1))) k [3, 4] [(3, fld "list_iterator" [.none, (iv i 0)])] [tup [], fld "StopIteration" [(.ref n), .none, .none, .none, (.bool false), .none]], .o 1] (by kernel_rfl!)
noncomputable def ck2_o (X : Cx) (n k N e1 : Nat) (xs : NN) (n1 k1 ea : Nat) (bs : List Nat) (osg : Option Value) (G1 : LG) (F : LG) : Out := goN X (kt X) 280 39 [.o 5, .o 5, .o 6, .o 6, .o 6, .o 7, .o 7] (ck1_o X n k N e1 xs G1) (.ok .next) n1 k1 ([(n+5, cel osg), (n+3, lst (rfs bs) ea), (n+4, dct [] 0), (N, lst (ivs xs) e1), (n, frm [] 0), (n+1, cel (some (.ref N)))] ++ F)
theorem ck2_e (X : Cx) (n k N e1 : Nat) (xs : NN) (n1 k1 ea : Nat) (bs : List Nat) (osg : Option Value) (G1 : LG) (F : LG) : RAN X 280 (ck1_o X n k N e1 xs G1) (.ok .next) n1 k1 ([(n+5, cel osg), (n+3, lst (rfs bs) ea), (n+4, dct [] 0), (N, lst (ivs xs) e1), (n, frm [] 0), (n+1, cel (some (.ref N)))] ++ F) (ck2_o X n k N e1 xs n1 k1 ea bs osg G1 F) [6, 7, 5, 3, 1, 0] 8 true (clockLoop n (n+1)) (n1 + 2) (k1 + 10) ([(n, frm [en X "beside" k1 (.ref (n + 3)), en X "lost" (k1 + 8) (.ref n1), en X "tables" (k1 + 9) (.ref (n1 + 1))] 3), ((n + 1), cel (some (.ref N))), (N, lst (ivs xs) e1), ((n + 3), lst (rfs bs) ea), (n1, lst [(iv 1 (k1 + 1)), (iv 2 (k1 + 2)), (iv 4 (k1 + 3)), (iv 8 (k1 + 4)), (iv 16 (k1 + 5)), (iv 32 (k1 + 6)), (iv 64 (k1 + 7))] 0), ((n1 + 1), lst [(.ref n1)] 0)] ++ F) [] := by delta ck2_o; exact .mN (by apply X.both <;> kernel_rfl!)
theorem ck3_e (X : Cx) (n k N e1 : Nat) (xs : NN) (n1 k1 ea : Nat) (bs : List Nat) (osg : Option Value) (n2 k2 Ta eT : Nat) (ts : List Nat) (G1 G2 : LG) (F : LG) : REN X 280 (ck2_o X n k N e1 xs n1 k1 ea bs osg G1 G2) (.ok (.ret (.ref Ta))) n2 k2 ([(Ta, lst (rfs ts) eT)] ++ F) [0] 1 (.done (.ret (.ref Ta))) n2 k2 ([(Ta, lst (rfs ts) eT)] ++ F) [] := .mk 0 [] (by apply X.both <;> kernel_rfl!)
section
structure LO where
  a : Nat
  e : Nat
  vs : NN
noncomputable def LO.o (p : LO) : Addr × Obj := (p.a, lst (ivs p.vs) p.e)
noncomputable def LO.v (p : LO) : List Nat := p.vs.map (·.1)
section
variable {X : Cx}
noncomputable def c8I (X : Cx) (it acc ns2 sg sv st : Nat) (i n k : Nat) (T : LG) : Prop := ∃ (fv : Option (Nat × Nat × Nat)) (as : NN) (ea : Nat), (0 < i → ∃ p, fv = some p) ∧ as.length ≤ i ∧ as.map (·.1) = (List.range i).filter sv.testBit ∧
  T = [(sg, cel (some (iv sv st))), (acc, lst (ivs as) ea), (ns2, vfr X "d" fv), (it, rit i (7 - i))]
theorem quiet_c8 (it acc ns ns' L cn sg : Addr) : (c8C it acc ns ns' L cn sg).quiet = true := by unfold c8C; exact quiet_comp
theorem quiet_c7 (it acc ns L cn sg : Addr) : (c7C it acc ns L cn sg).quiet = true := by unfold c7C; exact quiet_comp
theorem c8_turn (hk : KtOk X (kt X)) {it acc ns ns2 L cn sg sv st i : Nat} (hi : i < 7) : Turn X 70 (c8C it acc ns ns2 L cn sg) (c8I X it acc ns2 sg sv st i) (c8I X it acc ns2 sg sv st (i + 1)) := by
  rintro n k T ⟨fv, as, ea, h0, hl, hs, rfl⟩ A s F R hA H q
  have e7 : 7 - i - 1 = 7 - (i + 1) := by omega
  by_cases hb : sv.testBit i = true
  · have hs' : (as ++ [(i, k)]).map (·.1) = (List.range (i + 1)).filter sv.testBit := by rw [List.map_append, hs, range_next, if_pos hb]; rfl
    cases fv with
    | none =>
      refine startC (ranAgain (c8t0_e ..) (quiet_c8 ..) hk hA (.cons (c_appI (by omega)) (.cons (c_boolT (testBit_and.mpr hb)) (.cons c_andN (.cons c_rshiftN (.cons (c_rnext (by omega)) .nil))))) H fun s' H' => ?_)
      exact q _ _ _ _ ⟨some (_, _, _), _, _, fun _ => ⟨_, rfl⟩, by simp; omega, hs', by rw [← e7]; rfl⟩ H'
    | some p =>
      obtain ⟨p1, p2, p3⟩ := p
      refine startC (ranAgain (c8t1_e ..) (quiet_c8 ..) hk hA (.cons (c_appI (by omega)) (.cons (c_boolT (testBit_and.mpr hb)) (.cons c_andN (.cons c_rshiftN (.cons (c_rnext (by omega)) .nil))))) H fun s' H' => ?_)
      exact q _ _ _ _ ⟨some (_, _, _), _, _, fun _ => ⟨_, rfl⟩, by simp; omega, hs', by rw [← e7]; rfl⟩ H'
  · have hs' : as.map (·.1) = (List.range (i + 1)).filter sv.testBit := by rw [hs, range_next, if_neg hb]; simp
    have hb' : sv >>> i &&& 1 = 0 := by
      rcases Nat.eq_zero_or_pos (sv >>> i &&& 1) with z | z
      · exact z
      · exact absurd (testBit_and.mp (by omega)) hb
    cases fv with
    | none =>
      refine startC (ranAgain (c8s0_e ..) (quiet_c8 ..) hk hA (.cons (c_boolF hb') (.cons c_andN (.cons c_rshiftN (.cons (c_rnext (by omega)) .nil)))) H fun s' H' => ?_)
      exact q _ _ _ _ ⟨some (_, _, _), _, _, fun _ => ⟨_, rfl⟩, by omega, hs', by rw [← e7]; rfl⟩ H'
    | some p =>
      obtain ⟨p1, p2, p3⟩ := p
      refine startC (ranAgain (c8s1_e ..) (quiet_c8 ..) hk hA (.cons (c_boolF hb') (.cons c_andN (.cons c_rshiftN (.cons (c_rnext (by omega)) .nil)))) H fun s' H' => ?_)
      exact q _ _ _ _ ⟨some (_, _, _), _, _, fun _ => ⟨_, rfl⟩, by omega, hs', by rw [← e7]; rfl⟩ H'
theorem c8_does (hk : KtOk X (kt X)) (it acc ns ns2 L cn sg sv st n k : Nat) : DoesK X 70 (.compStart c8 0 (.ref it) (.ref acc) (c8Env ns ns2 L cn sg)) n k [(sg, cel (some (iv sv st))), (acc, lst [] 0), (ns2, dct [] 0), (it, rit 0 7)]
    (fun K => ∀ n' k' (kn a1 a2 : Nat) (as : NN) (ea : Nat), as.length ≤ 7 → as.map (·.1) = bits sv → K (.ok .next) n' k' ([(sg, cel (some (iv sv st))), (acc, lst (ivs as) ea), (ns2, dct [en X "d" kn (iv a1 a2)] 1)])) := by
  intro A s F R hA H qk
  refine comp_start_r ⟨_, _, _, _, _, _, _, rfl⟩ (H.own (it, rit 0 7) (by simp)) ?_
  refine loopK (c := c8C it acc ns ns2 L cn sg) (N := 7) (I := c8I X it acc ns2 sg sv st) (fun i hi => c8_turn hk hi) ?_ 7 0 rfl n k _ ⟨none, [], 0, fun h => absurd h (Nat.lt_irrefl 0), Nat.le_refl _, rfl, rfl⟩ A s hA H
  rintro n k T ⟨fv, as, ea, h0, hl, hs, rfl⟩ A s hA H
  obtain ⟨⟨p1, p2, p3⟩, rfl⟩ := h0 (by omega)
  refine startC (ran (c8e_e ..) hk hA (.cons c_rend .nil) H fun s' H' => ?_)
  exact qk _ _ _ _ _ _ _ hl hs _ H'
noncomputable def c7I (X : Cx) (it acc ns sg N e1 : Nat) (xs : NN) (i n k : Nat) (T : LG) : Prop := ∃ (osg : Option Value) (bs : List LO) (ea : Nat), bs.length = i ∧ (∀ p ∈ bs, p.vs.length ≤ 7) ∧ bs.map LO.v = (xs.take i).map (fun (p : Nat × Nat) => bits p.1) ∧
  T = [(sg, cel osg), (acc, lst (rfs (bs.map LO.a)) ea), (ns, dct [] 0), (it, lit N i), (N, lst (ivs xs) e1)] ++ bs.map LO.o
theorem c7_turn (hk : KtOk X (kt X)) {it acc ns L cn sg N e1 i : Nat} {xs : NN} (hx : xs.length < 900) (hi : i < xs.length) : Turn X 140 (c7C it acc ns L cn sg) (c7I X it acc ns sg N e1 xs i) (c7I X it acc ns sg N e1 xs (i + 1)) := by
  rintro n k T ⟨osg, bs, ea, hl, h7, hs, rfl⟩ A s F R hA H q
  obtain ⟨⟨v, w⟩, g⟩ := get_some (l := xs) hi
  rw [List.append_assoc] at H
  refine startC (paused (c7a_e ..) hk hA (.cons (c_nextI g) .nil) H fun s1 A1 hA1 H1 => ?_)
  refine c8_does hk (n + 1) (n + 2) ns (n + 3) L cn sg v w _ _ (hA1.mono (by decide)) (F := [(acc, lst (rfs (bs.map LO.a)) ea), (ns, dct [] 0), (it, lit N (i + 1)), (N, lst (ivs xs) e1)] ++ (bs.map LO.o ++ F)) H1 ?_
  rintro n1 k1 kn a1 a2 as ea1 hal has s2 H2
  refine ranAgain (c7b_e ..) (quiet_c7 ..) hk hA (.cons (c_appR (by simp; omega)) .nil) H2 fun s3 H3 => ?_
  have H4 := H3.enter (a := (⟨n + 2, ea1, as⟩ : LO)) rfl
  refine q _ _ _ _ ⟨some (iv v w), bs ++ [⟨n + 2, ea1, as⟩], ea + 1, by simp [hl], ?_, ?_, rfl⟩ (H4.cast ?_)
  · intro p hp
    rcases List.mem_append.mp hp with z | z
    · exact h7 p z
    · rw [List.mem_singleton] at z; subst z; exact hal
  · rw [List.map_append, hs, take_next g, List.map_append]
    show _ ++ [as.map (·.1)] = _ ++ [bits v]
    rw [has]
  · rw [List.map_append (f := LO.a), List.append_assoc]; rfl
theorem c7_does (hk : KtOk X (kt X)) (it acc ns L cn sg N e1 n k : Nat) (xs : NN) (osg : Option Value) (hx : xs.length < 900) : DoesK X 140 (.compStart c7 0 (.ref it) (.ref acc) (c7Env ns L cn sg)) n k [(sg, cel osg), (acc, lst [] 0), (ns, dct [] 0), (it, lit N 0), (N, lst (ivs xs) e1)]
    (fun K => ∀ n' k' (osg : Option Value) (bs : List LO) (ea : Nat), (∀ p ∈ bs, p.vs.length ≤ 7) → bs.map LO.v = xs.map (fun (p : Nat × Nat) => bits p.1) → K (.ok .next) n' k' ([(sg, cel osg), (acc, lst (rfs (bs.map LO.a)) ea), (ns, dct [] 0), (N, lst (ivs xs) e1)] ++ bs.map LO.o)) := by
  intro A s F R hA H qk
  refine comp_start_l ⟨_, _, _, _, _, _, _, rfl⟩ (H.own (it, lit N 0) (by simp)) ?_
  refine loopK (c := c7C it acc ns L cn sg) (N := xs.length) (I := c7I X it acc ns sg N e1 xs) (fun i hi => c7_turn hk hx hi) ?_ xs.length 0 rfl n k _ ⟨osg, [], 0, rfl, (fun _ h => nomatch h), rfl, rfl⟩ A s hA H
  rintro n k T ⟨osg, bs, ea, hl, h7, hs, rfl⟩ A s hA H
  rw [List.take_length] at hs
  rw [List.append_assoc] at H
  refine startC (ran (c7e_e ..) hk hA (.cons (c_endI (Nat.le_refl _)) .nil) H fun s' H' => ?_)
  exact qk _ _ _ _ _ h7 hs _ (H'.cast (List.append_assoc ..).symm)
theorem quiet_d (it L cn : Addr) : (dLoop it L cn).quiet = true := by unfold dLoop; rfl
theorem quiet_k (it L cn : Addr) : (kLoop it L cn).quiet = true := by unfold kLoop; rfl
noncomputable def kfr (X : Cx) (kt1 Bs kt2 Lo kt3 Ta kt4 Wo kt5 v5 t5 kt6 v6 t6 : Nat) : Option (Nat × Nat × Nat) → Obj
  | none => frm [en X "beside" kt1 (.ref Bs), en X "lost" kt2 (.ref Lo), en X "tables" kt3 (.ref Ta), en X "won" kt4 (.ref Wo), en X "k" kt5 (iv v5 t5), en X "reach" kt6 (iv v6 t6)] 6
  | some (a, b, c) => frm [en X "beside" kt1 (.ref Bs), en X "lost" kt2 (.ref Lo), en X "tables" kt3 (.ref Ta), en X "won" kt4 (.ref Wo), en X "k" kt5 (iv v5 t5), en X "reach" kt6 (iv v6 t6), en X "d" a (iv b c)] 7
noncomputable def orAll (ls : List Nat) (r : Nat) (ds : List Nat) : Nat := ds.foldl (fun m d => m ||| ls.getD d 0) r
theorem orAll_next {ls : List Nat} {r d : Nat} {ds : List Nat} : orAll ls r (ds ++ [d]) = orAll ls r ds ||| ls.getD d 0 := by simp [orAll]
noncomputable def dI (X : Cx) (it L kt1 Bs kt2 Lo kt3 Ta kt4 Wo kt5 v5 t5 kt6 W eW eLo : Nat) (fv0 : Option (Nat × Nat × Nat)) (ls vs : NN) (i n k : Nat) (T : LG) : Prop := ∃ (t6 : Nat) (fv : Option (Nat × Nat × Nat)), (0 < i → ∃ p, fv = some p) ∧
  T = [(L, kfr X kt1 Bs kt2 Lo kt3 Ta kt4 Wo kt5 v5 t5 kt6 (orAll (ls.map (·.1)) 0 ((vs.take i).map (·.1))) t6 fv), (Lo, lst (ivs ls) eLo), (W, lst (ivs vs) eW), (it, lit W i)]
theorem d_turn (hk : KtOk X (kt X)) {it L cn kt1 Bs kt2 Lo kt3 Ta kt4 Wo kt5 v5 t5 kt6 W eW eLo i : Nat} {fv0 : Option (Nat × Nat × Nat)} {ls vs : NN} (hls : ls.length = 7) (hb : ∀ p ∈ vs, p.1 < 7) (hi : i < vs.length) :
    Turn X 140 (dLoop it L cn) (dI X it L kt1 Bs kt2 Lo kt3 Ta kt4 Wo kt5 v5 t5 kt6 W eW eLo fv0 ls vs i) (dI X it L kt1 Bs kt2 Lo kt3 Ta kt4 Wo kt5 v5 t5 kt6 W eW eLo fv0 ls vs (i + 1)) := by
  rintro n k T ⟨t6, fv, h0, rfl⟩ A s F R hA H q
  obtain ⟨⟨d, td⟩, g⟩ := get_some (l := vs) hi
  have hd : d < 7 := hb _ (List.mem_of_getElem? g)
  obtain ⟨⟨y, z⟩, g2⟩ := get_some (l := ls) (i := d) (by omega)
  have e1 : (vs.take (i + 1)).map (·.1) = (vs.take i).map (·.1) ++ [d] := by rw [take_next g, List.map_append]; rfl
  have e2 : orAll (ls.map (·.1)) 0 ((vs.take (i + 1)).map (·.1)) = orAll (ls.map (·.1)) 0 ((vs.take i).map (·.1)) ||| y := by
    have e3 : (ls.map (·.1)).getD d 0 = y := getD_of (by simp [g2])
    rw [e1, orAll_next, e3]
  cases fv with
  | none =>
    refine startC (ranAgain (d0_e ..) (quiet_d ..) hk hA (.cons c_orN (.cons (c_getI g2 (by omega)) (.cons (c_nextI g) .nil))) H fun s' H' => ?_)
    exact q _ _ _ _ ⟨_, some (_, _, _), fun _ => ⟨_, rfl⟩, by rw [e2]; rfl⟩ H'
  | some p =>
    obtain ⟨p1, p2, p3⟩ := p
    refine startC (ranAgain (d1_e ..) (quiet_d ..) hk hA (.cons c_orN (.cons (c_getI g2 (by omega)) (.cons (c_nextI g) .nil))) H fun s' H' => ?_)
    exact q _ _ _ _ ⟨_, some (_, _, _), fun _ => ⟨_, rfl⟩, by rw [e2]; rfl⟩ H'
theorem d_does (hk : KtOk X (kt X)) (it L cn kt1 Bs kt2 Lo kt3 Ta kt4 Wo kt5 v5 t5 kt6 t6 W eW eLo n k : Nat) (fv0 : Option (Nat × Nat × Nat)) (ls vs : NN) (hls : ls.length = 7) (hb : ∀ p ∈ vs, p.1 < 7) (hne : 0 < vs.length) :
    DoesK X 140 (dLoop it L cn) n k [(L, kfr X kt1 Bs kt2 Lo kt3 Ta kt4 Wo kt5 v5 t5 kt6 0 t6 fv0), (Lo, lst (ivs ls) eLo), (W, lst (ivs vs) eW), (it, lit W 0)]
      (fun K => ∀ n' k' (t6 kt7 v7 t7 : Nat), K (.ok .next) n' k' ([(L, kfr X kt1 Bs kt2 Lo kt3 Ta kt4 Wo kt5 v5 t5 kt6 (orAll (ls.map (·.1)) 0 (vs.map (·.1))) t6 (some (kt7, v7, t7))), (Lo, lst (ivs ls) eLo), (W, lst (ivs vs) eW)])) := by
  intro A s F R hA H qk
  refine loopK (N := vs.length) (I := dI X it L kt1 Bs kt2 Lo kt3 Ta kt4 Wo kt5 v5 t5 kt6 W eW eLo fv0 ls vs) (fun i hi => d_turn hk hls hb hi) ?_ vs.length 0 rfl n k _ ⟨t6, fv0, fun h => absurd h (Nat.lt_irrefl 0), rfl⟩ A s hA H
  rintro n k T ⟨t6, fv, h0, rfl⟩ A s hA H
  obtain ⟨⟨p1, p2, p3⟩, rfl⟩ := h0 hne
  rw [List.take_length] at H
  refine startC (ran (de_e ..) hk hA (.cons (c_endI (Nat.le_refl _)) .nil) H fun s' H' => ?_)
  exact qk _ _ _ _ _ _ _ H'
end
end
section
section
variable {X : Cx}
structure KV where
  (kt5 v5 t5 kt6 v6 t6 kt7 v7 t7 : Nat)
noncomputable def kfm (X : Cx) (kt1 Bs kt2 Lo kt3 Ta kt4 Wo : Nat) : Option KV → Obj
  | none => frm [en X "beside" kt1 (.ref Bs), en X "lost" kt2 (.ref Lo), en X "tables" kt3 (.ref Ta), en X "won" kt4 (.ref Wo)] 4
  | some ⟨kt5, v5, t5, kt6, v6, t6, kt7, v7, t7⟩ => frm [en X "beside" kt1 (.ref Bs), en X "lost" kt2 (.ref Lo), en X "tables" kt3 (.ref Ta), en X "won" kt4 (.ref Wo), en X "k" kt5 (iv v5 t5), en X "reach" kt6 (iv v6 t6), en X "d" kt7 (iv v7 t7)] 7
noncomputable def wonAt (bs : List (List Nat)) (ls : List Nat) (k : Nat) : Nat := orAll ls 0 (bs.getD k [])
noncomputable def kI (X : Cx) (it L kt1 Bs kt2 Lo kt3 Ta kt4 Wo eBs eLo : Nat) (bs : List LO) (ls : NN) (i n k : Nat) (T : LG) : Prop := ∃ (fv : Option KV) (ws : NN) (eWo : Nat), (0 < i → ∃ p, fv = some p) ∧ ws.map (·.1) = (List.range i).map (wonAt (bs.map LO.v) (ls.map (·.1))) ∧
  T = [(L, kfm X kt1 Bs kt2 Lo kt3 Ta kt4 Wo fv), (Bs, lst (rfs (bs.map LO.a)) eBs), (Lo, lst (ivs ls) eLo), (Wo, lst (ivs ws) eWo), (it, rit i (7 - i))] ++ bs.map LO.o
theorem k_turn (hk : KtOk X (kt X)) {it L cn kt1 Bs kt2 Lo kt3 Ta kt4 Wo eBs eLo i : Nat} {bs : List LO} {ls : NN} (hls : ls.length = 7) (hbs : bs.length = 7) (hb : ∀ p ∈ bs, 0 < p.vs.length ∧ ∀ v ∈ p.vs, v.1 < 7) (hi : i < 7) :
    Turn X 210 (kLoop it L cn) (kI X it L kt1 Bs kt2 Lo kt3 Ta kt4 Wo eBs eLo bs ls i) (kI X it L kt1 Bs kt2 Lo kt3 Ta kt4 Wo eBs eLo bs ls (i + 1)) := by
  rintro n k T ⟨fv, ws, eWo, h0, hs, rfl⟩ A s F R hA H q
  have e7 : 7 - i - 1 = 7 - (i + 1) := by omega
  obtain ⟨p, hp⟩ := get_some (l := bs) (i := i) (by omega)
  obtain ⟨hne, hv⟩ := hb p (List.mem_of_getElem? hp)
  have hpa : (bs.map LO.a)[i]? = some p.a := by simp [hp]
  have hwl : ws.length = i := by
    have := congrArg List.length hs
    simpa using this
  have hw : ∀ t : Nat, (ws ++ [(orAll (ls.map (·.1)) 0 (p.vs.map (·.1)), t)]).map (·.1) = (List.range (i + 1)).map (wonAt (bs.map LO.v) (ls.map (·.1))) := fun t => by
    rw [List.map_append, hs, List.range_succ, List.map_append]
    congr 1
    show [_] = [_]
    unfold wonAt
    have : (bs.map LO.v).getD i [] = p.vs.map (·.1) := by simp [List.getD, hp, LO.v]
    rw [this]
  rw [List.append_assoc] at H
  cases fv with
  | none =>
    refine startC (paused (k0a_e ..) hk hA (.cons (c_getR hpa (by omega)) (.cons (c_rnext (by omega)) .nil)) (H.focus hp) fun s1 A1 hA1 H1 => ?_)
    refine d_does hk n L cn kt1 Bs kt2 Lo kt3 Ta kt4 Wo _ _ _ _ _ p.a p.e eLo _ _ none ls p.vs hls hv hne (hA1.mono (by decide)) (F := [(Bs, lst (rfs (bs.map LO.a)) eBs), (Wo, lst (ivs ws) eWo), (it, rit (i + 1) (7 - i - 1))] ++ ((bs.eraseIdx i).map LO.o ++ F)) H1 ?_
    rintro n1 k1 t6 kt7 v7 t7 s2 H2
    refine ranAgain (k0b_e ..) (quiet_k ..) hk hA (.cons (c_appI (by omega)) .nil) H2 fun s3 H3 => ?_
    exact q _ _ _ _ ⟨some ⟨_, _, _, _, _, _, _, _, _⟩, ws ++ [(_, _)], _, fun _ => ⟨_, rfl⟩, hw _, by rw [← e7]; rfl⟩ ((H3.unfocus hp rfl).cast (List.append_assoc ..).symm)
  | some x =>
    obtain ⟨x1, x2, x3, x4, x5, x6, x7, x8, x9⟩ := x
    refine startC (paused (k1a_e ..) hk hA (.cons (c_getR hpa (by omega)) (.cons (c_rnext (by omega)) .nil)) (H.focus hp) fun s1 A1 hA1 H1 => ?_)
    refine d_does hk n L cn kt1 Bs kt2 Lo kt3 Ta kt4 Wo _ _ _ _ _ p.a p.e eLo _ _ (some (x7, x8, x9)) ls p.vs hls hv hne (hA1.mono (by decide)) (F := [(Bs, lst (rfs (bs.map LO.a)) eBs), (Wo, lst (ivs ws) eWo), (it, rit (i + 1) (7 - i - 1))] ++ ((bs.eraseIdx i).map LO.o ++ F)) H1 ?_
    rintro n1 k1 t6 kt7 v7 t7 s2 H2
    refine ranAgain (k1b_e ..) (quiet_k ..) hk hA (.cons (c_appI (by omega)) .nil) H2 fun s3 H3 => ?_
    exact q _ _ _ _ ⟨some ⟨_, _, _, _, _, _, _, _, _⟩, ws ++ [(_, _)], _, fun _ => ⟨_, rfl⟩, hw _, by rw [← e7]; rfl⟩ ((H3.unfocus hp rfl).cast (List.append_assoc ..).symm)
theorem k_does (hk : KtOk X (kt X)) (it L cn kt1 Bs kt2 Lo kt3 Ta kt4 Wo eBs eLo n k : Nat) (bs : List LO) (ls : NN) (fv : Option KV) (hls : ls.length = 7) (hbs : bs.length = 7) (hb : ∀ p ∈ bs, 0 < p.vs.length ∧ ∀ v ∈ p.vs, v.1 < 7) :
    DoesK X 210 (kLoop it L cn) n k ([(L, kfm X kt1 Bs kt2 Lo kt3 Ta kt4 Wo fv), (Bs, lst (rfs (bs.map LO.a)) eBs), (Lo, lst (ivs ls) eLo), (Wo, lst [] 0), (it, rit 0 7)] ++ bs.map LO.o)
      (fun K => ∀ n' k' (v : KV) (ws : NN) (eWo : Nat), ws.map (·.1) = (List.range 7).map (wonAt (bs.map LO.v) (ls.map (·.1))) → K (.ok .next) n' k' ([(L, kfm X kt1 Bs kt2 Lo kt3 Ta kt4 Wo (some v)), (Bs, lst (rfs (bs.map LO.a)) eBs), (Lo, lst (ivs ls) eLo), (Wo, lst (ivs ws) eWo)] ++ bs.map LO.o)) := by
  intro A s F R hA H qk
  refine loopK (N := 7) (I := kI X it L kt1 Bs kt2 Lo kt3 Ta kt4 Wo eBs eLo bs ls) (fun i hi => k_turn hk hls hbs hb hi) ?_ 7 0 rfl n k _ ⟨fv, [], 0, fun h => absurd h (Nat.lt_irrefl 0), rfl, rfl⟩ A s hA H
  rintro n k T ⟨fv, ws, eWo, h0, hs, rfl⟩ A s hA H
  obtain ⟨⟨x1, x2, x3, x4, x5, x6, x7, x8, x9⟩, rfl⟩ := h0 (by omega)
  rw [List.append_assoc] at H
  refine startC (ran (ke_e ..) hk hA (.cons c_rend .nil) H fun s' H' => ?_)
  exact qk _ _ ⟨x1, x2, x3, x4, x5, x6, x7, x8, x9⟩ ws eWo hs _ (H'.cast (List.append_assoc ..).symm)
end
end
section
section
variable {X : Cx}
noncomputable def lostL (near : List Nat) (m reach : Nat) : List Nat := ((List.range m).filter fun r => near.getD r 0 ||| reach == reach).map fun r => 1 <<< r
noncomputable def lostOf (near : List Nat) (reach : Nat) : Nat := (lostL near 7 reach).sum
theorem lostL_next {near : List Nat} {m reach : Nat} : lostL near (m + 1) reach = lostL near m reach ++ (if near.getD m 0 ||| reach == reach then [1 <<< m] else []) := by
  unfold lostL
  rw [range_next]
  split <;> simp
theorem quiet_c10 (it acc ns ns' L cn rg : Addr) : (c10C it acc ns ns' L cn rg).quiet = true := by unfold c10C; exact quiet_comp
theorem quiet_c9 (it acc ns L cn rg : Addr) : (c9C it acc ns L cn rg).quiet = true := by unfold c9C; exact quiet_comp
noncomputable def c10I (X : Cx) (it acc ns2 cn rg rv rt N e1 : Nat) (xs : NN) (i n k : Nat) (T : LG) : Prop := ∃ (fv : Option (Nat × Nat × Nat)) (as : NN) (ea : Nat), (0 < i → ∃ p, fv = some p) ∧ as.length ≤ i ∧ as.map (·.1) = lostL (xs.map (·.1)) i rv ∧
  T = [(rg, cel (some (iv rv rt))), (cn, cel (some (.ref N))), (N, lst (ivs xs) e1), (acc, lst (ivs as) ea), (ns2, vfr X "r" fv), (it, rit i (7 - i))]
theorem c10_turn (hk : KtOk X (kt X)) {it acc ns ns2 L cn rg rv rt N e1 i : Nat} {xs : NN} (hx : xs.length = 7) (hi : i < 7) : Turn X 70 (c10C it acc ns ns2 L cn rg) (c10I X it acc ns2 cn rg rv rt N e1 xs i) (c10I X it acc ns2 cn rg rv rt N e1 xs (i + 1)) := by
  rintro n k T ⟨fv, as, ea, h0, hl, hs, rfl⟩ A s F R hA H q
  have e7 : 7 - i - 1 = 7 - (i + 1) := by omega
  obtain ⟨⟨y, t⟩, g⟩ := get_some (l := xs) (i := i) (by omega)
  have hy : (xs.map (·.1)).getD i 0 = y := getD_of (by simp [g])
  by_cases hb : y ||| rv = rv
  · have hs' : ∀ u : Nat, (as ++ [(1 <<< i, u)]).map (·.1) = lostL (xs.map (·.1)) (i + 1) rv := fun u => by rw [List.map_append, hs, lostL_next, hy, if_pos (by simpa using hb)]; rfl
    cases fv with
    | none =>
      refine startC (ranAgain (c10t0_e ..) (quiet_c10 ..) hk hA (.cons (c_appI (by omega)) (.cons (c_shl hi) (.cons (c_eqT hb) (.cons c_orN (.cons (c_getI g (by omega)) (.cons (c_rnext (by omega)) .nil)))))) H fun s' H' => ?_)
      exact q _ _ _ _ ⟨some (_, _, _), _, _, fun _ => ⟨_, rfl⟩, by simp; omega, hs' _, by rw [← e7]; rfl⟩ H'
    | some p =>
      obtain ⟨p1, p2, p3⟩ := p
      refine startC (ranAgain (c10t1_e ..) (quiet_c10 ..) hk hA (.cons (c_appI (by omega)) (.cons (c_shl hi) (.cons (c_eqT hb) (.cons c_orN (.cons (c_getI g (by omega)) (.cons (c_rnext (by omega)) .nil)))))) H fun s' H' => ?_)
      exact q _ _ _ _ ⟨some (_, _, _), _, _, fun _ => ⟨_, rfl⟩, by simp; omega, hs' _, by rw [← e7]; rfl⟩ H'
  · have hs' : as.map (·.1) = lostL (xs.map (·.1)) (i + 1) rv := by rw [hs, lostL_next, hy, if_neg (by simpa using hb)]; simp
    cases fv with
    | none =>
      refine startC (ranAgain (c10s0_e ..) (quiet_c10 ..) hk hA (.cons (c_eqF hb) (.cons c_orN (.cons (c_getI g (by omega)) (.cons (c_rnext (by omega)) .nil)))) H fun s' H' => ?_)
      exact q _ _ _ _ ⟨some (_, _, _), _, _, fun _ => ⟨_, rfl⟩, by omega, hs', by rw [← e7]; rfl⟩ H'
    | some p =>
      obtain ⟨p1, p2, p3⟩ := p
      refine startC (ranAgain (c10s1_e ..) (quiet_c10 ..) hk hA (.cons (c_eqF hb) (.cons c_orN (.cons (c_getI g (by omega)) (.cons (c_rnext (by omega)) .nil)))) H fun s' H' => ?_)
      exact q _ _ _ _ ⟨some (_, _, _), _, _, fun _ => ⟨_, rfl⟩, by omega, hs', by rw [← e7]; rfl⟩ H'
theorem c10_does (hk : KtOk X (kt X)) (it acc ns ns2 L cn rg rv rt N e1 n k : Nat) (xs : NN) (hx : xs.length = 7) : DoesK X 70 (.compStart c10 0 (.ref it) (.ref acc) (c10Env ns ns2 L cn rg)) n k [(rg, cel (some (iv rv rt))), (cn, cel (some (.ref N))), (N, lst (ivs xs) e1), (acc, lst [] 0), (ns2, dct [] 0), (it, rit 0 7)]
    (fun K => ∀ n' k' (kn a1 a2 : Nat) (as : NN) (ea : Nat), as.map (·.1) = lostL (xs.map (·.1)) 7 rv → K (.ok .next) n' k' ([(rg, cel (some (iv rv rt))), (cn, cel (some (.ref N))), (N, lst (ivs xs) e1), (acc, lst (ivs as) ea), (ns2, dct [en X "r" kn (iv a1 a2)] 1)])) := by
  intro A s F R hA H qk
  refine comp_start_r ⟨_, _, _, _, _, _, _, rfl⟩ (H.own (it, rit 0 7) (by simp)) ?_
  refine loopK (c := c10C it acc ns ns2 L cn rg) (N := 7) (I := c10I X it acc ns2 cn rg rv rt N e1 xs) (fun i hi => c10_turn hk hx hi) ?_ 7 0 rfl n k _ ⟨none, [], 0, fun h => absurd h (Nat.lt_irrefl 0), Nat.le_refl _, rfl, rfl⟩ A s hA H
  rintro n k T ⟨fv, as, ea, h0, hl, hs, rfl⟩ A s hA H
  obtain ⟨⟨p1, p2, p3⟩, rfl⟩ := h0 (by omega)
  refine startC (ran (c10e_e ..) hk hA (.cons c_rend .nil) H fun s' H' => ?_)
  exact qk _ _ _ _ _ _ _ hs _ H'
theorem lost_lt (near : List Nat) (reach : Nat) : lostOf near reach < 128 := by
  have key : ∀ m, m ≤ 7 → (lostL near m reach).sum < 2 ^ m := by
    intro m
    induction m with
    | zero => intro _; simp [lostL]
    | succ m ih =>
      intro h
      have := ih (by omega)
      rw [lostL_next, List.sum_append]
      have e : (1 <<< m) = 2 ^ m := by rw [Nat.one_shiftLeft]
      have e2 : 2 ^ (m + 1) = 2 ^ m + 2 ^ m := by rw [Nat.pow_succ]; omega
      split
      · simp only [List.sum_cons, List.sum_nil]; omega
      · simp only [List.sum_nil]; omega
  exact key 7 (Nat.le_refl _)
noncomputable def c9I (X : Cx) (it acc ns cn rg N e1 Wo eWo : Nat) (xs ws : NN) (i n k : Nat) (T : LG) : Prop := ∃ (org : Option Value) (as : NN) (ea : Nat), as.length = i ∧ as.map (·.1) = (ws.take i).map (fun (p : Nat × Nat) => lostOf (xs.map (·.1)) p.1) ∧
  T = [(rg, cel org), (cn, cel (some (.ref N))), (N, lst (ivs xs) e1), (acc, lst (ivs as) ea), (ns, dct [] 0), (it, lit Wo i), (Wo, lst (ivs ws) eWo)]
theorem c9_turn (hk : KtOk X (kt X)) {it acc ns L cn rg N e1 Wo eWo i : Nat} {xs ws : NN} (hx : xs.length = 7) (hw : ws.length < 900) (hi : i < ws.length) : Turn X 140 (c9C it acc ns L cn rg) (c9I X it acc ns cn rg N e1 Wo eWo xs ws i) (c9I X it acc ns cn rg N e1 Wo eWo xs ws (i + 1)) := by
  rintro n k T ⟨org, as, ea, hl, hs, rfl⟩ A s F R hA H q
  obtain ⟨⟨v, w⟩, g⟩ := get_some (l := ws) hi
  refine startC (paused (c9a_e ..) hk hA (.cons (c_nextI g) .nil) H fun s1 A1 hA1 H1 => ?_)
  refine c10_does hk (n + 1) (n + 2) ns (n + 3) L cn rg v w N e1 _ _ xs hx (hA1.mono (by decide)) (F := [(acc, lst (ivs as) ea), (ns, dct [] 0), (it, lit Wo (i + 1)), (Wo, lst (ivs ws) eWo)] ++ F) H1 ?_
  rintro n1 k1 kn a1 a2 vs ea1 hvs s2 H2
  refine paused (c9b_e ..) hk hA .nil H2 fun s3 A3 hA3 H3 => ?_
  have hsum : (vs.map (·.1)).sum = lostOf (xs.map (·.1)) v := by rw [hvs]; rfl
  have hlt := lost_lt (xs.map (·.1)) v
  refine sum_does hk (n + 2) ea1 _ _ vs (by omega) (hA3.mono (by decide)) (F := [(rg, cel (some (iv v w))), (cn, cel (some (.ref N))), (N, lst (ivs xs) e1), (acc, lst (ivs as) ea), (ns, dct [] 0), (it, lit Wo (i + 1)), (Wo, lst (ivs ws) eWo)] ++ F) H3 ?_
  rintro n2 k2 t s4 H4
  refine ranAgain (c9c_e ..) (quiet_c9 ..) hk hA (.cons (c_appI (by omega)) .nil) H4 fun s5 H5 => ?_
  refine q _ _ _ _ ⟨some (iv v w), as ++ [((vs.map (·.1)).sum, t)], _, by simp [hl], ?_, rfl⟩ H5
  rw [List.map_append, hs, take_next g, List.map_append]
  show _ ++ [(vs.map (·.1)).sum] = _ ++ [lostOf (xs.map (·.1)) v]
  rw [hsum]
theorem c9_does (hk : KtOk X (kt X)) (it acc ns L cn rg N e1 Wo eWo n k : Nat) (xs ws : NN) (org : Option Value) (hx : xs.length = 7) (hw : ws.length < 900) : DoesK X 140 (.compStart c9 0 (.ref it) (.ref acc) (c9Env ns L cn rg)) n k [(rg, cel org), (cn, cel (some (.ref N))), (N, lst (ivs xs) e1), (acc, lst [] 0), (ns, dct [] 0), (it, lit Wo 0), (Wo, lst (ivs ws) eWo)]
    (fun K => ∀ n' k' (org : Option Value) (as : NN) (ea : Nat), as.map (·.1) = ws.map (fun (p : Nat × Nat) => lostOf (xs.map (·.1)) p.1) → K (.ok .next) n' k' ([(rg, cel org), (cn, cel (some (.ref N))), (N, lst (ivs xs) e1), (acc, lst (ivs as) ea), (ns, dct [] 0), (Wo, lst (ivs ws) eWo)])) := by
  intro A s F R hA H qk
  refine comp_start_l ⟨_, _, _, _, _, _, _, rfl⟩ (H.own (it, lit Wo 0) (by simp)) ?_
  refine loopK (c := c9C it acc ns L cn rg) (N := ws.length) (I := c9I X it acc ns cn rg N e1 Wo eWo xs ws) (fun i hi => c9_turn hk hx hw hi) ?_ ws.length 0 rfl n k _ ⟨org, [], 0, rfl, rfl, rfl⟩ A s hA H
  rintro n k T ⟨org, as, ea, hl, hs, rfl⟩ A s hA H
  rw [List.take_length] at hs
  refine startC (ran (c9e_e ..) hk hA (.cons (c_endI (Nat.le_refl _)) .nil) H fun s' H' => ?_)
  exact qk _ _ _ _ _ hs _ H'
end
end
section
noncomputable def wonOf (bs : List (List Nat)) (ls : List Nat) : List Nat := (List.range 7).map (wonAt bs ls)
noncomputable def clockP (near : List Nat) (bs : List (List Nat)) : Nat → List Nat → List (List Nat) → List (List Nat)
  | 0, _, tabs => tabs
  | m + 1, ls, tabs => if wonOf bs ls = tabs.getLastD [] then tabs else if 127 ∈ wonOf bs ls then tabs ++ [wonOf bs ls] else clockP near bs m ((wonOf bs ls).map (lostOf near)) (tabs ++ [wonOf bs ls])
noncomputable def ClockOk (near : List Nat) (bs : List (List Nat)) : Nat → List Nat → List (List Nat) → Prop
  | 0, _, _ => False
  | m + 1, ls, tabs => wonOf bs ls = tabs.getLastD [] ∨ 127 ∈ wonOf bs ls ∨ ClockOk near bs m ((wonOf bs ls).map (lostOf near)) (tabs ++ [wonOf bs ls])
section
variable {X : Cx}
theorem quiet_clock (L cn : Addr) : (clockLoop L cn).quiet = true := by unfold clockLoop; rfl
theorem clockT_eq : ∃ k p, whT (nx clockB 3) = .Constant (.bool true) k p := ⟨_, _, rfl⟩
theorem clock_test {L cn : Addr} {A : Around} {s : Shared} {Q : Bool → Shared → Prop} {E : Value → Shared → Prop} {c : Code} (h : Q true s) : wpAt (model pw X.w) A c (PySem.isTrue (whT (nx clockB 3)) (clockEnv L cn) (eval (whT (nx clockB 3)) (clockEnv L cn))) Q E s := by
  obtain ⟨k, p, e⟩ := clockT_eq
  rw [e]
  exact wpAt_of_wpAny (wpAny_isTrue_value (wpAny_Constant_bool (wpAny_truthy_bool h)))
theorem clockW_eq : clockW = clockW.take 2 ++ (nx clockW 2 :: clockW.drop 3) := by kernel_rfl
theorem w2_eq : ∃ p1 p3, nx clockW 2 = .If (.Compare (cmpL (ifT (nx clockW 2))) [.Eq] [cmpR (ifT (nx clockW 2))] p1) (ifB (nx clockW 2)) [] p3 := ⟨_, _, rfl⟩
theorem w2_in : behindInMarks .Eq (cmpR (ifT (nx clockW 2))) = false := by kernel_rfl
noncomputable def cfr0 (X : Cx) (kt1 Bs kt2 Lo kt3 Ta : Nat) : Obj := frm [en X "beside" kt1 (.ref Bs), en X "lost" kt2 (.ref Lo), en X "tables" kt3 (.ref Ta)] 3
theorem clock_tail (hk : KtOk X (kt X)) {L cn N e1 eBs eLo eT kt1 Bs kt2 Lo kt3 Ta kt4 Wo eWo n k Tl eTl : Nat} {v : KV} {xs ls ws tl : NN} {bs : List LO} {tsA : List Nat} {A : Around} {s : Shared} {F : LG} {R : Result → Shared → Prop} (hA : Fine 280 A) (hx : xs.length = 7) (hwl : ws.length = 7) (htl : tsA[tsA.length - 1]? = some Tl) (hts : tsA.length < 900)
    (H0 : Rep X n k ([(L, kfm X kt1 Bs kt2 Lo kt3 Ta kt4 Wo (some v)), (Ta, lst (rfs tsA) eT), (Wo, lst (ivs ws) eWo), (cn, cel (some (.ref N))), (N, lst (ivs xs) e1), (Bs, lst (rfs (bs.map LO.a)) eBs), (Lo, lst (ivs ls) eLo)] ++ (bs.map LO.o ++ F)) s)
    (hT : (Tl, lst (ivs tl) eTl) ∈ ([(L, kfm X kt1 Bs kt2 Lo kt3 Ta kt4 Wo (some v)), (Ta, lst (rfs tsA) eT), (Wo, lst (ivs ws) eWo), (cn, cel (some (.ref N))), (N, lst (ivs xs) e1), (Bs, lst (rfs (bs.map LO.a)) eBs), (Lo, lst (ivs ls) eLo)] ++ (bs.map LO.o ++ F)))
    (q1 : ws.map (·.1) = tl.map (·.1) → ∀ n' k' s', Rep X n' k' ([(Ta, lst (rfs tsA) eT), (N, lst (ivs xs) e1), (Lo, lst (ivs ls) eLo)] ++ F) s' → R (.ok (.ret (.ref Ta))) s')
    (q2 : ws.map (·.1) ≠ tl.map (·.1) → 127 ∈ ws.map (·.1) → ∀ n' k' s' eT, Rep X n' k' ([(Ta, lst (rfs (tsA ++ [Wo])) eT), (N, lst (ivs xs) e1), (Lo, lst (ivs ls) eLo), (Wo, lst (ivs ws) eWo)] ++ F) s' → R (.ok (.ret (.ref Ta))) s')
    (q3 : ws.map (·.1) ≠ tl.map (·.1) → 127 ∉ ws.map (·.1) → ∀ n' k' s' eT Lo' eLo' (as : NN), as.map (·.1) = (ws.map (·.1)).map (lostOf (xs.map (·.1))) →
      Rep X n' k' ([(L, kfm X kt1 Bs kt2 Lo' kt3 Ta kt4 Wo (some v)), (cn, cel (some (.ref N))), (N, lst (ivs xs) e1), (Bs, lst (rfs (bs.map LO.a)) eBs), (Lo', lst (ivs as) eLo'), (Ta, lst (rfs (tsA ++ [Wo])) eT)] ++ (bs.map LO.o ++ ([(Lo, lst (ivs ls) eLo), (Wo, lst (ivs ws) eWo)] ++ F))) s' → codeAny (model pw X.w) A (clockLoop L cn) R s') :
    wpAt (model pw X.w) (A.under (clockLoop L cn)) (clockLoop L cn) (execs (nx clockW 2 :: clockW.drop 3) (clockEnv L cn))
      (fun f s' => match f with | .next | .cont => codeAny (model pw X.w) A (clockLoop L cn) R s' | .brk => R (.ok .next) s' | .ret v => R (.ok (.ret v)) s') (fun _ _ => False) s := by
  obtain ⟨p1, p3, e6⟩ := w2_eq
  obtain ⟨kt5, v5, t5, kt6, v6, t6, kt7, v7, t7⟩ := v
  refine ks_wpAt_execs_cons ?_
  rw [e6]
  refine ks_wpAt_If (at_isTrue_Compare1 ?_ w2_in)
  rw [evalT_eq]
  refine pieceV (.ref Wo) (ran (w2l_e ..) hk hA .nil H0 fun s1 H1 => ⟨rfl, ?_⟩)
  refine pieceV (.ref Tl) (ran (w2r_e ..) hk hA (.cons (c_lastR htl) .nil) H1 fun s2 H2 => ⟨rfl, ?_⟩)
  refine eq_ints (H2.own (Wo, lst (ivs ws) eWo) (by simp)) (H2.own (Tl, lst (ivs tl) eTl) hT) (hA.units _) ?_
  by_cases he : ws.map (·.1) = tl.map (·.1)
  · rw [decide_eq_true he, if_pos rfl, execsT_eq]
    refine pieceF (.ret (.ref Ta)) (ran (w2t_e ..) hk hA .nil H2 fun s3 H3 => ⟨rfl, ?_⟩)
    exact q1 he _ _ _ (H3.sub (List.Sublist.append_left (List.sublist_append_right _ _) [_, _, _]))
  · rw [decide_eq_false he, if_neg (by simp)]
    refine wpAt_of_wpAny (wpAny_execs_nil ?_)
    show wpAt _ _ _ (execs (clockW.drop 3) (clockEnv L cn)) _ _ _
    rw [execsT_eq]
    by_cases h127 : 127 ∈ ws.map (·.1)
    · refine pieceF (.ret (.ref Ta)) (ran (w3_e ..) hk hA (.cons (c_in (decide_eq_true h127)) (.cons (c_appR (by omega)) .nil)) H2 fun s3 H3 => ⟨rfl, ?_⟩)
      exact q2 he h127 _ _ _ _ (H3.sub (List.Sublist.append_left (List.sublist_append_right _ _) [_, _, _, _]))
    · refine pieceF .next ?_
      refine paused (w4_e ..) hk hA (.cons (c_in (decide_eq_false h127)) (.cons (c_appR (by omega)) .nil)) H2 fun s3 A3 hA3 H3 => ?_
      refine c9_does hk _ _ _ L cn _ N e1 Wo eWo _ _ xs ws none hx (by omega) (hA3.mono (by decide)) (F := [(L, kfm X kt1 Bs kt2 Lo kt3 Ta kt4 Wo (some ⟨kt5, v5, t5, kt6, v6, t6, kt7, v7, t7⟩)), (Ta, lst (rfs (tsA ++ [Wo])) (eT + 1)), (Bs, lst (rfs (bs.map LO.a)) eBs), (Lo, lst (ivs ls) eLo)] ++ (bs.map LO.o ++ F)) H3 ?_
      rintro n4 k4 org as ea has s4 H4
      refine ran (w5_e ..) hk hA .nil H4 fun s5 H5 => ⟨rfl, ?_⟩
      exact q3 he h127 _ _ _ _ _ _ as (by rw [has, List.map_map]; rfl) (Rep.rot (A := [_, _, _, _, _, _]) (B := [_, _]) H5)
theorem clock_part_0 (hk : KtOk X (kt X)) {L cn N e1 eBs eLo eT kt1 Bs kt2 Lo kt3 Ta n k : Nat} {xs ls : NN} {bs : List LO} {tsA : List Nat} {A : Around} {s : Shared} {F : LG} {Q : Flow → Shared → Prop} {E : Value → Shared → Prop} (hA : Fine 280 A) (hls : ls.length = 7) (hbs : bs.length = 7) (hb : ∀ p ∈ bs, 0 < p.vs.length ∧ ∀ v ∈ p.vs, v.1 < 7)
    (H0 : Rep X n k ([(L, cfr0 X kt1 Bs kt2 Lo kt3 Ta), (cn, cel (some (.ref N))), (N, lst (ivs xs) e1), (Bs, lst (rfs (bs.map LO.a)) eBs), (Lo, lst (ivs ls) eLo), (Ta, lst (rfs tsA) eT)] ++ (bs.map LO.o ++ F)) s)
    (q : ∀ n' k' s' kt4 Wo eWo v (ws : NN), ws.map (·.1) = wonOf (bs.map LO.v) (ls.map (·.1)) → Rep X n' k' ([(L, kfm X kt1 Bs kt2 Lo kt3 Ta kt4 Wo (some v)), (Ta, lst (rfs tsA) eT), (Wo, lst (ivs ws) eWo), (cn, cel (some (.ref N))), (N, lst (ivs xs) e1), (Bs, lst (rfs (bs.map LO.a)) eBs), (Lo, lst (ivs ls) eLo)] ++ (bs.map LO.o ++ F)) s' → Q .next s') :
    wpAt (model pw X.w) (A.under (clockLoop L cn)) (clockLoop L cn) (execs (clockW.take 2) (clockEnv L cn)) Q E s := by
  rw [execsT_eq]
  refine pieceF .next ?_
  refine paused (w0a_e ..) hk hA .nil H0 fun s1 A1 hA1 H1 => ?_
  refine k_does hk (n + 2) L cn kt1 Bs kt2 Lo kt3 Ta k n eBs eLo _ _ bs ls none hls hbs hb hA1 ((Rep.rot (A := [_, _, _, _, _]) (B := [_, _, _]) H1).cast (List.append_assoc ..).symm) ?_
  rintro n2 k2 ⟨y1, y2, y3, y4, y5, y6, y7, y8, y9⟩ ws eWo hws s2 H2
  rw [List.append_assoc] at H2
  refine ran (w0b_e ..) hk hA .nil (Rep.rot (A := [_, _, _, _]) (C := [_, _, _]) H2) fun s3 H3 => ⟨rfl, ?_⟩
  exact q _ _ s3 _ n eWo ⟨y1, y2, y3, y4, y5, y6, y7, y8, y9⟩ ws hws H3
theorem clock_turn_0 (hk : KtOk X (kt X)) {L cn N e1 eBs eLo eT kt1 Bs kt2 Lo kt3 Ta n k Tl eTl : Nat} {xs ls tl : NN} {bs : List LO} {tsA : List Nat} {A : Around} {s : Shared} {F : LG} {R : Result → Shared → Prop} (hA : Fine 280 A) (hx : xs.length = 7) (hls : ls.length = 7) (hbs : bs.length = 7) (hb : ∀ p ∈ bs, 0 < p.vs.length ∧ ∀ v ∈ p.vs, v.1 < 7) (htl : tsA[tsA.length - 1]? = some Tl) (hts : tsA.length < 900)
    (H0 : Rep X n k ([(L, cfr0 X kt1 Bs kt2 Lo kt3 Ta), (cn, cel (some (.ref N))), (N, lst (ivs xs) e1), (Bs, lst (rfs (bs.map LO.a)) eBs), (Lo, lst (ivs ls) eLo), (Ta, lst (rfs tsA) eT)] ++ (bs.map LO.o ++ F)) s)
    (hT : (Tl, lst (ivs tl) eTl) ∈ (Lo, lst (ivs ls) eLo) :: F)
    (q1 : wonOf (bs.map LO.v) (ls.map (·.1)) = tl.map (·.1) → ∀ n' k' s', Rep X n' k' ([(Ta, lst (rfs tsA) eT), (N, lst (ivs xs) e1), (Lo, lst (ivs ls) eLo)] ++ F) s' → R (.ok (.ret (.ref Ta))) s')
    (q2 : wonOf (bs.map LO.v) (ls.map (·.1)) ≠ tl.map (·.1) → 127 ∈ wonOf (bs.map LO.v) (ls.map (·.1)) → ∀ n' k' s' eT Wo eWo (ws : NN), ws.map (·.1) = wonOf (bs.map LO.v) (ls.map (·.1)) → Rep X n' k' ([(Ta, lst (rfs (tsA ++ [Wo])) eT), (N, lst (ivs xs) e1), (Lo, lst (ivs ls) eLo), (Wo, lst (ivs ws) eWo)] ++ F) s' → R (.ok (.ret (.ref Ta))) s')
    (q3 : wonOf (bs.map LO.v) (ls.map (·.1)) ≠ tl.map (·.1) → 127 ∉ wonOf (bs.map LO.v) (ls.map (·.1)) → ∀ n' k' s' eT kt4 Wo eWo v Lo' eLo' (ws as : NN), ws.map (·.1) = wonOf (bs.map LO.v) (ls.map (·.1)) → as.map (·.1) = (wonOf (bs.map LO.v) (ls.map (·.1))).map (lostOf (xs.map (·.1))) →
      Rep X n' k' ([(L, kfm X kt1 Bs kt2 Lo' kt3 Ta kt4 Wo (some v)), (cn, cel (some (.ref N))), (N, lst (ivs xs) e1), (Bs, lst (rfs (bs.map LO.a)) eBs), (Lo', lst (ivs as) eLo'), (Ta, lst (rfs (tsA ++ [Wo])) eT)] ++ (bs.map LO.o ++ ([(Lo, lst (ivs ls) eLo), (Wo, lst (ivs ws) eWo)] ++ F))) s' → codeAny (model pw X.w) A (clockLoop L cn) R s') :
    codeAny (model pw X.w) A (clockLoop L cn) R s := by
  refine while_at (quiet_clock ..) (clock_test ⟨rfl, ?_⟩)
  show wpAt (model pw X.w) (A.under (clockLoop L cn)) (clockLoop L cn) (execs clockW (clockEnv L cn)) _ _ s
  rw [clockW_eq]
  refine at_execs_app ?_
  refine clock_part_0 hk hA hls hbs hb H0 ?_
  intro n3 k3 s3 kt4' Wo eWo v ws hws H3
  have hwl : ws.length = 7 := by
    have := congrArg List.length hws
    simpa [wonOf] using this
  refine clock_tail (tl := tl) (eTl := eTl) hk hA hx hwl htl hts H3 ?_ ?_ ?_ ?_
  · rcases List.mem_cons.mp hT with z | z
    · rw [z]; simp
    · exact List.mem_append_right _ (List.mem_append_right _ z)
  · intro e; exact q1 (hws ▸ e)
  · intro e h n' k' s' eT' Ha; exact q2 (hws ▸ e) (hws ▸ h) n' k' s' eT' Wo eWo ws hws Ha
  · intro e h n' k' s' eT' Lo' eLo' as h1 Ha; exact q3 (hws ▸ e) (hws ▸ h) n' k' s' eT' _ Wo eWo _ Lo' eLo' ws as hws (by rw [h1, hws]) Ha
theorem clock_part_1 (hk : KtOk X (kt X)) {L cn N e1 eBs eLo eT kt1 Bs kt2 Lo kt3 Ta kt4 Wo0 n k : Nat} {v0 : KV} {xs ls : NN} {bs : List LO} {tsA : List Nat} {A : Around} {s : Shared} {F : LG} {Q : Flow → Shared → Prop} {E : Value → Shared → Prop} (hA : Fine 280 A) (hls : ls.length = 7) (hbs : bs.length = 7) (hb : ∀ p ∈ bs, 0 < p.vs.length ∧ ∀ v ∈ p.vs, v.1 < 7)
    (H0 : Rep X n k ([(L, kfm X kt1 Bs kt2 Lo kt3 Ta kt4 Wo0 (some v0)), (cn, cel (some (.ref N))), (N, lst (ivs xs) e1), (Bs, lst (rfs (bs.map LO.a)) eBs), (Lo, lst (ivs ls) eLo), (Ta, lst (rfs tsA) eT)] ++ (bs.map LO.o ++ F)) s)
    (q : ∀ n' k' s' kt4 Wo eWo v (ws : NN), ws.map (·.1) = wonOf (bs.map LO.v) (ls.map (·.1)) → Rep X n' k' ([(L, kfm X kt1 Bs kt2 Lo kt3 Ta kt4 Wo (some v)), (Ta, lst (rfs tsA) eT), (Wo, lst (ivs ws) eWo), (cn, cel (some (.ref N))), (N, lst (ivs xs) e1), (Bs, lst (rfs (bs.map LO.a)) eBs), (Lo, lst (ivs ls) eLo)] ++ (bs.map LO.o ++ F)) s' → Q .next s') :
    wpAt (model pw X.w) (A.under (clockLoop L cn)) (clockLoop L cn) (execs (clockW.take 2) (clockEnv L cn)) Q E s := by
  obtain ⟨x1, x2, x3, x4, x5, x6, x7, x8, x9⟩ := v0
  rw [execsT_eq]
  refine pieceF .next ?_
  refine paused (w1a_e ..) hk hA .nil H0 fun s1 A1 hA1 H1 => ?_
  refine k_does hk (n + 2) L cn kt1 Bs kt2 Lo kt3 Ta kt4 n eBs eLo _ _ bs ls (some ⟨x1, x2, x3, x4, x5, x6, x7, x8, x9⟩) hls hbs hb hA1 ((Rep.rot (A := [_, _, _, _, _]) (B := [_, _, _]) H1).cast (List.append_assoc ..).symm) ?_
  rintro n2 k2 ⟨y1, y2, y3, y4, y5, y6, y7, y8, y9⟩ ws eWo hws s2 H2
  rw [List.append_assoc] at H2
  refine ran (w1b_e ..) hk hA .nil (Rep.rot (A := [_, _, _, _]) (C := [_, _, _]) H2) fun s3 H3 => ⟨rfl, ?_⟩
  exact q _ _ s3 _ n eWo ⟨y1, y2, y3, y4, y5, y6, y7, y8, y9⟩ ws hws H3
theorem clock_turn_1 (hk : KtOk X (kt X)) {L cn N e1 eBs eLo eT kt1 Bs kt2 Lo kt3 Ta kt4 Wo0 n k Tl eTl : Nat} {v0 : KV} {xs ls tl : NN} {bs : List LO} {tsA : List Nat} {A : Around} {s : Shared} {F : LG} {R : Result → Shared → Prop} (hA : Fine 280 A) (hx : xs.length = 7) (hls : ls.length = 7) (hbs : bs.length = 7) (hb : ∀ p ∈ bs, 0 < p.vs.length ∧ ∀ v ∈ p.vs, v.1 < 7) (htl : tsA[tsA.length - 1]? = some Tl) (hts : tsA.length < 900)
    (H0 : Rep X n k ([(L, kfm X kt1 Bs kt2 Lo kt3 Ta kt4 Wo0 (some v0)), (cn, cel (some (.ref N))), (N, lst (ivs xs) e1), (Bs, lst (rfs (bs.map LO.a)) eBs), (Lo, lst (ivs ls) eLo), (Ta, lst (rfs tsA) eT)] ++ (bs.map LO.o ++ F)) s)
    (hT : (Tl, lst (ivs tl) eTl) ∈ (Lo, lst (ivs ls) eLo) :: F)
    (q1 : wonOf (bs.map LO.v) (ls.map (·.1)) = tl.map (·.1) → ∀ n' k' s', Rep X n' k' ([(Ta, lst (rfs tsA) eT), (N, lst (ivs xs) e1), (Lo, lst (ivs ls) eLo)] ++ F) s' → R (.ok (.ret (.ref Ta))) s')
    (q2 : wonOf (bs.map LO.v) (ls.map (·.1)) ≠ tl.map (·.1) → 127 ∈ wonOf (bs.map LO.v) (ls.map (·.1)) → ∀ n' k' s' eT Wo eWo (ws : NN), ws.map (·.1) = wonOf (bs.map LO.v) (ls.map (·.1)) → Rep X n' k' ([(Ta, lst (rfs (tsA ++ [Wo])) eT), (N, lst (ivs xs) e1), (Lo, lst (ivs ls) eLo), (Wo, lst (ivs ws) eWo)] ++ F) s' → R (.ok (.ret (.ref Ta))) s')
    (q3 : wonOf (bs.map LO.v) (ls.map (·.1)) ≠ tl.map (·.1) → 127 ∉ wonOf (bs.map LO.v) (ls.map (·.1)) → ∀ n' k' s' eT kt4 Wo eWo v Lo' eLo' (ws as : NN), ws.map (·.1) = wonOf (bs.map LO.v) (ls.map (·.1)) → as.map (·.1) = (wonOf (bs.map LO.v) (ls.map (·.1))).map (lostOf (xs.map (·.1))) →
      Rep X n' k' ([(L, kfm X kt1 Bs kt2 Lo' kt3 Ta kt4 Wo (some v)), (cn, cel (some (.ref N))), (N, lst (ivs xs) e1), (Bs, lst (rfs (bs.map LO.a)) eBs), (Lo', lst (ivs as) eLo'), (Ta, lst (rfs (tsA ++ [Wo])) eT)] ++ (bs.map LO.o ++ ([(Lo, lst (ivs ls) eLo), (Wo, lst (ivs ws) eWo)] ++ F))) s' → codeAny (model pw X.w) A (clockLoop L cn) R s') :
    codeAny (model pw X.w) A (clockLoop L cn) R s := by
  refine while_at (quiet_clock ..) (clock_test ⟨rfl, ?_⟩)
  show wpAt (model pw X.w) (A.under (clockLoop L cn)) (clockLoop L cn) (execs clockW (clockEnv L cn)) _ _ s
  rw [clockW_eq]
  refine at_execs_app ?_
  refine clock_part_1 hk hA hls hbs hb H0 ?_
  intro n3 k3 s3 kt4' Wo eWo v ws hws H3
  have hwl : ws.length = 7 := by
    have := congrArg List.length hws
    simpa [wonOf] using this
  refine clock_tail (tl := tl) (eTl := eTl) hk hA hx hwl htl hts H3 ?_ ?_ ?_ ?_
  · rcases List.mem_cons.mp hT with z | z
    · rw [z]; simp
    · exact List.mem_append_right _ (List.mem_append_right _ z)
  · intro e; exact q1 (hws ▸ e)
  · intro e h n' k' s' eT' Ha; exact q2 (hws ▸ e) (hws ▸ h) n' k' s' eT' Wo eWo ws hws Ha
  · intro e h n' k' s' eT' Lo' eLo' as h1 Ha; exact q3 (hws ▸ e) (hws ▸ h) n' k' s' eT' _ Wo eWo _ Lo' eLo' ws as hws (by rw [h1, hws]) Ha
theorem lo_one (ts : List LO) (p : LO) (F : LG) : (ts ++ [p]).map LO.o ++ F = ts.map LO.o ++ (p.o :: F) := by simp
theorem clock_turns (hk : KtOk X (kt X)) {L cn N e1 eBs kt1 Bs kt2 kt3 Ta : Nat} {xs : NN} {bs : List LO} {A : Around} {F : LG} {R : Result → Shared → Prop} (hA : Fine 280 A) (hx : xs.length = 7) (hbs : bs.length = 7) (hb : ∀ p ∈ bs, 0 < p.vs.length ∧ ∀ v ∈ p.vs, v.1 < 7) : ∀ (m : Nat) {eLo eT Lo kt4 Wo0 n k : Nat} {v0 : KV} {ls : NN} {ts : List LO} {s : Shared}, ClockOk (xs.map (·.1)) (bs.map LO.v) m (ls.map (·.1)) (ts.map LO.v) → ts ≠ [] → ts.length + m < 800 → ls.length = 7 →
    Rep X n k ([(L, kfm X kt1 Bs kt2 Lo kt3 Ta kt4 Wo0 (some v0)), (cn, cel (some (.ref N))), (N, lst (ivs xs) e1), (Bs, lst (rfs (bs.map LO.a)) eBs), (Lo, lst (ivs ls) eLo), (Ta, lst (rfs (ts.map LO.a)) eT)] ++ (bs.map LO.o ++ (ts.map LO.o ++ F))) s →
    (∀ n' k' s' (ts' : List LO) eT, ts'.map LO.v = clockP (xs.map (·.1)) (bs.map LO.v) m (ls.map (·.1)) (ts.map LO.v) → Rep X n' k' ([(Ta, lst (rfs (ts'.map LO.a)) eT), (N, lst (ivs xs) e1)] ++ (ts'.map LO.o ++ F)) s' → R (.ok (.ret (.ref Ta))) s') →
    codeAny (model pw X.w) A (clockLoop L cn) R s := by
  intro m
  induction m with
  | zero => intro eLo eT Lo kt4 Wo0 n k v0 ls ts s h; exact h.elim
  | succ m ih =>
    intro eLo eT Lo kt4 Wo0 n k v0 ls ts s ho hne hl hls H0 qf
    obtain ⟨ti, p, rfl⟩ : ∃ ti p, ts = ti ++ [p] := ⟨ts.dropLast, ts.getLast hne, (List.dropLast_concat_getLast hne).symm⟩
    have hlast : ((ti ++ [p]).map LO.v).getLastD [] = p.vs.map (·.1) := by rw [List.map_append, List.map_singleton, List.getLastD_concat]; rfl
    have hta : ((ti ++ [p]).map LO.a)[((ti ++ [p]).map LO.a).length - 1]? = some p.a := by simp
    have hT : (p.a, lst (ivs p.vs) p.e) ∈ (Lo, lst (ivs ls) eLo) :: ((ti ++ [p]).map LO.o ++ F) := by
      refine List.mem_cons_of_mem _ (List.mem_append_left _ ?_)
      rw [List.map_append]
      exact List.mem_append_right _ (List.mem_singleton.mpr rfl)
    refine clock_turn_1 (tl := p.vs) (eTl := p.e) hk hA hx hls hbs hb hta (by simp at hl ⊢; omega) H0 hT (fun e n' k' s' Ha => ?_) (fun e h n' k' s' eT' Wo eWo ws hws Ha => ?_) (fun e h n' k' s' eT' kt4' Wo eWo v Lo' eLo' ws as hws has Ha => ?_)
    · refine qf _ _ _ (ti ++ [p]) eT ?_ (Ha.sub (List.Sublist.append_right (List.sublist_append_left [_, _] [_]) _))
      unfold clockP; rw [hlast, if_pos e]
    · refine qf n' k' s' (ti ++ [p] ++ [⟨Wo, eWo, ws⟩]) eT' ?_ ?_
      · unfold clockP; rw [hlast, if_neg e, if_pos h, List.map_append (l₁ := ti ++ [p]), ← hws]; rfl
      · rw [lo_one, List.map_append (f := LO.a) (l₁ := ti ++ [p])]
        have H4 := Ha.sub (T' := [(Ta, lst (rfs ((ti ++ [p]).map LO.a ++ [Wo])) eT'), (N, lst (ivs xs) e1)] ++ ([(Wo, lst (ivs ws) eWo)] ++ ((ti ++ [p]).map LO.o ++ F))) (List.Sublist.cons₂ _ (List.Sublist.cons₂ _ (List.sublist_cons_self _ _)))
        exact Rep.rot H4
    · have hwl : as.length = 7 := by
        have := congrArg List.length has
        simpa [wonOf] using this
      refine ih (ts := ti ++ [p] ++ [⟨Wo, eWo, ws⟩]) (ls := as) (eLo := eLo') (eT := eT') (n := n') (k := k') (v0 := v) (Lo := Lo') (kt4 := kt4') (Wo0 := Wo) (s := s') ?_ (by simp) (by simp at hl ⊢; omega) hwl ?_ ?_
      · have h2 := (ho.resolve_left (by rw [hlast]; exact e)).resolve_left h
        rw [has, List.map_append (f := LO.v) (l₁ := ti ++ [p])]
        rw [← hws] at h2
        rw [← hws]
        exact h2
      · rw [lo_one, List.map_append (f := LO.a) (l₁ := ti ++ [p])]
        have H4 := Ha.sub (T' := [(L, kfm X kt1 Bs kt2 Lo' kt3 Ta kt4' Wo (some v)), (cn, cel (some (.ref N))), (N, lst (ivs xs) e1), (Bs, lst (rfs (bs.map LO.a)) eBs), (Lo', lst (ivs as) eLo'), (Ta, lst (rfs ((ti ++ [p]).map LO.a ++ [Wo])) eT')] ++ (bs.map LO.o ++ ([(Wo, lst (ivs ws) eWo)] ++ ((ti ++ [p]).map LO.o ++ F)))) (List.Sublist.append_left (List.Sublist.append_left (List.sublist_cons_self _ _) _) _)
        rw [← List.append_assoc] at H4
        exact (Rep.rot H4).cast (by rw [List.append_assoc]; rfl)
      · intro n2 k2 s2 ts' eT2 h2 H2
        refine qf n2 k2 s2 ts' eT2 ?_ H2
        rw [h2]
        conv => rhs; unfold clockP
        rw [hlast, if_neg e, if_neg h, has, List.map_append (f := LO.v) (l₁ := ti ++ [p]), ← hws]
        rfl
theorem bits_ltC {x i : Nat} (h : i ∈ bits x) : i < 7 := by
  unfold bits at h
  exact List.mem_range.mp (List.mem_filter.mp h).1
theorem clock_does (hk : KtOk X (kt X)) {N e1 n k m : Nat} {xs : NN} (hx : xs.length = 7) (hm : m < 700) (hb : ∀ x ∈ xs, bits x.1 ≠ []) (ho : ClockOk (xs.map (·.1)) (xs.map (fun p => bits p.1)) (m + 1) [1, 2, 4, 8, 16, 32, 64] [[1, 2, 4, 8, 16, 32, 64]]) :
    DoesK X 350 (.call (.ref 208) ⟨[.ref N], []⟩) n k [(N, lst (ivs xs) e1)]
      (fun K => ∀ n' k' (Ta eT : Nat) (ts : List LO), ts.map LO.v = clockP (xs.map (·.1)) (xs.map (fun p => bits p.1)) (m + 1) [1, 2, 4, 8, 16, 32, 64] [[1, 2, 4, 8, 16, 32, 64]] → K (.ok (.ret (.ref Ta))) n' k' ([(Ta, lst (rfs (ts.map LO.a)) eT), (N, lst (ivs xs) e1)] ++ ts.map LO.o)) := by
  intro A s F R hA H0 qk
  refine startC (paused (ck1_e ..) hk hA .nil H0 fun s1 A1 hA1 H1 => ?_)
  refine c7_does hk (n + 2) (n + 3) (n + 4) n (n + 1) (n + 5) N e1 _ _ xs none (by omega) (hA1.mono (by decide)) (F := [(n, frm [] 0), (n + 1, cel (some (.ref N)))] ++ F) H1 ?_
  rintro n1 k1 osg bs ea h7 hv s2 H2
  have hbl : bs.length = 7 := by
    have := congrArg List.length hv
    simpa [hx] using this
  have hbb : ∀ p ∈ bs, 0 < p.vs.length ∧ ∀ v ∈ p.vs, v.1 < 7 := by
    intro p hp
    have h1 : p.v ∈ xs.map (fun p => bits p.1) := hv ▸ List.mem_map_of_mem hp
    obtain ⟨x, hx1, hx2⟩ := List.mem_map.mp h1
    refine ⟨?_, fun v hv => bits_ltC (x := x.1) ?_⟩
    · refine List.length_pos_iff.mpr fun e => hb x hx1 ?_
      rw [hx2]; unfold LO.v; rw [e]; rfl
    · rw [hx2]; exact List.mem_map_of_mem hv
  rw [List.append_assoc] at H2
  refine paused (ck2_e (G1 := F) ..) hk hA .nil (T := [(n + 5, cel osg), (n + 3, lst (rfs (bs.map LO.a)) ea), (n + 4, dct [] 0), (N, lst (ivs xs) e1), (n, frm [] 0), (n + 1, cel (some (.ref N)))] ++ (bs.map LO.o ++ F)) (Rep.rot (A := [_, _, _, _]) (C := [_, _]) H2) fun s3 A3 hA3 H3 => ?_
  have hbv : bs.map LO.v = xs.map (fun p => bits p.1) := hv
  have h00 : ([(1, k1 + 1), (2, k1 + 2), (4, k1 + 3), (8, k1 + 4), (16, k1 + 5), (32, k1 + 6), (64, k1 + 7)] : NN).map (·.1) = [1, 2, 4, 8, 16, 32, 64] := rfl
  generalize hls : ([(1, k1 + 1), (2, k1 + 2), (4, k1 + 3), (8, k1 + 4), (16, k1 + 5), (32, k1 + 6), (64, k1 + 7)] : NN) = ls at h00
  have hl7 : ls.length = 7 := by rw [← hls]; rfl
  have H3' : Rep X (n1 + 2) (k1 + 10) ([(n, cfr0 X k1 (n + 3) (k1 + 8) n1 (k1 + 9) (n1 + 1)), (n + 1, cel (some (.ref N))), (N, lst (ivs xs) e1), (n + 3, lst (rfs (bs.map LO.a)) ea), (n1, lst (ivs ls) 0), (n1 + 1, lst (rfs [n1]) 0)] ++ (bs.map LO.o ++ F)) s3 := by
    subst hls; exact H3
  clear hls H3
  rw [← hbv, ← h00] at ho
  have hlast : [ls.map (·.1)].getLastD [] = ls.map (·.1) := rfl
  suffices hfin : ∀ n' k' s' (ts' : List LO) eT, ts'.map LO.v = clockP (xs.map (·.1)) (bs.map LO.v) (m + 1) (ls.map (·.1)) [ls.map (·.1)] → Rep X n' k' ([(n1 + 1, lst (rfs (ts'.map LO.a)) eT), (N, lst (ivs xs) e1)] ++ (ts'.map LO.o ++ F)) s' → Tells X A R (ck2_o X n k N e1 xs n1 k1 ea (bs.map LO.a) osg F (bs.map LO.o ++ F)).κ (ck2_o X n k N e1 xs n1 k1 ea (bs.map LO.a) osg F (bs.map LO.o ++ F)).cc ((ck2_o X n k N e1 xs n1 k1 ea (bs.map LO.a) osg F (bs.map LO.o ++ F)).next (.ok (.ret (.ref (n1 + 1))))) s' by
    have hT : (n1, lst (ivs ls) 0) ∈ (n1, lst (ivs ls) 0) :: F := List.mem_cons_self
    refine clock_turn_0 (tl := ls) (eTl := 0) hk hA3 hx hl7 hbl hbb (tsA := [n1]) rfl (by simp) H3' hT (fun e n' k' s' Ha => ?_) (fun e h n' k' s' eT' Wo eWo ws hws Ha => ?_) (fun e h n' k' s' eT' kt4' Wo eWo v Lo' eLo' ws as hws has Ha => ?_)
    · refine hfin n' k' s' [⟨n1, 0, ls⟩] 0 ?_ Ha
      unfold clockP; rw [hlast, if_pos e]; rfl
    · refine hfin n' k' s' [⟨n1, 0, ls⟩, ⟨Wo, eWo, ws⟩] eT' ?_ Ha
      unfold clockP; rw [hlast, if_neg e, if_pos h, ← hws]; rfl
    · have hwl : as.length = 7 := by
        have := congrArg List.length has
        simpa [wonOf] using this
      refine clock_turns hk hA3 hx hbl hbb m (ts := [⟨n1, 0, ls⟩, ⟨Wo, eWo, ws⟩]) (ls := as) ?_ (by simp) (by simp; omega) hwl Ha ?_
      · have h2 := (ho.resolve_left (by rw [hlast]; exact e)).resolve_left h
        rw [← hws] at h2 has
        rw [has]
        exact h2
      · intro n2 k2 s2 ts' eT2 h2 H2
        refine hfin n2 k2 s2 ts' eT2 ?_ H2
        rw [h2]
        conv => rhs; unfold clockP
        rw [hlast, if_neg e, if_neg h, has, ← hws]
        rfl
  intro n' k' s' ts' eT hts Ha
  refine ran (ck3_e (G1 := F) (G2 := bs.map LO.o ++ F) (F := [(N, lst (ivs xs) e1)] ++ (ts'.map LO.o ++ F)) ..) hk hA .nil Ha fun s5 H5 => ?_
  rw [hbv, h00] at hts
  exact qk _ _ _ eT ts' hts _ H5
end
end
noncomputable def py1_o (X : Cx) (n k N e1 Ta eT Fo Dd eF M eM cop tc pick tp kd td : Nat) (xs ms : NN) (tas fs : List Nat) (F : LG) (y1 y2 : Nat) : Out := goC X (kt X) 350 91 [.o 0, .o 0, .o 5, .o 5, .o 4, .o 4, .o 5, .o 5, .o 5, .o 5, .o 3, .o 3, .o 5, .o 5, .frame, .o 3, .o 5, .o 5, .o 2, .o 2, .o 0, .o 0, .o 0, .o 0, .o 4, .v (iv y1 (k + 7)) (k + 8) [6], .v (iv y2 (k + 9)) (k + 10) [], .e, .e, .e, .o 1, .o 1, .e, .o 1, .o 1, .o 1, .o 1, .g false (.ok (.ret (.ref (n + 6)))) (k + 13) [0] [] [fld "range_iterator" [(iv y2 0), (iv y2 0), (.int (.negSucc 0) 0)]], .o 1] (.call (.ref 220) ⟨[.ref N, .ref Ta, .ref (Fo + 228), .ref M, iv cop tc, iv pick tp], []⟩) n k ([(N, lst (ivs xs) e1), (Ta, lst (rfs tas) eT), (Fo + 228, acc Dd (rfs fs) eF), (M, lst (ivs ms) eM), (Dd, dct [en X "_initial_size" kd (iv 0 td)] 1)] ++ F)
theorem py1_e (X : Cx) (n k N e1 Ta eT Fo Dd eF M eM cop tc pick tp kd td : Nat) (xs ms : NN) (tas fs : List Nat) (F : LG) (y1 y2 : Nat) : RAC X 350 (.call (.ref 220) ⟨[.ref N, .ref Ta, .ref (Fo + 228), .ref M, iv cop tc, iv pick tp], []⟩) n k ([(N, lst (ivs xs) e1), (Ta, lst (rfs tas) eT), (Fo + 228, acc Dd (rfs fs) eF), (M, lst (ivs ms) eM), (Dd, dct [en X "_initial_size" kd (iv 0 td)] 1)] ++ F) (py1_o X n k N e1 Ta eT Fo Dd eF M eM cop tc pick tp kd td xs ms tas fs F y1 y2) [0, 6, 2, 3, 4, 5, 7, 8, 9, 10, 11] 12 true (playLoop (n+6) n (n+4) (n+3) (n+2) (n+1)) (n + 7) (k + 13) ([((n + 6), fld "range_iterator" [(iv y2 0), (iv y2 0), (.int (.negSucc 0) 0)]), (n, frm [en X "near" k (.ref N), en X "folds" (k + 1) (.ref (Fo + 228)), en X "marks" (k + 2) (.ref M), en X "pick" (k + 3) (iv pick tp), en X "robber" (k + 4) (iv cop tc)] 5), ((n + 4), cel none), ((n + 3), cel (some (iv 127 (k + 5)))), ((n + 2), cel (some (iv cop tc))), ((n + 1), cel (some (.ref Ta))), (N, lst (ivs xs) e1), (Ta, lst (rfs tas) eT), ((Fo + 228), acc Dd (rfs fs) eF), (M, lst (ivs ms) eM), (Dd, dct [en X "_initial_size" kd (iv 0 td)] 1)] ++ F) [CutG X 350 false (bi "range.__iter__" [(.ref (n + 5))]) (.ok (.ret (.ref (n + 6)))) [((n + 5), fld "range" [(iv y2 (k + 9)), (iv 0 (k + 10)), (.int (.negSucc 0) (k + 12))])] (n + 6) (k + 13) (k + 13) [] [fld "range_iterator" [(iv y2 0), (iv y2 0), (.int (.negSucc 0) 0)]], CutB X (bi "int.__sub__" [(iv y1 (k + 7)), (iv 1 (k + 8))]) (iv y2 (k + 9)) [] (k + 9) (k + 10), CutB X (bi "len" [(.ref Ta)]) (iv y1 (k + 7)) [(Ta, lst (rfs tas) eT)] (k + 6) (k + 8)] := by delta py1_o; exact .mC (by apply X.both <;> kernel_rfl!)
noncomputable def py2_o (X : Cx) (n k it L ct cr cc cta N e1 Ta eT Fo Dd eF M eM cop tc pick tp kd td kt1 kt2 kt3 kt4 kt5 rob tr x left room tm : Nat) (xs ms : NN) (tas fs : List Nat) (oct : Option Value) (F : LG) (y1 y2 : Nat) : Out := goC X (kt X) 210 48 [.o 1, .g false (.ok (.ret (iv x k))) (k + 1) [0] [(0, fld "range_iterator" [(iv y1 0), (iv y2 0), (.int (.negSucc 0) 0)])] [], .o 3, .o 3, .o 0, .o 0, .e, .e, .o 1, .o 1, .e, .o 1, .o 1, .o 1, .o 1, .e, .o 1, .o 1, .o 1, .o 1, .o 1] (playLoop it L ct cr cc cta) n k ([(it, rid x left), (L, frm [en X "near" kt1 (.ref N), en X "folds" kt2 (.ref (Fo + 228)), en X "marks" kt3 (.ref M), en X "pick" kt4 (iv pick tp), en X "robber" kt5 (iv rob tr)] 5), (ct, cel oct), (cr, cel (some (iv room tm))), (cc, cel (some (iv cop tc))), (cta, cel (some (.ref Ta))), (N, lst (ivs xs) e1), (Ta, lst (rfs tas) eT), (Fo + 228, acc Dd (rfs fs) eF), (M, lst (ivs ms) eM), (Dd, dct [en X "_initial_size" kd (iv 0 td)] 1)] ++ F)
theorem py2_e (X : Cx) (n k it L ct cr cc cta N e1 Ta eT Fo Dd eF M eM cop tc pick tp kd td kt1 kt2 kt3 kt4 kt5 rob tr x left room tm : Nat) (xs ms : NN) (tas fs : List Nat) (oct : Option Value) (F : LG) (y1 y2 : Nat) : RAC X 210 (playLoop it L ct cr cc cta) n k ([(it, rid x left), (L, frm [en X "near" kt1 (.ref N), en X "folds" kt2 (.ref (Fo + 228)), en X "marks" kt3 (.ref M), en X "pick" kt4 (iv pick tp), en X "robber" kt5 (iv rob tr)] 5), (ct, cel oct), (cr, cel (some (iv room tm))), (cc, cel (some (iv cop tc))), (cta, cel (some (.ref Ta))), (N, lst (ivs xs) e1), (Ta, lst (rfs tas) eT), (Fo + 228, acc Dd (rfs fs) eF), (M, lst (ivs ms) eM), (Dd, dct [en X "_initial_size" kd (iv 0 td)] 1)] ++ F) (py2_o X n k it L ct cr cc cta N e1 Ta eT Fo Dd eF M eM cop tc pick tp kd td kt1 kt2 kt3 kt4 kt5 rob tr x left room tm xs ms tas fs oct F y1 y2) [2, 1, 0, 6, 7, 8, 9, 11, 4, 5, 10, 12, 13, 14] 15 true (.compStart c11 0 (.ref (n+1)) (.ref (n+2)) (c11Env (n+3) L ct cr cc cta)) (n + 4) (k + 4) ([((n + 1), rit 0 7), ((n + 2), lst [] 0), ((n + 3), dct [] 0), (ct, cel (some (iv x k))), (cr, cel (some (iv room tm))), (cc, cel (some (iv cop tc))), (cta, cel (some (.ref Ta))), (Ta, lst (rfs tas) eT), (it, fld "range_iterator" [(iv y1 0), (iv y2 0), (.int (.negSucc 0) 0)]), (L, frm [en X "near" kt1 (.ref N), en X "folds" kt2 (.ref (Fo + 228)), en X "marks" kt3 (.ref M), en X "pick" kt4 (iv pick tp), en X "robber" kt5 (iv rob tr)] 5), (N, lst (ivs xs) e1), ((Fo + 228), acc Dd (rfs fs) eF), (M, lst (ivs ms) eM), (Dd, dct [en X "_initial_size" kd (iv 0 td)] 1)] ++ F) [CutG X 210 false (bi "range_iterator.__next__" [(.ref it)]) (.ok (.ret (iv x k))) [(it, fld "range_iterator" [(iv x 0), (iv left 0), (.int (.negSucc 0) 0)])] n k (k + 1) [(it, fld "range_iterator" [(iv y1 0), (iv y2 0), (.int (.negSucc 0) 0)])] []] := by delta py2_o; exact .mC (by apply X.both <;> kernel_rfl!)
noncomputable def py3_o (X : Cx) (n k it L ct cr cc cta N e1 Ta eT Fo Dd eF M eM cop tc pick tp kd td kt1 kt2 kt3 kt4 kt5 rob tr x left room tm : Nat) (xs ms : NN) (tas fs : List Nat) (oct : Option Value) (kt6 kt7 Fr To : Nat) (F : LG) (y1 y2 : Nat) : Out := goC X (kt X) 210 48 [.o 1, .g false (.ok (.ret (iv x k))) (k + 1) [0] [(0, fld "range_iterator" [(iv y1 0), (iv y2 0), (.int (.negSucc 0) 0)])] [], .o 3, .o 3, .o 0, .o 0, .e, .e, .o 1, .o 1, .e, .o 1, .o 1, .o 1, .o 1, .e, .o 1, .o 1, .o 1, .o 1, .o 1] (playLoop it L ct cr cc cta) n k ([(it, rid x left), (L, frm [en X "near" kt1 (.ref N), en X "folds" kt2 (.ref (Fo + 228)), en X "marks" kt3 (.ref M), en X "pick" kt4 (iv pick tp), en X "robber" kt5 (iv rob tr), en X "free" kt6 (.ref Fr), en X "told" kt7 (.ref To)] 7), (ct, cel oct), (cr, cel (some (iv room tm))), (cc, cel (some (iv cop tc))), (cta, cel (some (.ref Ta))), (N, lst (ivs xs) e1), (Ta, lst (rfs tas) eT), (Fo + 228, acc Dd (rfs fs) eF), (M, lst (ivs ms) eM), (Dd, dct [en X "_initial_size" kd (iv 0 td)] 1)] ++ F)
theorem py3_e (X : Cx) (n k it L ct cr cc cta N e1 Ta eT Fo Dd eF M eM cop tc pick tp kd td kt1 kt2 kt3 kt4 kt5 rob tr x left room tm : Nat) (xs ms : NN) (tas fs : List Nat) (oct : Option Value) (kt6 kt7 Fr To : Nat) (F : LG) (y1 y2 : Nat) : RAC X 210 (playLoop it L ct cr cc cta) n k ([(it, rid x left), (L, frm [en X "near" kt1 (.ref N), en X "folds" kt2 (.ref (Fo + 228)), en X "marks" kt3 (.ref M), en X "pick" kt4 (iv pick tp), en X "robber" kt5 (iv rob tr), en X "free" kt6 (.ref Fr), en X "told" kt7 (.ref To)] 7), (ct, cel oct), (cr, cel (some (iv room tm))), (cc, cel (some (iv cop tc))), (cta, cel (some (.ref Ta))), (N, lst (ivs xs) e1), (Ta, lst (rfs tas) eT), (Fo + 228, acc Dd (rfs fs) eF), (M, lst (ivs ms) eM), (Dd, dct [en X "_initial_size" kd (iv 0 td)] 1)] ++ F) (py3_o X n k it L ct cr cc cta N e1 Ta eT Fo Dd eF M eM cop tc pick tp kd td kt1 kt2 kt3 kt4 kt5 rob tr x left room tm xs ms tas fs oct kt6 kt7 Fr To F y1 y2) [2, 1, 0, 6, 7, 8, 9, 11, 4, 5, 10, 12, 13, 14] 15 true (.compStart c11 0 (.ref (n+1)) (.ref (n+2)) (c11Env (n+3) L ct cr cc cta)) (n + 4) (k + 4) ([((n + 1), rit 0 7), ((n + 2), lst [] 0), ((n + 3), dct [] 0), (ct, cel (some (iv x k))), (cr, cel (some (iv room tm))), (cc, cel (some (iv cop tc))), (cta, cel (some (.ref Ta))), (Ta, lst (rfs tas) eT), (it, fld "range_iterator" [(iv y1 0), (iv y2 0), (.int (.negSucc 0) 0)]), (L, frm [en X "near" kt1 (.ref N), en X "folds" kt2 (.ref (Fo + 228)), en X "marks" kt3 (.ref M), en X "pick" kt4 (iv pick tp), en X "robber" kt5 (iv rob tr), en X "free" kt6 (.ref Fr), en X "told" kt7 (.ref To)] 7), (N, lst (ivs xs) e1), ((Fo + 228), acc Dd (rfs fs) eF), (M, lst (ivs ms) eM), (Dd, dct [en X "_initial_size" kd (iv 0 td)] 1)] ++ F) [CutG X 210 false (bi "range_iterator.__next__" [(.ref it)]) (.ok (.ret (iv x k))) [(it, fld "range_iterator" [(iv x 0), (iv left 0), (.int (.negSucc 0) 0)])] n k (k + 1) [(it, fld "range_iterator" [(iv y1 0), (iv y2 0), (.int (.negSucc 0) 0)])] []] := by delta py3_o; exact .mC (by apply X.both <;> kernel_rfl!)
theorem pyt0_e (X : Cx) (n k it acc ns L ct cr cc cta Ta eT W eW i left ea tu tt room tm cop tc : Nat) (tas : List Nat) (ws as : NN) (F : LG) (y1 y2 y3 y4 y5 y6 y7 y8 : Nat) (z1 : NN) : REC X 0 (c11C it acc ns L ct cr cc cta) n k ([(it, rit i left), (acc, lst (ivs as) ea), (ns, dct [] 0), (ct, cel (some (iv tu tt))), (cr, cel (some (iv room tm))), (cc, cel (some (iv cop tc))), (cta, cel (some (.ref Ta))), (Ta, lst (rfs tas) eT), (W, lst (ivs ws) eW)] ++ F) [0, 1, 2, 3, 4, 5, 6, 7, 8] 9 (.again (c11C it acc ns L ct cr cc cta)) n (k + 10) ([(it, rit (i + 1) y1), (acc, lst (ivs z1) (ea + 1)), (ns, dct [en X "r" (k + 1) (iv i k)] 1), (ct, cel (some (iv tu tt))), (cr, cel (some (iv room tm))), (cc, cel (some (iv cop tc))), (cta, cel (some (.ref Ta))), (Ta, lst (rfs tas) eT), (W, lst (ivs ws) eW)] ++ F) [CutG X 0 false (bi "list.append" [(.ref acc), (iv i k)]) (.ok (.ret .none)) [(acc, lst (ivs as) ea)] n (k + 10) (k + 10) [(acc, lst (ivs z1) (ea + 1))] [], CutB X (bi "int.__bool__" [(iv y8 (k + 9))]) (.bool true) [] (k + 10) (k + 10), CutB X (bi "int.__and__" [(iv y7 (k + 7)), (iv 1 (k + 8))]) (iv y8 (k + 9)) [] (k + 9) (k + 10), CutB X (bi "int.__rshift__" [(iv y6 (k + 6)), (iv i k)]) (iv y7 (k + 7)) [] (k + 7) (k + 8), CutB X (bi "int.__and__" [(iv room tm), (iv y5 (k + 5))]) (iv y6 (k + 6)) [] (k + 6) (k + 7), CutB X (bi "int.__sub__" [(iv 127 (k + 2)), (iv y3 y4)]) (iv y5 (k + 5)) [] (k + 5) (k + 6), CutB X (bi "list.__getitem__" [(.ref W), (iv cop tc)]) (iv y3 y4) [(W, lst (ivs ws) eW)] (k + 5) (k + 5), CutB X (bi "list.__getitem__" [(.ref Ta), (iv y2 (k + 4))]) (.ref W) [(Ta, lst (rfs tas) eT)] (k + 5) (k + 5), CutB X (bi "int.__sub__" [(iv tu tt), (iv 1 (k + 3))]) (iv y2 (k + 4)) [] (k + 4) (k + 5), CutG X 0 false (bi "range_iterator.__next__" [(.ref it)]) (.ok (.ret (iv i k))) [(it, rit i left)] n k (k + 1) [(it, rit (i + 1) y1)] []] := .mk 50 [.o 1, .g false (.ok (.ret (iv i k))) (k + 1) [0] [(0, rit (i + 1) y1)] [], .o 3, .o 3, .o 5, .o 7, .o 4, .v (iv y2 (k + 4)) (k + 5) [], .o 8, .o 8, .o 8, .v (.ref W) (k + 5) [7], .o 6, .o 9, .o 9, .o 9, .v (iv y3 y4) (k + 5) [8], .e, .v (iv y5 (k + 5)) (k + 6) [], .v (iv y6 (k + 6)) (k + 7) [], .o 3, .v (iv y7 (k + 7)) (k + 8) [], .v (iv y8 (k + 9)) (k + 10) [], .v (.bool true) (k + 10) [], .o 3, .g false (.ok (.ret .none)) (k + 10) [1] [(1, lst (ivs z1) (ea + 1))] []] (by kernel_rfl!)
theorem pyt1_e (X : Cx) (n k it acc ns L ct cr cc cta Ta eT W eW i left ea tu tt room tm cop tc : Nat) (tas : List Nat) (ws as : NN) (kn a1 a2 : Nat) (F : LG) (y1 y2 y3 y4 y5 y6 y7 y8 : Nat) (z1 : NN) : REC X 0 (c11C it acc ns L ct cr cc cta) n k ([(it, rit i left), (acc, lst (ivs as) ea), (ns, dct [en X "r" kn (iv a1 a2)] 1), (ct, cel (some (iv tu tt))), (cr, cel (some (iv room tm))), (cc, cel (some (iv cop tc))), (cta, cel (some (.ref Ta))), (Ta, lst (rfs tas) eT), (W, lst (ivs ws) eW)] ++ F) [0, 1, 2, 3, 4, 5, 6, 7, 8] 9 (.again (c11C it acc ns L ct cr cc cta)) n (k + 10) ([(it, rit (i + 1) y1), (acc, lst (ivs z1) (ea + 1)), (ns, dct [en X "r" kn (iv i k)] 1), (ct, cel (some (iv tu tt))), (cr, cel (some (iv room tm))), (cc, cel (some (iv cop tc))), (cta, cel (some (.ref Ta))), (Ta, lst (rfs tas) eT), (W, lst (ivs ws) eW)] ++ F) [CutG X 0 false (bi "list.append" [(.ref acc), (iv i k)]) (.ok (.ret .none)) [(acc, lst (ivs as) ea)] n (k + 10) (k + 10) [(acc, lst (ivs z1) (ea + 1))] [], CutB X (bi "int.__bool__" [(iv y8 (k + 9))]) (.bool true) [] (k + 10) (k + 10), CutB X (bi "int.__and__" [(iv y7 (k + 7)), (iv 1 (k + 8))]) (iv y8 (k + 9)) [] (k + 9) (k + 10), CutB X (bi "int.__rshift__" [(iv y6 (k + 6)), (iv i k)]) (iv y7 (k + 7)) [] (k + 7) (k + 8), CutB X (bi "int.__and__" [(iv room tm), (iv y5 (k + 5))]) (iv y6 (k + 6)) [] (k + 6) (k + 7), CutB X (bi "int.__sub__" [(iv 127 (k + 2)), (iv y3 y4)]) (iv y5 (k + 5)) [] (k + 5) (k + 6), CutB X (bi "list.__getitem__" [(.ref W), (iv cop tc)]) (iv y3 y4) [(W, lst (ivs ws) eW)] (k + 5) (k + 5), CutB X (bi "list.__getitem__" [(.ref Ta), (iv y2 (k + 4))]) (.ref W) [(Ta, lst (rfs tas) eT)] (k + 5) (k + 5), CutB X (bi "int.__sub__" [(iv tu tt), (iv 1 (k + 3))]) (iv y2 (k + 4)) [] (k + 4) (k + 5), CutG X 0 false (bi "range_iterator.__next__" [(.ref it)]) (.ok (.ret (iv i k))) [(it, rit i left)] n k (k + 1) [(it, rit (i + 1) y1)] []] := .mk 50 [.o 1, .g false (.ok (.ret (iv i k))) (k + 1) [0] [(0, rit (i + 1) y1)] [], .o 3, .o 3, .o 5, .o 7, .o 4, .v (iv y2 (k + 4)) (k + 5) [], .o 8, .o 8, .o 8, .v (.ref W) (k + 5) [7], .o 6, .o 9, .o 9, .o 9, .v (iv y3 y4) (k + 5) [8], .e, .v (iv y5 (k + 5)) (k + 6) [], .v (iv y6 (k + 6)) (k + 7) [], .o 3, .v (iv y7 (k + 7)) (k + 8) [], .v (iv y8 (k + 9)) (k + 10) [], .v (.bool true) (k + 10) [], .o 3, .g false (.ok (.ret .none)) (k + 10) [1] [(1, lst (ivs z1) (ea + 1))] []] (by kernel_rfl!)
theorem pys0_e (X : Cx) (n k it acc ns L ct cr cc cta Ta eT W eW i left ea tu tt room tm cop tc : Nat) (tas : List Nat) (ws as : NN) (F : LG) (y1 y2 y3 y4 y5 y6 y7 y8 : Nat) : REC X 0 (c11C it acc ns L ct cr cc cta) n k ([(it, rit i left), (acc, lst (ivs as) ea), (ns, dct [] 0), (ct, cel (some (iv tu tt))), (cr, cel (some (iv room tm))), (cc, cel (some (iv cop tc))), (cta, cel (some (.ref Ta))), (Ta, lst (rfs tas) eT), (W, lst (ivs ws) eW)] ++ F) [0, 1, 2, 3, 4, 5, 6, 7, 8] 9 (.again (c11C it acc ns L ct cr cc cta)) n (k + 10) ([(it, rit (i + 1) y1), (acc, lst (ivs as) ea), (ns, dct [en X "r" (k + 1) (iv i k)] 1), (ct, cel (some (iv tu tt))), (cr, cel (some (iv room tm))), (cc, cel (some (iv cop tc))), (cta, cel (some (.ref Ta))), (Ta, lst (rfs tas) eT), (W, lst (ivs ws) eW)] ++ F) [CutB X (bi "int.__bool__" [(iv y8 (k + 9))]) (.bool false) [] (k + 10) (k + 10), CutB X (bi "int.__and__" [(iv y7 (k + 7)), (iv 1 (k + 8))]) (iv y8 (k + 9)) [] (k + 9) (k + 10), CutB X (bi "int.__rshift__" [(iv y6 (k + 6)), (iv i k)]) (iv y7 (k + 7)) [] (k + 7) (k + 8), CutB X (bi "int.__and__" [(iv room tm), (iv y5 (k + 5))]) (iv y6 (k + 6)) [] (k + 6) (k + 7), CutB X (bi "int.__sub__" [(iv 127 (k + 2)), (iv y3 y4)]) (iv y5 (k + 5)) [] (k + 5) (k + 6), CutB X (bi "list.__getitem__" [(.ref W), (iv cop tc)]) (iv y3 y4) [(W, lst (ivs ws) eW)] (k + 5) (k + 5), CutB X (bi "list.__getitem__" [(.ref Ta), (iv y2 (k + 4))]) (.ref W) [(Ta, lst (rfs tas) eT)] (k + 5) (k + 5), CutB X (bi "int.__sub__" [(iv tu tt), (iv 1 (k + 3))]) (iv y2 (k + 4)) [] (k + 4) (k + 5), CutG X 0 false (bi "range_iterator.__next__" [(.ref it)]) (.ok (.ret (iv i k))) [(it, rit i left)] n k (k + 1) [(it, rit (i + 1) y1)] []] := .mk 47 [.o 1, .g false (.ok (.ret (iv i k))) (k + 1) [0] [(0, rit (i + 1) y1)] [], .o 3, .o 3, .o 5, .o 7, .o 4, .v (iv y2 (k + 4)) (k + 5) [], .o 8, .o 8, .o 8, .v (.ref W) (k + 5) [7], .o 6, .o 9, .o 9, .o 9, .v (iv y3 y4) (k + 5) [8], .e, .v (iv y5 (k + 5)) (k + 6) [], .v (iv y6 (k + 6)) (k + 7) [], .o 3, .v (iv y7 (k + 7)) (k + 8) [], .v (iv y8 (k + 9)) (k + 10) [], .v (.bool false) (k + 10) []] (by kernel_rfl!)
theorem pys1_e (X : Cx) (n k it acc ns L ct cr cc cta Ta eT W eW i left ea tu tt room tm cop tc : Nat) (tas : List Nat) (ws as : NN) (kn a1 a2 : Nat) (F : LG) (y1 y2 y3 y4 y5 y6 y7 y8 : Nat) : REC X 0 (c11C it acc ns L ct cr cc cta) n k ([(it, rit i left), (acc, lst (ivs as) ea), (ns, dct [en X "r" kn (iv a1 a2)] 1), (ct, cel (some (iv tu tt))), (cr, cel (some (iv room tm))), (cc, cel (some (iv cop tc))), (cta, cel (some (.ref Ta))), (Ta, lst (rfs tas) eT), (W, lst (ivs ws) eW)] ++ F) [0, 1, 2, 3, 4, 5, 6, 7, 8] 9 (.again (c11C it acc ns L ct cr cc cta)) n (k + 10) ([(it, rit (i + 1) y1), (acc, lst (ivs as) ea), (ns, dct [en X "r" kn (iv i k)] 1), (ct, cel (some (iv tu tt))), (cr, cel (some (iv room tm))), (cc, cel (some (iv cop tc))), (cta, cel (some (.ref Ta))), (Ta, lst (rfs tas) eT), (W, lst (ivs ws) eW)] ++ F) [CutB X (bi "int.__bool__" [(iv y8 (k + 9))]) (.bool false) [] (k + 10) (k + 10), CutB X (bi "int.__and__" [(iv y7 (k + 7)), (iv 1 (k + 8))]) (iv y8 (k + 9)) [] (k + 9) (k + 10), CutB X (bi "int.__rshift__" [(iv y6 (k + 6)), (iv i k)]) (iv y7 (k + 7)) [] (k + 7) (k + 8), CutB X (bi "int.__and__" [(iv room tm), (iv y5 (k + 5))]) (iv y6 (k + 6)) [] (k + 6) (k + 7), CutB X (bi "int.__sub__" [(iv 127 (k + 2)), (iv y3 y4)]) (iv y5 (k + 5)) [] (k + 5) (k + 6), CutB X (bi "list.__getitem__" [(.ref W), (iv cop tc)]) (iv y3 y4) [(W, lst (ivs ws) eW)] (k + 5) (k + 5), CutB X (bi "list.__getitem__" [(.ref Ta), (iv y2 (k + 4))]) (.ref W) [(Ta, lst (rfs tas) eT)] (k + 5) (k + 5), CutB X (bi "int.__sub__" [(iv tu tt), (iv 1 (k + 3))]) (iv y2 (k + 4)) [] (k + 4) (k + 5), CutG X 0 false (bi "range_iterator.__next__" [(.ref it)]) (.ok (.ret (iv i k))) [(it, rit i left)] n k (k + 1) [(it, rit (i + 1) y1)] []] := .mk 47 [.o 1, .g false (.ok (.ret (iv i k))) (k + 1) [0] [(0, rit (i + 1) y1)] [], .o 3, .o 3, .o 5, .o 7, .o 4, .v (iv y2 (k + 4)) (k + 5) [], .o 8, .o 8, .o 8, .v (.ref W) (k + 5) [7], .o 6, .o 9, .o 9, .o 9, .v (iv y3 y4) (k + 5) [8], .e, .v (iv y5 (k + 5)) (k + 6) [], .v (iv y6 (k + 6)) (k + 7) [], .o 3, .v (iv y7 (k + 7)) (k + 8) [], .v (iv y8 (k + 9)) (k + 10) [], .v (.bool false) (k + 10) []] (by kernel_rfl!)
theorem pye_e (X : Cx) (n k it acc ns L ct cr cc cta Ta eT W eW i left ea tu tt room tm cop tc : Nat) (tas : List Nat) (ws as : NN) (kn a1 a2 : Nat) (F : LG) : REC X 0 (c11C it acc ns L ct cr cc cta) n k ([(it, rit i left), (acc, lst (ivs as) ea), (ns, dct [en X "r" kn (iv a1 a2)] 1), (ct, cel (some (iv tu tt))), (cr, cel (some (iv room tm))), (cc, cel (some (iv cop tc))), (cta, cel (some (.ref Ta))), (Ta, lst (rfs tas) eT), (W, lst (ivs ws) eW)] ++ F) [3, 4, 5, 6, 7, 8, 9, 10] 11 (.done (.next)) (n + 2) k ([(acc, lst (ivs as) ea), (ns, dct [en X "r" kn (iv a1 a2)] 1), (ct, cel (some (iv tu tt))), (cr, cel (some (iv room tm))), (cc, cel (some (iv cop tc))), (cta, cel (some (.ref Ta))), (Ta, lst (rfs tas) eT), (W, lst (ivs ws) eW)] ++ F) [CutG X 0 false (bi "range_iterator.__next__" [(.ref it)]) (.error (.ref (n + 1))) [(it, rit i left)] n k k [] [tup [], fld "StopIteration" [(.ref n), .none, .none, .none, (.bool false), .none]]] := .mk 4 [.o 1, .g false (.error (.ref (n + 1))) k [0] [] [tup [], fld "StopIteration" [(.ref n), .none, .none, .none, (.bool false), .none]], .o 1] (by kernel_rfl!)
theorem t1_e (X : Cx) (n k it L ct cr cc cta x left : Nat) (oct : Option Value) (F : LG) (y1 y2 : Nat) : RE X 280 [] (playLoop it L ct cr cc cta) (PySem.W.R.bindR (nextInT "turn" (nmP (forT (nx playB 2))) (playEnv L ct cr cc cta) (.ref it)) (fun f => .pure (.done f))) n k ([(it, rid x left), (ct, cel oct)] ++ F) [0, 1] 2 (.done (.ret (iv x k))) n (k + 1) ([(it, fld "range_iterator" [(iv y1 0), (iv y2 0), (.int (.negSucc 0) 0)]), (ct, cel (some (iv x k)))] ++ F) [CutG X 280 false (bi "range_iterator.__next__" [(.ref it)]) (.ok (.ret (iv x k))) [(it, fld "range_iterator" [(iv x 0), (iv left 0), (.int (.negSucc 0) 0)])] n k (k + 1) [(it, fld "range_iterator" [(iv y1 0), (iv y2 0), (.int (.negSucc 0) 0)])] []] := .mk 7 [.o 1, .g false (.ok (.ret (iv x k))) (k + 1) [0] [(0, fld "range_iterator" [(iv y1 0), (iv y2 0), (.int (.negSucc 0) 0)])] [], .o 2, .o 2] (by kernel_rfl!)
theorem t2_e (X : Cx) (n k it L ct cr cc cta x : Nat) (oct : Option Value) (F : LG) : RE X 280 [] (playLoop it L ct cr cc cta) (PySem.W.R.bindR (nextInT "turn" (nmP (forT (nx playB 2))) (playEnv L ct cr cc cta) (.ref it)) (fun f => .pure (.done f))) n k ([(it, rid x 0), (ct, cel oct)] ++ F) [2, 3] 4 (.done (.brk)) (n + 2) k ([(it, fld "range_iterator" [(iv x 0), (iv 0 0), (.int (.negSucc 0) 0)]), (ct, cel oct)] ++ F) [CutG X 280 false (bi "range_iterator.__next__" [(.ref it)]) (.error (.ref (n + 1))) [(it, fld "range_iterator" [(iv x 0), (iv 0 0), (.int (.negSucc 0) 0)])] n k k [] [tup [], fld "StopIteration" [(.ref n), .none, .none, .none, (.bool false), .none]]] := .mk 3 [.o 1, .g false (.error (.ref (n + 1))) k [0] [] [tup [], fld "StopIteration" [(.ref n), .none, .none, .none, (.bool false), .none]], .o 1] (by kernel_rfl!)
theorem t3_e (X : Cx) (n k L ct cr cc cta : Nat) (F : LG) : REC X 280 (.block [] (playEnv L ct cr cc cta)) n k ([] ++ F) [] 0 (.done (.next)) n k ([] ++ F) [] := .mk 0 [] (by kernel_rfl!)
theorem py9_e (X : Cx) (n k N e1 Ta eT Fo Dd eF M eM cop tc pick tp kd td : Nat) (xs ms : NN) (tas fs : List Nat) (ya yb n1 k1 kt1 kt2 kt3 kt4 kt5 rb tb kt6 Fr kt7 To cop2 tc2 : Nat) (G1 : LG) (F : LG) : REN X 350 (py1_o X n k N e1 Ta eT Fo Dd eF M eM cop tc pick tp kd td xs ms tas fs G1 ya yb) (.ok .next) n1 k1 ([(n, frm [en X "near" kt1 (.ref N), en X "folds" kt2 (.ref (Fo + 228)), en X "marks" kt3 (.ref M), en X "pick" kt4 (iv pick tp), en X "robber" kt5 (iv rb tb), en X "free" kt6 (.ref Fr), en X "told" kt7 (.ref To)] 7), (n+2, cel (some (iv cop2 tc2)))] ++ F) [0, 1] 2 (.done (.ret (.bool true))) n1 k1 ([(n, frm [en X "near" kt1 (.ref N), en X "folds" kt2 (.ref (Fo + 228)), en X "marks" kt3 (.ref M), en X "pick" kt4 (iv pick tp), en X "robber" kt5 (iv rb tb), en X "free" kt6 (.ref Fr), en X "told" kt7 (.ref To)] 7), ((n + 2), cel (some (iv cop2 tc2)))] ++ F) [CutB X (bi "int.__eq__" [(iv cop2 tc2), (iv rb tb)]) (.bool true) [] k1 k1] := .mk 8 [.o 2, .o 1, .v (.bool true) k1 []] (by apply X.both <;> kernel_rfl!)
noncomputable def b1A_o (X : Cx) (n k it L ct cr cc cta N Ta eT Fo M cop tc pick tp kt1 kt2 kt3 kt4 kt5 rob tr x tx room tm : Nat) (tas : List Nat) (F : LG) : Out := go X (kt X) 280 40 [.o 0, .o 0, .e, .e, .o 1, .o 1, .e, .o 1, .o 1, .o 1, .o 1, .e, .o 1, .o 1, .o 1, .o 1, .o 1] [] (playLoop it L ct cr cc cta) (PySem.W.R.bindR (execsT (playW.take 3) (playEnv L ct cr cc cta)) (fun f => .pure (.done f))) n k ([(L, frm [en X "near" kt1 (.ref N), en X "folds" kt2 (.ref (Fo + 228)), en X "marks" kt3 (.ref M), en X "pick" kt4 (iv pick tp), en X "robber" kt5 (iv rob tr)] 5), (ct, cel (some (iv x tx))), (cr, cel (some (iv room tm))), (cc, cel (some (iv cop tc))), (cta, cel (some (.ref Ta))), (Ta, lst (rfs tas) eT)] ++ F)
theorem b1A_e (X : Cx) (n k it L ct cr cc cta N Ta eT Fo M cop tc pick tp kt1 kt2 kt3 kt4 kt5 rob tr x tx room tm : Nat) (tas : List Nat) (F : LG) : RA X 280 [] (playLoop it L ct cr cc cta) (PySem.W.R.bindR (execsT (playW.take 3) (playEnv L ct cr cc cta)) (fun f => .pure (.done f))) n k ([(L, frm [en X "near" kt1 (.ref N), en X "folds" kt2 (.ref (Fo + 228)), en X "marks" kt3 (.ref M), en X "pick" kt4 (iv pick tp), en X "robber" kt5 (iv rob tr)] 5), (ct, cel (some (iv x tx))), (cr, cel (some (iv room tm))), (cc, cel (some (iv cop tc))), (cta, cel (some (.ref Ta))), (Ta, lst (rfs tas) eT)] ++ F) (b1A_o X n k it L ct cr cc cta N Ta eT Fo M cop tc pick tp kt1 kt2 kt3 kt4 kt5 rob tr x tx room tm tas F) [2, 1, 0, 5, 6, 7, 8, 9, 4] 10 true (.compStart c11 0 (.ref (n+1)) (.ref (n+2)) (c11Env (n+3) L ct cr cc cta)) (n + 4) (k + 3) ([((n + 1), rit 0 7), ((n + 2), lst [] 0), ((n + 3), dct [] 0), (ct, cel (some (iv x tx))), (cr, cel (some (iv room tm))), (cc, cel (some (iv cop tc))), (cta, cel (some (.ref Ta))), (Ta, lst (rfs tas) eT), (L, frm [en X "near" kt1 (.ref N), en X "folds" kt2 (.ref (Fo + 228)), en X "marks" kt3 (.ref M), en X "pick" kt4 (iv pick tp), en X "robber" kt5 (iv rob tr)] 5)] ++ F) [] := by delta b1A_o; exact .m (by apply X.both <;> kernel_rfl!)
noncomputable def b2A_o (X : Cx) (n k it L ct cr cc cta N Ta eT Fo M cop tc pick tp kt1 kt2 kt3 kt4 kt5 rob tr x tx room tm : Nat) (tas : List Nat) (n1 k1 ea kn a1 a2 Dd eF kd td : Nat) (as : NN) (fs : List Nat) (G1 : LG) (F : LG) (y1 y2 y3 y4 y5 : Nat) : Out := goN X (kt X) 280 89 [.o 8, .o 8, .o 2, .o 2, .o 2, .o 8, .o 8, .o 3, .v (iv y1 (k1 + 1)) (k1 + 2) [], .o 0, .o 0, .o 8, .v (iv y2 (k1 + 3)) (k1 + 4) [0], .v (iv y3 (k1 + 4)) (k1 + 5) [], .o 1, .o 1, .o 1, .v (iv y4 y5) (k1 + 5) [0], .o 8, .o 8, .o 0, .o 0, .o 0, .o 8, .e, .e, .e, .v (.str (sd y4) (k1 + 6)) (k1 + 7) [], .e, .o 8, .o 9, .o 0, .o 0, .o 0, .o 9, .o 0, .o 0, .o 0, .o 9, .o 0, .o 0, .o 0, .o 0, .o 9, .o 10, .o 0] (b1A_o X n k it L ct cr cc cta N Ta eT Fo M cop tc pick tp kt1 kt2 kt3 kt4 kt5 rob tr x tx room tm tas G1) (.ok .next) n1 k1 ([(n+2, lst (ivs as) ea), (n+3, dct [en X "r" kn (iv a1 a2)] 1), (ct, cel (some (iv x tx))), (cr, cel (some (iv room tm))), (cc, cel (some (iv cop tc))), (cta, cel (some (.ref Ta))), (Ta, lst (rfs tas) eT), (L, frm [en X "near" kt1 (.ref N), en X "folds" kt2 (.ref (Fo + 228)), en X "marks" kt3 (.ref M), en X "pick" kt4 (iv pick tp), en X "robber" kt5 (iv rob tr)] 5), (Fo+228, acc Dd (rfs fs) eF), (Dd, dct [en X "_initial_size" kd (iv 0 td)] 1)] ++ F)
theorem b2A_e (X : Cx) (n k it L ct cr cc cta N Ta eT Fo M cop tc pick tp kt1 kt2 kt3 kt4 kt5 rob tr x tx room tm : Nat) (tas : List Nat) (n1 k1 ea kn a1 a2 Dd eF kd td : Nat) (as : NN) (fs : List Nat) (G1 : LG) (F : LG) (y1 y2 y3 y4 y5 : Nat) : RAN X 280 (b1A_o X n k it L ct cr cc cta N Ta eT Fo M cop tc pick tp kt1 kt2 kt3 kt4 kt5 rob tr x tx room tm tas G1) (.ok .next) n1 k1 ([(n+2, lst (ivs as) ea), (n+3, dct [en X "r" kn (iv a1 a2)] 1), (ct, cel (some (iv x tx))), (cr, cel (some (iv room tm))), (cc, cel (some (iv cop tc))), (cta, cel (some (.ref Ta))), (Ta, lst (rfs tas) eT), (L, frm [en X "near" kt1 (.ref N), en X "folds" kt2 (.ref (Fo + 228)), en X "marks" kt3 (.ref M), en X "pick" kt4 (iv pick tp), en X "robber" kt5 (iv rob tr)] 5), (Fo+228, acc Dd (rfs fs) eF), (Dd, dct [en X "_initial_size" kd (iv 0 td)] 1)] ++ F) (b2A_o X n k it L ct cr cc cta N Ta eT Fo M cop tc pick tp kt1 kt2 kt3 kt4 kt5 rob tr x tx room tm tas n1 k1 ea kn a1 a2 Dd eF kd td as fs G1 F y1 y2 y3 y4 y5) [8, 0, 7, 2, 3, 4, 5, 6, 9] 10 true (.call (.ref 128) ⟨[.ref (Fo + 228)], []⟩) n1 (k1 + 7) ([((Fo + 228), acc Dd (rfs fs) eF), ((n + 2), lst (ivs as) ea), (L, frm [en X "near" kt1 (.ref N), en X "folds" kt2 (.ref (Fo + 228)), en X "marks" kt3 (.ref M), en X "pick" kt4 (iv pick tp), en X "robber" kt5 (iv y4 y5), en X "free" k1 (.ref (n + 2))] 6), (ct, cel (some (iv x tx))), (cr, cel (some (iv room tm))), (cc, cel (some (iv cop tc))), (cta, cel (some (.ref Ta))), (Ta, lst (rfs tas) eT), (Dd, dct [en X "_initial_size" kd (iv 0 td)] 1)] ++ F) [CutB X (bi "int.__repr__" [(iv y4 y5)]) (.str (sd y4) (k1 + 6)) [] (k1 + 6) (k1 + 7), CutB X (bi "list.__getitem__" [(.ref (n + 2)), (iv y3 (k1 + 4))]) (iv y4 y5) [((n + 2), lst (ivs as) ea)] (k1 + 5) (k1 + 5), CutB X (bi "int.__mod__" [(iv y1 (k1 + 1)), (iv y2 (k1 + 3))]) (iv y3 (k1 + 4)) [] (k1 + 4) (k1 + 5), CutB X (bi "len" [(.ref (n + 2))]) (iv y2 (k1 + 3)) [((n + 2), lst (ivs as) ea)] (k1 + 2) (k1 + 4), CutB X (bi "int.__add__" [(iv pick tp), (iv x tx)]) (iv y1 (k1 + 1)) [] (k1 + 1) (k1 + 2)] := by delta b2A_o; exact .mN (by apply X.both <;> kernel_rfl!)
noncomputable def b3A_o (X : Cx) (n k it L ct cr cc cta N Ta eT Fo M cop tc pick tp kt1 kt2 kt3 kt4 kt5 rob tr x tx room tm : Nat) (tas : List Nat) (n1 k1 ea kn a1 a2 Dd eF kd td : Nat) (as : NN) (fs : List Nat) (G1 : LG) (ya yb yc rb tb : Nat) (G2 : LG) (n2 k2 c tk : Nat) (F : LG) : Out := goN X (kt X) 280 63 [.v (.bool true) k2 [], .o 0, .o 3, .o 0, .e, .o 0, .o 0, .o 1, .o 1, .o 1, .o 1, .o 1, .o 1, .o 1, .o 1, .frame, .o 1, .o 1, .o 1, .o 2, .o 3, .o 3, .o 1, .o 3, .o 3, .o 3, .o 3, .o 1, .o 1, .o 1, .o 1, .o 1, .o 3, .o 1, .o 0] (b2A_o X n k it L ct cr cc cta N Ta eT Fo M cop tc pick tp kt1 kt2 kt3 kt4 kt5 rob tr x tx room tm tas n1 k1 ea kn a1 a2 Dd eF kd td as fs G1 G2 ya yb yc rb tb) (.ok (.ret (iv c tk))) (n2+228) k2 ([(Fo+228, acc Dd (rfs fs) eF), (n+2, lst (ivs as) ea), (L, frm [en X "near" kt1 (.ref N), en X "folds" kt2 (.ref (Fo + 228)), en X "marks" kt3 (.ref M), en X "pick" kt4 (iv pick tp), en X "robber" kt5 (iv rb tb), en X "free" k1 (.ref (n+2))] 6), (ct, cel (some (iv x tx))), (cr, cel (some (iv room tm))), (cc, cel (some (iv cop tc))), (cta, cel (some (.ref Ta))), (Ta, lst (rfs tas) eT), (Dd, dct [en X "_initial_size" kd (iv 0 td)] 1)] ++ F)
theorem b3A_e (X : Cx) (n k it L ct cr cc cta N Ta eT Fo M cop tc pick tp kt1 kt2 kt3 kt4 kt5 rob tr x tx room tm : Nat) (tas : List Nat) (n1 k1 ea kn a1 a2 Dd eF kd td : Nat) (as : NN) (fs : List Nat) (G1 : LG) (ya yb yc rb tb : Nat) (G2 : LG) (n2 k2 c tk : Nat) (F : LG) : RAN X 280 (b2A_o X n k it L ct cr cc cta N Ta eT Fo M cop tc pick tp kt1 kt2 kt3 kt4 kt5 rob tr x tx room tm tas n1 k1 ea kn a1 a2 Dd eF kd td as fs G1 G2 ya yb yc rb tb) (.ok (.ret (iv c tk))) (n2+228) k2 ([(Fo+228, acc Dd (rfs fs) eF), (n+2, lst (ivs as) ea), (L, frm [en X "near" kt1 (.ref N), en X "folds" kt2 (.ref (Fo + 228)), en X "marks" kt3 (.ref M), en X "pick" kt4 (iv pick tp), en X "robber" kt5 (iv rb tb), en X "free" k1 (.ref (n+2))] 6), (ct, cel (some (iv x tx))), (cr, cel (some (iv room tm))), (cc, cel (some (iv cop tc))), (cta, cel (some (.ref Ta))), (Ta, lst (rfs tas) eT), (Dd, dct [en X "_initial_size" kd (iv 0 td)] 1)] ++ F) (b3A_o X n k it L ct cr cc cta N Ta eT Fo M cop tc pick tp kt1 kt2 kt3 kt4 kt5 rob tr x tx room tm tas n1 k1 ea kn a1 a2 Dd eF kd td as fs G1 ya yb yc rb tb G2 n2 k2 c tk F) [3, 0, 1, 2, 4, 5, 6, 7, 8, 9, 10, 11] 12 false (.call (.ref 215) ⟨[.str (sd rb) (k1 + 6)], [("folds", .ref (Fo + 228))]⟩) (n2 + 231) (k2 + 4) ([((Fo + 228), acc Dd (rfs fs) eF), ((n2 + 230), dct [en X "folds" k2 (.ref (Fo + 228))] 1), ((n2 + 229), frm [en X "name_index" (k2 + 1) (.str (sd rb) (k1 + 6)), en X "get_name" (k2 + 2) (.ref 215), en X "extrainfo" (k2 + 3) (.ref (n2 + 228))] 3), ((n2 + 228), dct [en X "folds" k2 (.ref (Fo + 228))] 1), ((n + 2), lst (ivs as) ea), (L, frm [en X "near" kt1 (.ref N), en X "folds" kt2 (.ref (Fo + 228)), en X "marks" kt3 (.ref M), en X "pick" kt4 (iv pick tp), en X "robber" kt5 (iv rb tb), en X "free" k1 (.ref (n + 2))] 6), (ct, cel (some (iv x tx))), (cr, cel (some (iv room tm))), (cc, cel (some (iv cop tc))), (cta, cel (some (.ref Ta))), (Ta, lst (rfs tas) eT), (Dd, dct [en X "_initial_size" kd (iv 0 td)] 1)] ++ F) [CutB X (bi "int.__bool__" [(iv c tk)]) (.bool true) [] k2 k2] := by delta b3A_o; exact .mN (by apply X.both <;> kernel_rfl!)
theorem b4A_e (X : Cx) (n k it L ct cr cc cta N Ta eT Fo M cop tc pick tp kt1 kt2 kt3 kt4 kt5 rob tr x tx room tm : Nat) (tas : List Nat) (n1 k1 ea kn a1 a2 Dd eF kd td : Nat) (as : NN) (fs : List Nat) (G1 : LG) (ya yb yc rb tb : Nat) (G2 : LG) (n2 k2 c tk : Nat) (n3 k3 h th : Nat) (G3 : LG) (F : LG) : REN X 280 (b3A_o X n k it L ct cr cc cta N Ta eT Fo M cop tc pick tp kt1 kt2 kt3 kt4 kt5 rob tr x tx room tm tas n1 k1 ea kn a1 a2 Dd eF kd td as fs G1 ya yb yc rb tb G2 n2 k2 c tk G3) (.ok (.ret (.str (sd h) th))) (n3+228) k3 ([(Fo+228, acc Dd (rfs fs) eF), (n2+230, dct [en X "folds" k2 (.ref (Fo + 228))] 1), (n2+229, frm [en X "name_index" (k2 + 1) (.str (sd rb) (k1 + 6)), en X "get_name" (k2 + 2) (.ref 215), en X "extrainfo" (k2 + 3) (.ref (n2 + 228))] 3), (n2+228, dct [en X "folds" k2 (.ref (Fo + 228))] 1), (n+2, lst (ivs as) ea), (L, frm [en X "near" kt1 (.ref N), en X "folds" kt2 (.ref (Fo + 228)), en X "marks" kt3 (.ref M), en X "pick" kt4 (iv pick tp), en X "robber" kt5 (iv rb tb), en X "free" k1 (.ref (n+2))] 6), (ct, cel (some (iv x tx))), (cr, cel (some (iv room tm))), (cc, cel (some (iv cop tc))), (cta, cel (some (.ref Ta))), (Ta, lst (rfs tas) eT), (Dd, dct [en X "_initial_size" kd (iv 0 td)] 1)] ++ F) [0, 1, 5, 6, 7, 8, 9, 10, 11, 12] 13 (.done (.next)) (n3 + 229) (k3 + 2) ([((n3 + 228), tup [(.str (sd h) th), (.str (sd h) th)]), ((Fo + 228), acc Dd (rfs fs) eF), ((n + 2), lst (ivs as) ea), (L, frm [en X "near" kt1 (.ref N), en X "folds" kt2 (.ref (Fo + 228)), en X "marks" kt3 (.ref M), en X "pick" kt4 (iv pick tp), en X "robber" kt5 (iv rb tb), en X "free" k1 (.ref (n + 2)), en X "told" (k3 + 1) (.ref (n3 + 228))] 7), (ct, cel (some (iv x tx))), (cr, cel (some (iv room tm))), (cc, cel (some (iv cop tc))), (cta, cel (some (.ref Ta))), (Ta, lst (rfs tas) eT), (Dd, dct [en X "_initial_size" kd (iv 0 td)] 1)] ++ F) [] := .mk 24 [.o 3, .o 3, .o 3, .o 3, .o 7, .o 7] (by apply X.both <;> kernel_rfl!)
theorem b5A_e (X : Cx) (n k it L ct cr cc cta N Ta eT Fo M cop tc pick tp kt1 kt2 kt3 kt4 kt5 rob tr x tx room tm : Nat) (tas : List Nat) (n1 k1 ea kn a1 a2 Dd eF kd td : Nat) (as : NN) (fs : List Nat) (G1 : LG) (ya yb yc rb tb : Nat) (G2 : LG) (n2 k2 c tk : Nat) (F : LG) : REN X 280 (b2A_o X n k it L ct cr cc cta N Ta eT Fo M cop tc pick tp kt1 kt2 kt3 kt4 kt5 rob tr x tx room tm tas n1 k1 ea kn a1 a2 Dd eF kd td as fs G1 G2 ya yb yc rb tb) (.ok (.ret (iv c tk))) (n2+228) k2 ([(Fo+228, acc Dd (rfs fs) eF), (n+2, lst (ivs as) ea), (L, frm [en X "near" kt1 (.ref N), en X "folds" kt2 (.ref (Fo + 228)), en X "marks" kt3 (.ref M), en X "pick" kt4 (iv pick tp), en X "robber" kt5 (iv rb tb), en X "free" k1 (.ref (n+2))] 6), (ct, cel (some (iv x tx))), (cr, cel (some (iv room tm))), (cc, cel (some (iv cop tc))), (cta, cel (some (.ref Ta))), (Ta, lst (rfs tas) eT), (Dd, dct [en X "_initial_size" kd (iv 0 td)] 1)] ++ F) [0, 3, 4, 5, 6, 7, 8, 9, 10, 11] 12 (.done (.next)) (n2 + 231) (k2 + 6) ([((n2 + 230), tup [(.ref 44), (.str "" (k2 + 4))]), ((Fo + 228), acc Dd (rfs fs) eF), ((n + 2), lst (ivs as) ea), (L, frm [en X "near" kt1 (.ref N), en X "folds" kt2 (.ref (Fo + 228)), en X "marks" kt3 (.ref M), en X "pick" kt4 (iv pick tp), en X "robber" kt5 (iv rb tb), en X "free" k1 (.ref (n + 2)), en X "told" (k2 + 5) (.ref (n2 + 230))] 7), (ct, cel (some (iv x tx))), (cr, cel (some (iv room tm))), (cc, cel (some (iv cop tc))), (cta, cel (some (.ref Ta))), (Ta, lst (rfs tas) eT), (Dd, dct [en X "_initial_size" kd (iv 0 td)] 1)] ++ F) [CutB X (bi "int.__bool__" [(iv c tk)]) (.bool false) [] k2 k2] := .mk 51 [.v (.bool false) k2 [], .o 3, .o 0, .e, .o 0, .o 0, .o 1, .o 1, .o 1, .o 1, .o 1, .o 1, .o 1, .o 1, .frame, .o 1, .o 0, .o 6, .o 6] (by apply X.both <;> kernel_rfl!)
noncomputable def b1B_o (X : Cx) (n k it L ct cr cc cta N Ta eT Fo M cop tc pick tp kt1 kt2 kt3 kt4 kt5 rob tr x tx room tm : Nat) (tas : List Nat) (kt6 kt7 Fr To : Nat) (F : LG) : Out := go X (kt X) 280 40 [.o 0, .o 0, .e, .e, .o 1, .o 1, .e, .o 1, .o 1, .o 1, .o 1, .e, .o 1, .o 1, .o 1, .o 1, .o 1] [] (playLoop it L ct cr cc cta) (PySem.W.R.bindR (execsT (playW.take 3) (playEnv L ct cr cc cta)) (fun f => .pure (.done f))) n k ([(L, frm [en X "near" kt1 (.ref N), en X "folds" kt2 (.ref (Fo + 228)), en X "marks" kt3 (.ref M), en X "pick" kt4 (iv pick tp), en X "robber" kt5 (iv rob tr), en X "free" kt6 (.ref Fr), en X "told" kt7 (.ref To)] 7), (ct, cel (some (iv x tx))), (cr, cel (some (iv room tm))), (cc, cel (some (iv cop tc))), (cta, cel (some (.ref Ta))), (Ta, lst (rfs tas) eT)] ++ F)
theorem b1B_e (X : Cx) (n k it L ct cr cc cta N Ta eT Fo M cop tc pick tp kt1 kt2 kt3 kt4 kt5 rob tr x tx room tm : Nat) (tas : List Nat) (kt6 kt7 Fr To : Nat) (F : LG) : RA X 280 [] (playLoop it L ct cr cc cta) (PySem.W.R.bindR (execsT (playW.take 3) (playEnv L ct cr cc cta)) (fun f => .pure (.done f))) n k ([(L, frm [en X "near" kt1 (.ref N), en X "folds" kt2 (.ref (Fo + 228)), en X "marks" kt3 (.ref M), en X "pick" kt4 (iv pick tp), en X "robber" kt5 (iv rob tr), en X "free" kt6 (.ref Fr), en X "told" kt7 (.ref To)] 7), (ct, cel (some (iv x tx))), (cr, cel (some (iv room tm))), (cc, cel (some (iv cop tc))), (cta, cel (some (.ref Ta))), (Ta, lst (rfs tas) eT)] ++ F) (b1B_o X n k it L ct cr cc cta N Ta eT Fo M cop tc pick tp kt1 kt2 kt3 kt4 kt5 rob tr x tx room tm tas kt6 kt7 Fr To F) [2, 1, 0, 5, 6, 7, 8, 9, 4] 10 true (.compStart c11 0 (.ref (n+1)) (.ref (n+2)) (c11Env (n+3) L ct cr cc cta)) (n + 4) (k + 3) ([((n + 1), rit 0 7), ((n + 2), lst [] 0), ((n + 3), dct [] 0), (ct, cel (some (iv x tx))), (cr, cel (some (iv room tm))), (cc, cel (some (iv cop tc))), (cta, cel (some (.ref Ta))), (Ta, lst (rfs tas) eT), (L, frm [en X "near" kt1 (.ref N), en X "folds" kt2 (.ref (Fo + 228)), en X "marks" kt3 (.ref M), en X "pick" kt4 (iv pick tp), en X "robber" kt5 (iv rob tr), en X "free" kt6 (.ref Fr), en X "told" kt7 (.ref To)] 7)] ++ F) [] := by delta b1B_o; exact .m (by apply X.both <;> kernel_rfl!)
noncomputable def b2B_o (X : Cx) (n k it L ct cr cc cta N Ta eT Fo M cop tc pick tp kt1 kt2 kt3 kt4 kt5 rob tr x tx room tm : Nat) (tas : List Nat) (kt6 kt7 Fr To : Nat) (n1 k1 ea kn a1 a2 Dd eF kd td : Nat) (as : NN) (fs : List Nat) (G1 : LG) (F : LG) (y1 y2 y3 y4 y5 : Nat) : Out := goN X (kt X) 280 89 [.o 8, .o 8, .o 2, .o 2, .o 2, .o 8, .o 8, .o 3, .v (iv y1 (k1 + 1)) (k1 + 2) [], .o 0, .o 0, .o 8, .v (iv y2 (k1 + 3)) (k1 + 4) [0], .v (iv y3 (k1 + 4)) (k1 + 5) [], .o 1, .o 1, .o 1, .v (iv y4 y5) (k1 + 5) [0], .o 8, .o 8, .o 0, .o 0, .o 0, .o 8, .e, .e, .e, .v (.str (sd y4) (k1 + 6)) (k1 + 7) [], .e, .o 8, .o 9, .o 0, .o 0, .o 0, .o 9, .o 0, .o 0, .o 0, .o 9, .o 0, .o 0, .o 0, .o 0, .o 9, .o 10, .o 0] (b1B_o X n k it L ct cr cc cta N Ta eT Fo M cop tc pick tp kt1 kt2 kt3 kt4 kt5 rob tr x tx room tm tas kt6 kt7 Fr To G1) (.ok .next) n1 k1 ([(n+2, lst (ivs as) ea), (n+3, dct [en X "r" kn (iv a1 a2)] 1), (ct, cel (some (iv x tx))), (cr, cel (some (iv room tm))), (cc, cel (some (iv cop tc))), (cta, cel (some (.ref Ta))), (Ta, lst (rfs tas) eT), (L, frm [en X "near" kt1 (.ref N), en X "folds" kt2 (.ref (Fo + 228)), en X "marks" kt3 (.ref M), en X "pick" kt4 (iv pick tp), en X "robber" kt5 (iv rob tr), en X "free" kt6 (.ref Fr), en X "told" kt7 (.ref To)] 7), (Fo+228, acc Dd (rfs fs) eF), (Dd, dct [en X "_initial_size" kd (iv 0 td)] 1)] ++ F)
theorem b2B_e (X : Cx) (n k it L ct cr cc cta N Ta eT Fo M cop tc pick tp kt1 kt2 kt3 kt4 kt5 rob tr x tx room tm : Nat) (tas : List Nat) (kt6 kt7 Fr To : Nat) (n1 k1 ea kn a1 a2 Dd eF kd td : Nat) (as : NN) (fs : List Nat) (G1 : LG) (F : LG) (y1 y2 y3 y4 y5 : Nat) : RAN X 280 (b1B_o X n k it L ct cr cc cta N Ta eT Fo M cop tc pick tp kt1 kt2 kt3 kt4 kt5 rob tr x tx room tm tas kt6 kt7 Fr To G1) (.ok .next) n1 k1 ([(n+2, lst (ivs as) ea), (n+3, dct [en X "r" kn (iv a1 a2)] 1), (ct, cel (some (iv x tx))), (cr, cel (some (iv room tm))), (cc, cel (some (iv cop tc))), (cta, cel (some (.ref Ta))), (Ta, lst (rfs tas) eT), (L, frm [en X "near" kt1 (.ref N), en X "folds" kt2 (.ref (Fo + 228)), en X "marks" kt3 (.ref M), en X "pick" kt4 (iv pick tp), en X "robber" kt5 (iv rob tr), en X "free" kt6 (.ref Fr), en X "told" kt7 (.ref To)] 7), (Fo+228, acc Dd (rfs fs) eF), (Dd, dct [en X "_initial_size" kd (iv 0 td)] 1)] ++ F) (b2B_o X n k it L ct cr cc cta N Ta eT Fo M cop tc pick tp kt1 kt2 kt3 kt4 kt5 rob tr x tx room tm tas kt6 kt7 Fr To n1 k1 ea kn a1 a2 Dd eF kd td as fs G1 F y1 y2 y3 y4 y5) [8, 0, 7, 2, 3, 4, 5, 6, 9] 10 true (.call (.ref 128) ⟨[.ref (Fo + 228)], []⟩) n1 (k1 + 7) ([((Fo + 228), acc Dd (rfs fs) eF), ((n + 2), lst (ivs as) ea), (L, frm [en X "near" kt1 (.ref N), en X "folds" kt2 (.ref (Fo + 228)), en X "marks" kt3 (.ref M), en X "pick" kt4 (iv pick tp), en X "robber" kt5 (iv y4 y5), en X "free" kt6 (.ref (n + 2)), en X "told" kt7 (.ref To)] 7), (ct, cel (some (iv x tx))), (cr, cel (some (iv room tm))), (cc, cel (some (iv cop tc))), (cta, cel (some (.ref Ta))), (Ta, lst (rfs tas) eT), (Dd, dct [en X "_initial_size" kd (iv 0 td)] 1)] ++ F) [CutB X (bi "int.__repr__" [(iv y4 y5)]) (.str (sd y4) (k1 + 6)) [] (k1 + 6) (k1 + 7), CutB X (bi "list.__getitem__" [(.ref (n + 2)), (iv y3 (k1 + 4))]) (iv y4 y5) [((n + 2), lst (ivs as) ea)] (k1 + 5) (k1 + 5), CutB X (bi "int.__mod__" [(iv y1 (k1 + 1)), (iv y2 (k1 + 3))]) (iv y3 (k1 + 4)) [] (k1 + 4) (k1 + 5), CutB X (bi "len" [(.ref (n + 2))]) (iv y2 (k1 + 3)) [((n + 2), lst (ivs as) ea)] (k1 + 2) (k1 + 4), CutB X (bi "int.__add__" [(iv pick tp), (iv x tx)]) (iv y1 (k1 + 1)) [] (k1 + 1) (k1 + 2)] := by delta b2B_o; exact .mN (by apply X.both <;> kernel_rfl!)
noncomputable def b3B_o (X : Cx) (n k it L ct cr cc cta N Ta eT Fo M cop tc pick tp kt1 kt2 kt3 kt4 kt5 rob tr x tx room tm : Nat) (tas : List Nat) (kt6 kt7 Fr To : Nat) (n1 k1 ea kn a1 a2 Dd eF kd td : Nat) (as : NN) (fs : List Nat) (G1 : LG) (ya yb yc rb tb : Nat) (G2 : LG) (n2 k2 c tk : Nat) (F : LG) : Out := goN X (kt X) 280 63 [.v (.bool true) k2 [], .o 0, .o 3, .o 0, .e, .o 0, .o 0, .o 1, .o 1, .o 1, .o 1, .o 1, .o 1, .o 1, .o 1, .frame, .o 1, .o 1, .o 1, .o 2, .o 3, .o 3, .o 1, .o 3, .o 3, .o 3, .o 3, .o 1, .o 1, .o 1, .o 1, .o 1, .o 3, .o 1, .o 0] (b2B_o X n k it L ct cr cc cta N Ta eT Fo M cop tc pick tp kt1 kt2 kt3 kt4 kt5 rob tr x tx room tm tas kt6 kt7 Fr To n1 k1 ea kn a1 a2 Dd eF kd td as fs G1 G2 ya yb yc rb tb) (.ok (.ret (iv c tk))) (n2+228) k2 ([(Fo+228, acc Dd (rfs fs) eF), (n+2, lst (ivs as) ea), (L, frm [en X "near" kt1 (.ref N), en X "folds" kt2 (.ref (Fo + 228)), en X "marks" kt3 (.ref M), en X "pick" kt4 (iv pick tp), en X "robber" kt5 (iv rb tb), en X "free" kt6 (.ref (n+2)), en X "told" kt7 (.ref To)] 7), (ct, cel (some (iv x tx))), (cr, cel (some (iv room tm))), (cc, cel (some (iv cop tc))), (cta, cel (some (.ref Ta))), (Ta, lst (rfs tas) eT), (Dd, dct [en X "_initial_size" kd (iv 0 td)] 1)] ++ F)
theorem b3B_e (X : Cx) (n k it L ct cr cc cta N Ta eT Fo M cop tc pick tp kt1 kt2 kt3 kt4 kt5 rob tr x tx room tm : Nat) (tas : List Nat) (kt6 kt7 Fr To : Nat) (n1 k1 ea kn a1 a2 Dd eF kd td : Nat) (as : NN) (fs : List Nat) (G1 : LG) (ya yb yc rb tb : Nat) (G2 : LG) (n2 k2 c tk : Nat) (F : LG) : RAN X 280 (b2B_o X n k it L ct cr cc cta N Ta eT Fo M cop tc pick tp kt1 kt2 kt3 kt4 kt5 rob tr x tx room tm tas kt6 kt7 Fr To n1 k1 ea kn a1 a2 Dd eF kd td as fs G1 G2 ya yb yc rb tb) (.ok (.ret (iv c tk))) (n2+228) k2 ([(Fo+228, acc Dd (rfs fs) eF), (n+2, lst (ivs as) ea), (L, frm [en X "near" kt1 (.ref N), en X "folds" kt2 (.ref (Fo + 228)), en X "marks" kt3 (.ref M), en X "pick" kt4 (iv pick tp), en X "robber" kt5 (iv rb tb), en X "free" kt6 (.ref (n+2)), en X "told" kt7 (.ref To)] 7), (ct, cel (some (iv x tx))), (cr, cel (some (iv room tm))), (cc, cel (some (iv cop tc))), (cta, cel (some (.ref Ta))), (Ta, lst (rfs tas) eT), (Dd, dct [en X "_initial_size" kd (iv 0 td)] 1)] ++ F) (b3B_o X n k it L ct cr cc cta N Ta eT Fo M cop tc pick tp kt1 kt2 kt3 kt4 kt5 rob tr x tx room tm tas kt6 kt7 Fr To n1 k1 ea kn a1 a2 Dd eF kd td as fs G1 ya yb yc rb tb G2 n2 k2 c tk F) [3, 0, 1, 2, 4, 5, 6, 7, 8, 9, 10, 11] 12 false (.call (.ref 215) ⟨[.str (sd rb) (k1 + 6)], [("folds", .ref (Fo + 228))]⟩) (n2 + 231) (k2 + 4) ([((Fo + 228), acc Dd (rfs fs) eF), ((n2 + 230), dct [en X "folds" k2 (.ref (Fo + 228))] 1), ((n2 + 229), frm [en X "name_index" (k2 + 1) (.str (sd rb) (k1 + 6)), en X "get_name" (k2 + 2) (.ref 215), en X "extrainfo" (k2 + 3) (.ref (n2 + 228))] 3), ((n2 + 228), dct [en X "folds" k2 (.ref (Fo + 228))] 1), ((n + 2), lst (ivs as) ea), (L, frm [en X "near" kt1 (.ref N), en X "folds" kt2 (.ref (Fo + 228)), en X "marks" kt3 (.ref M), en X "pick" kt4 (iv pick tp), en X "robber" kt5 (iv rb tb), en X "free" kt6 (.ref (n + 2)), en X "told" kt7 (.ref To)] 7), (ct, cel (some (iv x tx))), (cr, cel (some (iv room tm))), (cc, cel (some (iv cop tc))), (cta, cel (some (.ref Ta))), (Ta, lst (rfs tas) eT), (Dd, dct [en X "_initial_size" kd (iv 0 td)] 1)] ++ F) [CutB X (bi "int.__bool__" [(iv c tk)]) (.bool true) [] k2 k2] := by delta b3B_o; exact .mN (by apply X.both <;> kernel_rfl!)
theorem b4B_e (X : Cx) (n k it L ct cr cc cta N Ta eT Fo M cop tc pick tp kt1 kt2 kt3 kt4 kt5 rob tr x tx room tm : Nat) (tas : List Nat) (kt6 kt7 Fr To : Nat) (n1 k1 ea kn a1 a2 Dd eF kd td : Nat) (as : NN) (fs : List Nat) (G1 : LG) (ya yb yc rb tb : Nat) (G2 : LG) (n2 k2 c tk : Nat) (n3 k3 h th : Nat) (G3 : LG) (F : LG) : REN X 280 (b3B_o X n k it L ct cr cc cta N Ta eT Fo M cop tc pick tp kt1 kt2 kt3 kt4 kt5 rob tr x tx room tm tas kt6 kt7 Fr To n1 k1 ea kn a1 a2 Dd eF kd td as fs G1 ya yb yc rb tb G2 n2 k2 c tk G3) (.ok (.ret (.str (sd h) th))) (n3+228) k3 ([(Fo+228, acc Dd (rfs fs) eF), (n2+230, dct [en X "folds" k2 (.ref (Fo + 228))] 1), (n2+229, frm [en X "name_index" (k2 + 1) (.str (sd rb) (k1 + 6)), en X "get_name" (k2 + 2) (.ref 215), en X "extrainfo" (k2 + 3) (.ref (n2 + 228))] 3), (n2+228, dct [en X "folds" k2 (.ref (Fo + 228))] 1), (n+2, lst (ivs as) ea), (L, frm [en X "near" kt1 (.ref N), en X "folds" kt2 (.ref (Fo + 228)), en X "marks" kt3 (.ref M), en X "pick" kt4 (iv pick tp), en X "robber" kt5 (iv rb tb), en X "free" kt6 (.ref (n+2)), en X "told" kt7 (.ref To)] 7), (ct, cel (some (iv x tx))), (cr, cel (some (iv room tm))), (cc, cel (some (iv cop tc))), (cta, cel (some (.ref Ta))), (Ta, lst (rfs tas) eT), (Dd, dct [en X "_initial_size" kd (iv 0 td)] 1)] ++ F) [0, 1, 5, 6, 7, 8, 9, 10, 11, 12] 13 (.done (.next)) (n3 + 229) (k3 + 2) ([((n3 + 228), tup [(.str (sd h) th), (.str (sd h) th)]), ((Fo + 228), acc Dd (rfs fs) eF), ((n + 2), lst (ivs as) ea), (L, frm [en X "near" kt1 (.ref N), en X "folds" kt2 (.ref (Fo + 228)), en X "marks" kt3 (.ref M), en X "pick" kt4 (iv pick tp), en X "robber" kt5 (iv rb tb), en X "free" kt6 (.ref (n + 2)), en X "told" kt7 (.ref (n3 + 228))] 7), (ct, cel (some (iv x tx))), (cr, cel (some (iv room tm))), (cc, cel (some (iv cop tc))), (cta, cel (some (.ref Ta))), (Ta, lst (rfs tas) eT), (Dd, dct [en X "_initial_size" kd (iv 0 td)] 1)] ++ F) [] := .mk 24 [.o 3, .o 3, .o 3, .o 3, .o 7, .o 7] (by apply X.both <;> kernel_rfl!)
theorem b5B_e (X : Cx) (n k it L ct cr cc cta N Ta eT Fo M cop tc pick tp kt1 kt2 kt3 kt4 kt5 rob tr x tx room tm : Nat) (tas : List Nat) (kt6 kt7 Fr To : Nat) (n1 k1 ea kn a1 a2 Dd eF kd td : Nat) (as : NN) (fs : List Nat) (G1 : LG) (ya yb yc rb tb : Nat) (G2 : LG) (n2 k2 c tk : Nat) (F : LG) : REN X 280 (b2B_o X n k it L ct cr cc cta N Ta eT Fo M cop tc pick tp kt1 kt2 kt3 kt4 kt5 rob tr x tx room tm tas kt6 kt7 Fr To n1 k1 ea kn a1 a2 Dd eF kd td as fs G1 G2 ya yb yc rb tb) (.ok (.ret (iv c tk))) (n2+228) k2 ([(Fo+228, acc Dd (rfs fs) eF), (n+2, lst (ivs as) ea), (L, frm [en X "near" kt1 (.ref N), en X "folds" kt2 (.ref (Fo + 228)), en X "marks" kt3 (.ref M), en X "pick" kt4 (iv pick tp), en X "robber" kt5 (iv rb tb), en X "free" kt6 (.ref (n+2)), en X "told" kt7 (.ref To)] 7), (ct, cel (some (iv x tx))), (cr, cel (some (iv room tm))), (cc, cel (some (iv cop tc))), (cta, cel (some (.ref Ta))), (Ta, lst (rfs tas) eT), (Dd, dct [en X "_initial_size" kd (iv 0 td)] 1)] ++ F) [0, 3, 4, 5, 6, 7, 8, 9, 10, 11] 12 (.done (.next)) (n2 + 231) (k2 + 6) ([((n2 + 230), tup [(.ref 44), (.str "" (k2 + 4))]), ((Fo + 228), acc Dd (rfs fs) eF), ((n + 2), lst (ivs as) ea), (L, frm [en X "near" kt1 (.ref N), en X "folds" kt2 (.ref (Fo + 228)), en X "marks" kt3 (.ref M), en X "pick" kt4 (iv pick tp), en X "robber" kt5 (iv rb tb), en X "free" kt6 (.ref (n + 2)), en X "told" kt7 (.ref (n2 + 230))] 7), (ct, cel (some (iv x tx))), (cr, cel (some (iv room tm))), (cc, cel (some (iv cop tc))), (cta, cel (some (.ref Ta))), (Ta, lst (rfs tas) eT), (Dd, dct [en X "_initial_size" kd (iv 0 td)] 1)] ++ F) [CutB X (bi "int.__bool__" [(iv c tk)]) (.bool false) [] k2 k2] := .mk 51 [.v (.bool false) k2 [], .o 3, .o 0, .e, .o 0, .o 0, .o 1, .o 1, .o 1, .o 1, .o 1, .o 1, .o 1, .o 1, .frame, .o 1, .o 0, .o 6, .o 6] (by apply X.both <;> kernel_rfl!)
noncomputable def q1_o (X : Cx) (n k it L ct cr cc cta N Ta Fo M pick tp kt1 kt2 kt3 kt4 kt5 rb tb kt6 kt7 Fr To Dd eF kd td : Nat) (fs : List Nat) (F : LG) : Out := go X (kt X) 280 22 [.o 1, .o 2, .o 0, .o 0, .o 0, .o 2, .o 0, .o 0, .o 0, .o 2, .o 0, .o 0, .o 0, .o 0, .o 2, .o 3, .o 0] [] (playLoop it L ct cr cc cta) (PySem.W.R.bindR (execsT ([nx playW 3]) (playEnv L ct cr cc cta)) (fun f => .pure (.done f))) n k ([(L, frm [en X "near" kt1 (.ref N), en X "folds" kt2 (.ref (Fo + 228)), en X "marks" kt3 (.ref M), en X "pick" kt4 (iv pick tp), en X "robber" kt5 (iv rb tb), en X "free" kt6 (.ref Fr), en X "told" kt7 (.ref To)] 7), (Fo+228, acc Dd (rfs fs) eF), (Dd, dct [en X "_initial_size" kd (iv 0 td)] 1)] ++ F)
theorem q1_e (X : Cx) (n k it L ct cr cc cta N Ta Fo M pick tp kt1 kt2 kt3 kt4 kt5 rb tb kt6 kt7 Fr To Dd eF kd td : Nat) (fs : List Nat) (F : LG) : RA X 280 [] (playLoop it L ct cr cc cta) (PySem.W.R.bindR (execsT ([nx playW 3]) (playEnv L ct cr cc cta)) (fun f => .pure (.done f))) n k ([(L, frm [en X "near" kt1 (.ref N), en X "folds" kt2 (.ref (Fo + 228)), en X "marks" kt3 (.ref M), en X "pick" kt4 (iv pick tp), en X "robber" kt5 (iv rb tb), en X "free" kt6 (.ref Fr), en X "told" kt7 (.ref To)] 7), (Fo+228, acc Dd (rfs fs) eF), (Dd, dct [en X "_initial_size" kd (iv 0 td)] 1)] ++ F) (q1_o X n k it L ct cr cc cta N Ta Fo M pick tp kt1 kt2 kt3 kt4 kt5 rb tb kt6 kt7 Fr To Dd eF kd td fs F) [1, 0, 2] 3 true (.call (.ref 128) ⟨[.ref (Fo + 228)], []⟩) n k ([((Fo + 228), acc Dd (rfs fs) eF), (L, frm [en X "near" kt1 (.ref N), en X "folds" kt2 (.ref (Fo + 228)), en X "marks" kt3 (.ref M), en X "pick" kt4 (iv pick tp), en X "robber" kt5 (iv rb tb), en X "free" kt6 (.ref Fr), en X "told" kt7 (.ref To)] 7), (Dd, dct [en X "_initial_size" kd (iv 0 td)] 1)] ++ F) [] := by delta q1_o; exact .m (by kernel_rfl!)
theorem q2_e (X : Cx) (n k it L ct cr cc cta N Ta Fo M pick tp kt1 kt2 kt3 kt4 kt5 rb tb kt6 kt7 Fr To Dd eF kd td : Nat) (fs : List Nat) (n1 k1 c tk : Nat) (G1 : LG) (F : LG) : REN X 280 (q1_o X n k it L ct cr cc cta N Ta Fo M pick tp kt1 kt2 kt3 kt4 kt5 rb tb kt6 kt7 Fr To Dd eF kd td fs G1) (.ok (.ret (iv c tk))) n1 k1 ([(L, frm [en X "near" kt1 (.ref N), en X "folds" kt2 (.ref (Fo + 228)), en X "marks" kt3 (.ref M), en X "pick" kt4 (iv pick tp), en X "robber" kt5 (iv rb tb), en X "free" kt6 (.ref Fr), en X "told" kt7 (.ref To)] 7), (Fo+228, acc Dd (rfs fs) eF), (Dd, dct [en X "_initial_size" kd (iv 0 td)] 1)] ++ F) [1, 0, 2] 3 (.done (.next)) n1 (k1 + 1) ([((Fo + 228), acc Dd (rfs fs) eF), (L, frm [en X "near" kt1 (.ref N), en X "folds" kt2 (.ref (Fo + 228)), en X "marks" kt3 (.ref M), en X "pick" kt4 (iv pick tp), en X "robber" kt5 (iv rb tb), en X "free" kt6 (.ref Fr), en X "told" kt7 (.ref To)] 7), (Dd, dct [en X "_initial_size" kd (iv 0 td)] 1)] ++ F) [CutB X (bi "int.__eq__" [(iv c tk), (iv 0 k1)]) (.bool false) [] (k1 + 1) (k1 + 1)] := .mk 5 [.v (.bool false) (k1 + 1) []] (by apply X.both <;> kernel_rfl!)
noncomputable def z1_o (X : Cx) (n k it L ct cr cc cta N Ta Fo M pick tp kt1 kt2 kt3 kt4 kt5 rb tb kt6 kt7 Fr To Dd eF kd td : Nat) (fs : List Nat) (F : LG) : Out := go X (kt X) 280 21 [.o 1, .o 2, .o 0, .o 0, .o 0, .o 2, .o 0, .o 0, .o 0, .o 2, .o 0, .o 0, .o 0, .o 0, .o 2, .o 3, .o 0] [] (playLoop it L ct cr cc cta) (PySem.W.R.bindR (evalT (cmpL (ifT (nx playW 3))) (playEnv L ct cr cc cta)) (fun v => .pure (.done (.ret v)))) n k ([(L, frm [en X "near" kt1 (.ref N), en X "folds" kt2 (.ref (Fo + 228)), en X "marks" kt3 (.ref M), en X "pick" kt4 (iv pick tp), en X "robber" kt5 (iv rb tb), en X "free" kt6 (.ref Fr), en X "told" kt7 (.ref To)] 7), (Fo+228, acc Dd (rfs fs) eF), (Dd, dct [en X "_initial_size" kd (iv 0 td)] 1)] ++ F)
theorem z1_e (X : Cx) (n k it L ct cr cc cta N Ta Fo M pick tp kt1 kt2 kt3 kt4 kt5 rb tb kt6 kt7 Fr To Dd eF kd td : Nat) (fs : List Nat) (F : LG) : RA X 280 [] (playLoop it L ct cr cc cta) (PySem.W.R.bindR (evalT (cmpL (ifT (nx playW 3))) (playEnv L ct cr cc cta)) (fun v => .pure (.done (.ret v)))) n k ([(L, frm [en X "near" kt1 (.ref N), en X "folds" kt2 (.ref (Fo + 228)), en X "marks" kt3 (.ref M), en X "pick" kt4 (iv pick tp), en X "robber" kt5 (iv rb tb), en X "free" kt6 (.ref Fr), en X "told" kt7 (.ref To)] 7), (Fo+228, acc Dd (rfs fs) eF), (Dd, dct [en X "_initial_size" kd (iv 0 td)] 1)] ++ F) (z1_o X n k it L ct cr cc cta N Ta Fo M pick tp kt1 kt2 kt3 kt4 kt5 rb tb kt6 kt7 Fr To Dd eF kd td fs F) [1, 0, 2] 3 true (.call (.ref 128) ⟨[.ref (Fo + 228)], []⟩) n k ([((Fo + 228), acc Dd (rfs fs) eF), (L, frm [en X "near" kt1 (.ref N), en X "folds" kt2 (.ref (Fo + 228)), en X "marks" kt3 (.ref M), en X "pick" kt4 (iv pick tp), en X "robber" kt5 (iv rb tb), en X "free" kt6 (.ref Fr), en X "told" kt7 (.ref To)] 7), (Dd, dct [en X "_initial_size" kd (iv 0 td)] 1)] ++ F) [] := by delta z1_o; exact .m (by kernel_rfl!)
theorem z2_e (X : Cx) (n k it L ct cr cc cta N Ta Fo M pick tp kt1 kt2 kt3 kt4 kt5 rb tb kt6 kt7 Fr To Dd eF kd td : Nat) (fs : List Nat) (n1 k1 c tk : Nat) (G1 : LG) (F : LG) : REN X 280 (z1_o X n k it L ct cr cc cta N Ta Fo M pick tp kt1 kt2 kt3 kt4 kt5 rb tb kt6 kt7 Fr To Dd eF kd td fs G1) (.ok (.ret (iv c tk))) n1 k1 ([(L, frm [en X "near" kt1 (.ref N), en X "folds" kt2 (.ref (Fo + 228)), en X "marks" kt3 (.ref M), en X "pick" kt4 (iv pick tp), en X "robber" kt5 (iv rb tb), en X "free" kt6 (.ref Fr), en X "told" kt7 (.ref To)] 7), (Fo+228, acc Dd (rfs fs) eF), (Dd, dct [en X "_initial_size" kd (iv 0 td)] 1)] ++ F) [1, 0, 2] 3 (.done (.ret (iv c tk))) n1 k1 ([((Fo + 228), acc Dd (rfs fs) eF), (L, frm [en X "near" kt1 (.ref N), en X "folds" kt2 (.ref (Fo + 228)), en X "marks" kt3 (.ref M), en X "pick" kt4 (iv pick tp), en X "robber" kt5 (iv rb tb), en X "free" kt6 (.ref Fr), en X "told" kt7 (.ref To)] 7), (Dd, dct [en X "_initial_size" kd (iv 0 td)] 1)] ++ F) [] := .mk 1 [] (by kernel_rfl!)
theorem z3_e (X : Cx) (n k it L ct cr cc cta N Ta Fo M pick tp kt1 kt2 kt3 kt4 kt5 rb tb kt6 kt7 Fr To Dd eF kd td : Nat) (fs : List Nat) (F : LG) : RE X 280 [] (playLoop it L ct cr cc cta) (PySem.W.R.bindR (evalT (cmpR (ifT (nx playW 3))) (playEnv L ct cr cc cta)) (fun v => .pure (.done (.ret v)))) n k ([(L, frm [en X "near" kt1 (.ref N), en X "folds" kt2 (.ref (Fo + 228)), en X "marks" kt3 (.ref M), en X "pick" kt4 (iv pick tp), en X "robber" kt5 (iv rb tb), en X "free" kt6 (.ref Fr), en X "told" kt7 (.ref To)] 7), (Fo+228, acc Dd (rfs fs) eF), (Dd, dct [en X "_initial_size" kd (iv 0 td)] 1)] ++ F) [1, 0, 2] 3 (.done (.ret (iv 0 k))) n (k + 1) ([((Fo + 228), acc Dd (rfs fs) eF), (L, frm [en X "near" kt1 (.ref N), en X "folds" kt2 (.ref (Fo + 228)), en X "marks" kt3 (.ref M), en X "pick" kt4 (iv pick tp), en X "robber" kt5 (iv rb tb), en X "free" kt6 (.ref Fr), en X "told" kt7 (.ref To)] 7), (Dd, dct [en X "_initial_size" kd (iv 0 td)] 1)] ++ F) [] := .mk 1 [] (by kernel_rfl!)
theorem z4_e (X : Cx) (n k it L ct cr cc cta N Ta Fo M pick tp kt1 kt2 kt3 kt4 kt5 rb tb kt6 kt7 Fr To Dd eF kd td : Nat) (fs : List Nat) (F : LG) : RE X 280 [] (playLoop it L ct cr cc cta) (PySem.W.R.bindR (evalT (cmpL (ifT (nx (ifB (nx playW 3)) 0))) (playEnv L ct cr cc cta)) (fun v => .pure (.done (.ret v)))) n k ([(L, frm [en X "near" kt1 (.ref N), en X "folds" kt2 (.ref (Fo + 228)), en X "marks" kt3 (.ref M), en X "pick" kt4 (iv pick tp), en X "robber" kt5 (iv rb tb), en X "free" kt6 (.ref Fr), en X "told" kt7 (.ref To)] 7), (Fo+228, acc Dd (rfs fs) eF), (Dd, dct [en X "_initial_size" kd (iv 0 td)] 1)] ++ F) [1, 0, 2] 3 (.done (.ret (.ref To))) n k ([((Fo + 228), acc Dd (rfs fs) eF), (L, frm [en X "near" kt1 (.ref N), en X "folds" kt2 (.ref (Fo + 228)), en X "marks" kt3 (.ref M), en X "pick" kt4 (iv pick tp), en X "robber" kt5 (iv rb tb), en X "free" kt6 (.ref Fr), en X "told" kt7 (.ref To)] 7), (Dd, dct [en X "_initial_size" kd (iv 0 td)] 1)] ++ F) [] := .mk 2 [.o 1] (by kernel_rfl!)
theorem z5_e (X : Cx) (n k it L ct cr cc cta N Ta Fo M pick tp kt1 kt2 kt3 kt4 kt5 rb tb kt6 kt7 Fr To Dd eF kd td : Nat) (fs : List Nat) (F : LG) : RE X 280 [] (playLoop it L ct cr cc cta) (PySem.W.R.bindR (evalT (cmpR (ifT (nx (ifB (nx playW 3)) 0))) (playEnv L ct cr cc cta)) (fun v => .pure (.done (.ret v)))) n k ([(L, frm [en X "near" kt1 (.ref N), en X "folds" kt2 (.ref (Fo + 228)), en X "marks" kt3 (.ref M), en X "pick" kt4 (iv pick tp), en X "robber" kt5 (iv rb tb), en X "free" kt6 (.ref Fr), en X "told" kt7 (.ref To)] 7), (Fo+228, acc Dd (rfs fs) eF), (Dd, dct [en X "_initial_size" kd (iv 0 td)] 1)] ++ F) [0, 2, 1, 3] 4 (.done (.ret (.ref n))) (n + 1) (k + 1) ([(n, tup [(.ref 44), (.str "" k)]), ((Fo + 228), acc Dd (rfs fs) eF), (L, frm [en X "near" kt1 (.ref N), en X "folds" kt2 (.ref (Fo + 228)), en X "marks" kt3 (.ref M), en X "pick" kt4 (iv pick tp), en X "robber" kt5 (iv rb tb), en X "free" kt6 (.ref Fr), en X "told" kt7 (.ref To)] 7), (Dd, dct [en X "_initial_size" kd (iv 0 td)] 1)] ++ F) [] := .mk 5 [.o 0] (by kernel_rfl!)
theorem z6_e (X : Cx) (n k it L ct cr cc cta N Ta Fo M pick tp kt1 kt2 kt3 kt4 kt5 rb tb kt6 kt7 Fr To Dd eF kd td : Nat) (fs : List Nat) (F : LG) : RE X 280 [] (playLoop it L ct cr cc cta) (PySem.W.R.bindR (execsT ((ifB (nx playW 3)).drop 1) (playEnv L ct cr cc cta)) (fun f => .pure (.done f))) n k ([(L, frm [en X "near" kt1 (.ref N), en X "folds" kt2 (.ref (Fo + 228)), en X "marks" kt3 (.ref M), en X "pick" kt4 (iv pick tp), en X "robber" kt5 (iv rb tb), en X "free" kt6 (.ref Fr), en X "told" kt7 (.ref To)] 7), (Fo+228, acc Dd (rfs fs) eF), (Dd, dct [en X "_initial_size" kd (iv 0 td)] 1)] ++ F) [0, 2, 1, 3] 4 (.done (.next)) (n + 1) (k + 3) ([(n, tup [(.str (sd rb) k), (.str (sd rb) (k + 1))]), ((Fo + 228), acc Dd (rfs fs) eF), (L, frm [en X "near" kt1 (.ref N), en X "folds" kt2 (.ref (Fo + 228)), en X "marks" kt3 (.ref M), en X "pick" kt4 (iv pick tp), en X "robber" kt5 (iv rb tb), en X "free" kt6 (.ref Fr), en X "told" kt7 (.ref n)] 7), (Dd, dct [en X "_initial_size" kd (iv 0 td)] 1)] ++ F) [CutB X (bi "int.__repr__" [(iv rb tb)]) (.str (sd rb) (k + 1)) [] (k + 1) (k + 2), CutB X (bi "int.__repr__" [(iv rb tb)]) (.str (sd rb) k) [] k (k + 1)] := .mk 52 [.o 0, .o 0, .o 1, .e, .e, .e, .v (.str (sd rb) k) (k + 1) [], .e, .o 0, .o 0, .o 1, .e, .e, .e, .v (.str (sd rb) (k + 1)) (k + 2) [], .e, .o 2, .o 2] (by apply X.both <;> kernel_rfl!)
theorem z7_e (X : Cx) (n k it L ct cr cc cta N Ta Fo M pick tp kt1 kt2 kt3 kt4 kt5 rb tb kt6 kt7 Fr To Dd eF kd td : Nat) (fs : List Nat) (e1 cop tc room tm h1 t1 h2 t2 : Nat) (xs : NN) (F : LG) (y1 y2 y3 y4 y5 y6 : Nat) : RE X 280 [] (playLoop it L ct cr cc cta) (PySem.W.R.bindR (execsT ((playW.drop 4).take 3) (playEnv L ct cr cc cta)) (fun f => .pure (.done f))) n k ([(L, frm [en X "near" kt1 (.ref N), en X "folds" kt2 (.ref (Fo + 228)), en X "marks" kt3 (.ref M), en X "pick" kt4 (iv pick tp), en X "robber" kt5 (iv rb tb), en X "free" kt6 (.ref Fr), en X "told" kt7 (.ref To)] 7), (Fo+228, acc Dd (rfs fs) eF), (Dd, dct [en X "_initial_size" kd (iv 0 td)] 1), (To, tup [.str (sd h1) t1, .str (sd h2) t2]), (N, lst (ivs xs) e1), (cc, cel (some (iv cop tc))), (cr, cel (some (iv room tm)))] ++ F) [0, 4, 5, 6, 1, 2] 7 (.done (.next)) n (k + 10) ([(L, frm [en X "near" kt1 (.ref N), en X "folds" kt2 (.ref (Fo + 228)), en X "marks" kt3 (.ref M), en X "pick" kt4 (iv pick tp), en X "robber" kt5 (iv rb tb), en X "free" kt6 (.ref Fr), en X "told" kt7 (.ref To)] 7), (N, lst (ivs xs) e1), (cc, cel (some (iv h1 (k + 9)))), (cr, cel (some (iv y5 y6))), ((Fo + 228), acc Dd (rfs fs) eF), (Dd, dct [en X "_initial_size" kd (iv 0 td)] 1)] ++ F) [CutB X (bi "list.__getitem__" [(.ref N), (iv rb tb)]) (iv y5 y6) [(N, lst (ivs xs) e1)] (k + 10) (k + 10), CutB X (bi "int.__new__" [(.type "int"), (.str (sd h1) t1)]) (iv h1 (k + 9)) [] (k + 9) (k + 10), CutB X (bi "int.__eq__" [(iv y4 (k + 6)), (iv 0 (k + 7))]) (.bool false) [] (k + 8) (k + 8), CutB X (bi "int.__and__" [(iv y3 (k + 4)), (iv 1 (k + 5))]) (iv y4 (k + 6)) [] (k + 6) (k + 7), CutB X (bi "int.__rshift__" [(iv y1 y2), (iv h1 (k + 3))]) (iv y3 (k + 4)) [] (k + 4) (k + 5), CutB X (bi "int.__new__" [(.type "int"), (.str (sd h1) t1)]) (iv h1 (k + 3)) [] (k + 3) (k + 4), CutB X (bi "list.__getitem__" [(.ref N), (iv cop tc)]) (iv y1 y2) [(N, lst (ivs xs) e1)] (k + 2) (k + 2), CutB X (bi "str.__ne__" [(.str (sd h1) t1), (.str (sd h2) t2)]) (.bool false) [] (k + 2) (k + 2)] := .mk 115 [.o 1, .o 4, .o 4, .o 4, .e, .o 4, .o 4, .o 1, .o 4, .o 4, .o 4, .e, .o 4, .o 4, .v (.bool false) (k + 2) [], .o 1, .o 6, .o 5, .o 5, .o 5, .v (iv y1 y2) (k + 2) [4], .o 0, .o 0, .o 1, .o 4, .o 4, .o 4, .e, .o 4, .o 4, .e, .v (iv h1 (k + 3)) (k + 4) [], .e, .v (iv y3 (k + 4)) (k + 5) [], .v (iv y4 (k + 6)) (k + 7) [], .v (.bool false) (k + 8) [], .o 0, .o 0, .o 1, .o 4, .o 4, .o 4, .e, .o 4, .o 4, .e, .v (iv h1 (k + 9)) (k + 10) [], .e, .o 6, .o 6, .o 1, .o 1, .o 5, .o 5, .o 5, .v (iv y5 y6) (k + 10) [4], .o 7, .o 7] (by apply X.both <;> kernel_rfl!)
theorem w1_e (X : Cx) (n k it L ct cr cc cta N Ta Fo M pick tp kt1 kt2 kt3 kt4 kt5 rb tb kt6 kt7 Fr To Dd eF kd td : Nat) (fs : List Nat) (F : LG) : RE X 280 [] (playLoop it L ct cr cc cta) (PySem.W.R.bindR (evalT (cmpL (ifT (nx playW 7))) (playEnv L ct cr cc cta)) (fun v => .pure (.done (.ret v)))) n k ([(L, frm [en X "near" kt1 (.ref N), en X "folds" kt2 (.ref (Fo + 228)), en X "marks" kt3 (.ref M), en X "pick" kt4 (iv pick tp), en X "robber" kt5 (iv rb tb), en X "free" kt6 (.ref Fr), en X "told" kt7 (.ref To)] 7), (Fo+228, acc Dd (rfs fs) eF), (Dd, dct [en X "_initial_size" kd (iv 0 td)] 1)] ++ F) [1, 0, 2] 3 (.done (.ret (.ref M))) n k ([((Fo + 228), acc Dd (rfs fs) eF), (L, frm [en X "near" kt1 (.ref N), en X "folds" kt2 (.ref (Fo + 228)), en X "marks" kt3 (.ref M), en X "pick" kt4 (iv pick tp), en X "robber" kt5 (iv rb tb), en X "free" kt6 (.ref Fr), en X "told" kt7 (.ref To)] 7), (Dd, dct [en X "_initial_size" kd (iv 0 td)] 1)] ++ F) [] := .mk 2 [.o 1] (by kernel_rfl!)
theorem w2_e (X : Cx) (n k it L ct cr cc cta N Ta Fo M pick tp kt1 kt2 kt3 kt4 kt5 rb tb kt6 kt7 Fr To Dd eF kd td : Nat) (fs : List Nat) (F : LG) : RE X 280 [] (playLoop it L ct cr cc cta) (PySem.W.R.bindR (evalT (cmpR (ifT (nx playW 7))) (playEnv L ct cr cc cta)) (fun v => .pure (.done (.ret v)))) n k ([(L, frm [en X "near" kt1 (.ref N), en X "folds" kt2 (.ref (Fo + 228)), en X "marks" kt3 (.ref M), en X "pick" kt4 (iv pick tp), en X "robber" kt5 (iv rb tb), en X "free" kt6 (.ref Fr), en X "told" kt7 (.ref To)] 7), (Fo+228, acc Dd (rfs fs) eF), (Dd, dct [en X "_initial_size" kd (iv 0 td)] 1)] ++ F) [0, 2, 1, 3] 4 (.done (.ret (.ref n))) (n + 1) k ([(n, lst [] 0), ((Fo + 228), acc Dd (rfs fs) eF), (L, frm [en X "near" kt1 (.ref N), en X "folds" kt2 (.ref (Fo + 228)), en X "marks" kt3 (.ref M), en X "pick" kt4 (iv pick tp), en X "robber" kt5 (iv rb tb), en X "free" kt6 (.ref Fr), en X "told" kt7 (.ref To)] 7), (Dd, dct [en X "_initial_size" kd (iv 0 td)] 1)] ++ F) [] := .mk 2 [] (by kernel_rfl!)
theorem pw3_e (X : Cx) (n k it L ct cr cc cta N Ta Fo M pick tp kt1 kt2 kt3 kt4 kt5 rb tb kt6 kt7 Fr To Dd eF kd td : Nat) (fs : List Nat) (eM mk mt : Nat) (ms : NN) (F : LG) (r1 r2 : List Nat) : RE X 280 [] (playLoop it L ct cr cc cta) (PySem.W.R.bindR (execsT (ifB (nx playW 7)) (playEnv L ct cr cc cta)) (fun f => .pure (.done f))) n k ([(L, frm [en X "near" kt1 (.ref N), en X "folds" kt2 (.ref (Fo + 228)), en X "marks" kt3 (.ref M), en X "pick" kt4 (iv pick tp), en X "robber" kt5 (iv rb tb), en X "free" kt6 (.ref Fr), en X "told" kt7 (.ref To)] 7), (Fo+228, acc Dd (rfs fs) eF), (Dd, dct [en X "_initial_size" kd (iv 0 td)] 1), (M, lst (ivs (ms ++ [(mk, mt)])) eM)] ++ F) [8, 6, 5, 7] 9 (.done (.next)) (n + 5) (k + 3) ([(M, lst (ivs ms) (eM + 1)), ((Fo + 228), acc Dd (rfs r2) (eF + 1)), (L, frm [en X "near" kt1 (.ref N), en X "folds" kt2 (.ref (Fo + 228)), en X "marks" kt3 (.ref M), en X "pick" kt4 (iv pick tp), en X "robber" kt5 (iv rb tb), en X "free" kt6 (.ref Fr), en X "told" kt7 (.ref To)] 7), (Dd, dct [en X "_initial_size" kd (iv 0 td)] 1)] ++ F) [CutG X 280 false (bi "list.__setitem__" [(.ref (Fo + 228)), (.ref (n + 4)), (.ref (n + 3))]) (.ok (.ret .none)) [((Fo + 228), acc Dd (rfs fs) eF), ((n + 4), fld "slice" [(iv mk mt), .none, .none]), ((n + 3), lst [] 0)] (n + 5) (k + 3) (k + 3) [((Fo + 228), acc Dd (rfs r2) (eF + 1))] [], CutG X 280 false (bi "list.__getitem__" [(.ref (Fo + 228)), (.ref (n + 1))]) (.ok (.ret (.ref (n + 2)))) [((Fo + 228), acc Dd (rfs fs) eF), ((n + 1), fld "slice" [(iv mk mt), .none, .none])] (n + 2) (k + 2) (k + 2) [] [lst (rfs r1) 0], CutG X 280 false (bi "list.pop" [(.ref M)]) (.ok (.ret (iv mk mt))) [(M, lst (ivs (ms ++ [(mk, mt)])) eM)] n k k [(M, lst (ivs ms) (eM + 1))] []] := .mk 101 [.o 1, .o 2, .o 0, .o 0, .o 0, .o 2, .o 0, .o 0, .o 0, .o 2, .o 0, .o 0, .o 0, .o 0, .o 2, .o 3, .o 1, .o 4, .o 4, .o 4, .o 4, .g false (.ok (.ret (iv mk mt))) k [3] [(3, lst (ivs ms) (eM + 1))] [], .o 0, .e, .o 0, .o 0, .o 0, .o 1, .o 1, .o 1, .o 1, .frame, .o 1, .o 1, .o 4, .o 0, .o 0, .o 0, .o 4, .o 0, .o 4, .o 0, .o 0, .o 0, .g false (.ok (.ret (.ref (n + 2)))) (k + 2) [3, 0] [] [lst (rfs r1) 0], .o 3, .o 3, .o 4, .o 4, .o 7, .o 0, .o 7, .o 0, .o 0, .o 0, .g false (.ok (.ret .none)) (k + 3) [6, 0, 1] [(6, acc Dd (rfs r2) (eF + 1))] [], .o 5, .e] (by kernel_rfl!)
noncomputable def hd1_o (X : Cx) (n k Fo Dd eF x t : Nat) (fs : List Nat) (F : LG) : Out := goC X (kt X) 70 34 [.o 0, .o 0, .o 1, .o 1, .o 1, .o 1, .frame, .o 1, .o 2, .o 0, .o 0, .o 0, .o 2, .o 0, .o 0, .o 0, .e, .o 2, .o 0, .o 1] (.call (.ref 215) ⟨[.str (sd x) t], [("folds", .ref (Fo + 228))]⟩) n k ([(Fo + 228, acc Dd (rfs fs) eF)] ++ F)
theorem hd1_e (X : Cx) (n k Fo Dd eF x t : Nat) (fs : List Nat) (F : LG) : RAC X 70 (.call (.ref 215) ⟨[.str (sd x) t], [("folds", .ref (Fo + 228))]⟩) n k ([(Fo + 228, acc Dd (rfs fs) eF)] ++ F) (hd1_o X n k Fo Dd eF x t fs F) [1, 0, 2] 3 true (holdLoop (n+1) n) (n + 2) (k + 2) ([(n, frm [en X "spot" k (.str (sd x) t), en X "folds" (k + 1) (.ref (Fo + 228))] 2), ((n + 1), lit (Fo + 228) 0), ((Fo + 228), acc Dd (rfs fs) eF)] ++ F) [] := by delta hd1_o; exact .mC (by apply X.both <;> kernel_rfl!)
theorem hd2_e (X : Cx) (n k L it Fo Dd eF i x t k1 k2 : Nat) (fs : List Nat) (u tu h th P : Nat) (F : LG) : REC X 0 (holdLoop it L) n k ([(P, tup [.str (sd u) tu, .str (sd h) th]), (L, frm [en X "spot" k1 (.str (sd x) t), en X "folds" k2 (.ref (Fo + 228))] 2), (it, lit (Fo + 228) i), (Fo + 228, acc Dd (rfs fs) eF)] ++ F) [4, 3, 5, 6] 7 (.again (holdLoop it L)) (n + 3) (k + 3) ([(L, frm [en X "spot" k1 (.str (sd h) th), en X "folds" k2 (.ref (Fo + 228)), en X "corner" k (.str (sd u) tu), en X "hold" (k + 1) (.str (sd h) th)] 4), (P, tup [(.str (sd u) tu), (.str (sd h) th)]), (it, lit (Fo + 228) (i + 1)), ((Fo + 228), acc Dd (rfs fs) eF)] ++ F) [CutB X (bi "str.__eq__" [(.str (sd u) tu), (.str (sd x) t)]) (.bool true) [] (k + 2) (k + 2), CutG X 0 false (bi "list_iterator.__next__" [(.ref it)]) (.ok (.ret (.ref P))) [(it, lit (Fo + 228) i), ((Fo + 228), acc Dd (rfs fs) eF)] n k k [(it, lit (Fo + 228) (i + 1))] []] := .mk 82 [.o 3, .g false (.ok (.ret (.ref P))) k [2, 3] [(2, lit (Fo + 228) (i + 1))] [], .o 3, .o 1, .o 1, .o 1, .e, .o 1, .o 1, .o 1, .e, .o 1, .o 1, .o 1, .o 2, .o 1, .o 1, .o 1, .e, .o 1, .o 1, .o 1, .o 2, .o 1, .o 1, .o 1, .e, .o 1, .o 1, .o 1, .o 2, .o 1, .o 1, .o 1, .o 5, .o 5, .o 5, .o 5, .o 5, .o 5, .v (.bool true) (k + 2) [], .o 5, .o 5, .o 5] (by apply X.both <;> kernel_rfl!)
theorem hd3_e (X : Cx) (n k L it Fo Dd eF i x t k1 k2 : Nat) (fs : List Nat) (u tu h th P : Nat) (F : LG) : REC X 0 (holdLoop it L) n k ([(P, tup [.str (sd u) tu, .str (sd h) th]), (L, frm [en X "spot" k1 (.str (sd x) t), en X "folds" k2 (.ref (Fo + 228))] 2), (it, lit (Fo + 228) i), (Fo + 228, acc Dd (rfs fs) eF)] ++ F) [4, 3, 5, 6] 7 (.again (holdLoop it L)) (n + 3) (k + 2) ([(L, frm [en X "spot" k1 (.str (sd x) t), en X "folds" k2 (.ref (Fo + 228)), en X "corner" k (.str (sd u) tu), en X "hold" (k + 1) (.str (sd h) th)] 4), (P, tup [(.str (sd u) tu), (.str (sd h) th)]), (it, lit (Fo + 228) (i + 1)), ((Fo + 228), acc Dd (rfs fs) eF)] ++ F) [CutB X (bi "str.__eq__" [(.str (sd u) tu), (.str (sd x) t)]) (.bool false) [] (k + 2) (k + 2), CutG X 0 false (bi "list_iterator.__next__" [(.ref it)]) (.ok (.ret (.ref P))) [(it, lit (Fo + 228) i), ((Fo + 228), acc Dd (rfs fs) eF)] n k k [(it, lit (Fo + 228) (i + 1))] []] := .mk 72 [.o 3, .g false (.ok (.ret (.ref P))) k [2, 3] [(2, lit (Fo + 228) (i + 1))] [], .o 3, .o 1, .o 1, .o 1, .e, .o 1, .o 1, .o 1, .e, .o 1, .o 1, .o 1, .o 2, .o 1, .o 1, .o 1, .e, .o 1, .o 1, .o 1, .o 2, .o 1, .o 1, .o 1, .e, .o 1, .o 1, .o 1, .o 2, .o 1, .o 1, .o 1, .o 5, .o 5, .o 5, .o 5, .o 5, .o 5, .v (.bool false) (k + 2) []] (by apply X.both <;> kernel_rfl!)
theorem hd4_e (X : Cx) (n k L it Fo Dd eF i x t k1 k2 : Nat) (fs : List Nat) (k3 c1 c2 k4 g1 g2 : Nat) (u tu h th P : Nat) (F : LG) : REC X 0 (holdLoop it L) n k ([(P, tup [.str (sd u) tu, .str (sd h) th]), (L, frm [en X "spot" k1 (.str (sd x) t), en X "folds" k2 (.ref (Fo + 228)), en X "corner" k3 (.str (sd c1) c2), en X "hold" k4 (.str (sd g1) g2)] 4), (it, lit (Fo + 228) i), (Fo + 228, acc Dd (rfs fs) eF)] ++ F) [4, 3, 5, 6] 7 (.again (holdLoop it L)) (n + 3) (k + 3) ([(L, frm [en X "spot" k1 (.str (sd h) th), en X "folds" k2 (.ref (Fo + 228)), en X "corner" k3 (.str (sd u) tu), en X "hold" k4 (.str (sd h) th)] 4), (P, tup [(.str (sd u) tu), (.str (sd h) th)]), (it, lit (Fo + 228) (i + 1)), ((Fo + 228), acc Dd (rfs fs) eF)] ++ F) [CutB X (bi "str.__eq__" [(.str (sd u) tu), (.str (sd x) t)]) (.bool true) [] (k + 2) (k + 2), CutG X 0 false (bi "list_iterator.__next__" [(.ref it)]) (.ok (.ret (.ref P))) [(it, lit (Fo + 228) i), ((Fo + 228), acc Dd (rfs fs) eF)] n k k [(it, lit (Fo + 228) (i + 1))] []] := .mk 82 [.o 3, .g false (.ok (.ret (.ref P))) k [2, 3] [(2, lit (Fo + 228) (i + 1))] [], .o 3, .o 1, .o 1, .o 1, .e, .o 1, .o 1, .o 1, .e, .o 1, .o 1, .o 1, .o 2, .o 1, .o 1, .o 1, .e, .o 1, .o 1, .o 1, .o 2, .o 1, .o 1, .o 1, .e, .o 1, .o 1, .o 1, .o 2, .o 1, .o 1, .o 1, .o 5, .o 5, .o 5, .o 5, .o 5, .o 5, .v (.bool true) (k + 2) [], .o 5, .o 5, .o 5] (by apply X.both <;> kernel_rfl!)
theorem hd5_e (X : Cx) (n k L it Fo Dd eF i x t k1 k2 : Nat) (fs : List Nat) (k3 c1 c2 k4 g1 g2 : Nat) (u tu h th P : Nat) (F : LG) : REC X 0 (holdLoop it L) n k ([(P, tup [.str (sd u) tu, .str (sd h) th]), (L, frm [en X "spot" k1 (.str (sd x) t), en X "folds" k2 (.ref (Fo + 228)), en X "corner" k3 (.str (sd c1) c2), en X "hold" k4 (.str (sd g1) g2)] 4), (it, lit (Fo + 228) i), (Fo + 228, acc Dd (rfs fs) eF)] ++ F) [4, 3, 5, 6] 7 (.again (holdLoop it L)) (n + 3) (k + 2) ([(L, frm [en X "spot" k1 (.str (sd x) t), en X "folds" k2 (.ref (Fo + 228)), en X "corner" k3 (.str (sd u) tu), en X "hold" k4 (.str (sd h) th)] 4), (P, tup [(.str (sd u) tu), (.str (sd h) th)]), (it, lit (Fo + 228) (i + 1)), ((Fo + 228), acc Dd (rfs fs) eF)] ++ F) [CutB X (bi "str.__eq__" [(.str (sd u) tu), (.str (sd x) t)]) (.bool false) [] (k + 2) (k + 2), CutG X 0 false (bi "list_iterator.__next__" [(.ref it)]) (.ok (.ret (.ref P))) [(it, lit (Fo + 228) i), ((Fo + 228), acc Dd (rfs fs) eF)] n k k [(it, lit (Fo + 228) (i + 1))] []] := .mk 72 [.o 3, .g false (.ok (.ret (.ref P))) k [2, 3] [(2, lit (Fo + 228) (i + 1))] [], .o 3, .o 1, .o 1, .o 1, .e, .o 1, .o 1, .o 1, .e, .o 1, .o 1, .o 1, .o 2, .o 1, .o 1, .o 1, .e, .o 1, .o 1, .o 1, .o 2, .o 1, .o 1, .o 1, .e, .o 1, .o 1, .o 1, .o 2, .o 1, .o 1, .o 1, .o 5, .o 5, .o 5, .o 5, .o 5, .o 5, .v (.bool false) (k + 2) []] (by apply X.both <;> kernel_rfl!)
theorem hd6_e (X : Cx) (n k L it Fo Dd eF i x t k1 k2 : Nat) (fs : List Nat) (F : LG) : REC X 0 (holdLoop it L) n k ([(L, frm [en X "spot" k1 (.str (sd x) t), en X "folds" k2 (.ref (Fo + 228))] 2), (it, lit (Fo + 228) i), (Fo + 228, acc Dd (rfs fs) eF)] ++ F) [2, 4] 5 (.done (.next)) (n + 2) k ([(L, frm [en X "spot" k1 (.str (sd x) t), en X "folds" k2 (.ref (Fo + 228))] 2), ((Fo + 228), acc Dd (rfs fs) eF)] ++ F) [CutG X 0 false (bi "list_iterator.__next__" [(.ref it)]) (.error (.ref (n + 1))) [(it, lit (Fo + 228) i), ((Fo + 228), acc Dd (rfs fs) eF)] n k k [(it, fld "list_iterator" [.none, (iv i 0)])] [tup [], fld "StopIteration" [(.ref n), .none, .none, .none, (.bool false), .none]]] := .mk 5 [.o 2, .g false (.error (.ref (n + 1))) k [1, 2] [(1, fld "list_iterator" [.none, (iv i 0)])] [tup [], fld "StopIteration" [(.ref n), .none, .none, .none, (.bool false), .none]], .o 1] (by kernel_rfl!)
theorem hd7_e (X : Cx) (n k L it Fo Dd eF i x t k1 k2 : Nat) (fs : List Nat) (k3 c1 c2 k4 g1 g2 : Nat) (F : LG) : REC X 0 (holdLoop it L) n k ([(L, frm [en X "spot" k1 (.str (sd x) t), en X "folds" k2 (.ref (Fo + 228)), en X "corner" k3 (.str (sd c1) c2), en X "hold" k4 (.str (sd g1) g2)] 4), (it, lit (Fo + 228) i), (Fo + 228, acc Dd (rfs fs) eF)] ++ F) [2, 4] 5 (.done (.next)) (n + 2) k ([(L, frm [en X "spot" k1 (.str (sd x) t), en X "folds" k2 (.ref (Fo + 228)), en X "corner" k3 (.str (sd c1) c2), en X "hold" k4 (.str (sd g1) g2)] 4), ((Fo + 228), acc Dd (rfs fs) eF)] ++ F) [CutG X 0 false (bi "list_iterator.__next__" [(.ref it)]) (.error (.ref (n + 1))) [(it, lit (Fo + 228) i), ((Fo + 228), acc Dd (rfs fs) eF)] n k k [(it, fld "list_iterator" [.none, (iv i 0)])] [tup [], fld "StopIteration" [(.ref n), .none, .none, .none, (.bool false), .none]]] := .mk 5 [.o 2, .g false (.error (.ref (n + 1))) k [1, 2] [(1, fld "list_iterator" [.none, (iv i 0)])] [tup [], fld "StopIteration" [(.ref n), .none, .none, .none, (.bool false), .none]], .o 1] (by kernel_rfl!)
theorem hd8_e (X : Cx) (n k Fo Dd eF x t : Nat) (fs : List Nat) (n1 k1 eF2 kk1 kk2 y u : Nat) (fs2 : List Nat) (G1 : LG) (F : LG) : REN X 70 (hd1_o X n k Fo Dd eF x t fs G1) (.ok .next) n1 k1 ([(n, frm [en X "spot" kk1 (.str (sd y) u), en X "folds" kk2 (.ref (Fo + 228))] 2), (Fo + 228, acc Dd (rfs fs2) eF2)] ++ F) [1] 2 (.done (.ret (.str (sd y) u))) n1 k1 ([((Fo + 228), acc Dd (rfs fs2) eF2)] ++ F) [] := .mk 3 [.o 1] (by apply X.both <;> kernel_rfl!)
theorem hd9_e (X : Cx) (n k Fo Dd eF x t : Nat) (fs : List Nat) (n1 k1 eF2 kk1 kk2 k3 c1 c2 k4 g1 g2 y u : Nat) (fs2 : List Nat) (G1 : LG) (F : LG) : REN X 70 (hd1_o X n k Fo Dd eF x t fs G1) (.ok .next) n1 k1 ([(n, frm [en X "spot" kk1 (.str (sd y) u), en X "folds" kk2 (.ref (Fo + 228)), en X "corner" k3 (.str (sd c1) c2), en X "hold" k4 (.str (sd g1) g2)] 4), (Fo + 228, acc Dd (rfs fs2) eF2)] ++ F) [1] 2 (.done (.ret (.str (sd y) u))) n1 k1 ([((Fo + 228), acc Dd (rfs fs2) eF2)] ++ F) [] := .mk 3 [.o 1] (by apply X.both <;> kernel_rfl!)
section
noncomputable def holdP (x : Nat) (ps : NN) : Nat := ps.foldl (fun s p => if p.1 = s then p.2 else s) x
theorem holdP_next {x : Nat} {ps : NN} {i : Nat} {p : Nat × Nat} (h : ps[i]? = some p) : holdP x (ps.take (i + 1)) = if p.1 = holdP x (ps.take i) then p.2 else holdP x (ps.take i) := by
  unfold holdP
  rw [List.take_add_one, h, List.foldl_append]
  rfl
structure HV where
  k3 : Nat
  c1 : Nat
  c2 : Nat
  k4 : Nat
  g1 : Nat
  g2 : Nat
noncomputable def hfr (X : Cx) (Fo k1 x t k2 : Nat) : Option HV → Obj
  | none => frm [en X "spot" k1 (.str (sd x) t), en X "folds" k2 (.ref (Fo + 228))] 2
  | some v => frm [en X "spot" k1 (.str (sd x) t), en X "folds" k2 (.ref (Fo + 228)), en X "corner" v.k3 (.str (sd v.c1) v.c2), en X "hold" v.k4 (.str (sd v.g1) v.g2)] 4
section
variable {X : Cx}
theorem quiet_hold (it L : Addr) : (holdLoop it L).quiet = true := by unfold holdLoop; rfl
noncomputable def holdI (X : Cx) (L it Fo Dd eF x k1 k2 : Nat) (fs : List FO) (i n k : Nat) (T : LG) : Prop := ∃ (t : Nat) (v : Option HV),
  T = [(L, hfr X Fo k1 (holdP x ((fs.map FO.v2).take i)) t k2 v), (it, lit (Fo + 228) i), (Fo + 228, acc Dd (rfs (fs.map FO.a)) eF)] ++ fs.map FO.o
theorem hold_turn (hk : KtOk X (kt X)) {L it Fo Dd eF x k1 k2 i : Nat} {fs : List FO} (hi : i < fs.length) : Turn X 70 (holdLoop it L) (holdI X L it Fo Dd eF x k1 k2 fs i) (holdI X L it Fo Dd eF x k1 k2 fs (i + 1)) := by
  rintro n k T ⟨t, v, rfl⟩ A s F R hA H0 q
  obtain ⟨p, hp⟩ := get_some (l := fs) hi
  have ha : (fs.map FO.a)[i]? = some p.a := by rw [List.getElem?_map, hp]; rfl
  have hv : (fs.map FO.v2)[i]? = some p.v2 := by rw [List.getElem?_map, hp]; rfl
  have hn := holdP_next (x := x) hv
  rw [List.append_assoc] at H0
  have H1 := H0.focus hp
  have e3 : ∀ {n k : Nat} {fr : Obj} {s : Shared}, Rep X n k ([(L, fr), (p.a, tup [.str (sd p.u) p.tu, .str (sd p.v) p.tv]), (it, lit (Fo + 228) (i + 1)), (Fo + 228, acc Dd (rfs (fs.map FO.a)) eF)] ++ ((fs.eraseIdx i).map FO.o ++ F)) s →
      Rep X n k ([(L, fr), (it, lit (Fo + 228) (i + 1)), (Fo + 228, acc Dd (rfs (fs.map FO.a)) eF)] ++ fs.map FO.o ++ F) s := by
    intro n k fr s H
    rw [List.append_assoc]
    exact Rep.unfocus (Rep.perm H (List.Perm.append_right _ (List.Perm.swap _ _ _))) hp rfl
  by_cases hx : p.u = holdP x ((fs.map FO.v2).take i)
  · rw [if_pos (show p.v2.1 = _ from hx)] at hn
    cases v with
    | none =>
      refine startC (ranAgain (hd2_e ..) (quiet_hold ..) hk hA (.cons (c_seqT hx) (.cons (c_nextA ha) .nil)) H1 fun s1 H2 => ?_)
      exact q _ _ _ s1 ⟨p.tv, some ⟨k, p.u, p.tu, k + 1, p.v, p.tv⟩, by rw [hn]; rfl⟩ (e3 H2)
    | some v =>
      obtain ⟨k3, c1, c2, k4, g1, g2⟩ := v
      refine startC (ranAgain (hd4_e ..) (quiet_hold ..) hk hA (.cons (c_seqT hx) (.cons (c_nextA ha) .nil)) H1 fun s1 H2 => ?_)
      exact q _ _ _ s1 ⟨p.tv, some ⟨k3, p.u, p.tu, k4, p.v, p.tv⟩, by rw [hn]; rfl⟩ (e3 H2)
  · rw [if_neg (show ¬ p.v2.1 = _ from hx)] at hn
    cases v with
    | none =>
      refine startC (ranAgain (hd3_e ..) (quiet_hold ..) hk hA (.cons (c_seqF hx) (.cons (c_nextA ha) .nil)) H1 fun s1 H2 => ?_)
      exact q _ _ _ s1 ⟨t, some ⟨k, p.u, p.tu, k + 1, p.v, p.tv⟩, by rw [hn]; rfl⟩ (e3 H2)
    | some v =>
      obtain ⟨k3, c1, c2, k4, g1, g2⟩ := v
      refine startC (ranAgain (hd5_e ..) (quiet_hold ..) hk hA (.cons (c_seqF hx) (.cons (c_nextA ha) .nil)) H1 fun s1 H2 => ?_)
      exact q _ _ _ s1 ⟨t, some ⟨k3, p.u, p.tu, k4, p.v, p.tv⟩, by rw [hn]; rfl⟩ (e3 H2)
theorem holdLoop_does (hk : KtOk X (kt X)) {L it Fo Dd eF x t k1 k2 n k : Nat} {fs : List FO} : DoesK X 70 (holdLoop it L) n k ([(L, hfr X Fo k1 x t k2 none), (it, lit (Fo + 228) 0), (Fo + 228, acc Dd (rfs (fs.map FO.a)) eF)] ++ fs.map FO.o)
    (fun K => ∀ n' k' (t : Nat) (v : Option HV), K (.ok .next) n' k' ([(L, hfr X Fo k1 (holdP x (fs.map FO.v2)) t k2 v), (Fo + 228, acc Dd (rfs (fs.map FO.a)) eF)] ++ fs.map FO.o)) := by
  intro A s F R hA H qk
  refine loopK (c := holdLoop it L) (N := fs.length) (I := holdI X L it Fo Dd eF x k1 k2 fs) (fun i hi => hold_turn hk hi) ?_ fs.length 0 rfl n k _ ⟨t, none, rfl⟩ A s hA H
  rintro n k T ⟨t, v, rfl⟩ A s hA H
  rw [List.append_assoc, List.take_of_length_le (by simp)] at H
  cases v with
  | none =>
    refine startC (ran (hd6_e ..) hk hA (.cons (c_endA (by simp)) .nil) H fun s' H' => ?_)
    exact qk _ _ t none _ (H'.cast (List.append_assoc ..).symm)
  | some v =>
    refine startC (ran (hd7_e ..) hk hA (.cons (c_endA (by simp)) .nil) H fun s' H' => ?_)
    exact qk _ _ t (some v) _ (H'.cast (List.append_assoc ..).symm)
theorem hold_does (hk : KtOk X (kt X)) {Fo Dd eF x t n k : Nat} {fs : List FO} : DoesK X 140 (.call (.ref 215) ⟨[.str (sd x) t], [("folds", .ref (Fo + 228))]⟩) n k ([(Fo + 228, acc Dd (rfs (fs.map FO.a)) eF)] ++ fs.map FO.o)
    (fun K => ∀ n' k' t, K (.ok (.ret (.str (sd (holdP x (fs.map FO.v2))) t))) n' k' ([(Fo + 228, acc Dd (rfs (fs.map FO.a)) eF)] ++ fs.map FO.o)) := by
  intro A s F R hA H0 qk
  rw [List.append_assoc] at H0
  refine startC (paused (hd1_e ..) hk hA .nil H0 fun s1 A1 hA1 H1 => ?_)
  refine holdLoop_does hk (t := t) (fs := fs) hA1 (F := F) (H1.cast (List.append_assoc ..).symm) ?_
  rintro n1 k1 t' v s2 H2
  rw [List.append_assoc] at H2
  cases v with
  | none =>
    refine ran (hd8_e ..) hk hA .nil H2 fun s' H' => ?_
    exact qk _ _ t' _ (H'.cast (List.append_assoc ..).symm)
  | some v =>
    refine ran (hd9_e ..) hk hA .nil H2 fun s' H' => ?_
    exact qk _ _ t' _ (H'.cast (List.append_assoc ..).symm)
end
end
section
section
variable {X : Cx}
noncomputable def freeAt (room w : Nat) : List Nat := bits (room &&& (127 - w))
theorem quiet_c11 (it acc ns L ct cr cc cta : Addr) : (c11C it acc ns L ct cr cc cta).quiet = true := by unfold c11C; exact quiet_comp
noncomputable def c11R (X : Cx) (acc ns ct cr cc cta Ta eT W eW tu tt room tm cop tc ea : Nat) (tas : List Nat) (ws as : NN) (fr : Obj) : LG :=
  [(acc, lst (ivs as) ea), (ns, fr), (ct, cel (some (iv tu tt))), (cr, cel (some (iv room tm))), (cc, cel (some (iv cop tc))), (cta, cel (some (.ref Ta))), (Ta, lst (rfs tas) eT), (W, lst (ivs ws) eW)]
noncomputable def c11I (X : Cx) (it acc ns ct cr cc cta Ta eT W eW tu tt room tm cop tc sv : Nat) (tas : List Nat) (ws : NN) (i n k : Nat) (T : LG) : Prop :=
  ∃ (fv : Option (Nat × Nat × Nat)) (as : NN) (ea : Nat), (0 < i → ∃ p, fv = some p) ∧ as.length ≤ i ∧ as.map (·.1) = (List.range i).filter sv.testBit ∧
  T = (it, rit i (7 - i)) :: c11R X acc ns ct cr cc cta Ta eT W eW tu tt room tm cop tc ea tas ws as (vfr X "r" fv)
theorem c11_turn (hk : KtOk X (kt X)) {it acc ns L ct cr cc cta Ta eT W eW tu tt room tm cop tc w wt i : Nat} {tas : List Nat} {ws : NN} (ht : 1 ≤ tu) (htu : tu < 900) (hW : tas[tu - 1]? = some W) (hw : ws[cop]? = some (w, wt)) (hc : cop < 900) (hw7 : w ≤ 127) (hi : i < 7) :
    Turn X 70 (c11C it acc ns L ct cr cc cta) (c11I X it acc ns ct cr cc cta Ta eT W eW tu tt room tm cop tc (room &&& (127 - w)) tas ws i) (c11I X it acc ns ct cr cc cta Ta eT W eW tu tt room tm cop tc (room &&& (127 - w)) tas ws (i + 1)) := by
  rintro n k T ⟨fv, as, ea, h0, hl, hs, rfl⟩ A s F R hA H q
  have e7 : 7 - i - 1 = 7 - (i + 1) := by omega
  generalize hsv : room &&& (127 - w) = sv at *
  by_cases hb : sv.testBit i = true
  · have hs' : ∀ t : Nat, (as ++ [(i, t)]).map (·.1) = (List.range (i + 1)).filter sv.testBit := by intro t; rw [List.map_append, hs, range_next, if_pos hb]; rfl
    cases fv with
    | none =>
      refine startC (ranAgain (pyt0_e ..) (quiet_c11 ..) hk hA (.cons (c_appI (by omega)) (.cons (c_boolT (hsv ▸ testBit_and.mpr hb)) (.cons c_andN (.cons c_rshiftN (.cons c_andN (.cons (c_subN hw7) (.cons (c_getI hw (by omega)) (.cons (c_getR hW (by omega)) (.cons (c_subN ht) (.cons (c_rnext (by omega)) .nil)))))))))) H fun s' H' => ?_)
      exact q _ _ _ _ ⟨some (_, _, _), _, _, fun _ => ⟨_, rfl⟩, by simp; omega, hs' _, by rw [← e7]; rfl⟩ H'
    | some p =>
      obtain ⟨p1, p2, p3⟩ := p
      refine startC (ranAgain (pyt1_e ..) (quiet_c11 ..) hk hA (.cons (c_appI (by omega)) (.cons (c_boolT (hsv ▸ testBit_and.mpr hb)) (.cons c_andN (.cons c_rshiftN (.cons c_andN (.cons (c_subN hw7) (.cons (c_getI hw (by omega)) (.cons (c_getR hW (by omega)) (.cons (c_subN ht) (.cons (c_rnext (by omega)) .nil)))))))))) H fun s' H' => ?_)
      exact q _ _ _ _ ⟨some (_, _, _), _, _, fun _ => ⟨_, rfl⟩, by simp; omega, hs' _, by rw [← e7]; rfl⟩ H'
  · have hs' : as.map (·.1) = (List.range (i + 1)).filter sv.testBit := by rw [hs, range_next, if_neg hb]; simp
    have hb' : (room &&& (127 - w)) >>> i &&& 1 = 0 := by
      rw [hsv]
      rcases Nat.eq_zero_or_pos (sv >>> i &&& 1) with z | z
      · exact z
      · exact absurd (testBit_and.mp (by omega)) hb
    cases fv with
    | none =>
      refine startC (ranAgain (pys0_e ..) (quiet_c11 ..) hk hA (.cons (c_boolF hb') (.cons c_andN (.cons c_rshiftN (.cons c_andN (.cons (c_subN hw7) (.cons (c_getI hw (by omega)) (.cons (c_getR hW (by omega)) (.cons (c_subN ht) (.cons (c_rnext (by omega)) .nil))))))))) H fun s' H' => ?_)
      exact q _ _ _ _ ⟨some (_, _, _), _, _, fun _ => ⟨_, rfl⟩, by omega, hs', by rw [← e7]; rfl⟩ H'
    | some p =>
      obtain ⟨p1, p2, p3⟩ := p
      refine startC (ranAgain (pys1_e ..) (quiet_c11 ..) hk hA (.cons (c_boolF hb') (.cons c_andN (.cons c_rshiftN (.cons c_andN (.cons (c_subN hw7) (.cons (c_getI hw (by omega)) (.cons (c_getR hW (by omega)) (.cons (c_subN ht) (.cons (c_rnext (by omega)) .nil))))))))) H fun s' H' => ?_)
      exact q _ _ _ _ ⟨some (_, _, _), _, _, fun _ => ⟨_, rfl⟩, by omega, hs', by rw [← e7]; rfl⟩ H'
theorem c11_does (hk : KtOk X (kt X)) {it acc ns L ct cr cc cta Ta eT W eW tu tt room tm cop tc w wt n k : Nat} {tas : List Nat} {ws : NN} (ht : 1 ≤ tu) (htu : tu < 900) (hW : tas[tu - 1]? = some W) (hw : ws[cop]? = some (w, wt)) (hc : cop < 900) (hw7 : w ≤ 127) :
    DoesK X 70 (.compStart c11 0 (.ref it) (.ref acc) (c11Env ns L ct cr cc cta)) n k ((it, rit 0 7) :: c11R X acc ns ct cr cc cta Ta eT W eW tu tt room tm cop tc 0 tas ws [] (dct [] 0))
    (fun K => ∀ n' k' (p : Nat × Nat × Nat) (as : NN) (ea : Nat), as.length ≤ 7 → as.map (·.1) = freeAt room w → K (.ok .next) n' k' (c11R X acc ns ct cr cc cta Ta eT W eW tu tt room tm cop tc ea tas ws as (vfr X "r" (some p)))) := by
  intro A s F R hA H qk
  refine comp_start_r ⟨_, _, _, _, _, _, _, rfl⟩ (H.own (it, rit 0 7) (by simp)) ?_
  refine loopK (c := c11C it acc ns L ct cr cc cta) (N := 7) (I := c11I X it acc ns ct cr cc cta Ta eT W eW tu tt room tm cop tc (room &&& (127 - w)) tas ws) (fun i hi => c11_turn hk ht htu hW hw hc hw7 hi) ?_ 7 0 rfl n k _ ⟨none, [], 0, fun h => absurd h (Nat.lt_irrefl 0), Nat.le_refl _, rfl, rfl⟩ A s hA H
  rintro n k T ⟨fv, as, ea, h0, hl, hs, rfl⟩ A s hA H
  obtain ⟨⟨p1, p2, p3⟩, rfl⟩ := h0 (by omega)
  refine startC (ran (pye_e ..) hk hA (.cons c_rend .nil) H fun s' H' => ?_)
  exact qk _ _ (_, _, _) _ _ hl hs _ H'
end
end
section
section
variable {X : Cx}
noncomputable def pfr (X : Cx) (N Fo M pick tp kt1 kt2 kt3 kt4 kt5 rob tr : Nat) : Option (Nat × Nat × Nat × Nat) → Obj
  | none => frm [en X "near" kt1 (.ref N), en X "folds" kt2 (.ref (Fo + 228)), en X "marks" kt3 (.ref M), en X "pick" kt4 (iv pick tp), en X "robber" kt5 (iv rob tr)] 5
  | some (kt6, kt7, Fr, To) => frm [en X "near" kt1 (.ref N), en X "folds" kt2 (.ref (Fo + 228)), en X "marks" kt3 (.ref M), en X "pick" kt4 (iv pick tp), en X "robber" kt5 (iv rob tr), en X "free" kt6 (.ref Fr), en X "told" kt7 (.ref To)] 7
noncomputable def robAt (room w pick x : Nat) : Nat := (freeAt room w).getD ((pick + x) % (freeAt room w).length) 0
theorem robAt_mem {room w pick x : Nat} (h : freeAt room w ≠ []) : robAt room w pick x ∈ freeAt room w := by
  unfold robAt
  have h1 : (pick + x) % (freeAt room w).length < (freeAt room w).length := Nat.mod_lt _ (List.length_pos_iff.mpr h)
  rw [List.getD_eq_getElem?_getD, List.getElem?_eq_getElem h1]
  exact List.getElem_mem h1
theorem robAt_lt {room w pick x : Nat} (h : freeAt room w ≠ []) : robAt room w pick x < 7 := by
  have := robAt_mem (pick := pick) (x := x) h
  unfold freeAt bits at this
  exact List.mem_range.mp (List.mem_filter.mp this).1
theorem as_at {as : NN} {room w pick x : Nat} (h : as.map (·.1) = freeAt room w) (hf : freeAt room w ≠ []) : ∃ tb, as[(pick + x) % as.length]? = some (robAt room w pick x, tb) := by
  have hl : as.length = (freeAt room w).length := by rw [← h]; simp
  have h1 : (pick + x) % as.length < as.length := Nat.mod_lt _ (by rw [hl]; exact List.length_pos_iff.mpr hf)
  refine ⟨(as[(pick + x) % as.length]).2, ?_⟩
  rw [List.getElem?_eq_getElem h1]
  congr 1
  refine Prod.ext ?_ rfl
  show _ = robAt room w pick x
  unfold robAt
  rw [← h, List.getD_eq_getElem?_getD, List.getElem?_map, List.length_map, List.getElem?_eq_getElem h1]
  rfl
theorem head_AH (hk : KtOk X (kt X)) {it L ct cr cc cta N Ta eT Fo M cop tc pick tp kt1 kt2 kt3 kt4 kt5 rob tr x tx room tm Dd eF kd td w wt n k : Nat} {p : LO} {ts : List LO} {fs : List FO} {A : Around} {s : Shared} {F : LG} {Q : Flow → Shared → Prop} {E : Value → Shared → Prop} (hA : Fine 350 A) (ht : 1 ≤ x) (hx : x < 900) (hp : ts[x - 1]? = some p) (hw : p.vs[cop]? = some (w, wt)) (hc : cop < 900) (hw7 : w ≤ 127) (hfr : freeAt room w ≠ []) (hfs : fs ≠ []) (hfl : fs.length < 900)
    (H0 : Rep X n k ([(L, pfr X N Fo M pick tp kt1 kt2 kt3 kt4 kt5 rob tr none), (ct, cel (some (iv x tx))), (cr, cel (some (iv room tm))), (cc, cel (some (iv cop tc))), (cta, cel (some (.ref Ta))), (Ta, lst (rfs (ts.map LO.a)) eT)] ++ (ts.map LO.o ++ ([(Fo + 228, acc Dd (rfs (fs.map FO.a)) eF), (Dd, dct [en X "_initial_size" kd (iv 0 td)] 1)] ++ (fs.map FO.o ++ F)))) s)
    (q : ∀ n' k' s' tb k6 k7 Fr' To (t1 t2 : Nat) (G : LG), Rep X n' k' ([(L, pfr X N Fo M pick tp kt1 kt2 kt3 kt4 kt5 (robAt room w pick x) tb (some (k6, k7, Fr', To))), (To, tup [.str (sd (holdP (robAt room w pick x) (fs.map FO.v2))) t1, .str (sd (holdP (robAt room w pick x) (fs.map FO.v2))) t2]), (ct, cel (some (iv x tx))), (cr, cel (some (iv room tm))), (cc, cel (some (iv cop tc))), (cta, cel (some (.ref Ta))), (Ta, lst (rfs (ts.map LO.a)) eT)] ++ (ts.map LO.o ++ ([(Fo + 228, acc Dd (rfs (fs.map FO.a)) eF), (Dd, dct [en X "_initial_size" kd (iv 0 td)] 1)] ++ (fs.map FO.o ++ F)))) s' → Q .next s') :
    wpAt (model pw X.w) (A.under (playLoop it L ct cr cc cta)) (playLoop it L ct cr cc cta) (execs (playW.take 3) (playEnv L ct cr cc cta)) Q E s := by
  rw [execsT_eq]
  refine pieceF .next ?_
  refine paused (b1A_e ..) hk hA .nil H0 fun s1 A1 hA1 H1 => ?_
  have H1' := Rep.blk (Bs := [[_, _, _], [_, _, _, _, _], [(L, pfr X N Fo M pick tp kt1 kt2 kt3 kt4 kt5 rob tr none)], ts.map LO.o]) [0, 1, 3, 2] (by kernel_rfl) H1
  have hWa : (ts.map LO.a)[x - 1]? = some p.a := by rw [List.getElem?_map, hp]; rfl
  have H2 := Rep.focus (T := [_, _, _, _, _, _, _, _]) (f := LO.o) (l := ts) H1' hp
  have H3 := Rep.blk (Bs := [[p.o], [_, _, _, _, _, _, _, _]]) [1, 0] (by kernel_rfl) H2
  refine c11_does hk (n := n + 4) (k := k + 3) ht hx hWa hw hc hw7 (hA1.mono (by decide)) H3 ?_
  rintro n1 k1 ⟨p1, p2, p3⟩ as ea hal has s2 H4
  obtain ⟨tb, hrb⟩ := as_at (pick := pick) (x := x) has hfr
  have H5 := Rep.blk (Bs := [[_, _, _, _, _, _, _], [p.o]]) [1, 0] (by kernel_rfl) H4
  have H6 := Rep.unfocus (T := [_, _, _, _, _, _, _]) (f := LO.o) (l := ts) H5 hp rfl
  have H7 := Rep.blk (Bs := [[_, _, _, _, _, _, _], ts.map LO.o, [(L, pfr X N Fo M pick tp kt1 kt2 kt3 kt4 kt5 rob tr none)], [(Fo + 228, acc Dd (rfs (fs.map FO.a)) eF), (Dd, dct [en X "_initial_size" kd (iv 0 td)] 1)], fs.map FO.o]) [0, 2, 3, 1, 4] (by kernel_rfl) H6
  have hmod : (pick + x) % as.length < 1000 := Nat.lt_of_lt_of_le (Nat.mod_lt _ (by rw [show as.length = (freeAt room w).length by rw [← has]; simp]; exact List.length_pos_iff.mpr hfr)) (by omega)
  have hnz : as.length ≠ 0 := by
    rw [show as.length = (freeAt room w).length by rw [← has]; simp]
    exact Nat.ne_of_gt (List.length_pos_iff.mpr hfr)
  refine paused (b2A_e ..) hk hA (.cons (c_repr (robAt_lt hfr)) (.cons (c_getI hrb hmod) (.cons (c_modN hnz) (.cons (c_lenI (by omega)) (.cons c_addN .nil))))) H7 fun s3 A3 hA3 H8 => ?_
  refine pc_does hk Fo Dd eF _ _ (fs.map FO.a) (by simpa using hfl) (hA3.mono (by decide)) H8 ?_
  rintro n2 k2 tk s4 H9
  have hbig := H9.big
  obtain ⟨m2, rfl⟩ : ∃ m, n2 = m + 228 := ⟨n2 - 228, by have : N0 = 228 := rfl; omega⟩
  have hlen : (fs.map FO.a).length ≠ 0 := by simpa using hfs
  refine paused (b3A_e ..) hk hA (.cons (c_boolT hlen) .nil) H9 fun s5 A5 hA5 H10 => ?_
  have H11 := Rep.blk (Bs := [[_], [_, _, _, _, _, _, _, _, _, _, _], ts.map LO.o, fs.map FO.o]) [0, 3, 1, 2] (by kernel_rfl) H10
  refine hold_does hk (fs := fs) (hA5.mono (by decide)) (H11.cast (List.append_assoc ..).symm) ?_
  rintro n3 k3 th s6 H12
  rw [List.append_assoc] at H12
  have hbig3 := H12.big
  obtain ⟨m3, rfl⟩ : ∃ m, n3 = m + 228 := ⟨n3 - 228, by have : N0 = 228 := rfl; omega⟩
  have H13 := Rep.blk (Bs := [[_], fs.map FO.o, [_, _, _, _, _, _, _, _, _, _, _], ts.map LO.o]) [0, 2, 3, 1] (by kernel_rfl) H12
  refine ran (b4A_e ..) hk hA .nil H13 fun s7 H14 => ⟨rfl, ?_⟩
  have H15 := Rep.blk (Bs := [[_], [_], [_], [_], [_, _, _, _, _], [_], ts.map LO.o, fs.map FO.o]) [3, 0, 4, 6, 1, 5, 7, 2] (by kernel_rfl) H14
  refine q _ _ _ tb k1 (k3 + 1) (n + 2) (m3 + 228) th th [] (Rep.sub H15 ?_)
  exact ((((List.sublist_append_right [_] F).append_left _).append_left [_, _]).append_left _).append_left [_, _, _, _, _, _, _]
theorem head_AZ (hk : KtOk X (kt X)) {it L ct cr cc cta N Ta eT Fo M cop tc pick tp kt1 kt2 kt3 kt4 kt5 rob tr x tx room tm Dd eF kd td w wt n k : Nat} {p : LO} {ts : List LO} {fs : List FO} {A : Around} {s : Shared} {F : LG} {Q : Flow → Shared → Prop} {E : Value → Shared → Prop} (hA : Fine 350 A) (ht : 1 ≤ x) (hx : x < 900) (hp : ts[x - 1]? = some p) (hw : p.vs[cop]? = some (w, wt)) (hc : cop < 900) (hw7 : w ≤ 127) (hfr : freeAt room w ≠ []) (hfs : fs = []) (hfl : fs.length < 900)
    (H0 : Rep X n k ([(L, pfr X N Fo M pick tp kt1 kt2 kt3 kt4 kt5 rob tr none), (ct, cel (some (iv x tx))), (cr, cel (some (iv room tm))), (cc, cel (some (iv cop tc))), (cta, cel (some (.ref Ta))), (Ta, lst (rfs (ts.map LO.a)) eT)] ++ (ts.map LO.o ++ ([(Fo + 228, acc Dd (rfs (fs.map FO.a)) eF), (Dd, dct [en X "_initial_size" kd (iv 0 td)] 1)] ++ (fs.map FO.o ++ F)))) s)
    (q : ∀ n' k' s' tb k6 k7 Fr' To (t1 t2 : Nat) (G : LG), Rep X n' k' ([(L, pfr X N Fo M pick tp kt1 kt2 kt3 kt4 kt5 (robAt room w pick x) tb (some (k6, k7, Fr', To))), (To, tup [.ref 44, .str "" t1]), (ct, cel (some (iv x tx))), (cr, cel (some (iv room tm))), (cc, cel (some (iv cop tc))), (cta, cel (some (.ref Ta))), (Ta, lst (rfs (ts.map LO.a)) eT)] ++ (ts.map LO.o ++ ([(Fo + 228, acc Dd (rfs (fs.map FO.a)) eF), (Dd, dct [en X "_initial_size" kd (iv 0 td)] 1)] ++ (fs.map FO.o ++ F)))) s' → Q .next s') :
    wpAt (model pw X.w) (A.under (playLoop it L ct cr cc cta)) (playLoop it L ct cr cc cta) (execs (playW.take 3) (playEnv L ct cr cc cta)) Q E s := by
  rw [execsT_eq]
  refine pieceF .next ?_
  refine paused (b1A_e ..) hk hA .nil H0 fun s1 A1 hA1 H1 => ?_
  have H1' := Rep.blk (Bs := [[_, _, _], [_, _, _, _, _], [(L, pfr X N Fo M pick tp kt1 kt2 kt3 kt4 kt5 rob tr none)], ts.map LO.o]) [0, 1, 3, 2] (by kernel_rfl) H1
  have hWa : (ts.map LO.a)[x - 1]? = some p.a := by rw [List.getElem?_map, hp]; rfl
  have H2 := Rep.focus (T := [_, _, _, _, _, _, _, _]) (f := LO.o) (l := ts) H1' hp
  have H3 := Rep.blk (Bs := [[p.o], [_, _, _, _, _, _, _, _]]) [1, 0] (by kernel_rfl) H2
  refine c11_does hk (n := n + 4) (k := k + 3) ht hx hWa hw hc hw7 (hA1.mono (by decide)) H3 ?_
  rintro n1 k1 ⟨p1, p2, p3⟩ as ea hal has s2 H4
  obtain ⟨tb, hrb⟩ := as_at (pick := pick) (x := x) has hfr
  have H5 := Rep.blk (Bs := [[_, _, _, _, _, _, _], [p.o]]) [1, 0] (by kernel_rfl) H4
  have H6 := Rep.unfocus (T := [_, _, _, _, _, _, _]) (f := LO.o) (l := ts) H5 hp rfl
  have H7 := Rep.blk (Bs := [[_, _, _, _, _, _, _], ts.map LO.o, [(L, pfr X N Fo M pick tp kt1 kt2 kt3 kt4 kt5 rob tr none)], [(Fo + 228, acc Dd (rfs (fs.map FO.a)) eF), (Dd, dct [en X "_initial_size" kd (iv 0 td)] 1)], fs.map FO.o]) [0, 2, 3, 1, 4] (by kernel_rfl) H6
  have hmod : (pick + x) % as.length < 1000 := Nat.lt_of_lt_of_le (Nat.mod_lt _ (by rw [show as.length = (freeAt room w).length by rw [← has]; simp]; exact List.length_pos_iff.mpr hfr)) (by omega)
  have hnz : as.length ≠ 0 := by
    rw [show as.length = (freeAt room w).length by rw [← has]; simp]
    exact Nat.ne_of_gt (List.length_pos_iff.mpr hfr)
  refine paused (b2A_e ..) hk hA (.cons (c_repr (robAt_lt hfr)) (.cons (c_getI hrb hmod) (.cons (c_modN hnz) (.cons (c_lenI (by omega)) (.cons c_addN .nil))))) H7 fun s3 A3 hA3 H8 => ?_
  refine pc_does hk Fo Dd eF _ _ (fs.map FO.a) (by simpa using hfl) (hA3.mono (by decide)) H8 ?_
  rintro n2 k2 tk s4 H9
  have hbig := H9.big
  obtain ⟨m2, rfl⟩ : ∃ m, n2 = m + 228 := ⟨n2 - 228, by have : N0 = 228 := rfl; omega⟩
  have hlen : (fs.map FO.a).length = 0 := by rw [hfs]; rfl
  refine ran (b5A_e ..) hk hA (.cons (c_boolF hlen) .nil) H9 fun s7 H14 => ⟨rfl, ?_⟩
  have H15 := Rep.blk (Bs := [[_], [_], [_], [_], [_, _, _, _, _], [_], ts.map LO.o, fs.map FO.o]) [3, 0, 4, 6, 1, 5, 7, 2] (by kernel_rfl) H14
  refine q _ _ _ tb k1 (k2 + 5) (n + 2) (m2 + 230) (k2 + 4) 0 [] (Rep.sub H15 ?_)
  exact ((((List.sublist_append_right [_] F).append_left _).append_left [_, _]).append_left _).append_left [_, _, _, _, _, _, _]
theorem head_BH (hk : KtOk X (kt X)) {it L ct cr cc cta N Ta eT Fo M cop tc pick tp kt1 kt2 kt3 kt4 kt5 rob tr x tx room tm kt6 kt7 Fr To Dd eF kd td w wt n k : Nat} {p : LO} {ts : List LO} {fs : List FO} {A : Around} {s : Shared} {F : LG} {Q : Flow → Shared → Prop} {E : Value → Shared → Prop} (hA : Fine 350 A) (ht : 1 ≤ x) (hx : x < 900) (hp : ts[x - 1]? = some p) (hw : p.vs[cop]? = some (w, wt)) (hc : cop < 900) (hw7 : w ≤ 127) (hfr : freeAt room w ≠ []) (hfs : fs ≠ []) (hfl : fs.length < 900)
    (H0 : Rep X n k ([(L, pfr X N Fo M pick tp kt1 kt2 kt3 kt4 kt5 rob tr (some (kt6, kt7, Fr, To))), (ct, cel (some (iv x tx))), (cr, cel (some (iv room tm))), (cc, cel (some (iv cop tc))), (cta, cel (some (.ref Ta))), (Ta, lst (rfs (ts.map LO.a)) eT)] ++ (ts.map LO.o ++ ([(Fo + 228, acc Dd (rfs (fs.map FO.a)) eF), (Dd, dct [en X "_initial_size" kd (iv 0 td)] 1)] ++ (fs.map FO.o ++ F)))) s)
    (q : ∀ n' k' s' tb k6 k7 Fr' To (t1 t2 : Nat) (G : LG), Rep X n' k' ([(L, pfr X N Fo M pick tp kt1 kt2 kt3 kt4 kt5 (robAt room w pick x) tb (some (k6, k7, Fr', To))), (To, tup [.str (sd (holdP (robAt room w pick x) (fs.map FO.v2))) t1, .str (sd (holdP (robAt room w pick x) (fs.map FO.v2))) t2]), (ct, cel (some (iv x tx))), (cr, cel (some (iv room tm))), (cc, cel (some (iv cop tc))), (cta, cel (some (.ref Ta))), (Ta, lst (rfs (ts.map LO.a)) eT)] ++ (ts.map LO.o ++ ([(Fo + 228, acc Dd (rfs (fs.map FO.a)) eF), (Dd, dct [en X "_initial_size" kd (iv 0 td)] 1)] ++ (fs.map FO.o ++ F)))) s' → Q .next s') :
    wpAt (model pw X.w) (A.under (playLoop it L ct cr cc cta)) (playLoop it L ct cr cc cta) (execs (playW.take 3) (playEnv L ct cr cc cta)) Q E s := by
  rw [execsT_eq]
  refine pieceF .next ?_
  refine paused (b1B_e ..) hk hA .nil H0 fun s1 A1 hA1 H1 => ?_
  have H1' := Rep.blk (Bs := [[_, _, _], [_, _, _, _, _], [(L, pfr X N Fo M pick tp kt1 kt2 kt3 kt4 kt5 rob tr (some (kt6, kt7, Fr, To)))], ts.map LO.o]) [0, 1, 3, 2] (by kernel_rfl) H1
  have hWa : (ts.map LO.a)[x - 1]? = some p.a := by rw [List.getElem?_map, hp]; rfl
  have H2 := Rep.focus (T := [_, _, _, _, _, _, _, _]) (f := LO.o) (l := ts) H1' hp
  have H3 := Rep.blk (Bs := [[p.o], [_, _, _, _, _, _, _, _]]) [1, 0] (by kernel_rfl) H2
  refine c11_does hk (n := n + 4) (k := k + 3) ht hx hWa hw hc hw7 (hA1.mono (by decide)) H3 ?_
  rintro n1 k1 ⟨p1, p2, p3⟩ as ea hal has s2 H4
  obtain ⟨tb, hrb⟩ := as_at (pick := pick) (x := x) has hfr
  have H5 := Rep.blk (Bs := [[_, _, _, _, _, _, _], [p.o]]) [1, 0] (by kernel_rfl) H4
  have H6 := Rep.unfocus (T := [_, _, _, _, _, _, _]) (f := LO.o) (l := ts) H5 hp rfl
  have H7 := Rep.blk (Bs := [[_, _, _, _, _, _, _], ts.map LO.o, [(L, pfr X N Fo M pick tp kt1 kt2 kt3 kt4 kt5 rob tr (some (kt6, kt7, Fr, To)))], [(Fo + 228, acc Dd (rfs (fs.map FO.a)) eF), (Dd, dct [en X "_initial_size" kd (iv 0 td)] 1)], fs.map FO.o]) [0, 2, 3, 1, 4] (by kernel_rfl) H6
  have hmod : (pick + x) % as.length < 1000 := Nat.lt_of_lt_of_le (Nat.mod_lt _ (by rw [show as.length = (freeAt room w).length by rw [← has]; simp]; exact List.length_pos_iff.mpr hfr)) (by omega)
  have hnz : as.length ≠ 0 := by
    rw [show as.length = (freeAt room w).length by rw [← has]; simp]
    exact Nat.ne_of_gt (List.length_pos_iff.mpr hfr)
  refine paused (b2B_e ..) hk hA (.cons (c_repr (robAt_lt hfr)) (.cons (c_getI hrb hmod) (.cons (c_modN hnz) (.cons (c_lenI (by omega)) (.cons c_addN .nil))))) H7 fun s3 A3 hA3 H8 => ?_
  refine pc_does hk Fo Dd eF _ _ (fs.map FO.a) (by simpa using hfl) (hA3.mono (by decide)) H8 ?_
  rintro n2 k2 tk s4 H9
  have hbig := H9.big
  obtain ⟨m2, rfl⟩ : ∃ m, n2 = m + 228 := ⟨n2 - 228, by have : N0 = 228 := rfl; omega⟩
  have hlen : (fs.map FO.a).length ≠ 0 := by simpa using hfs
  refine paused (b3B_e ..) hk hA (.cons (c_boolT hlen) .nil) H9 fun s5 A5 hA5 H10 => ?_
  have H11 := Rep.blk (Bs := [[_], [_, _, _, _, _, _, _, _, _, _, _], ts.map LO.o, fs.map FO.o]) [0, 3, 1, 2] (by kernel_rfl) H10
  refine hold_does hk (fs := fs) (hA5.mono (by decide)) (H11.cast (List.append_assoc ..).symm) ?_
  rintro n3 k3 th s6 H12
  rw [List.append_assoc] at H12
  have hbig3 := H12.big
  obtain ⟨m3, rfl⟩ : ∃ m, n3 = m + 228 := ⟨n3 - 228, by have : N0 = 228 := rfl; omega⟩
  have H13 := Rep.blk (Bs := [[_], fs.map FO.o, [_, _, _, _, _, _, _, _, _, _, _], ts.map LO.o]) [0, 2, 3, 1] (by kernel_rfl) H12
  refine ran (b4B_e ..) hk hA .nil H13 fun s7 H14 => ⟨rfl, ?_⟩
  have H15 := Rep.blk (Bs := [[_], [_], [_], [_], [_, _, _, _, _], [_], ts.map LO.o, fs.map FO.o]) [3, 0, 4, 6, 1, 5, 7, 2] (by kernel_rfl) H14
  refine q _ _ _ tb kt6 kt7 (n + 2) (m3 + 228) th th [] (Rep.sub H15 ?_)
  exact ((((List.sublist_append_right [_] F).append_left _).append_left [_, _]).append_left _).append_left [_, _, _, _, _, _, _]
theorem head_BZ (hk : KtOk X (kt X)) {it L ct cr cc cta N Ta eT Fo M cop tc pick tp kt1 kt2 kt3 kt4 kt5 rob tr x tx room tm kt6 kt7 Fr To Dd eF kd td w wt n k : Nat} {p : LO} {ts : List LO} {fs : List FO} {A : Around} {s : Shared} {F : LG} {Q : Flow → Shared → Prop} {E : Value → Shared → Prop} (hA : Fine 350 A) (ht : 1 ≤ x) (hx : x < 900) (hp : ts[x - 1]? = some p) (hw : p.vs[cop]? = some (w, wt)) (hc : cop < 900) (hw7 : w ≤ 127) (hfr : freeAt room w ≠ []) (hfs : fs = []) (hfl : fs.length < 900)
    (H0 : Rep X n k ([(L, pfr X N Fo M pick tp kt1 kt2 kt3 kt4 kt5 rob tr (some (kt6, kt7, Fr, To))), (ct, cel (some (iv x tx))), (cr, cel (some (iv room tm))), (cc, cel (some (iv cop tc))), (cta, cel (some (.ref Ta))), (Ta, lst (rfs (ts.map LO.a)) eT)] ++ (ts.map LO.o ++ ([(Fo + 228, acc Dd (rfs (fs.map FO.a)) eF), (Dd, dct [en X "_initial_size" kd (iv 0 td)] 1)] ++ (fs.map FO.o ++ F)))) s)
    (q : ∀ n' k' s' tb k6 k7 Fr' To (t1 t2 : Nat) (G : LG), Rep X n' k' ([(L, pfr X N Fo M pick tp kt1 kt2 kt3 kt4 kt5 (robAt room w pick x) tb (some (k6, k7, Fr', To))), (To, tup [.ref 44, .str "" t1]), (ct, cel (some (iv x tx))), (cr, cel (some (iv room tm))), (cc, cel (some (iv cop tc))), (cta, cel (some (.ref Ta))), (Ta, lst (rfs (ts.map LO.a)) eT)] ++ (ts.map LO.o ++ ([(Fo + 228, acc Dd (rfs (fs.map FO.a)) eF), (Dd, dct [en X "_initial_size" kd (iv 0 td)] 1)] ++ (fs.map FO.o ++ F)))) s' → Q .next s') :
    wpAt (model pw X.w) (A.under (playLoop it L ct cr cc cta)) (playLoop it L ct cr cc cta) (execs (playW.take 3) (playEnv L ct cr cc cta)) Q E s := by
  rw [execsT_eq]
  refine pieceF .next ?_
  refine paused (b1B_e ..) hk hA .nil H0 fun s1 A1 hA1 H1 => ?_
  have H1' := Rep.blk (Bs := [[_, _, _], [_, _, _, _, _], [(L, pfr X N Fo M pick tp kt1 kt2 kt3 kt4 kt5 rob tr (some (kt6, kt7, Fr, To)))], ts.map LO.o]) [0, 1, 3, 2] (by kernel_rfl) H1
  have hWa : (ts.map LO.a)[x - 1]? = some p.a := by rw [List.getElem?_map, hp]; rfl
  have H2 := Rep.focus (T := [_, _, _, _, _, _, _, _]) (f := LO.o) (l := ts) H1' hp
  have H3 := Rep.blk (Bs := [[p.o], [_, _, _, _, _, _, _, _]]) [1, 0] (by kernel_rfl) H2
  refine c11_does hk (n := n + 4) (k := k + 3) ht hx hWa hw hc hw7 (hA1.mono (by decide)) H3 ?_
  rintro n1 k1 ⟨p1, p2, p3⟩ as ea hal has s2 H4
  obtain ⟨tb, hrb⟩ := as_at (pick := pick) (x := x) has hfr
  have H5 := Rep.blk (Bs := [[_, _, _, _, _, _, _], [p.o]]) [1, 0] (by kernel_rfl) H4
  have H6 := Rep.unfocus (T := [_, _, _, _, _, _, _]) (f := LO.o) (l := ts) H5 hp rfl
  have H7 := Rep.blk (Bs := [[_, _, _, _, _, _, _], ts.map LO.o, [(L, pfr X N Fo M pick tp kt1 kt2 kt3 kt4 kt5 rob tr (some (kt6, kt7, Fr, To)))], [(Fo + 228, acc Dd (rfs (fs.map FO.a)) eF), (Dd, dct [en X "_initial_size" kd (iv 0 td)] 1)], fs.map FO.o]) [0, 2, 3, 1, 4] (by kernel_rfl) H6
  have hmod : (pick + x) % as.length < 1000 := Nat.lt_of_lt_of_le (Nat.mod_lt _ (by rw [show as.length = (freeAt room w).length by rw [← has]; simp]; exact List.length_pos_iff.mpr hfr)) (by omega)
  have hnz : as.length ≠ 0 := by
    rw [show as.length = (freeAt room w).length by rw [← has]; simp]
    exact Nat.ne_of_gt (List.length_pos_iff.mpr hfr)
  refine paused (b2B_e ..) hk hA (.cons (c_repr (robAt_lt hfr)) (.cons (c_getI hrb hmod) (.cons (c_modN hnz) (.cons (c_lenI (by omega)) (.cons c_addN .nil))))) H7 fun s3 A3 hA3 H8 => ?_
  refine pc_does hk Fo Dd eF _ _ (fs.map FO.a) (by simpa using hfl) (hA3.mono (by decide)) H8 ?_
  rintro n2 k2 tk s4 H9
  have hbig := H9.big
  obtain ⟨m2, rfl⟩ : ∃ m, n2 = m + 228 := ⟨n2 - 228, by have : N0 = 228 := rfl; omega⟩
  have hlen : (fs.map FO.a).length = 0 := by rw [hfs]; rfl
  refine ran (b5B_e ..) hk hA (.cons (c_boolF hlen) .nil) H9 fun s7 H14 => ⟨rfl, ?_⟩
  have H15 := Rep.blk (Bs := [[_], [_], [_], [_], [_, _, _, _, _], [_], ts.map LO.o, fs.map FO.o]) [3, 0, 4, 6, 1, 5, 7, 2] (by kernel_rfl) H14
  refine q _ _ _ tb kt6 kt7 (n + 2) (m2 + 230) (k2 + 4) 0 [] (Rep.sub H15 ?_)
  exact ((((List.sublist_append_right [_] F).append_left _).append_left [_, _]).append_left _).append_left [_, _, _, _, _, _, _]
end
end
section
section
variable {X : Cx}
theorem pieceE {A : Around} {c : Code} {s : Shared} {m : Sem Value} {Q : Value → Shared → Prop} {E : Value → Shared → Prop} (h : Tells X A (fun r s' => ∃ v, r = .ok (.ret v) ∧ Q v s') [] c (PySem.W.R.bindR m fun a => .pure (.done (.ret a))) s) : wpAt (model pw X.w) (A.under c) c m Q E s := by
  refine wpAt_mono (piece (f := Flow.ret) h) (fun a s' z => ?_) fun e s' z => ?_
  · obtain ⟨v, z1, z2⟩ := z
    cases z1; exact z2
  · obtain ⟨v, z1, z2⟩ := z
    cases z1
theorem ps3_eq : ∃ p1 p3, nx playW 3 = .If (.Compare (cmpL (ifT (nx playW 3))) [.Eq] [cmpR (ifT (nx playW 3))] p1) (ifB (nx playW 3)) [] p3 := ⟨_, _, rfl⟩
theorem ps3_in : behindInMarks .Eq (cmpR (ifT (nx playW 3))) = false := by kernel_rfl
theorem ps30_eq : ∃ p1 p3, nx (ifB (nx playW 3)) 0 = .If (.Compare (cmpL (ifT (nx (ifB (nx playW 3)) 0))) [.NotEq] [cmpR (ifT (nx (ifB (nx playW 3)) 0))] p1) (ifB (nx (ifB (nx playW 3)) 0)) [] p3 := ⟨_, _, rfl⟩
theorem ps30_in : behindInMarks .NotEq (cmpR (ifT (nx (ifB (nx playW 3)) 0))) = false := by kernel_rfl
theorem ps3B_eq : ifB (nx playW 3) = nx (ifB (nx playW 3)) 0 :: (ifB (nx playW 3)).drop 1 := by kernel_rfl
theorem ps7_eq : ∃ p1 p3, nx playW 7 = .If (.Compare (cmpL (ifT (nx playW 7))) [.NotEq] [cmpR (ifT (nx playW 7))] p1) (ifB (nx playW 7)) [] p3 := ⟨_, _, rfl⟩
theorem ps7_in : behindInMarks .NotEq (cmpR (ifT (nx playW 7))) = false := by kernel_rfl
theorem playW_eq : playW = playW.take 3 ++ ([nx playW 3] ++ ((playW.drop 4).take 3 ++ [nx playW 7])) := by kernel_rfl
noncomputable abbrev ddO (X : Cx) (Dd kd td : Nat) : Addr × Obj := (Dd, dct [en X "_initial_size" kd (iv 0 td)] 1)
theorem mid_H (hk : KtOk X (kt X)) {it L ct cr cc cta N Ta Fo M pick tp kt1 kt2 kt3 kt4 kt5 rb tb k6 k7 Fr To Dd eF kd td n k : Nat} {fs : List FO} {A : Around} {s : Shared} {F : LG} {Q : Flow → Shared → Prop} {E : Value → Shared → Prop} (hA : Fine 350 A) (hfs : fs ≠ []) (hfl : fs.length < 900)
    (H0 : Rep X n k ([(L, pfr X N Fo M pick tp kt1 kt2 kt3 kt4 kt5 rb tb (some (k6, k7, Fr, To))), (Fo + 228, acc Dd (rfs (fs.map FO.a)) eF), ddO X Dd kd td] ++ F) s)
    (q : ∀ n' k' s', Rep X n' k' ([(L, pfr X N Fo M pick tp kt1 kt2 kt3 kt4 kt5 rb tb (some (k6, k7, Fr, To))), (Fo + 228, acc Dd (rfs (fs.map FO.a)) eF), ddO X Dd kd td] ++ F) s' → Q .next s') :
    wpAt (model pw X.w) (A.under (playLoop it L ct cr cc cta)) (playLoop it L ct cr cc cta) (execs [nx playW 3] (playEnv L ct cr cc cta)) Q E s := by
  rw [execsT_eq]
  refine pieceF .next ?_
  refine paused (q1_e (Ta := Ta) ..) hk hA .nil H0 fun s1 A1 hA1 H1 => ?_
  refine pc_does hk Fo Dd eF _ _ (fs.map FO.a) (by simpa using hfl) (hA1.mono (by decide)) H1 ?_
  rintro n2 k2 tk s2 H2
  have hlen : (fs.map FO.a).length ≠ 0 := by simpa using hfs
  refine ran (q2_e (Ta := Ta) ..) hk hA (.cons (c_eqF hlen) .nil) (Rep.blk (Bs := [[_], [_], [_]]) [1, 0, 2] (by kernel_rfl) H2) fun s3 H3 => ⟨rfl, ?_⟩
  exact q _ _ _ (Rep.blk (Bs := [[_], [_], [_]]) [1, 0, 2] (by kernel_rfl) H3)
theorem unk_ne {A : Around} {E : Value → Shared → Prop} {Q : Bool → Shared → Prop} {s : Shared} {l m t t' : Nat} (hl : s.heap.get? l = some (tup [.ref 44, .str "" t])) (hm : s.heap.get? m = some (tup [.ref 44, .str "" t'])) (hu : A.units < cLine) (h : Q false s) :
    wpAny (model pw X.w) A (compareOp .NotEq (.ref l) (.ref m)) (fun c s₃ => wpAny (model pw X.w) A (truthy c) Q E s₃) E s := by
  have h1 : SeqAt.RcNeAt A s (.ref l) (.ref m) (!((List.range (min 2 2)).all (fun _ => true) && 2 == 2)) :=
    SeqAt.RcNeAt.tuples (items := #[.ref 44, .str "" t]) (items2 := #[.ref 44, .str "" t']) (e := fun _ => true) ⟨_, hl, rfl, _, rfl⟩ ⟨_, hm, rfl, _, rfl⟩ hu (fun j h1 h2 => by
      match j, h1 with
      | 0, _ => exact SeqAt.EqAt.same _
      | 1, _ => exact SeqAt.EqAt.str_str (A := A.in1) (s := s) "" t "" t'
      | j + 2, h => exact absurd h (by simp))
  exact h1 pw X.w E _ (wpAny_truthy_bool h)
theorem mid_Z (hk : KtOk X (kt X)) {it L ct cr cc cta N Ta Fo M pick tp kt1 kt2 kt3 kt4 kt5 rb tb k6 k7 Fr To t1 Dd eF kd td n k : Nat} {A : Around} {s : Shared} {F : LG} {Q : Flow → Shared → Prop} {E : Value → Shared → Prop} (hA : Fine 350 A) (hrb : rb < 7)
    (H0 : Rep X n k ([(L, pfr X N Fo M pick tp kt1 kt2 kt3 kt4 kt5 rb tb (some (k6, k7, Fr, To))), (Fo + 228, acc Dd (rfs []) eF), ddO X Dd kd td] ++ ([(To, tup [.ref 44, .str "" t1])] ++ F)) s)
    (q : ∀ n' k' s' To' u1 u2, Rep X n' k' ([(L, pfr X N Fo M pick tp kt1 kt2 kt3 kt4 kt5 rb tb (some (k6, k7, Fr, To'))), (Fo + 228, acc Dd (rfs []) eF), ddO X Dd kd td] ++ ([(To', tup [.str (sd rb) u1, .str (sd rb) u2])] ++ F)) s' → Q .next s') :
    wpAt (model pw X.w) (A.under (playLoop it L ct cr cc cta)) (playLoop it L ct cr cc cta) (execs [nx playW 3] (playEnv L ct cr cc cta)) Q E s := by
  obtain ⟨p1, p3, e⟩ := ps3_eq
  obtain ⟨p4, p5, e2⟩ := ps30_eq
  refine ks_wpAt_execs_cons ?_
  rw [e]
  refine ks_wpAt_If (at_isTrue_Compare1 ?_ ps3_in)
  rw [evalT_eq]
  refine pieceE ?_
  refine paused (z1_e (Ta := Ta) ..) hk hA .nil H0 fun s1 A1 hA1 H1 => ?_
  refine pc_does hk Fo Dd eF _ _ [] (by decide) (hA1.mono (by decide)) H1 ?_
  rintro n2 k2 tk s2 H2
  refine ran (z2_e (Ta := Ta) ..) hk hA .nil (Rep.blk (Bs := [[_], [_], [_]]) [1, 0, 2] (by kernel_rfl) H2) fun s3 H3 => ⟨_, rfl, ?_⟩
  refine pieceE (ran (z3_e (Ta := Ta) ..) hk hA .nil (Rep.blk (Bs := [[_], [_], [_]]) [1, 0, 2] (by kernel_rfl) H3) fun s4 H4 => ⟨_, rfl, ?_⟩)
  refine P.eq_int (wpAny_truthy_bool ?_)
  rw [if_pos (by rfl), ps3B_eq]
  refine ks_wpAt_execs_cons ?_
  rw [e2]
  refine ks_wpAt_If (at_isTrue_Compare1 ?_ ps30_in)
  rw [evalT_eq]
  refine pieceE (ran (z4_e (Ta := Ta) ..) hk hA .nil (Rep.blk (Bs := [[_], [_], [_]]) [1, 0, 2] (by kernel_rfl) H4) fun s5 H5 => ⟨_, rfl, ?_⟩)
  refine pieceE (ran (z5_e (Ta := Ta) ..) hk hA .nil (Rep.blk (Bs := [[_], [_], [_]]) [1, 0, 2] (by kernel_rfl) H5) fun s6 H6 => ⟨_, rfl, ?_⟩)
  refine unk_ne (H6.own (To, tup [.ref 44, .str "" t1]) (List.mem_append_right _ (.head _))) (H6.own (_, tup [.ref 44, .str "" _]) (List.mem_append_left _ (.head _))) (by have := hA.units (playLoop it L ct cr cc cta); omega) ?_
  rw [if_neg (by simp)]
  refine wpAt_of_wpAny (wpAny_execs_nil ?_)
  show wpAt _ _ _ (execs ((ifB (nx playW 3)).drop 1) (playEnv L ct cr cc cta)) _ _ _
  rw [execsT_eq]
  refine pieceF .next (ran (z6_e (Ta := Ta) ..) hk hA (.cons (c_repr hrb) (.cons (c_repr hrb) .nil)) (Rep.blk (Bs := [[_], [_], [_], [_]]) [2, 1, 3, 0] (by kernel_rfl) H6) fun s7 H7 => ⟨rfl, ?_⟩)
  rw [← execsT_eq]
  refine wpAt_of_wpAny (wpAny_execs_nil ?_)
  have H8 := Rep.blk (Bs := [[_], [_], [_], [_], [_], [_]]) [2, 1, 3, 0, 4, 5] (by kernel_rfl) H7
  exact q _ _ _ _ _ _ (Rep.sub H8 ((((List.sublist_append_right [_, _] F).append_left [_])).append_left [_, _, _]))
theorem play_tail (hk : KtOk X (kt X)) {it L ct cr cc cta N Ta Fo M pick tp kt1 kt2 kt3 kt4 kt5 rb tb k6 k7 Fr To t1 t2 Dd eF kd td e1 cop tc room tm hd ne net nr nrt n k : Nat} {xs : NN} {fs : List Nat} {A : Around} {s : Shared} {F : LG} {Q : Flow → Shared → Prop} {E : Value → Shared → Prop} (hA : Fine 350 A) (hh : hd < 7) (hc : cop < 900) (hrb : rb < 900) (hne : xs[cop]? = some (ne, net)) (hnr : xs[rb]? = some (nr, nrt)) (hb : ne.testBit hd = true)
    (H0 : Rep X n k ([(L, pfr X N Fo M pick tp kt1 kt2 kt3 kt4 kt5 rb tb (some (k6, k7, Fr, To))), (Fo + 228, acc Dd (rfs fs) eF), ddO X Dd kd td, (To, tup [.str (sd hd) t1, .str (sd hd) t2]), (N, lst (ivs xs) e1), (cc, cel (some (iv cop tc))), (cr, cel (some (iv room tm)))] ++ F) s)
    (q : ∀ n' k' s' tc' tm', Rep X n' k' ([(L, pfr X N Fo M pick tp kt1 kt2 kt3 kt4 kt5 rb tb (some (k6, k7, Fr, To))), (N, lst (ivs xs) e1), (cc, cel (some (iv hd tc'))), (cr, cel (some (iv nr tm'))), (Fo + 228, acc Dd (rfs fs) eF), ddO X Dd kd td] ++ F) s' → Q .next s') :
    wpAt (model pw X.w) (A.under (playLoop it L ct cr cc cta)) (playLoop it L ct cr cc cta) (execs ((playW.drop 4).take 3) (playEnv L ct cr cc cta)) Q E s := by
  rw [execsT_eq]
  have hb0 : ne >>> hd &&& 1 ≠ 0 := testBit_and.mpr hb
  refine pieceF .next (ran (z7_e (Ta := Ta) ..) hk hA (.cons (c_getI hnr (by omega)) (.cons (c_intS hh) (.cons (c_eqF hb0) (.cons c_andN (.cons c_rshiftN (.cons (c_intS hh) (.cons (c_getI hne (by omega)) (.cons (c_sneF rfl) .nil)))))))) H0 fun s1 H1 => ⟨rfl, ?_⟩)
  exact q _ _ _ _ _ H1
theorem play_last0 (hk : KtOk X (kt X)) {it L ct cr cc cta N Ta Fo M eM pick tp kt1 kt2 kt3 kt4 kt5 rb tb k6 k7 Fr To Dd eF kd td n k : Nat} {fs : List Nat} {A : Around} {s : Shared} {F : LG} {Q : Flow → Shared → Prop} {E : Value → Shared → Prop} (hA : Fine 350 A)
    (H0 : Rep X n k ([(L, pfr X N Fo M pick tp kt1 kt2 kt3 kt4 kt5 rb tb (some (k6, k7, Fr, To))), (Fo + 228, acc Dd (rfs fs) eF), ddO X Dd kd td, (M, lst (ivs []) eM)] ++ F) s)
    (q : ∀ n' k' s', Rep X n' k' ([(L, pfr X N Fo M pick tp kt1 kt2 kt3 kt4 kt5 rb tb (some (k6, k7, Fr, To))), (Fo + 228, acc Dd (rfs fs) eF), ddO X Dd kd td, (M, lst (ivs []) eM)] ++ F) s' → Q .next s') :
    wpAt (model pw X.w) (A.under (playLoop it L ct cr cc cta)) (playLoop it L ct cr cc cta) (execs [nx playW 7] (playEnv L ct cr cc cta)) Q E s := by
  obtain ⟨p1, p3, e⟩ := ps7_eq
  refine ks_wpAt_execs_cons ?_
  rw [e]
  refine ks_wpAt_If (at_isTrue_Compare1 ?_ ps7_in)
  rw [evalT_eq]
  refine pieceE (ran (w1_e (Ta := Ta) (F := [(M, lst (ivs []) eM)] ++ F) ..) hk hA .nil H0 fun s1 H1 => ⟨_, rfl, ?_⟩)
  refine pieceE (ran (w2_e (Ta := Ta) ..) hk hA .nil (Rep.blk (Bs := [[_], [_], [_]]) [1, 0, 2] (by kernel_rfl) H1) fun s2 H2 => ⟨_, rfl, ?_⟩)
  refine ne_ints (xs := []) (ys := []) (H2.own (M, lst (ivs []) eM) (List.mem_append_right _ (.head _))) (H2.own (_, lst (ivs []) 0) (List.mem_append_left _ (.head _))) (by have := hA.units (playLoop it L ct cr cc cta); omega) ?_
  rw [if_neg (by simp)]
  refine wpAt_of_wpAny (wpAny_execs_nil ?_)
  refine wpAt_of_wpAny (wpAny_execs_nil ?_)
  have H3 := Rep.blk (Bs := [[_], [_], [_], [_], [_]]) [2, 1, 3, 4, 0] (by kernel_rfl) H2
  exact q _ _ _ (Rep.sub H3 ((List.sublist_append_right [_] F).append_left [_, _, _, _]))
theorem play_last1 (hk : KtOk X (kt X)) {it L ct cr cc cta N Ta Fo M eM pick tp kt1 kt2 kt3 kt4 kt5 rb tb k6 k7 Fr To Dd eF kd td m mt n k : Nat} {ms : NN} {fs : List Nat} {A : Around} {s : Shared} {F : LG} {Q : Flow → Shared → Prop} {E : Value → Shared → Prop} (hA : Fine 350 A) (hm : m < fs.length) (hf : fs.length < 900) (hms : ms.length < 900)
    (H0 : Rep X n k ([(L, pfr X N Fo M pick tp kt1 kt2 kt3 kt4 kt5 rb tb (some (k6, k7, Fr, To))), (Fo + 228, acc Dd (rfs fs) eF), ddO X Dd kd td, (M, lst (ivs (ms ++ [(m, mt)])) eM)] ++ F) s)
    (q : ∀ n' k' s' eM' eF', Rep X n' k' ([(L, pfr X N Fo M pick tp kt1 kt2 kt3 kt4 kt5 rb tb (some (k6, k7, Fr, To))), (Fo + 228, acc Dd (rfs (fs.take m)) eF'), ddO X Dd kd td, (M, lst (ivs ms) eM')] ++ F) s' → Q .next s') :
    wpAt (model pw X.w) (A.under (playLoop it L ct cr cc cta)) (playLoop it L ct cr cc cta) (execs [nx playW 7] (playEnv L ct cr cc cta)) Q E s := by
  obtain ⟨p1, p3, e⟩ := ps7_eq
  refine ks_wpAt_execs_cons ?_
  rw [e]
  refine ks_wpAt_If (at_isTrue_Compare1 ?_ ps7_in)
  rw [evalT_eq]
  refine pieceE (ran (w1_e (Ta := Ta) (F := [(M, lst (ivs (ms ++ [(m, mt)])) eM)] ++ F) ..) hk hA .nil H0 fun s1 H1 => ⟨_, rfl, ?_⟩)
  refine pieceE (ran (w2_e (Ta := Ta) ..) hk hA .nil (Rep.blk (Bs := [[_], [_], [_]]) [1, 0, 2] (by kernel_rfl) H1) fun s2 H2 => ⟨_, rfl, ?_⟩)
  refine ne_ints (xs := ms ++ [(m, mt)]) (ys := []) (H2.own (M, lst (ivs (ms ++ [(m, mt)])) eM) (List.mem_append_right _ (.head _))) (H2.own (_, lst (ivs []) 0) (List.mem_append_left _ (.head _))) (by have := hA.units (playLoop it L ct cr cc cta); omega) ?_
  rw [if_pos (by simp), execsT_eq]
  refine pieceF .next (ran (pw3_e (Ta := Ta) ..) hk hA (.cons (c_setSliceA hk hm (by omega)) (.cons (c_sliceA hk (Nat.le_of_lt hm) (by omega)) (.cons (c_popI (by omega)) .nil))) (Rep.blk (Bs := [[_], [_], [_], [_], [_]]) [2, 1, 3, 4, 0] (by kernel_rfl) H2) fun s3 H3 => ⟨rfl, ?_⟩)
  rw [← execsT_eq]
  refine wpAt_of_wpAny (wpAny_execs_nil ?_)
  have H4 := Rep.blk (Bs := [[_], [_], [_], [_], [_]]) [2, 1, 3, 0, 4] (by kernel_rfl) H3
  exact q _ _ _ _ _ (Rep.sub H4 ((List.sublist_append_right [_] F).append_left [_, _, _, _]))
end
end
section
section
variable {X : Cx}
theorem quiet_play (it L ct cr cc cta : Addr) : (playLoop it L ct cr cc cta).quiet = true := by unfold playLoop; rfl
theorem playLoop_eq (it L ct cr cc cta : Addr) : playLoop it L ct cr cc cta = .forLoop (.Name "turn" (nmP (forT (nx playB 2)))) (.ref it) playW [] (playEnv L ct cr cc cta) := by
  have h : forT (nx playB 2) = .Name "turn" (nmP (forT (nx playB 2))) := by kernel_rfl
  show Code.forLoop (forT (nx playB 2)) _ _ _ _ = _
  rw [← h]
noncomputable def pst (X : Cx) (it L ct cr cc cta Ta eT N e1 M eM Fo Dd eF kd td pick tp kt1 kt2 kt3 kt4 kt5 x room tm cop tc rob tr : Nat) (oct : Option Value) (v : Option (Nat × Nat × Nat × Nat)) (xs ms : NN) (ts : List LO) (fs : List FO) (F : LG) : LG :=
  [(it, rid x x), (L, pfr X N Fo M pick tp kt1 kt2 kt3 kt4 kt5 rob tr v), (ct, cel oct), (cr, cel (some (iv room tm))), (cc, cel (some (iv cop tc))), (cta, cel (some (.ref Ta))), (Ta, lst (rfs (ts.map LO.a)) eT)] ++ (ts.map LO.o ++ ([(Fo + 228, acc Dd (rfs (fs.map FO.a)) eF), ddO X Dd kd td] ++ (fs.map FO.o ++ ([(M, lst (ivs ms) eM), (N, lst (ivs xs) e1)] ++ F))))
theorem turn_AH (hk : KtOk X (kt X)) {it L ct cr cc cta Ta eT N e1 M eM Fo Dd eF kd td pick tp kt1 kt2 kt3 kt4 kt5 x room tm cop tc rob tr w wt ne net nr nrt m mt n k : Nat} {oct : Option Value} {p : LO} {xs : NN} {fs : List FO} {ms : NN} {ts : List LO} {A : Around} {s : Shared} {F : LG} {R : Result → Shared → Prop} (hA : Fine 350 A) (ht : 1 ≤ x) (hx : x < 900) (hp : ts[x - 1]? = some p) (hw : p.vs[cop]? = some (w, wt)) (hc : cop < 900) (hw7 : w ≤ 127) (hfr : freeAt room w ≠ []) (hfl : (fs : List FO).length < 900) (hfs : fs ≠ []) (hm : m < fs.length) (hms : ms.length < 900)
    (hh : holdP (robAt room w pick x) (fs.map FO.v2) < 7) (hne : xs[cop]? = some (ne, net)) (hnr : xs[robAt room w pick x]? = some (nr, nrt)) (hb : ne.testBit (holdP (robAt room w pick x) (fs.map FO.v2)) = true)
    (H0 : Rep X n k (pst X it L ct cr cc cta Ta eT N e1 M eM Fo Dd eF kd td pick tp kt1 kt2 kt3 kt4 kt5 x room tm cop tc rob tr oct none xs (ms ++ [(m, mt)]) ts fs F) s)
    (q : ∀ n' k' s' tm' tc' tr' oct' v' eM' eF' , Rep X n' k' (pst X it L ct cr cc cta Ta eT N e1 M eM' Fo Dd eF' kd td pick tp kt1 kt2 kt3 kt4 kt5 (x - 1) nr tm' (holdP (robAt room w pick x) (fs.map FO.v2)) tc' (robAt room w pick x) tr' oct' (some v') xs ms ts (fs.take m) F) s' → codeAny (model pw X.w) A (playLoop it L ct cr cc cta) R s') :
    codeAny (model pw X.w) A (playLoop it L ct cr cc cta) R s := by
  have hx0 : x ≠ 0 := by omega
  refine for_at (playLoop_eq ..) (quiet_play ..) ?_
  rw [nextIn_eq]
  refine pieceF (.ret (iv x k)) (ran (t1_e ..) hk hA (.cons (c_dnext hx0 hx0) .nil) (Rep.blk (Bs := [[_], [_], [_]]) [0, 2, 1] (by kernel_rfl) H0) fun s1 H1 => ⟨rfl, ?_⟩)
  show wpAt _ _ _ (execs playW (playEnv L ct cr cc cta)) _ _ _
  rw [playW_eq]
  have H2 := Rep.blk (Bs := [[_], [_], [_], [_, _, _, _], ts.map LO.o, [(Fo + 228, acc Dd (rfs ((fs : List FO).map FO.a)) eF), ddO X Dd kd td], (fs : List FO).map FO.o, [_, _]]) [2, 1, 3, 4, 5, 6, 7, 0] (by kernel_rfl) H1
  refine at_execs_app (a := playW.take 3) (b := [nx playW 3] ++ ((playW.drop 4).take 3 ++ [nx playW 7])) ?_
  refine (head_AH hk hA ht hx hp hw hc hw7 hfr hfs hfl H2 fun n2 k2 s2 tb k6 k7 Fr2 To2 t1 t2 _ H3 => ?_)
  show wpAt (model pw X.w) _ _ (execs ([nx playW 3] ++ ((playW.drop 4).take 3 ++ [nx playW 7])) (playEnv L ct cr cc cta)) _ _ _
  refine at_execs_app ?_
  refine (mid_H (Ta := Ta) hk hA hfs hfl (Rep.blk (Bs := [[_], [_], [_, _, _, _, _], ts.map LO.o, [_, _], fs.map FO.o, [_, _], [_]]) [0, 4, 1, 2, 3, 5, 6, 7] (by kernel_rfl) H3) fun n3 k3 s3 H4 => ?_)
  have H5 := Rep.blk (Bs := [[_, _, _], [_], [_], [_], [_], [_, _], ts.map LO.o, fs.map FO.o, [_], [_], [_]]) [0, 1, 9, 4, 3, 2, 5, 6, 7, 8, 10] (by kernel_rfl) H4
  show wpAt (model pw X.w) _ _ (execs ((playW.drop 4).take 3 ++ ([nx playW 7])) (playEnv L ct cr cc cta)) _ _ _
  refine at_execs_app ?_
  refine (play_tail (Ta := Ta) hk hA hh hc (Nat.lt_trans (robAt_lt hfr) (by decide)) hne hnr hb H5 fun n4 k4 s4 tc' tm' H6 => ?_)
  show wpAt (model pw X.w) _ _ (execs [nx playW 7] (playEnv L ct cr cc cta)) _ _ _
  refine play_last1 (Ta := Ta) hk hA (fs := fs.map FO.a) (by simpa using hm) (by simpa using hfl) hms (Rep.blk (Bs := [[_], [_], [_], [_], [_, _], [_], [_, _], ts.map LO.o, fs.map FO.o, [_], [_]]) [0, 4, 9, 1, 2, 3, 5, 6, 7, 8, 10] (by kernel_rfl) H6) fun n5 k5 s5 eM' eF' H7 => ?_
  have H8 := Rep.blk (Bs := [[_], [_, _], [_], [_], [_], [_], [_], [_, _], ts.map LO.o, fs.map FO.o, [_]]) [10, 0, 6, 5, 4, 7, 8, 1, 9, 2, 3] (by kernel_rfl) H7
  refine q n5 k5 s5 tm' tc' tb (some (iv x k)) (k6, k7, Fr2, To2) eM' eF' ?_
  unfold pst
  rw [List.map_take]
  refine Rep.sub H8 ?_
  exact ((((((List.take_sublist m fs).map FO.o).append_right _)).append_left [_, _]).append_left _).append_left [_, _, _, _, _, _, _]
theorem turn_AZ (hk : KtOk X (kt X)) {it L ct cr cc cta Ta eT N e1 M eM Fo Dd eF kd td pick tp kt1 kt2 kt3 kt4 kt5 x room tm cop tc rob tr w wt ne net nr nrt  n k : Nat} {oct : Option Value} {p : LO} {xs : NN}  {ts : List LO} {A : Around} {s : Shared} {F : LG} {R : Result → Shared → Prop} (hA : Fine 350 A) (ht : 1 ≤ x) (hx : x < 900) (hp : ts[x - 1]? = some p) (hw : p.vs[cop]? = some (w, wt)) (hc : cop < 900) (hw7 : w ≤ 127) (hfr : freeAt room w ≠ []) (hfl : ([] : List FO).length < 900) 
    (hh : robAt room w pick x < 7) (hne : xs[cop]? = some (ne, net)) (hnr : xs[robAt room w pick x]? = some (nr, nrt)) (hb : ne.testBit (robAt room w pick x) = true)
    (H0 : Rep X n k (pst X it L ct cr cc cta Ta eT N e1 M eM Fo Dd eF kd td pick tp kt1 kt2 kt3 kt4 kt5 x room tm cop tc rob tr oct none xs [] ts [] F) s)
    (q : ∀ n' k' s' tm' tc' tr' oct' v' eM' eF' , Rep X n' k' (pst X it L ct cr cc cta Ta eT N e1 M eM' Fo Dd eF' kd td pick tp kt1 kt2 kt3 kt4 kt5 (x - 1) nr tm' (robAt room w pick x) tc' (robAt room w pick x) tr' oct' (some v') xs [] ts [] F) s' → codeAny (model pw X.w) A (playLoop it L ct cr cc cta) R s') :
    codeAny (model pw X.w) A (playLoop it L ct cr cc cta) R s := by
  have hx0 : x ≠ 0 := by omega
  refine for_at (playLoop_eq ..) (quiet_play ..) ?_
  rw [nextIn_eq]
  refine pieceF (.ret (iv x k)) (ran (t1_e ..) hk hA (.cons (c_dnext hx0 hx0) .nil) (Rep.blk (Bs := [[_], [_], [_]]) [0, 2, 1] (by kernel_rfl) H0) fun s1 H1 => ⟨rfl, ?_⟩)
  show wpAt _ _ _ (execs playW (playEnv L ct cr cc cta)) _ _ _
  rw [playW_eq]
  have H2 := Rep.blk (Bs := [[_], [_], [_], [_, _, _, _], ts.map LO.o, [(Fo + 228, acc Dd (rfs (([] : List FO).map FO.a)) eF), ddO X Dd kd td], ([] : List FO).map FO.o, [_, _]]) [2, 1, 3, 4, 5, 6, 7, 0] (by kernel_rfl) H1
  refine at_execs_app (a := playW.take 3) (b := [nx playW 3] ++ ((playW.drop 4).take 3 ++ [nx playW 7])) ?_
  refine (head_AZ hk hA ht hx hp hw hc hw7 hfr rfl hfl H2 fun n2 k2 s2 tb k6 k7 Fr2 To2 t1 t2 _ H3 => ?_)
  show wpAt (model pw X.w) _ _ (execs ([nx playW 3] ++ ((playW.drop 4).take 3 ++ [nx playW 7])) (playEnv L ct cr cc cta)) _ _ _
  refine at_execs_app ?_
  refine (mid_Z (Ta := Ta) hk hA (robAt_lt hfr) (Rep.blk (Bs := [[_], [_], [_, _, _, _, _], ts.map LO.o, [_, _], ([] : LG), [_, _], [_]]) [0, 4, 1, 2, 3, 5, 6, 7] (by kernel_rfl) H3) fun n3 k3 s3 To3 u1 u2 H4 => ?_)
  have H5 := Rep.blk (Bs := [[_, _, _], [_], [_], [_], [_], [_, _], ts.map LO.o, ([] : LG), [_], [_], [_]]) [0, 1, 9, 4, 3, 2, 5, 6, 7, 8, 10] (by kernel_rfl) H4
  show wpAt (model pw X.w) _ _ (execs ((playW.drop 4).take 3 ++ ([nx playW 7])) (playEnv L ct cr cc cta)) _ _ _
  refine at_execs_app ?_
  refine (play_tail (Ta := Ta) hk hA hh hc (Nat.lt_trans (robAt_lt hfr) (by decide)) hne hnr hb H5 fun n4 k4 s4 tc' tm' H6 => ?_)
  show wpAt (model pw X.w) _ _ (execs [nx playW 7] (playEnv L ct cr cc cta)) _ _ _
  refine play_last0 (Ta := Ta) hk hA (Rep.blk (Bs := [[_], [_], [_], [_], [_, _], [_], [_, _], ts.map LO.o, ([] : LG), [_], [_]]) [0, 4, 9, 1, 2, 3, 5, 6, 7, 8, 10] (by kernel_rfl) H6) fun n5 k5 s5 H7 => ?_
  have H8 := Rep.blk (Bs := [[_], [_, _], [_], [_], [_], [_], [_], [_, _], ts.map LO.o, ([] : LG), [_]]) [10, 0, 6, 5, 4, 7, 8, 1, 9, 2, 3] (by kernel_rfl) H7
  exact q n5 k5 s5 tm' tc' tb (some (iv x k)) (k6, k7, Fr2, To3) _ _ H8
theorem turn_BH (hk : KtOk X (kt X)) {it L ct cr cc cta Ta eT N e1 M eM Fo Dd eF kd td pick tp kt1 kt2 kt3 kt4 kt5 x room tm cop tc rob tr kt6 kt7 Fr To w wt ne net nr nrt m mt n k : Nat} {oct : Option Value} {p : LO} {xs : NN} {fs : List FO} {ms : NN} {ts : List LO} {A : Around} {s : Shared} {F : LG} {R : Result → Shared → Prop} (hA : Fine 350 A) (ht : 1 ≤ x) (hx : x < 900) (hp : ts[x - 1]? = some p) (hw : p.vs[cop]? = some (w, wt)) (hc : cop < 900) (hw7 : w ≤ 127) (hfr : freeAt room w ≠ []) (hfl : (fs : List FO).length < 900) (hfs : fs ≠ []) (hm : m < fs.length) (hms : ms.length < 900)
    (hh : holdP (robAt room w pick x) (fs.map FO.v2) < 7) (hne : xs[cop]? = some (ne, net)) (hnr : xs[robAt room w pick x]? = some (nr, nrt)) (hb : ne.testBit (holdP (robAt room w pick x) (fs.map FO.v2)) = true)
    (H0 : Rep X n k (pst X it L ct cr cc cta Ta eT N e1 M eM Fo Dd eF kd td pick tp kt1 kt2 kt3 kt4 kt5 x room tm cop tc rob tr oct (some (kt6, kt7, Fr, To)) xs (ms ++ [(m, mt)]) ts fs F) s)
    (q : ∀ n' k' s' tm' tc' tr' oct' v' eM' eF' , Rep X n' k' (pst X it L ct cr cc cta Ta eT N e1 M eM' Fo Dd eF' kd td pick tp kt1 kt2 kt3 kt4 kt5 (x - 1) nr tm' (holdP (robAt room w pick x) (fs.map FO.v2)) tc' (robAt room w pick x) tr' oct' (some v') xs ms ts (fs.take m) F) s' → codeAny (model pw X.w) A (playLoop it L ct cr cc cta) R s') :
    codeAny (model pw X.w) A (playLoop it L ct cr cc cta) R s := by
  have hx0 : x ≠ 0 := by omega
  refine for_at (playLoop_eq ..) (quiet_play ..) ?_
  rw [nextIn_eq]
  refine pieceF (.ret (iv x k)) (ran (t1_e ..) hk hA (.cons (c_dnext hx0 hx0) .nil) (Rep.blk (Bs := [[_], [_], [_]]) [0, 2, 1] (by kernel_rfl) H0) fun s1 H1 => ⟨rfl, ?_⟩)
  show wpAt _ _ _ (execs playW (playEnv L ct cr cc cta)) _ _ _
  rw [playW_eq]
  have H2 := Rep.blk (Bs := [[_], [_], [_], [_, _, _, _], ts.map LO.o, [(Fo + 228, acc Dd (rfs ((fs : List FO).map FO.a)) eF), ddO X Dd kd td], (fs : List FO).map FO.o, [_, _]]) [2, 1, 3, 4, 5, 6, 7, 0] (by kernel_rfl) H1
  refine at_execs_app (a := playW.take 3) (b := [nx playW 3] ++ ((playW.drop 4).take 3 ++ [nx playW 7])) ?_
  refine (head_BH hk hA ht hx hp hw hc hw7 hfr hfs hfl H2 fun n2 k2 s2 tb k6 k7 Fr2 To2 t1 t2 _ H3 => ?_)
  show wpAt (model pw X.w) _ _ (execs ([nx playW 3] ++ ((playW.drop 4).take 3 ++ [nx playW 7])) (playEnv L ct cr cc cta)) _ _ _
  refine at_execs_app ?_
  refine (mid_H (Ta := Ta) hk hA hfs hfl (Rep.blk (Bs := [[_], [_], [_, _, _, _, _], ts.map LO.o, [_, _], fs.map FO.o, [_, _], [_]]) [0, 4, 1, 2, 3, 5, 6, 7] (by kernel_rfl) H3) fun n3 k3 s3 H4 => ?_)
  have H5 := Rep.blk (Bs := [[_, _, _], [_], [_], [_], [_], [_, _], ts.map LO.o, fs.map FO.o, [_], [_], [_]]) [0, 1, 9, 4, 3, 2, 5, 6, 7, 8, 10] (by kernel_rfl) H4
  show wpAt (model pw X.w) _ _ (execs ((playW.drop 4).take 3 ++ ([nx playW 7])) (playEnv L ct cr cc cta)) _ _ _
  refine at_execs_app ?_
  refine (play_tail (Ta := Ta) hk hA hh hc (Nat.lt_trans (robAt_lt hfr) (by decide)) hne hnr hb H5 fun n4 k4 s4 tc' tm' H6 => ?_)
  show wpAt (model pw X.w) _ _ (execs [nx playW 7] (playEnv L ct cr cc cta)) _ _ _
  refine play_last1 (Ta := Ta) hk hA (fs := fs.map FO.a) (by simpa using hm) (by simpa using hfl) hms (Rep.blk (Bs := [[_], [_], [_], [_], [_, _], [_], [_, _], ts.map LO.o, fs.map FO.o, [_], [_]]) [0, 4, 9, 1, 2, 3, 5, 6, 7, 8, 10] (by kernel_rfl) H6) fun n5 k5 s5 eM' eF' H7 => ?_
  have H8 := Rep.blk (Bs := [[_], [_, _], [_], [_], [_], [_], [_], [_, _], ts.map LO.o, fs.map FO.o, [_]]) [10, 0, 6, 5, 4, 7, 8, 1, 9, 2, 3] (by kernel_rfl) H7
  refine q n5 k5 s5 tm' tc' tb (some (iv x k)) (k6, k7, Fr2, To2) eM' eF' ?_
  unfold pst
  rw [List.map_take]
  refine Rep.sub H8 ?_
  exact ((((((List.take_sublist m fs).map FO.o).append_right _)).append_left [_, _]).append_left _).append_left [_, _, _, _, _, _, _]
theorem turn_BZ (hk : KtOk X (kt X)) {it L ct cr cc cta Ta eT N e1 M eM Fo Dd eF kd td pick tp kt1 kt2 kt3 kt4 kt5 x room tm cop tc rob tr kt6 kt7 Fr To w wt ne net nr nrt  n k : Nat} {oct : Option Value} {p : LO} {xs : NN}  {ts : List LO} {A : Around} {s : Shared} {F : LG} {R : Result → Shared → Prop} (hA : Fine 350 A) (ht : 1 ≤ x) (hx : x < 900) (hp : ts[x - 1]? = some p) (hw : p.vs[cop]? = some (w, wt)) (hc : cop < 900) (hw7 : w ≤ 127) (hfr : freeAt room w ≠ []) (hfl : ([] : List FO).length < 900) 
    (hh : robAt room w pick x < 7) (hne : xs[cop]? = some (ne, net)) (hnr : xs[robAt room w pick x]? = some (nr, nrt)) (hb : ne.testBit (robAt room w pick x) = true)
    (H0 : Rep X n k (pst X it L ct cr cc cta Ta eT N e1 M eM Fo Dd eF kd td pick tp kt1 kt2 kt3 kt4 kt5 x room tm cop tc rob tr oct (some (kt6, kt7, Fr, To)) xs [] ts [] F) s)
    (q : ∀ n' k' s' tm' tc' tr' oct' v' eM' eF' , Rep X n' k' (pst X it L ct cr cc cta Ta eT N e1 M eM' Fo Dd eF' kd td pick tp kt1 kt2 kt3 kt4 kt5 (x - 1) nr tm' (robAt room w pick x) tc' (robAt room w pick x) tr' oct' (some v') xs [] ts [] F) s' → codeAny (model pw X.w) A (playLoop it L ct cr cc cta) R s') :
    codeAny (model pw X.w) A (playLoop it L ct cr cc cta) R s := by
  have hx0 : x ≠ 0 := by omega
  refine for_at (playLoop_eq ..) (quiet_play ..) ?_
  rw [nextIn_eq]
  refine pieceF (.ret (iv x k)) (ran (t1_e ..) hk hA (.cons (c_dnext hx0 hx0) .nil) (Rep.blk (Bs := [[_], [_], [_]]) [0, 2, 1] (by kernel_rfl) H0) fun s1 H1 => ⟨rfl, ?_⟩)
  show wpAt _ _ _ (execs playW (playEnv L ct cr cc cta)) _ _ _
  rw [playW_eq]
  have H2 := Rep.blk (Bs := [[_], [_], [_], [_, _, _, _], ts.map LO.o, [(Fo + 228, acc Dd (rfs (([] : List FO).map FO.a)) eF), ddO X Dd kd td], ([] : List FO).map FO.o, [_, _]]) [2, 1, 3, 4, 5, 6, 7, 0] (by kernel_rfl) H1
  refine at_execs_app (a := playW.take 3) (b := [nx playW 3] ++ ((playW.drop 4).take 3 ++ [nx playW 7])) ?_
  refine (head_BZ hk hA ht hx hp hw hc hw7 hfr rfl hfl H2 fun n2 k2 s2 tb k6 k7 Fr2 To2 t1 t2 _ H3 => ?_)
  show wpAt (model pw X.w) _ _ (execs ([nx playW 3] ++ ((playW.drop 4).take 3 ++ [nx playW 7])) (playEnv L ct cr cc cta)) _ _ _
  refine at_execs_app ?_
  refine (mid_Z (Ta := Ta) hk hA (robAt_lt hfr) (Rep.blk (Bs := [[_], [_], [_, _, _, _, _], ts.map LO.o, [_, _], ([] : LG), [_, _], [_]]) [0, 4, 1, 2, 3, 5, 6, 7] (by kernel_rfl) H3) fun n3 k3 s3 To3 u1 u2 H4 => ?_)
  have H5 := Rep.blk (Bs := [[_, _, _], [_], [_], [_], [_], [_, _], ts.map LO.o, ([] : LG), [_], [_], [_]]) [0, 1, 9, 4, 3, 2, 5, 6, 7, 8, 10] (by kernel_rfl) H4
  show wpAt (model pw X.w) _ _ (execs ((playW.drop 4).take 3 ++ ([nx playW 7])) (playEnv L ct cr cc cta)) _ _ _
  refine at_execs_app ?_
  refine (play_tail (Ta := Ta) hk hA hh hc (Nat.lt_trans (robAt_lt hfr) (by decide)) hne hnr hb H5 fun n4 k4 s4 tc' tm' H6 => ?_)
  show wpAt (model pw X.w) _ _ (execs [nx playW 7] (playEnv L ct cr cc cta)) _ _ _
  refine play_last0 (Ta := Ta) hk hA (Rep.blk (Bs := [[_], [_], [_], [_], [_, _], [_], [_, _], ts.map LO.o, ([] : LG), [_], [_]]) [0, 4, 9, 1, 2, 3, 5, 6, 7, 8, 10] (by kernel_rfl) H6) fun n5 k5 s5 H7 => ?_
  have H8 := Rep.blk (Bs := [[_], [_, _], [_], [_], [_], [_], [_], [_, _], ts.map LO.o, ([] : LG), [_]]) [10, 0, 6, 5, 4, 7, 8, 1, 9, 2, 3] (by kernel_rfl) H7
  exact q n5 k5 s5 tm' tc' tb (some (iv x k)) (k6, k7, Fr2, To3) _ _ H8
structure PS where
  cop : Nat
  rob : Nat
  room : Nat
  fs : NN
  ms : List Nat
noncomputable def wAt (tabs : List (List Nat)) (x cop : Nat) : Nat := (tabs.getD (x - 1) []).getD cop 0
noncomputable def rbAt (tabs : List (List Nat)) (pick x : Nat) (s : PS) : Nat := robAt s.room (wAt tabs x s.cop) pick x
noncomputable def stepP (near : List Nat) (tabs : List (List Nat)) (pick x : Nat) (s : PS) : PS :=
  ⟨holdP (rbAt tabs pick x s) s.fs, rbAt tabs pick x s, near.getD (rbAt tabs pick x s) 0, s.fs.take (s.ms.getLastD 0), s.ms.dropLast⟩
noncomputable def StepOk (near : List Nat) (tabs : List (List Nat)) (pick x : Nat) (s : PS) : Prop :=
  x - 1 < tabs.length ∧ s.cop < (tabs.getD (x - 1) []).length ∧ s.cop < 7 ∧ wAt tabs x s.cop ≤ 127 ∧ freeAt s.room (wAt tabs x s.cop) ≠ [] ∧ holdP (rbAt tabs pick x s) s.fs < 7 ∧ (near.getD s.cop 0).testBit (holdP (rbAt tabs pick x s) s.fs) = true ∧ (s.fs = [] ↔ s.ms = []) ∧ (s.ms ≠ [] → s.ms.getLastD 0 < s.fs.length)
noncomputable def PlayOk (near : List Nat) (tabs : List (List Nat)) (pick : Nat) : Nat → PS → Prop
  | 0, s => s.cop = s.rob
  | x + 1, s => StepOk near tabs pick (x + 1) s ∧ PlayOk near tabs pick x (stepP near tabs pick (x + 1) s)
theorem step_A (hk : KtOk X (kt X)) {it L ct cr cc cta Ta eT N e1 M eM Fo Dd eF kd td pick tp kt1 kt2 kt3 kt4 kt5 x room tm cop tc rob tr n k : Nat} {oct : Option Value} {xs ms : NN} {ts : List LO} {fs : List FO} {A : Around} {s : Shared} {F : LG} {R : Result → Shared → Prop} (hA : Fine 350 A) (hx : x < 800) (hxs : xs.length = 7) (hf : fs.length < 900) (hms : ms.length < 900)
    (ho : StepOk (xs.map (·.1)) (ts.map LO.v) pick (x + 1) ⟨cop, rob, room, fs.map FO.v2, ms.map (·.1)⟩)
    (H0 : Rep X n k (pst X it L ct cr cc cta Ta eT N e1 M eM Fo Dd eF kd td pick tp kt1 kt2 kt3 kt4 kt5 (x + 1) room tm cop tc rob tr oct none xs ms ts fs F) s)
    (q : ∀ n' k' s' room' tm' cop' tc' rob' tr' oct' v' eM' eF' (ms' : NN) (fs' : List FO), (⟨cop', rob', room', fs'.map FO.v2, ms'.map (·.1)⟩ : PS) = stepP (xs.map (·.1)) (ts.map LO.v) pick (x + 1) ⟨cop, rob, room, fs.map FO.v2, ms.map (·.1)⟩ → fs'.length ≤ fs.length → ms'.length ≤ ms.length →
      Rep X n' k' (pst X it L ct cr cc cta Ta eT N e1 M eM' Fo Dd eF' kd td pick tp kt1 kt2 kt3 kt4 kt5 x room' tm' cop' tc' rob' tr' oct' (some v') xs ms' ts fs' F) s' → codeAny (model pw X.w) A (playLoop it L ct cr cc cta) R s') :
    codeAny (model pw X.w) A (playLoop it L ct cr cc cta) R s := by
  obtain ⟨o1, o2, o3, o4, o5, o6, o7, o8, o9⟩ := ho
  dsimp only at o1 o2 o3 o4 o5 o6 o7 o8 o9
  have hx1 : x + 1 - 1 = x := rfl
  obtain ⟨p, hp⟩ := get_some (l := ts) (i := x + 1 - 1) (by simpa using o1)
  have hpv : (ts.map LO.v).getD (x + 1 - 1) [] = p.v := by rw [List.getD_eq_getElem?_getD, List.getElem?_map, hp]; rfl
  rw [hpv] at o2
  obtain ⟨⟨w, wt⟩, hw⟩ := get_some (l := p.vs) (i := cop) (by simpa [LO.v] using o2)
  have hwv : wAt (ts.map LO.v) (x + 1) cop = w := by
    unfold wAt
    rw [hpv, List.getD_eq_getElem?_getD]
    unfold LO.v
    rw [List.getElem?_map, hw]; rfl
  have hrbv : rbAt (ts.map LO.v) pick (x + 1) ⟨cop, rob, room, fs.map FO.v2, ms.map (·.1)⟩ = robAt room w pick (x + 1) := by unfold rbAt; rw [hwv]
  rw [hwv] at o4 o5
  rw [hrbv] at o6 o7
  have hrl := robAt_lt (pick := pick) (x := x + 1) o5
  obtain ⟨⟨ne, net⟩, hne⟩ := get_some (l := xs) (i := cop) (by omega)
  obtain ⟨⟨nr, nrt⟩, hnr⟩ := get_some (l := xs) (i := robAt room w pick (x + 1)) (by omega)
  have hnev : (xs.map (·.1)).getD cop 0 = ne := by rw [List.getD_eq_getElem?_getD, List.getElem?_map, hne]; rfl
  have hnrv : (xs.map (·.1)).getD (robAt room w pick (x + 1)) 0 = nr := by rw [List.getD_eq_getElem?_getD, List.getElem?_map, hnr]; rfl
  rw [hnev] at o7
  by_cases hfs : fs = []
  · subst hfs
    have hm0 : ms = [] := by simpa using o8.mp rfl
    subst hm0
    refine turn_AZ hk hA (by omega) (by omega) hp hw (by omega) o4 o5 (by decide) o6 hne hnr o7 H0 fun n' k' s' tm' tc' tr' oct' v' eM' eF' H1 => ?_
    refine q _ _ _ _ _ _ _ _ _ _ _ _ _ [] [] ?_ (Nat.le_refl _) (Nat.le_refl _) H1
    unfold stepP
    rw [hrbv, hnrv]
    rfl
  · have hmne : ms ≠ [] := by
      intro z
      exact hfs (by simpa using o8.mpr (by rw [z]; rfl))
    obtain ⟨ms', ⟨m, mt⟩, rfl⟩ : ∃ a b, ms = a ++ [b] := ⟨ms.dropLast, ms.getLast hmne, (List.dropLast_concat_getLast hmne).symm⟩
    have hml : ((ms' ++ [(m, mt)]).map (·.1)).getLastD 0 = m := by rw [List.map_append, List.map_singleton, List.getLastD_concat]
    have hm : m < fs.length := by
      have := o9 (by simp)
      rw [hml] at this
      simpa using this
    refine turn_AH hk hA (by omega) (by omega) hp hw (by omega) o4 o5 hf hfs hm (by simp at hms; omega) o6 hne hnr o7 H0 fun n' k' s' tm' tc' tr' oct' v' eM' eF' H1 => ?_
    refine q _ _ _ _ _ _ _ _ _ _ _ _ _ ms' (fs.take m) ?_ (by simp [Nat.min_le_right]) (by simp) H1
    unfold stepP
    rw [hrbv, hnrv, hml, List.map_append, List.map_take]
    simp
theorem step_B (hk : KtOk X (kt X)) {it L ct cr cc cta Ta eT N e1 M eM Fo Dd eF kd td pick tp kt1 kt2 kt3 kt4 kt5 x room tm cop tc rob tr kt6 kt7 Fr To n k : Nat} {oct : Option Value} {xs ms : NN} {ts : List LO} {fs : List FO} {A : Around} {s : Shared} {F : LG} {R : Result → Shared → Prop} (hA : Fine 350 A) (hx : x < 800) (hxs : xs.length = 7) (hf : fs.length < 900) (hms : ms.length < 900)
    (ho : StepOk (xs.map (·.1)) (ts.map LO.v) pick (x + 1) ⟨cop, rob, room, fs.map FO.v2, ms.map (·.1)⟩)
    (H0 : Rep X n k (pst X it L ct cr cc cta Ta eT N e1 M eM Fo Dd eF kd td pick tp kt1 kt2 kt3 kt4 kt5 (x + 1) room tm cop tc rob tr oct (some (kt6, kt7, Fr, To)) xs ms ts fs F) s)
    (q : ∀ n' k' s' room' tm' cop' tc' rob' tr' oct' v' eM' eF' (ms' : NN) (fs' : List FO), (⟨cop', rob', room', fs'.map FO.v2, ms'.map (·.1)⟩ : PS) = stepP (xs.map (·.1)) (ts.map LO.v) pick (x + 1) ⟨cop, rob, room, fs.map FO.v2, ms.map (·.1)⟩ → fs'.length ≤ fs.length → ms'.length ≤ ms.length →
      Rep X n' k' (pst X it L ct cr cc cta Ta eT N e1 M eM' Fo Dd eF' kd td pick tp kt1 kt2 kt3 kt4 kt5 x room' tm' cop' tc' rob' tr' oct' (some v') xs ms' ts fs' F) s' → codeAny (model pw X.w) A (playLoop it L ct cr cc cta) R s') :
    codeAny (model pw X.w) A (playLoop it L ct cr cc cta) R s := by
  obtain ⟨o1, o2, o3, o4, o5, o6, o7, o8, o9⟩ := ho
  dsimp only at o1 o2 o3 o4 o5 o6 o7 o8 o9
  have hx1 : x + 1 - 1 = x := rfl
  obtain ⟨p, hp⟩ := get_some (l := ts) (i := x + 1 - 1) (by simpa using o1)
  have hpv : (ts.map LO.v).getD (x + 1 - 1) [] = p.v := by rw [List.getD_eq_getElem?_getD, List.getElem?_map, hp]; rfl
  rw [hpv] at o2
  obtain ⟨⟨w, wt⟩, hw⟩ := get_some (l := p.vs) (i := cop) (by simpa [LO.v] using o2)
  have hwv : wAt (ts.map LO.v) (x + 1) cop = w := by
    unfold wAt
    rw [hpv, List.getD_eq_getElem?_getD]
    unfold LO.v
    rw [List.getElem?_map, hw]; rfl
  have hrbv : rbAt (ts.map LO.v) pick (x + 1) ⟨cop, rob, room, fs.map FO.v2, ms.map (·.1)⟩ = robAt room w pick (x + 1) := by unfold rbAt; rw [hwv]
  rw [hwv] at o4 o5
  rw [hrbv] at o6 o7
  have hrl := robAt_lt (pick := pick) (x := x + 1) o5
  obtain ⟨⟨ne, net⟩, hne⟩ := get_some (l := xs) (i := cop) (by omega)
  obtain ⟨⟨nr, nrt⟩, hnr⟩ := get_some (l := xs) (i := robAt room w pick (x + 1)) (by omega)
  have hnev : (xs.map (·.1)).getD cop 0 = ne := by rw [List.getD_eq_getElem?_getD, List.getElem?_map, hne]; rfl
  have hnrv : (xs.map (·.1)).getD (robAt room w pick (x + 1)) 0 = nr := by rw [List.getD_eq_getElem?_getD, List.getElem?_map, hnr]; rfl
  rw [hnev] at o7
  by_cases hfs : fs = []
  · subst hfs
    have hm0 : ms = [] := by simpa using o8.mp rfl
    subst hm0
    refine turn_BZ hk hA (by omega) (by omega) hp hw (by omega) o4 o5 (by decide) o6 hne hnr o7 H0 fun n' k' s' tm' tc' tr' oct' v' eM' eF' H1 => ?_
    refine q _ _ _ _ _ _ _ _ _ _ _ _ _ [] [] ?_ (Nat.le_refl _) (Nat.le_refl _) H1
    unfold stepP
    rw [hrbv, hnrv]
    rfl
  · have hmne : ms ≠ [] := by
      intro z
      exact hfs (by simpa using o8.mpr (by rw [z]; rfl))
    obtain ⟨ms', ⟨m, mt⟩, rfl⟩ : ∃ a b, ms = a ++ [b] := ⟨ms.dropLast, ms.getLast hmne, (List.dropLast_concat_getLast hmne).symm⟩
    have hml : ((ms' ++ [(m, mt)]).map (·.1)).getLastD 0 = m := by rw [List.map_append, List.map_singleton, List.getLastD_concat]
    have hm : m < fs.length := by
      have := o9 (by simp)
      rw [hml] at this
      simpa using this
    refine turn_BH hk hA (by omega) (by omega) hp hw (by omega) o4 o5 hf hfs hm (by simp at hms; omega) o6 hne hnr o7 H0 fun n' k' s' tm' tc' tr' oct' v' eM' eF' H1 => ?_
    refine q _ _ _ _ _ _ _ _ _ _ _ _ _ ms' (fs.take m) ?_ (by simp [Nat.min_le_right]) (by simp) H1
    unfold stepP
    rw [hrbv, hnrv, hml, List.map_append, List.map_take]
    simp
theorem play_turns (hk : KtOk X (kt X)) {it L ct cr cc cta Ta eT N e1 M Fo Dd kd td pick tp kt1 kt2 kt3 kt4 kt5 : Nat} {xs : NN} {ts : List LO} {A : Around} {F : LG} {R : Result → Shared → Prop} (hA : Fine 350 A) (hxs : xs.length = 7)
    (q : ∀ n' k' s' rob tr v tc, Rep X n' k' ([(L, pfr X N Fo M pick tp kt1 kt2 kt3 kt4 kt5 rob tr (some v)), (cc, cel (some (iv rob tc)))] ++ F) s' → R (.ok .next) s') :
    ∀ (x : Nat) {eM eF room tm cop tc rob tr n k : Nat} {oct : Option Value} {v : Nat × Nat × Nat × Nat} {ms : NN} {fs : List FO} {s : Shared}, PlayOk (xs.map (·.1)) (ts.map LO.v) pick x ⟨cop, rob, room, fs.map FO.v2, ms.map (·.1)⟩ → x < 800 → fs.length < 900 → ms.length < 900 →
    Rep X n k (pst X it L ct cr cc cta Ta eT N e1 M eM Fo Dd eF kd td pick tp kt1 kt2 kt3 kt4 kt5 x room tm cop tc rob tr oct (some v) xs ms ts fs F) s → codeAny (model pw X.w) A (playLoop it L ct cr cc cta) R s := by
  intro x
  induction x with
  | zero =>
    intro eM eF room tm cop tc rob tr n k oct v ms fs s ho hx hf hm H0
    have ho : cop = rob := ho
    subst ho
    refine for_at (playLoop_eq ..) (quiet_play ..) ?_
    rw [nextIn_eq]
    refine pieceF .brk (ran (t2_e ..) hk hA (.cons c_dend .nil) (Rep.blk (Bs := [[_], [_], [_]]) [0, 2, 1] (by kernel_rfl) H0) fun s1 H1 => ⟨rfl, ?_⟩)
    refine startC (ran (t3_e ..) hk hA .nil H1 fun s2 H2 => ?_)
    have H3 := Rep.blk (Bs := [[_], [_], [_], [_], [_]]) [2, 4, 0, 1, 3] (by kernel_rfl) H2
    exact q _ _ _ _ _ _ _ (Rep.dropB (Bs := [[_], [_]]) (Cs := [[_], [_], [_], [_], [_], ts.map LO.o, [_, _], fs.map FO.o, [_, _]]) H3)
  | succ x ih =>
    intro eM eF room tm cop tc rob tr n k oct v ms fs s ho hx hf hm H0
    obtain ⟨v1, v2, v3, v4⟩ := v
    refine step_B hk hA (by omega) hxs hf hm ho.1 H0 ?_
    intro n' k' s' room' tm' cop' tc' rob' tr' oct' v' eM' eF' ms' fs' e h1 h2 H1
    refine ih ?_ (by omega) (by omega) (by omega) H1
    rw [e]; exact ho.2
theorem play_does (hk : KtOk X (kt X)) {N e1 Ta eT Fo Dd eF M eM cop tc pick tp kd td n k x : Nat} {xs ms : NN} {ts : List LO} {fs : List FO} (hxs : xs.length = 7) (hf : fs.length < 900) (hm : ms.length < 900) (hx : x < 800) (hts : ts.length = x + 2)
    (ho : PlayOk (xs.map (·.1)) (ts.map LO.v) pick (x + 1) ⟨cop, cop, 127, fs.map FO.v2, ms.map (·.1)⟩) :
    DoesK X 420 (.call (.ref 220) ⟨[.ref N, .ref Ta, .ref (Fo + 228), .ref M, iv cop tc, iv pick tp], []⟩) n k ([(N, lst (ivs xs) e1), (Ta, lst (rfs (ts.map LO.a)) eT), (Fo + 228, acc Dd (rfs (fs.map FO.a)) eF), (M, lst (ivs ms) eM), ddO X Dd kd td] ++ (ts.map LO.o ++ fs.map FO.o))
      (fun K => ∀ n' k', K (.ok (.ret (.bool true))) n' k' ([])) := by
  intro A s F R hA H0 qk
  have H00 : Rep X n k ([(N, lst (ivs xs) e1), (Ta, lst (rfs (ts.map LO.a)) eT), (Fo + 228, acc Dd (rfs (fs.map FO.a)) eF), (M, lst (ivs ms) eM), ddO X Dd kd td] ++ (ts.map LO.o ++ (fs.map FO.o ++ F))) s := by
    rw [← List.append_assoc (ts.map LO.o), ← List.append_assoc]; exact H0
  have hlen : (ts.map LO.a).length = x + 2 := by simpa using hts
  refine startC (paused (py1_e ..) hk hA (.cons (c_riter (by omega)) (.cons (c_subN (by omega)) (.cons (c_lenR (by omega)) .nil))) H00 fun s1 A1 hA1 H1 => ?_)
  have hl : (ts.map LO.a).length - 1 = x + 1 := by omega
  rw [hl] at H1
  have H2 := Rep.blk (Bs := [[_], [_], [_], [_], [_], [_], [_], [_], [_], [_], [_], ts.map LO.o, fs.map FO.o]) [0, 1, 2, 3, 4, 5, 7, 11, 8, 10, 12, 9, 6] (by kernel_rfl) H1
  have fin : ∀ n' k' s' rob tr v tc', Rep X n' k' ([(n, pfr X N Fo M pick tp k (k + 1) (k + 2) (k + 3) (k + 4) rob tr (some v)), (n + 2, cel (some (iv rob tc')))] ++ F) s' → Tells X A R (py1_o X n k N e1 Ta eT Fo Dd eF M eM cop tc pick tp kd td xs ms (ts.map LO.a) (fs.map FO.a) (ts.map LO.o ++ (fs.map FO.o ++ F)) (ts.map LO.a).length ((ts.map LO.a).length - 1)).κ (py1_o X n k N e1 Ta eT Fo Dd eF M eM cop tc pick tp kd td xs ms (ts.map LO.a) (fs.map FO.a) (ts.map LO.o ++ (fs.map FO.o ++ F)) (ts.map LO.a).length ((ts.map LO.a).length - 1)).cc ((py1_o X n k N e1 Ta eT Fo Dd eF M eM cop tc pick tp kd td xs ms (ts.map LO.a) (fs.map FO.a) (ts.map LO.o ++ (fs.map FO.o ++ F)) (ts.map LO.a).length ((ts.map LO.a).length - 1)).next (.ok .next)) s' := by
    intro n' k' s' rob tr v tc' Ha
    obtain ⟨v1, v2, v3, v4⟩ := v
    refine ran (py9_e ..) hk hA (.cons (c_eqT rfl) .nil) Ha fun s2 H2 => ?_
    exact qk _ _ _ (Rep.dropB (Bs := []) (Cs := [[_, _]]) H2)
  refine step_A hk hA1 hx hxs hf hm ho.1 (F := F) H2 ?_
  intro n' k' s' room' tm' cop' tc' rob' tr' oct' v' eM' eF' ms' fs' e h1 h2 H3
  refine play_turns hk hA1 hxs fin x ?_ hx (by omega) (by omega) H3
  rw [e]; exact ho.2
end
end
section
section
variable {X : Cx}
noncomputable def lf9 (X : Cx) (P f tf N Fo M H Ta kt1 kt2 kt3 kt4 kt5 kt6 kt7 kt8 kt9 : Nat) : Addr × Obj := (229, frm [en X "script" kt1 (.ref 228), en X "cells" kt2 (.ref 230), en X "first" kt3 (iv f tf), en X "drawn" kt4 (.ref P), en X "near" kt5 (.ref N), en X "folds" kt6 (.ref (Fo + 228)), en X "marks" kt7 (.ref M), en X "hubs" kt8 (.ref H), en X "tables" kt9 (.ref Ta)] 9)
noncomputable def W0 : List Nat := [1, 2, 4, 8, 16, 32, 64]
theorem law_C (hk : KtOk X (kt X)) {n k kt1 kt2 kt3 kt4 f tf P eP m mc : Nat} {qs : List PQ} {g : List Nat} (hb : ∀ p ∈ qs, p.x < 7 ∧ p.y < 7) (hne : qs ≠ []) (hg : (qs.map PQ.v).foldl tie W0 = g) (hgl : g.length = 7) (hm : m < 20) (hp : PeelOk g (m + 1) 127)
    (hmc : mc < 700) (hbi : ∀ x ∈ g, bits x ≠ []) (hc : ClockOk g (g.map bits) (mc + 1) W0 [W0]) {A : Around} {s : Shared} {F : LG} {Q : Flow → Shared → Prop} {E : Value → Shared → Prop} (hA : Fine 560 A)
    (H0 : Rep X n k ([lfr X P f tf kt1 kt2 kt3 kt4, (P, lst (rfs (qs.map (·.a))) eP)] ++ (qs.map PQ.o ++ F)) s)
    (q : ∀ n' k' s' kt5 kt6 kt7 kt8 kt9 N eN Fo Dd eF kd td M eM H eH Ta eT xs ms hs (fs : List FO) (ts : List LO), xs.map (·.1) = g → (⟨(peelP g (m + 1) ⟨127, [], []⟩).lv, ms.map (·.1), fs.map FO.v2⟩ : PeelR) = peelP g (m + 1) ⟨127, [], []⟩ → hs.map (·.1) = hubsOf g (peelP g (m + 1) ⟨127, [], []⟩).lv →
      ts.map LO.v = clockP g (g.map bits) (mc + 1) W0 [W0] →
      Rep X n' k' ([lf9 X P f tf N Fo M H Ta kt1 kt2 kt3 kt4 kt5 kt6 kt7 kt8 kt9, (N, lst (ivs xs) eN), (Fo + 228, acc Dd (rfs (fs.map FO.a)) eF), (Dd, dct [en X "_initial_size" kd (iv 0 td)] 1), (M, lst (ivs ms) eM), (H, lst (ivs hs) eH), (Ta, lst (rfs (ts.map LO.a)) eT)] ++ (fs.map FO.o ++ (ts.map LO.o ++ F))) s' → Q .next s') :
    wpAt (model pw X.w) (A.under lawC) lawC (execs ((lawB.drop 4).take 4) lawEnv) Q E s := by
  rw [execsT_eq]
  refine pieceF .next ?_
  refine paused (lw8_e ..) hk hA .nil H0 fun s1 A1 hA1 H1 => ?_
  have H2 := Rep.blk (Bs := [[_], [_], qs.map PQ.o]) [0, 2, 1] (by kernel_rfl) H1
  refine near_does hk qs hb hne _ _ _ _ (hA1.mono (by decide)) (H2.cast (List.append_assoc ..).symm) ?_
  rintro n1 k1 N xs eN hxs s2 H3
  rw [List.append_assoc] at H3
  have hxg : xs.map (·.1) = g := by rw [hxs]; exact hg
  have hxl : xs.length = 7 := by rw [← hgl, ← hxg, List.length_map]
  have hbig := H3.big
  obtain ⟨mm, rfl⟩ : ∃ m, n1 = m + 228 := ⟨n1 - 228, by have : N0 = 228 := rfl; omega⟩
  have H4 := Rep.blk (Bs := [[_], [_], qs.map PQ.o, [_]]) [3, 1, 0, 2] (by kernel_rfl) H3
  refine paused (lw9_e ..) hk hA .nil H4 fun s3 A3 hA3 H5 => ?_
  refine new_does hk (hA3.mono (by decide)) H5 ?_
  rintro n2 k2 eF0 kd s4 H6
  have H7 := Rep.blk (Bs := [[_], [_], [_], [_], [_], qs.map PQ.o]) [4, 2, 0, 1, 3, 5] (by kernel_rfl) H6
  refine paused (lw10_e ..) hk hA .nil H7 fun s5 A5 hA5 H8 => ?_
  have H9 := Rep.blk (Bs := [[_], [_], [_], [_], [_], qs.map PQ.o]) [0, 1, 2, 3, 4, 5] (by kernel_rfl) H8
  refine peel_does hk (pc_does hk) (Fo := mm + 1) hxl hm (by rw [hxg]; exact hp) (hA5.mono (by decide)) H8 ?_
  rintro n3 k3 a M H eM eH eF hs ms fs hpe hhs s6 H10
  rw [List.append_assoc] at H10
  rw [hxg] at hpe hhs
  have H11 := Rep.blk (Bs := [[_], [_], [_], [_], [_], [_], fs.map FO.o, [_], [_], qs.map PQ.o]) [7, 3, 4, 5, 1, 2, 0, 6, 8, 9] (by kernel_rfl) H10
  refine paused (lw11_e ..) hk hA .nil H11 fun s7 A7 hA7 H12 => ?_
  refine clock_does hk hxl hmc (fun x hx => hbi x.1 (hxg ▸ List.mem_map_of_mem hx)) (m := mc) (by rw [hxg, show xs.map (fun p => bits p.1) = g.map bits by rw [← hxg, List.map_map]; rfl]; exact hc) (hA7.mono (by decide)) H12 ?_
  rintro n4 k4 Ta eT ts hts s8 H13
  rw [List.append_assoc] at H13
  rw [hxg, show xs.map (fun p => bits p.1) = g.map bits by rw [← hxg, List.map_map]; rfl] at hts
  have H14 := Rep.blk (Bs := [[_], [_], ts.map LO.o, [_], [_], [_], [_], [_], fs.map FO.o, [_], qs.map PQ.o]) [7, 1, 3, 4, 5, 6, 0, 8, 2, 9, 10] (by kernel_rfl) H13
  refine ran (lw12_e ..) hk hA .nil H14 fun s9 H15 => ⟨rfl, ?_⟩
  have H16 := Rep.dropB (Bs := [[_, _, _, _, _, _, _], fs.map FO.o, ts.map LO.o]) (Cs := [[_], qs.map PQ.o]) H15
  exact q _ _ _ _ _ _ _ _ N eN (mm + 1) _ eF kd 250 M eM H eH Ta eT xs ms hs fs ts hxg hpe hhs hts H16
end
end
section
section
variable {X : Cx}
theorem law_D (hk : KtOk X (kt X)) {n k kt1 kt2 kt3 kt4 kt5 kt6 kt7 kt8 kt9 f tf P N eN Fo Dd eF kd td M eM H eH Ta eT : Nat} {xs ms hs : NN} {fs : List FO} {ts : List LO} (hxs : xs.length = 7) (hf : fs.length < 900) (hm : ms.length < 700) (hhl : hs.length < 900) (htl : 0 < ts.length) (hta : ts.length < 900)
    (h1 : hs.map (·.1) = [] → 127 ∉ (ts.map LO.v).getLastD [])
    (h2 : hs.map (·.1) ≠ [] → 127 ∈ (ts.map LO.v).getLastD [] ∧ ts.length = ms.length + 2 ∧ PlayOk (xs.map (·.1)) (ts.map LO.v) f (ms.length + 1) ⟨(hs.map (·.1)).getD (f % hs.length) 0, (hs.map (·.1)).getD (f % hs.length) 0, 127, fs.map FO.v2, ms.map (·.1)⟩)
    {A : Around} {s : Shared} {F : LG} {Q : Flow → Shared → Prop} {E : Value → Shared → Prop} (hA : Fine 560 A)
    (H0 : Rep X n k ([lf9 X P f tf N Fo M H Ta kt1 kt2 kt3 kt4 kt5 kt6 kt7 kt8 kt9, (N, lst (ivs xs) eN), (Fo + 228, acc Dd (rfs (fs.map FO.a)) eF), (Dd, dct [en X "_initial_size" kd (iv 0 td)] 1), (M, lst (ivs ms) eM), (H, lst (ivs hs) eH), (Ta, lst (rfs (ts.map LO.a)) eT)] ++ (fs.map FO.o ++ (ts.map LO.o ++ F))) s)
    (q : ∀ n' k' s', Rep X n' k' F s' → Q (.ret (.bool true)) s') :
    wpAt (model pw X.w) (A.under lawC) lawC (execs (nx lawB 8 :: lawB.drop 9) lawEnv) Q E s := by
  obtain ⟨p1, p3, e⟩ := l8_eq
  refine ks_wpAt_execs_cons ?_
  rw [e]
  refine ks_wpAt_If (at_isTrue_Compare1 ?_ l8_in)
  rw [evalT_eq]
  refine pieceV (.ref H) (ran (lw13_e (P := P) (eP := 0) (ps := []) ..) hk hA .nil H0 fun s1 H1 => ⟨rfl, ?_⟩)
  refine pieceV (.ref n) (ran (lw14_e (P := P) (eP := 0) (ps := []) ..) hk hA .nil H1 fun s2 H2 => ⟨rfl, ?_⟩)
  refine eq_ints (ys := []) (H2.own (H, lst (ivs hs) eH) (by simp)) (H2.own (n, lst [] 0) (by simp)) (hA.units _) ?_
  have H3 := Rep.blk (Bs := [[_], [_, _, _, _, _, _, _], fs.map FO.o, ts.map LO.o]) [1, 3, 2, 0] (by kernel_rfl) H2
  obtain ⟨p, hp⟩ := get_some (l := ts) (i := ts.length - 1) (by omega)
  have hpa : (ts.map LO.a)[(ts.map LO.a).length - 1]? = some p.a := by rw [List.length_map, List.getElem?_map, hp]; rfl
  have hpv : (ts.map LO.v).getLastD [] = p.vs.map (·.1) := by
    rw [List.getLastD_eq_getLast?, List.getLast?_eq_getElem?, List.length_map, List.getElem?_map, hp]; rfl
  rw [hpv] at h1 h2
  have H4 := Rep.focus (T := [_, _, _, _, _, _, _]) (f := LO.o) (l := ts) H3 hp
  have H5 := Rep.blk (Bs := [[p.o], [_, _, _, _, _, _, _]]) [1, 0] (by kernel_rfl) H4
  by_cases hh : hs.map (·.1) = []
  · rw [decide_eq_true (show hs.map (·.1) = ([] : NN).map (·.1) from hh)]
    rw [if_pos rfl, execsT_eq]
    refine pieceF (.ret (.bool true)) (ran (lw15_e (P := P) (eP := 0) (ps := []) ..) hk hA (.cons (c_in (decide_eq_false (h1 hh))) (.cons (c_lastR hpa) .nil)) H5 fun s6 H6 => ⟨rfl, ?_⟩)
    exact q _ _ _ (Rep.dropB (Bs := []) (Cs := [[_], (ts.eraseIdx (ts.length - 1)).map LO.o, fs.map FO.o, [_]]) H6)
  · rw [decide_eq_false (show ¬ hs.map (·.1) = ([] : NN).map (·.1) from hh)]
    rw [if_neg (by simp)]
    refine wpAt_of_wpAny (wpAny_execs_nil ?_)
    show wpAt _ _ _ (execs (lawB.drop 9) lawEnv) _ _ _
    obtain ⟨h127, hlen, hplay⟩ := h2 hh
    have hhs : hs.length ≠ 0 := by
      intro z
      rw [List.eq_nil_of_length_eq_zero z] at hh
      exact hh rfl
    have hmod : f % hs.length < hs.length := Nat.mod_lt _ (by omega)
    obtain ⟨⟨c, tc⟩, hc⟩ := get_some (l := hs) (i := f % hs.length) hmod
    rw [show (hs.map (·.1)).getD (f % hs.length) 0 = c from getD_of (by simp [hc])] at hplay
    rw [execsT_eq]
    refine pieceF (.ret (.bool true)) ?_
    refine paused (lw16_e (P := P) (eP := 0) (ps := []) ..) hk hA (.cons (c_getI hc (by omega)) (.cons (c_modN hhs) (.cons (c_lenI (by omega)) (.cons (c_neF (by rw [List.length_map]; exact hlen)) (.cons c_addN (.cons (c_lenI (by omega)) (.cons (c_lenR (by rw [List.length_map]; omega)) (.cons (c_in (decide_eq_true h127)) (.cons (c_lastR hpa) .nil))))))))) H5 fun s6 A6 hA6 H6 => ?_
    have H7 := Rep.blk (Bs := [[_, _, _, _, _], [_]]) [1, 0] (by kernel_rfl) H6
    have H8 := Rep.unfocus (T := [_, _, _, _, _]) (f := LO.o) (l := ts) H7 hp rfl
    have H9 := Rep.blk (Bs := [[_, _, _, _, _], ts.map LO.o, fs.map FO.o]) [0, 1, 2] (by kernel_rfl) H8
    have H9' : Rep X (n + 1) (k + 12) (([(N, lst (ivs xs) eN), (Ta, lst (rfs (ts.map LO.a)) eT), (Fo + 228, acc Dd (rfs (fs.map FO.a)) eF), (M, lst (ivs ms) eM), ddO X Dd kd td] ++ (ts.map LO.o ++ fs.map FO.o)) ++ ([(n, lst [] 0)] ++ F)) s6 := by
      rw [List.append_assoc, List.append_assoc]
      exact H9
    refine play_does hk (x := ms.length) hxs hf (by omega) (by omega) hlen hplay (hA6.mono (by decide)) H9' ?_
    rintro n7 k7 s7 H10
    refine ran (lw17_e (P := P) (eP := 0) (ps := []) ..) hk hA .nil H10 fun s8 H11 => ⟨rfl, ?_⟩
    exact q _ _ _ (Rep.dropB (Bs := []) (Cs := [[_]]) H11)
end
end
section
noncomputable def EndOk (g : List Nat) (f : Nat) (r : PeelR) (t : List (List Nat)) : Prop :=
  (hubsOf g r.lv = [] → 127 ∉ t.getLastD []) ∧ (hubsOf g r.lv ≠ [] → 127 ∈ t.getLastD [] ∧ t.length = r.ms.length + 2 ∧
    PlayOk g t f (r.ms.length + 1) ⟨(hubsOf g r.lv).getD (f % (hubsOf g r.lv).length) 0, (hubsOf g r.lv).getD (f % (hubsOf g r.lv).length) 0, 127, r.fs, r.ms⟩)
noncomputable def LawOk (g : List Nat) (f : Nat) : Prop := g.length = 7 ∧ (∀ x ∈ g, bits x ≠ []) ∧ ∃ m mc, m < 20 ∧ mc < 700 ∧ PeelOk g (m + 1) 127 ∧ ClockOk g (g.map bits) (mc + 1) W0 [W0] ∧
  (peelP g (m + 1) ⟨127, [], []⟩).fs.length < 900 ∧ (peelP g (m + 1) ⟨127, [], []⟩).ms.length < 700 ∧ 0 < (clockP g (g.map bits) (mc + 1) W0 [W0]).length ∧ (clockP g (g.map bits) (mc + 1) W0 [W0]).length < 900 ∧
  EndOk g f (peelP g (m + 1) ⟨127, [], []⟩) (clockP g (g.map bits) (mc + 1) W0 [W0])
noncomputable def nearOf (zs : List Int) : List Nat := (drawnOf zs).foldl tie W0
theorem drawOne_mem {cs : List Nat} {x : Nat} {p : Nat × Nat} (hx : 1 ≤ x) (h : p ∈ drawOne cs x) : p.1 = x ∧ p.2 < x := by
  unfold drawOne at h
  simp only [List.mem_cons] at h
  rcases h with h | h
  · subst h; exact ⟨rfl, Nat.mod_lt _ hx⟩
  · split at h
    · cases h
    · rw [List.mem_singleton] at h
      subst h; exact ⟨rfl, Nat.mod_lt _ hx⟩
theorem drawFrom_mem {cs : List Nat} {p : Nat × Nat} : ∀ {m x : Nat}, 1 ≤ x → p ∈ drawFrom cs x m → x ≤ p.1 ∧ p.1 < x + m ∧ p.2 < p.1
  | 0, x, _, h => by cases h
  | m + 1, x, hx, h => by
    unfold drawFrom at h
    rcases List.mem_append.mp h with h | h
    · have := drawOne_mem hx h
      omega
    · have := drawFrom_mem (by omega) h
      omega
theorem drawFrom_len {cs : List Nat} : ∀ {m x : Nat}, (drawFrom cs x m).length ≤ 2 * m
  | 0, x => Nat.le_refl _
  | m + 1, x => by
    unfold drawFrom
    have h1 := drawFrom_len (cs := cs) (m := m) (x := x + 1)
    have h2 : (drawOne cs x).length ≤ 2 := by
      unfold drawOne
      simp only [List.length_cons]
      split <;> simp
    rw [List.length_append]
    omega
theorem drawFrom_hd {cs : List Nat} {m x : Nat} : ∃ y r, drawFrom cs x (m + 1) = (x, y) :: r := ⟨cs.getD (x - 1) 0 % x, (if cs.getD (x - 1) 0 % x = cs.getD (x - 1) 0 / x % x then [] else [(x, cs.getD (x - 1) 0 / x % x)]) ++ drawFrom cs (x + 1) m, rfl⟩
section
variable {X : Cx}
theorem law_does (hk : KtOk X (kt X)) {vs : List (Int × Nat)} (hv : vs.length < 1000) (k eS : Nat) (ho : LawOk (nearOf (vs.map (·.1))) (firstOf (vs.map (·.1)))) :
    Does X 560 (.call (.ref 227) ⟨[.ref 228], []⟩) 229 k [(228, lst (zvs vs) eS)] (fun r n' k' T' => r = .ok (.ret (.bool true)) ∧ T' = [(228, lst (zvs vs) eS)]) := by
  intro A s F hA H0
  refine startC (ranAgain (lw0_e ..) rfl hk hA .nil H0 fun s1 H1 => ?_)
  refine ks_codeAny_funcAt ?_
  rw [show execs lawB lawEnv = execs (lawB.take 3 ++ (nx lawB 3 :: ((lawB.drop 4).take 4 ++ (nx lawB 8 :: lawB.drop 9)))) lawEnv from congrArg (fun x => execs x lawEnv) lawB_eq]
  refine at_execs_app ?_
  refine law_A hk hv hA H1 ?_
  intro n2 k2 s2 kt2 kt3 kt4 tf P eP qs hqs H2
  have hmem : ∀ q ∈ qs, 1 ≤ q.x ∧ q.x < 7 ∧ q.y < q.x := by
    intro q hq
    have h1 : q.v ∈ drawnOf (vs.map (·.1)) := hqs ▸ List.mem_map_of_mem hq
    have := drawFrom_mem (by omega) h1
    exact this
  have hf1 : 1 ≤ firstOf (vs.map (·.1)) := by unfold firstOf; omega
  have hf2 : firstOf (vs.map (·.1)) ≤ 250 := by unfold firstOf; omega
  have hql : qs.length ≤ 100 := by
    have h1 := congrArg List.length hqs
    rw [List.length_map] at h1
    have h2 : (drawnOf (vs.map (·.1))).length ≤ 2 * 6 := drawFrom_len
    omega
  obtain ⟨y, r, hd⟩ : ∃ y r, drawnOf (vs.map (·.1)) = (1, y) :: r := drawFrom_hd
  have hq0 : ∃ q, qs[0]? = some q ∧ q.x ≠ 0 := by
    cases hq : qs with
    | nil => rw [hq, hd] at hqs; cases hqs
    | cons a w => exact ⟨a, rfl, by have := hmem a (by rw [hq]; exact .head _); omega⟩
  refine law_B hk hf1 (fun p hp => ?_) hql hq0 hA H2 ?_
  · obtain ⟨q, hq, rfl⟩ := List.mem_map.mp hp
    have := hmem q hq
    show q.x ≤ 6 ∧ firstOf (vs.map (·.1)) + q.y < 256
    omega
  intro n3 k3 s3 H3
  have hg : (qs.map PQ.v).foldl tie W0 = nearOf (vs.map (·.1)) := by rw [hqs]; rfl
  have hne : qs ≠ [] := fun z => by rw [z, hd] at hqs; cases hqs
  clear hqs hd hf1 hf2 hq0
  generalize nearOf (vs.map (·.1)) = g at ho hg
  obtain ⟨hgl, hbi, m, mc, hm, hmc, hpo, hco, hfl, hml, ht0, ht9, hend⟩ := ho
  refine at_execs_app ?_
  refine law_C hk (fun q hq => by have := hmem q hq; omega) hne hg hgl hm hpo hmc hbi hco hA H3 ?_
  intro n4 k4 s4 kt5 kt6 kt7 kt8 kt9 N eN Fo Dd eF kd td M eM H eH Ta eT xs ms hs fs ts hxs hpe hhs hts H4
  clear hpo hco
  generalize peelP g (m + 1) ⟨127, [], []⟩ = R at hpe hhs hfl hml hend
  generalize clockP g (g.map bits) (mc + 1) W0 [W0] = T at hts ht0 ht9 hend
  have e1 : ms.map (·.1) = R.ms := congrArg PeelR.ms hpe
  have e2 : fs.map FO.v2 = R.fs := congrArg PeelR.fs hpe
  have e3 : ms.length = R.ms.length := by rw [← e1, List.length_map]
  have e4 : fs.length = R.fs.length := by rw [← e2, List.length_map]
  have e5 : ts.length = T.length := by rw [← hts, List.length_map]
  have e6 : hs.length = (hubsOf g R.lv).length := by rw [← hhs, List.length_map]
  have e7 : hs.length < 900 := by
    rw [e6]
    have h1 : (hubsOf g R.lv).length ≤ 7 := by
      unfold hubsOf bits
      exact Nat.le_trans (List.length_filter_le _ _) (Nat.le_trans (List.length_filter_le _ _) (Nat.le_of_eq List.length_range))
    exact Nat.lt_of_le_of_lt h1 (by decide)
  refine law_D hk (by rw [← hgl, ← hxs, List.length_map]) (by rw [e4]; exact hfl) (by rw [e3]; exact hml) e7 (by rw [e5]; exact ht0) (by rw [e5]; exact ht9) (fun z => ?_) (fun z => ?_) hA H4 ?_
  · rw [hts]; exact hend.1 (hhs ▸ z)
  · have h := hend.2 (hhs ▸ z)
    rw [hts, hxs, hhs, e1, e2, e3, e5, e6]
    exact h
  · intro n5 k5 s5 H5
    exact ⟨_, _, _, ⟨rfl, rfl⟩, H5⟩
end
end
noncomputable def kList (P : Params) : LG := [(0, k0 P), (2, k2 P), (3, k3 P), (50, k50 P), (51, k51 P), (55, k55 P), (60, k60 P), (67, k67 P), (68, k68 P), (74, k74 P), (75, k75 P), (76, k76 P), (82, k82 P), (83, k83 P), (127, k127 P), (128, k128 P), (130, k130 P), (131, k131 P), (141, k141 P), (142, k142 P), (148, k148 P), (149, k149 P), (155, k155 P), (156, k156 P), (162, k162 P), (163, k163 P), (169, k169 P), (170, k170 P), (176, k176 P), (177, k177 P), (183, k183 P), (184, k184 P), (190, k190 P), (191, k191 P), (197, k197 P), (198, k198 P), (202, k202 P), (203, k203 P), (207, k207 P), (208, k208 P), (214, k214 P), (215, k215 P), (219, k219 P), (220, k220 P), (226, k226 P), (227, k227 P)]
theorem hnil {h : Heap} {s b : Nat} : KT.Holds h s b .nil := trivial
theorem hnone {h : Heap} {b : Nat} : ∀ o, none = some o → h.get? b = some o := fun _ z => nomatch z
theorem hnode {h : Heap} {s b : Nat} {v : Option Obj} {l r : KT} (h1 : ∀ o, v = some o → h.get? b = some o) (h2 : KT.Holds h (2 * s) (s + b) l) (h3 : KT.Holds h (2 * s) (2 * s + b) r) : KT.Holds h s b (.node v l r) := ⟨h1, h2, h3⟩
theorem kAll_holds {h : Heap} {P : Params} (B : ∀ p ∈ kList P, h.get? p.1 = some p.2) : KT.Holds h 1 0 (kAll P) := by
  have A : ∀ (i : Nat) {a : Addr} {x : Obj}, (kList P)[i]? = some (a, x) → ∀ o, some x = some o → h.get? a = some o := fun i a x e o z => by
    cases z
    exact B (a, x) (List.mem_of_getElem? e)
  exact (hnode (A 0 rfl) (hnode hnone (hnode (A 2 rfl) (hnode hnone (hnode hnone (hnode hnone (hnode hnone (hnode (A 14 rfl) hnil hnil) (hnode (A 33 rfl) hnil hnil)) hnil) (hnode hnone (hnode hnone hnil (hnode (A 38 rfl) hnil hnil)) hnil)) (hnode hnone hnil (hnode (A 5 rfl) (hnode hnone hnil (hnode (A 41 rfl) hnil hnil)) (hnode hnone (hnode (A 30 rfl) hnil hnil) hnil)))) (hnode hnone (hnode hnone (hnode hnone (hnode (A 7 rfl) (hnode (A 17 rfl) hnil hnil) hnil) (hnode hnone (hnode (A 25 rfl) hnil hnil) (hnode (A 45 rfl) hnil hnil))) (hnode (A 4 rfl) (hnode (A 13 rfl) hnil hnil) hnil)) (hnode hnone (hnode hnone (hnode (A 10 rfl) hnil (hnode (A 37 rfl) hnil hnil)) hnil) (hnode hnone (hnode hnone (hnode (A 22 rfl) hnil hnil) (hnode (A 42 rfl) hnil hnil)) hnil)))) (hnode hnone (hnode hnone (hnode hnone hnil (hnode hnone hnil (hnode hnone (hnode (A 29 rfl) hnil hnil) hnil))) (hnode hnone (hnode hnone hnil (hnode hnone (hnode (A 26 rfl) hnil hnil) hnil)) hnil)) (hnode hnone (hnode hnone (hnode hnone (hnode hnone hnil (hnode (A 34 rfl) hnil hnil)) hnil) (hnode hnone (hnode hnone (hnode (A 21 rfl) hnil hnil) hnil) hnil)) (hnode hnone (hnode hnone (hnode hnone (hnode (A 18 rfl) hnil hnil) hnil) hnil) hnil)))) (hnode (A 1 rfl) (hnode hnone (hnode hnone (hnode hnone (hnode hnone (hnode hnone (hnode (A 15 rfl) hnil hnil) hnil) hnil) (hnode hnone (hnode hnone hnil (hnode (A 39 rfl) hnil hnil)) (hnode hnone (hnode (A 28 rfl) hnil hnil) hnil))) (hnode hnone hnil (hnode hnone hnil (hnode hnone (hnode (A 31 rfl) hnil hnil) hnil)))) (hnode hnone (hnode hnone (hnode hnone (hnode (A 8 rfl) hnil hnil) hnil) (hnode hnone (hnode hnone (hnode (A 20 rfl) hnil hnil) hnil) hnil)) (hnode hnone (hnode hnone (hnode (A 11 rfl) hnil hnil) hnil) (hnode (A 6 rfl) (hnode hnone (hnode (A 23 rfl) hnil hnil) (hnode (A 43 rfl) hnil hnil)) hnil)))) (hnode hnone (hnode hnone (hnode hnone (hnode hnone (hnode hnone (hnode (A 16 rfl) hnil hnil) hnil) (hnode hnone (hnode (A 24 rfl) hnil hnil) (hnode (A 44 rfl) hnil hnil))) (hnode (A 3 rfl) (hnode (A 12 rfl) hnil hnil) hnil)) (hnode hnone (hnode hnone (hnode (A 9 rfl) hnil (hnode (A 36 rfl) hnil hnil)) (hnode hnone (hnode (A 27 rfl) hnil hnil) hnil)) hnil)) (hnode hnone (hnode hnone (hnode hnone (hnode hnone hnil (hnode (A 35 rfl) hnil hnil)) hnil) (hnode hnone (hnode hnone hnil (hnode (A 40 rfl) hnil hnil)) hnil)) (hnode hnone (hnode hnone (hnode hnone (hnode (A 19 rfl) hnil hnil) hnil) hnil) (hnode hnone hnil (hnode hnone (hnode (A 32 rfl) hnil hnil) hnil)))))))
theorem kList_in {h : Heap} {K : KT} (ZH : KT.Holds h 1 0 K) : ∀ {l : LG}, l.map (fun p => K.get p.1) = l.map (fun p => some p.2) → ∀ p ∈ l, h.get? p.1 = some p.2
  | [], _, p, hp => by cases hp
  | x :: r, e, p, hp => by
    rw [List.map_cons, List.map_cons] at e
    obtain ⟨e1, e2⟩ := List.cons.inj e
    rcases List.mem_cons.mp hp with z | z
    · subst z
      have := KT.Holds.get ZH e1
      rw [Nat.one_mul, Nat.add_zero] at this
      exact this
    · exact kList_in ZH e2 p z
section
open PySem.W.ZRun PyProof.Rows
theorem zvs_of : ∀ {vs : List Value} {ns : List Int}, IntsAre vs ns → ∃ zs : List (Int × Nat), vs = zvs zs ∧ zs.map (·.1) = ns
  | _, _, .nil => ⟨[], rfl, rfl⟩
  | _, _, .cons n t r => by
    obtain ⟨zs, h1, h2⟩ := zvs_of r
    exact ⟨(n, t) :: zs, by rw [h1]; rfl, by rw [List.map_cons, h2]⟩
theorem caller_fine : Fine 560 callerA := ⟨rfl, by decide, by decide⟩
theorem law_ends (maths : ∀ zs : List Int, LawOk (nearOf zs) (firstOf zs)) {w : World} {s : Shared} {ns : List Int} {vs : List Value} (hK : KT.Holds s.heap 1 0 (kAll w.params)) (hn : s.heap.objs.size = 229)
    (hs : s.heap.get? 228 = some { cls := .type "list", data := .seq vs.toArray }) (hi : IntsAre vs ns) (hl : ns.length ≤ 63) (hL : s.heap.NoLimit) :
    codeAny (model pw w) callerA (.call (.ref 227) ⟨[.ref 228], []⟩) (fun r s' => r = .ok (.ret (.bool true)) ∧ (∀ b o, s.heap.get? b = some o → s'.heap.get? b = some o) ∧ s'.gens = s.gens ∧ s'.os = s.os) s := by
  obtain ⟨zs, rfl, rfl⟩ := zvs_of hi
  let X : Cx := ⟨w, w.params.followText "special-get-raises", s.heap, s.gens, s.drawn, s.os⟩
  have hX : X.w = w := wld_eq w
  have hk : KtOk X (kt X) := by
    refine ⟨fun a o e => ?_, hL⟩
    have e' : (kAll w.params).get a = some o := by rw [← hX]; exact e
    have := KT.Holds.get hK e'
    rw [Nat.one_mul, Nat.add_zero] at this
    exact this
  have hR : Rep X 229 s.toks ([(228, lst (zvs zs) 0)] ++ []) s := by
    refine ⟨⟨fun b o _ h => h, rfl, rfl, rfl⟩, hn, rfl, by decide, fun p hp => ?_, by simp, fun p hp => ?_⟩
    · rw [List.append_nil, List.mem_singleton] at hp
      subst hp
      exact hs
    · rw [List.append_nil, List.mem_singleton] at hp
      subst hp
      exact Nat.le_refl 228
  have hv : zs.length < 1000 := by
    rw [List.length_map] at hl
    omega
  have h := law_does hk hv s.toks 0 (maths _) callerA s [] caller_fine hR
  rw [hX] at h
  refine codeAny_mono h ?_
  rintro r s' ⟨n', k', T', ⟨rfl, rfl⟩, hR'⟩
  refine ⟨rfl, fun b o hb => ?_, hR'.base.gens, hR'.base.os⟩
  by_cases h1 : b < N0
  · exact hR'.base.old b o h1 hb
  · have h2 : b < 229 := hn ▸ Heap.lt_size hb
    have h3 : b = 228 := Nat.le_antisymm (Nat.le_of_lt_succ h2) (Nat.not_lt.mp h1)
    subst h3
    rw [hs] at hb
    cases hb
    exact hR'.own (228, lst (zvs zs) 0) (by simp)
end
section
open PySem.W.ZRun PyProof.Rows
theorem left_fast {p q : Program} {loose : List Str} {Xt : Shared → Bool} {α : Type} {Yf : Shared → α} {Ya : World → α} {N : Nat}
    (h : ∀ w : World, (((PySem.W.Fast.tw10274390034422433532 PySem.W.Fast.tw14364793385576792824 (opening p) w N (PySem.W.Fast.tw1435165496053646825 (opening p)).1 (PySem.W.Fast.tw1435165496053646825 (opening p)).2).bind (PySem.W.Fast.tw14289696077712309145 p)).bind fun s₀ =>
      match s₀.heap.isNs mainGlobals && s₀.gens.size == 0 with
      | true => (PySem.W.Fast.tw14082659384304107361 PySem.W.Fast.tw14364793385576792824 p w s₀.heap.objs.size (s₀.heap.nsMap mainGlobals "__annotations__") N s₀ (topStub p)).bind fun s₁ => match staticsOk (importedModules p.main.body) s₀.heap s₁.heap && namesBound p s₁.heap && gensDone s₁ && laidKept s₀.heap s₁.heap with
        | true => some s₁
        | false => none
      | false => none).map (fun s => (PySem.W.Fast.tw4187177175401517315 q loose (importedModules p.main.body) Xt true s, Yf s)) = some (openGood q loose, Ya w)) : LeftO p q loose Xt Yf Ya N := fun w => by
  have := h w
  rw [← PySem.W.Fast.te10274390034422433532, ← PySem.W.Fast.te14364793385576792824, ← PySem.W.Fast.te14289696077712309145, ← PySem.W.Fast.te14082659384304107361, ← PySem.W.Fast.te4187177175401517315, ← PySem.W.Fast.te1435165496053646825] at this
  exact this
noncomputable def keepL : List Nat := [0, 2, 3, 4, 6, 7, 9, 10, 11, 12, 13, 15, 16, 17, 18, 19, 20, 21, 22, 23, 24, 25]
noncomputable def vw : Program := view pw keepL
noncomputable def looseL : List Str := [Str.ofString "UNKNOWN", Str.ofString "_Accumulator"]
noncomputable def asL : List Nat := [0, 2, 3, 50, 51, 55, 60, 67, 68, 74, 75, 76, 82, 83, 127, 128, 130, 131, 141, 142, 148, 149, 155, 156, 162, 163, 169, 170, 176, 177, 183, 184, 190, 191, 197, 198, 202, 203, 207, 208, 214, 215, 219, 220, 226, 227]
theorem as_eq (P : Params) : asL = (kList P).map (·.1) := rfl
theorem allIn_mem {h : Heap} : ∀ {K : Frag}, AllIn h K → ∀ p ∈ K, h.get? p.1 = some p.2
  | [], _, _, hp => nomatch hp
  | _ :: _, a, _, .head _ => a.1
  | _ :: _, a, p, .tail _ hp => allIn_mem a.2 p hp
theorem top_left : LeftO (RowW.prog PySem.Challenge.rw_wk0008_01.row.toRowW) vw looseL (fun s => xlAt vw [] s && recOk (RowW.records PySem.Challenge.rw_wk0008_01.row.toRowW) s) (obsZ asL) (valZ kList 228 468) 2788 := by
  refine left_fast fun w => ?_
  kernel_rfl!
end
theorem bit_sub : ∀ m : Fin 128, ∀ u x : Fin 7, m.val.testBit u.val = true → (m.val - 1 <<< u.val).testBit x.val = (m.val.testBit x.val && x.val != u.val) := by decide +kernel
theorem bit_not : ∀ m : Fin 128, ∀ x : Fin 7, (127 - m.val).testBit x.val = !m.val.testBit x.val := by decide +kernel
theorem bit_one : ∀ u x : Fin 7, (1 <<< u.val).testBit x.val = (x.val == u.val) := by decide +kernel
theorem bits_sum : ∀ b0 b1 b2 b3 b4 b5 b6 : Bool, ∀ x : Fin 7, (cond b0 1 0 + cond b1 2 0 + cond b2 4 0 + cond b3 8 0 + cond b4 16 0 + cond b5 32 0 + cond b6 64 0 : Nat).testBit x.val = [b0, b1, b2, b3, b4, b5, b6].getD x.val false := by decide +kernel
theorem bit_ext {m n : Nat} (hm : m < 128) (hn : n < 128) (h : ∀ x, x < 7 → m.testBit x = n.testBit x) : m = n := by
  refine Nat.eq_of_testBit_eq fun i => ?_
  rcases Nat.lt_or_ge i 7 with h1 | h1
  · exact h i h1
  · have h2 : 128 ≤ 2 ^ i := by
      have := Nat.pow_le_pow_right (n := 2) (by decide) h1
      exact this
    rw [Nat.testBit_lt_two_pow (Nat.lt_of_lt_of_le hm h2), Nat.testBit_lt_two_pow (Nat.lt_of_lt_of_le hn h2)]
theorem bit_high {m i : Nat} (hm : m < 128) (h : m.testBit i = true) : i < 7 := by
  rcases Nat.lt_or_ge i 7 with h1 | h1
  · exact h1
  · have h2 : 128 ≤ 2 ^ i := Nat.pow_le_pow_right (n := 2) (by decide) h1
    rw [Nat.testBit_lt_two_pow (Nat.lt_of_lt_of_le hm h2)] at h
    cases h
theorem bit_le {m i : Nat} (h : m.testBit i = true) : 1 <<< i ≤ m := by
  rw [Nat.one_shiftLeft]
  exact Nat.ge_two_pow_of_testBit h
theorem mem_bits {m x : Nat} : x ∈ bits m ↔ x < 7 ∧ m.testBit x = true := by
  unfold bits
  rw [List.mem_filter, List.mem_range]
theorem sub_iff {a b : Nat} : (a &&& b == a) = true ↔ ∀ x, a.testBit x = true → b.testBit x = true := by
  rw [beq_iff_eq]
  constructor
  · intro h x hx
    have := congrArg (fun n => n.testBit x) h
    simp only [Nat.testBit_and, hx, Bool.true_and] at this
    exact this
  · intro h
    refine Nat.eq_of_testBit_eq fun x => ?_
    rw [Nat.testBit_and]
    cases e : a.testBit x with
    | false => rfl
    | true => rw [h x e]; rfl
theorem sup_iff {a b : Nat} : (a ||| b == b) = true ↔ ∀ x, a.testBit x = true → b.testBit x = true := by
  rw [beq_iff_eq]
  constructor
  · intro h x hx
    have := congrArg (fun n => n.testBit x) h
    simp only [Nat.testBit_or, hx, Bool.true_or] at this
    exact this.symm
  · intro h
    refine Nat.eq_of_testBit_eq fun x => ?_
    rw [Nat.testBit_or]
    cases e : a.testBit x with
    | false => rfl
    | true => rw [h x e]; rfl
theorem less_iff {a b : Nat} : less a b = true ↔ (∀ x, a.testBit x = true → b.testBit x = true) ∧ a ≠ b := by
  unfold less
  rw [Bool.and_eq_true, sub_iff, bne_iff_ne]
theorem less_lt {a b : Nat} (h : less a b = true) : a < b := by
  have h1 := less_iff.mp h
  have h2 : a &&& b = a := beq_iff_eq.mp (sub_iff.mpr h1.1)
  have h3 : a &&& b ≤ b := Nat.and_le_right
  have := h1.2
  omega
theorem less_trans {a b c : Nat} (h : less a b = true) (h' : less b c = true) : less a c = true := by
  have h1 := less_lt h
  have h2 := less_lt h'
  exact less_iff.mpr ⟨fun x hx => (less_iff.mp h').1 x ((less_iff.mp h).1 x hx), by omega⟩
theorem orAll_bit {ls : List Nat} {x : Nat} : ∀ {ds : List Nat} {r : Nat}, (orAll ls r ds).testBit x = (r.testBit x || ds.any fun d => (ls.getD d 0).testBit x)
  | [], r => by simp [orAll]
  | d :: w, r => by
    have := orAll_bit (ls := ls) (x := x) (ds := w) (r := r ||| ls.getD d 0)
    unfold orAll at this ⊢
    rw [List.foldl_cons, this, Nat.testBit_or, List.any_cons, Bool.or_assoc]
theorem lostOf_bit {near : List Nat} {reach x : Nat} (hx : x < 7) : (lostOf near reach).testBit x = (near.getD x 0 ||| reach == reach) := by
  have h : ∀ p : Nat → Bool, ((((List.range 7).filter p).map fun r => 1 <<< r).sum).testBit x = p x := by
    intro p
    have e : ((((List.range 7).filter p).map fun r => 1 <<< r).sum) = (cond (p 0) 1 0 + cond (p 1) 2 0 + cond (p 2) 4 0 + cond (p 3) 8 0 + cond (p 4) 16 0 + cond (p 5) 32 0 + cond (p 6) 64 0 : Nat) := by
      have : List.range 7 = [0, 1, 2, 3, 4, 5, 6] := rfl
      rw [this]
      simp only [List.filter]
      cases p 0 <;> cases p 1 <;> cases p 2 <;> cases p 3 <;> cases p 4 <;> cases p 5 <;> cases p 6 <;> rfl
    rw [e]
    have := bits_sum (p 0) (p 1) (p 2) (p 3) (p 4) (p 5) (p 6) ⟨x, hx⟩
    rw [this]
    match x, hx with
    | 0, _ => rfl
    | 1, _ => rfl
    | 2, _ => rfl
    | 3, _ => rfl
    | 4, _ => rfl
    | 5, _ => rfl
    | 6, _ => rfl
  exact h _
theorem offs_bit : ∀ {l : List Nat} {lv : Nat}, lv < 128 → l.Nodup → (∀ u ∈ l, lv.testBit u = true) → offs lv l < 128 ∧ ∀ x, x < 7 → (offs lv l).testBit x = (lv.testBit x && !l.elem x)
  | [], lv, h, _, _ => ⟨h, fun x _ => by simp [offs]⟩
  | u :: r, lv, h, nd, hl => by
    have hu := hl u (.head _)
    have hu7 := bit_high h hu
    have hs : ∀ x, x < 7 → (lv - 1 <<< u).testBit x = (lv.testBit x && x != u) := fun x hx => bit_sub ⟨lv, h⟩ ⟨u, hu7⟩ ⟨x, hx⟩ hu
    obtain ⟨nd1, nd2⟩ := List.nodup_cons.mp nd
    have ih := offs_bit (l := r) (lv := lv - 1 <<< u) (Nat.lt_of_le_of_lt (Nat.sub_le ..) h) nd2 (fun v hv => by
      rw [hs v (bit_high h (hl v (.tail _ hv))), hl v (.tail _ hv), Bool.true_and, bne_iff_ne]
      intro z; subst z; exact nd1 hv)
    refine ⟨ih.1, fun x hx => ?_⟩
    show (offs (lv - 1 <<< u) r).testBit x = _
    rw [ih.2 x hx, hs x hx, List.elem_cons, show (x != u) = !(x == u) from rfl]
    cases (x == u) <;> simp
section
structure Town (g : List Nat) : Prop where
  len : g.length = 7
  lt : ∀ v, v < 7 → g.getD v 0 < 128
  refl : ∀ v, v < 7 → (g.getD v 0).testBit v = true
  symm : ∀ u v, u < 7 → v < 7 → (g.getD u 0).testBit v = true → (g.getD v 0).testBit u = true
  deg : ∀ v, v < 7 → ∃ u, u < 7 ∧ u ≠ v ∧ (g.getD v 0).testBit u = true
noncomputable def adj (g : List Nat) (u v : Nat) : Prop := (g.getD u 0).testBit v = true
noncomputable def lvl (g : List Nat) : Nat → Nat
  | 0 => 127
  | i + 1 => offs (lvl g i) (goneOf g (lvl g i))
noncomputable def fold1 (g : List Nat) (lv x : Nat) : Nat := if overP g lv x = [] then x else holdOf (overP g lv) x
noncomputable def foldF (g : List Nat) : Nat → Nat → Nat
  | 0, x => x
  | i + 1, x => fold1 g (lvl g i) (foldF g i x)
theorem getD_map' {α β : Type} {f : α → β} {l : List α} {i : Nat} {a : α} {b : β} (h : i < l.length) : (l.map f).getD i b = f (l.getD i a) := by
  simp [List.getD_eq_getElem?_getD, List.getElem?_eq_getElem h]
section
variable {g : List Nat} (T : Town g)
include T
theorem seen_at {lv u : Nat} (hu : u < 7) : (seenOf g lv).getD u 0 = lv &&& g.getD u 0 := getD_map' (by rw [T.len]; exact hu)
theorem over_iff {lv u v : Nat} (hu : u < 7) : v ∈ overP g lv u ↔ v < 7 ∧ lv.testBit v = true ∧ less (lv &&& g.getD u 0) (lv &&& g.getD v 0) = true := by
  unfold overP
  rw [List.mem_filter, mem_bits, seen_at T hu, and_assoc]
  constructor
  · rintro ⟨h1, h2, h3⟩
    rw [seen_at T h1] at h3
    exact ⟨h1, h2, h3⟩
  · rintro ⟨h1, h2, h3⟩
    rw [seen_at T h1]
    exact ⟨h1, h2, h3⟩
omit T in
theorem gone_iff {lv u : Nat} : u ∈ goneOf g lv ↔ u < 7 ∧ lv.testBit u = true ∧ overP g lv u ≠ [] := by
  unfold goneOf
  rw [List.mem_filter, mem_bits, and_assoc]
  simp
theorem over_max {lv : Nat} (hlv : lv < 128) : ∀ n u, u < 7 → 128 ≤ n + (lv &&& g.getD u 0) → overP g lv u ≠ [] → ∃ v ∈ overP g lv u, overP g lv v = []
  | 0, u, hu, hn, _ => by
    have : lv &&& g.getD u 0 ≤ lv := Nat.and_le_left
    omega
  | n + 1, u, hu, hn, h => by
    obtain ⟨v, hv⟩ := List.exists_mem_of_ne_nil _ h
    obtain ⟨h1, h2, h3⟩ := (over_iff T hu).mp hv
    by_cases e : overP g lv v = []
    · exact ⟨v, hv, e⟩
    · have := less_lt h3
      obtain ⟨w, hw, ew⟩ := over_max hlv n v h1 (by omega) e
      obtain ⟨w1, w2, w3⟩ := (over_iff T h1).mp hw
      exact ⟨w, (over_iff T hu).mpr ⟨w1, w2, less_trans h3 w3⟩, ew⟩
theorem hold_ok {lv u : Nat} (hlv : lv < 128) (hu : u < 7) (h : overP g lv u ≠ []) : (overP g lv u).filter (fun x => overP g lv x = []) ≠ [] ∧ holdOf (overP g lv) u ∈ overP g lv u ∧ overP g lv (holdOf (overP g lv) u) = [] := by
  obtain ⟨v, hv, ev⟩ := over_max T hlv 128 u hu (by omega) h
  have hm : v ∈ (overP g lv u).filter (fun x => overP g lv x = []) := List.mem_filter.mpr ⟨hv, by simpa using ev⟩
  have hne : (overP g lv u).filter (fun x => overP g lv x = []) ≠ [] := List.ne_nil_of_mem hm
  refine ⟨hne, ?_⟩
  have h1 : holdOf (overP g lv) u ∈ (overP g lv u).filter (fun x => overP g lv x = []) := by
    unfold holdOf
    cases e : (overP g lv u).filter (fun x => overP g lv x = []) with
    | nil => exact absurd e hne
    | cons a r => exact List.mem_cons_self
  obtain ⟨h2, h3⟩ := List.mem_filter.mp h1
  exact ⟨h2, by simpa using h3⟩
omit T in
theorem next_ok {lv : Nat} (hlv : lv < 128) : offs lv (goneOf g lv) < 128 ∧ ∀ x, x < 7 → ((offs lv (goneOf g lv)).testBit x = true ↔ lv.testBit x = true ∧ overP g lv x = []) := by
  have nd : (goneOf g lv).Nodup := (bits_nd lv).filter _
  obtain ⟨h1, h2⟩ := offs_bit hlv nd fun u hu => (gone_iff.mp hu).2.1
  refine ⟨h1, fun x hx => ?_⟩
  rw [h2 x hx, Bool.and_eq_true, Bool.not_eq_true', Bool.eq_false_iff, ne_eq, List.elem_iff, gone_iff]
  constructor
  · rintro ⟨a, b⟩
    refine ⟨a, ?_⟩
    by_cases e : overP g lv x = []
    · exact e
    · exact absurd ⟨hx, a, e⟩ b
  · rintro ⟨a, b⟩
    exact ⟨a, fun z => z.2.2 b⟩
theorem fold1_ok {lv x : Nat} (hlv : lv < 128) (hx : x < 7) (hb : lv.testBit x = true) : fold1 g lv x < 7 ∧ (offs lv (goneOf g lv)).testBit (fold1 g lv x) = true ∧ ∀ r, r < 7 → lv.testBit r = true → adj g x r → adj g (fold1 g lv x) r := by
  unfold fold1
  by_cases e : overP g lv x = []
  · rw [if_pos e]
    exact ⟨hx, ((next_ok hlv).2 x hx).mpr ⟨hb, e⟩, fun r _ _ h => h⟩
  · rw [if_neg e]
    obtain ⟨_, h1, h2⟩ := hold_ok T hlv hx e
    obtain ⟨h3, h4, h5⟩ := (over_iff T hx).mp h1
    refine ⟨h3, ((next_ok hlv).2 _ h3).mpr ⟨h4, h2⟩, fun r _ hr h => ?_⟩
    have := (less_iff.mp h5).1 r (by rw [Nat.testBit_and, hr]; exact h)
    rw [Nat.testBit_and, hr] at this
    exact this
theorem no_corner {lv r d : Nat} (hlv : lv < 128) (hr : r < 7) (hd : d < 7) (h1 : (offs lv (goneOf g lv)).testBit r = true) (h2 : lv.testBit d = true) (h : ∀ x, x < 7 → lv.testBit x = true → adj g r x → adj g d x) :
    ∀ x, x < 7 → lv.testBit x = true → adj g d x → adj g r x := by
  obtain ⟨h3, h4⟩ := ((next_ok hlv).2 r hr).mp h1
  have hn : ¬ less (lv &&& g.getD r 0) (lv &&& g.getD d 0) = true := fun z => by
    have : d ∈ overP g lv r := (over_iff T hr).mpr ⟨hd, h2, z⟩
    rw [h4] at this
    cases this
  rw [less_iff, not_and] at hn
  have e := Decidable.not_not.mp (hn fun x hx => by
    rw [Nat.testBit_and, Bool.and_eq_true] at hx ⊢
    exact ⟨hx.1, h x (bit_high hlv hx.1) hx.1 hx.2⟩)
  intro x hx hb ha
  have := congrArg (fun n => n.testBit x) e
  simp only [Nat.testBit_and, hb, Bool.true_and] at this
  exact this.trans ha
omit T in
theorem lvl_lt : ∀ i, lvl g i < 128
  | 0 => by unfold lvl; decide
  | i + 1 => (next_ok (lvl_lt i)).1
omit T in
theorem lvl0 {x : Nat} (hx : x < 7) : (lvl g 0).testBit x = true := (by decide : ∀ x : Fin 7, (127 : Nat).testBit x.val = true) ⟨x, hx⟩
omit T in
theorem lvl_sub {i x : Nat} (hx : x < 7) (h : (lvl g (i + 1)).testBit x = true) : (lvl g i).testBit x = true := (((next_ok (lvl_lt i)).2 x hx).mp h).1
theorem foldF_in {x : Nat} (hx : x < 7) : ∀ i, foldF g i x < 7 ∧ (lvl g i).testBit (foldF g i x) = true
  | 0 => ⟨hx, lvl0 hx⟩
  | i + 1 => by
    obtain ⟨h1, h2⟩ := foldF_in hx i
    obtain ⟨h3, h4, _⟩ := fold1_ok T (lvl_lt i) h1 h2
    exact ⟨h3, h4⟩
theorem foldF_hom {x y : Nat} (hx : x < 7) (hy : y < 7) (h : adj g x y) : ∀ i, adj g (foldF g i x) (foldF g i y)
  | 0 => h
  | i + 1 => by
    have ih := foldF_hom hx hy h i
    obtain ⟨x1, x2⟩ := foldF_in T hx i
    obtain ⟨y1, y2⟩ := foldF_in T hy i
    obtain ⟨f1, f2, f3⟩ := fold1_ok T (lvl_lt i) x1 x2
    have a1 := f3 _ y1 y2 ih
    have a2 := T.symm _ _ f1 y1 a1
    obtain ⟨k1, k2, k3⟩ := fold1_ok T (lvl_lt i) y1 y2
    have a3 := k3 _ f1 (lvl_sub f1 f2) a2
    exact T.symm _ _ k1 f1 a3
theorem foldF_shift {x y : Nat} (hx : x < 7) (hy : y < 7) (h : adj g x y) (i : Nat) : adj g (foldF g (i + 1) x) (foldF g i y) := by
  obtain ⟨x1, x2⟩ := foldF_in T hx i
  obtain ⟨y1, y2⟩ := foldF_in T hy i
  exact (fold1_ok T (lvl_lt i) x1 x2).2.2 _ y1 y2 (foldF_hom T hx hy h i)
end
noncomputable def lsT (g : List Nat) : Nat → List Nat
  | 0 => W0
  | j + 1 => (wonOf (g.map bits) (lsT g j)).map (lostOf g)
noncomputable def wT (g : List Nat) : Nat → List Nat
  | 0 => W0
  | j + 1 => wonOf (g.map bits) (lsT g j)
noncomputable def win (g : List Nat) (j c r : Nat) : Prop := ((wT g j).getD c 0).testBit r = true
theorem won_len (bs : List (List Nat)) (ls : List Nat) : (wonOf bs ls).length = 7 := by unfold wonOf; simp
theorem wT_len (g : List Nat) : ∀ j, (wT g j).length = 7
  | 0 => rfl
  | _ + 1 => won_len _ _
theorem won_at {bs : List (List Nat)} {ls : List Nat} {c : Nat} (hc : c < 7) : (wonOf bs ls).getD c 0 = wonAt bs ls c := by
  unfold wonOf
  rw [getD_map' (a := 0) (by simpa using hc)]
  congr 1
  simp [List.getD_eq_getElem?_getD, List.getElem?_range hc]
theorem lostOf_lt {near : List Nat} {reach : Nat} : lostOf near reach < 128 := by
  have h : ∀ p : Nat → Bool, (((List.range 7).filter p).map fun r => 1 <<< r).sum < 128 := by
    intro p
    have : List.range 7 = [0, 1, 2, 3, 4, 5, 6] := rfl
    rw [this]
    simp only [List.filter]
    cases p 0 <;> cases p 1 <;> cases p 2 <;> cases p 3 <;> cases p 4 <;> cases p 5 <;> cases p 6 <;> decide
  exact h _
theorem orAll_lt {ls : List Nat} (h : ∀ d, ls.getD d 0 < 128) : ∀ {ds : List Nat} {r : Nat}, r < 128 → orAll ls r ds < 128
  | [], _, hr => hr
  | d :: w, r, hr => orAll_lt h (ds := w) (r := r ||| ls.getD d 0) (Nat.or_lt_two_pow (n := 7) hr (h d))
theorem lsT_lt (g : List Nat) : ∀ j d, (lsT g j).getD d 0 < 128
  | 0, d => by
    have : ∀ x ∈ W0, x < 128 := by decide
    rw [List.getD_eq_getElem?_getD]
    show (W0[d]?.getD 0) < 128
    cases e : W0[d]? with
    | none => decide
    | some x => exact this x (List.mem_of_getElem? e)
  | j + 1, d => by
    show ((wonOf (g.map bits) (lsT g j)).map (lostOf g)).getD d 0 < 128
    rw [List.getD_eq_getElem?_getD, List.getElem?_map]
    cases e : (wonOf (g.map bits) (lsT g j))[d]? with
    | none => exact (by decide : (0 : Nat) < 128)
    | some x => exact lostOf_lt
theorem wT_lt (g : List Nat) (j c : Nat) (hc : c < 7) : (wT g j).getD c 0 < 128 := by
  cases j with
  | zero => exact lsT_lt g 0 c
  | succ j =>
    show (wonOf (g.map bits) (lsT g j)).getD c 0 < 128
    rw [won_at hc]
    exact orAll_lt (lsT_lt g j) (by decide)
section
variable {g : List Nat} (T : Town g)
include T
theorem win_succ {j c r : Nat} (hc : c < 7) : win g (j + 1) c r ↔ ∃ d, d < 7 ∧ adj g c d ∧ ((lsT g j).getD d 0).testBit r = true := by
  unfold win
  show ((wonOf (g.map bits) (lsT g j)).getD c 0).testBit r = true ↔ _
  rw [won_at hc]
  unfold wonAt
  rw [getD_map' (a := 0) (by rw [T.len]; exact hc), orAll_bit, Nat.zero_testBit, Bool.false_or, List.any_eq_true]
  constructor
  · rintro ⟨d, h1, h2⟩
    obtain ⟨h3, h4⟩ := mem_bits.mp h1
    exact ⟨d, h3, h4, h2⟩
  · rintro ⟨d, h1, h2, h3⟩
    exact ⟨d, mem_bits.mpr ⟨h1, h2⟩, h3⟩
omit T in
theorem win_0 {c r : Nat} (hc : c < 7) (hr : r < 7) : win g 0 c r ↔ r = c := by
  have := (by decide : ∀ c r : Fin 7, (W0.getD c.val 0).testBit r.val = (r.val == c.val)) ⟨c, hc⟩ ⟨r, hr⟩
  unfold win
  show (W0.getD c 0).testBit r = true ↔ _
  rw [this, beq_iff_eq]
theorem win_1 {c r : Nat} (hc : c < 7) (hr : r < 7) : win g 1 c r ↔ adj g c r := by
  rw [win_succ T hc]
  constructor
  · rintro ⟨d, h1, h2, h3⟩
    have := (win_0 (g := g) h1 hr).mp h3
    subst this; exact h2
  · intro h
    exact ⟨r, hr, h, (win_0 (g := g) hr hr).mpr rfl⟩
theorem win_2 {j c r : Nat} (hc : c < 7) (hr : r < 7) : win g (j + 2) c r ↔ ∃ d, d < 7 ∧ adj g c d ∧ ∀ x, x < 7 → adj g r x → win g (j + 1) d x := by
  rw [win_succ T hc]
  have key : ∀ d, d < 7 → (((lsT g (j + 1)).getD d 0).testBit r = true ↔ ∀ x, x < 7 → adj g r x → win g (j + 1) d x) := by
    intro d hd
    show (((wonOf (g.map bits) (lsT g j)).map (lostOf g)).getD d 0).testBit r = true ↔ _
    rw [getD_map' (a := 0) (by rw [won_len]; exact hd), lostOf_bit hr, sup_iff]
    constructor
    · exact fun h x _ ha => h x ha
    · exact fun h x ha => h x (bit_high (T.lt r hr) ha) ha
  constructor
  · rintro ⟨d, h1, h2, h3⟩
    exact ⟨d, h1, h2, (key d h1).mp h3⟩
  · rintro ⟨d, h1, h2, h3⟩
    exact ⟨d, h1, h2, (key d h1).mpr h3⟩
theorem win_mono : ∀ {j c r : Nat}, c < 7 → r < 7 → win g (j + 1) c r → win g (j + 2) c r
  | 0, c, r, hc, hr, h => (win_2 T hc hr).mpr ⟨r, hr, (win_1 T hc hr).mp h, fun x hx ha => (win_1 T hr hx).mpr ha⟩
  | j + 1, c, r, hc, hr, h => by
    obtain ⟨d, h1, h2, h3⟩ := (win_2 T hc hr).mp h
    exact (win_2 T hc hr).mpr ⟨d, h1, h2, fun x hx ha => win_mono h1 hx (h3 x hx ha)⟩
theorem win_upper : ∀ (i : Nat) {c r : Nat}, c < 7 → r < 7 → adj g c (foldF g i r) → win g (i + 1) c r
  | 0, c, r, hc, hr, h => (win_1 T hc hr).mpr h
  | i + 1, c, r, hc, hr, h => (win_2 T hc hr).mpr ⟨_, (foldF_in T hr (i + 1)).1, h, fun x hx ha => win_upper i (foldF_in T hr (i + 1)).1 hx (foldF_shift T hr hx ha i)⟩
theorem win_lower : ∀ (i : Nat) {c r : Nat}, c < 7 → r < 7 → (lvl g i).testBit r = true → win g (i + 1) c r → adj g (foldF g i c) r
  | 0, c, r, hc, hr, _, h => (win_1 T hc hr).mp h
  | i + 1, c, r, hc, hr, hL, h => by
    obtain ⟨d, h1, h2, h3⟩ := (win_2 T hc hr).mp h
    obtain ⟨d1, d2⟩ := foldF_in T h1 i
    obtain ⟨c1, c2⟩ := foldF_in T hc i
    have key := no_corner T (lvl_lt i) hr d1 hL d2 fun x hx hb ha => win_lower i h1 hx hb (h3 x hx ha)
    have a1 := T.symm _ _ c1 d1 (foldF_hom T hc h1 h2 i)
    have a2 := key _ c1 c2 a1
    have a3 := T.symm _ _ hr c1 a2
    exact (fold1_ok T (lvl_lt i) c1 c2).2.2 r hr (lvl_sub hr hL) a3
end
end
section
theorem filt_le {p q : Nat → Bool} : ∀ {l : List Nat}, (∀ x ∈ l, p x = true → q x = true) → (l.filter p).length ≤ (l.filter q).length ∧ ((∃ x ∈ l, q x = true ∧ p x = false) → (l.filter p).length < (l.filter q).length)
  | [], _ => ⟨Nat.le_refl _, fun ⟨x, hx, _⟩ => nomatch hx⟩
  | a :: r, h => by
    obtain ⟨h1, h2⟩ := filt_le (l := r) fun x hx => h x (.tail _ hx)
    have ha := h a (.head _)
    rw [List.filter_cons, List.filter_cons]
    cases ep : p a with
    | true =>
      rw [ha ep]
      refine ⟨Nat.succ_le_succ h1, ?_⟩
      rintro ⟨x, hx, e1, e2⟩
      rcases List.mem_cons.mp hx with z | z
      · subst z; rw [ep] at e2; cases e2
      · exact Nat.succ_lt_succ (h2 ⟨x, z, e1, e2⟩)
    | false =>
      cases eq : q a with
      | true => exact ⟨Nat.le_succ_of_le h1, fun _ => Nat.lt_succ_of_le h1⟩
      | false =>
        refine ⟨h1, ?_⟩
        rintro ⟨x, hx, e1, e2⟩
        rcases List.mem_cons.mp hx with z | z
        · subst z; rw [eq] at e1; cases e1
        · exact h2 ⟨x, z, e1, e2⟩
theorem sum_le {a b : Nat → Nat} : ∀ {l : List Nat}, (∀ x ∈ l, a x ≤ b x) → (l.map a).sum ≤ (l.map b).sum ∧ ((∃ x ∈ l, a x < b x) → (l.map a).sum < (l.map b).sum)
  | [], _ => ⟨Nat.le_refl _, fun ⟨x, hx, _⟩ => nomatch hx⟩
  | c :: r, h => by
    obtain ⟨h1, h2⟩ := sum_le (l := r) fun x hx => h x (.tail _ hx)
    have hc := h c (.head _)
    simp only [List.map_cons, List.sum_cons]
    refine ⟨by omega, ?_⟩
    rintro ⟨x, hx, e⟩
    rcases List.mem_cons.mp hx with z | z
    · subst z; omega
    · have := h2 ⟨x, z, e⟩; omega
noncomputable def cntT (l : List Nat) : Nat := ((List.range 7).map fun c => (bits (l.getD c 0)).length).sum
theorem cntT_le (l : List Nat) : cntT l ≤ 49 := by
  have := (sum_le (l := List.range 7) (a := fun c => (bits (l.getD c 0)).length) (b := fun _ => 7) fun x _ => Nat.le_trans (List.length_filter_le _ _) (Nat.le_of_eq List.length_range)).1
  exact this
theorem list7_ext {a b : List Nat} (ha : a.length = 7) (hb : b.length = 7) (h : ∀ c, c < 7 → a.getD c 0 = b.getD c 0) : a = b := by
  refine List.ext_getElem (ha.trans hb.symm) fun i h1 h2 => ?_
  have := h i (by omega)
  rw [List.getD_eq_getElem?_getD, List.getD_eq_getElem?_getD, List.getElem?_eq_getElem h1, List.getElem?_eq_getElem h2] at this
  exact this
section
variable {g : List Nat} (T : Town g)
include T
theorem win_step {j c r : Nat} (hc : c < 7) (hr : r < 7) (h : win g j c r) : win g (j + 1) c r := by
  cases j with
  | zero =>
    have := (win_0 hc hr).mp h
    subst this
    exact (win_1 T hc hr).mpr (T.refl _ hc)
  | succ j => exact win_mono T hc hr h
theorem win_le {c r : Nat} (hc : c < 7) (hr : r < 7) {j : Nat} (h : win g j c r) : ∀ k, win g (j + k) c r
  | 0 => h
  | k + 1 => win_step T hc hr (win_le hc hr h k)
theorem cnt_step (j : Nat) : cntT (wT g j) ≤ cntT (wT g (j + 1)) ∧ (wT g (j + 1) ≠ wT g j → cntT (wT g j) < cntT (wT g (j + 1))) := by
  have hb : ∀ c ∈ List.range 7, (bits ((wT g j).getD c 0)).length ≤ (bits ((wT g (j + 1)).getD c 0)).length ∧ ((∃ r ∈ List.range 7, ((wT g (j + 1)).getD c 0).testBit r = true ∧ ((wT g j).getD c 0).testBit r = false) → (bits ((wT g j).getD c 0)).length < (bits ((wT g (j + 1)).getD c 0)).length) := fun c hc =>
    filt_le fun r hr h => win_step T (List.mem_range.mp hc) (List.mem_range.mp hr) h
  obtain ⟨h1, h2⟩ := sum_le (l := List.range 7) fun c hc => (hb c hc).1
  refine ⟨h1, fun hne => h2 ?_⟩
  refine Classical.byContradiction fun hn => hne (list7_ext (wT_len g _) (wT_len g _) fun c hc => bit_ext (wT_lt g _ c hc) (wT_lt g _ c hc) fun r hr => ?_)
  cases e1 : ((wT g j).getD c 0).testBit r with
  | true => exact win_step T hc hr e1
  | false =>
    cases e2 : ((wT g (j + 1)).getD c 0).testBit r with
    | false => rfl
    | true => exact absurd ⟨c, List.mem_range.mpr hc, (hb c (List.mem_range.mpr hc)).2 ⟨r, List.mem_range.mpr hr, e2, e1⟩⟩ hn
theorem still : ∃ i, i < 50 ∧ wT g (i + 1) = wT g i := by
  refine Classical.byContradiction fun hn => ?_
  have h : ∀ i, i ≤ 50 → i ≤ cntT (wT g i) := by
    intro i
    induction i with
    | zero => intro _; exact Nat.zero_le _
    | succ i ih =>
      intro hi
      have h1 := ih (by omega)
      have h2 := (cnt_step T i).2 fun e => hn ⟨i, by omega, e⟩
      omega
  have h1 := h 50 (Nat.le_refl _)
  have h2 := cntT_le (wT g 50)
  omega
theorem still_on {i : Nat} (h : wT g (i + 1) = wT g i) : ∀ k, wT g (i + k) = wT g i := by
  cases i with
  | zero =>
    exfalso
    obtain ⟨u, h1, h2, h3⟩ := T.deg 0 (by decide)
    have h4 : win g 1 0 u := (win_1 T (by decide) h1).mpr h3
    have h5 : win g 0 0 u := by
      unfold win at h4 ⊢
      rw [← h]; exact h4
    exact h2 ((win_0 (by decide) h1).mp h5)
  | succ i =>
    have hk : ∀ k, wT g (i + 1 + k + 1) = wT g (i + 1 + k) := by
      intro k
      induction k with
      | zero => exact h
      | succ k ih =>
        show wonOf (g.map bits) ((wT g (i + 1 + k + 1)).map (lostOf g)) = _
        rw [ih]
        have : i + 1 + k = i + k + 1 := by omega
        rw [this]
        show wonOf (g.map bits) (lsT g (i + k + 1)) = _
        rw [show i + 1 + (k + 1) = i + k + 1 + 1 by omega]
        rfl
    intro k
    induction k with
    | zero => rfl
    | succ k ih => rw [← ih]; exact hk k
end
noncomputable def tabs (g : List Nat) (j : Nat) : List (List Nat) := (List.range (j + 1)).map (wT g)
theorem tabs_last (g : List Nat) (j : Nat) : (tabs g j).getLastD [] = wT g j := by
  unfold tabs
  rw [List.range_succ, List.map_append, List.map_singleton, List.getLastD_concat]
theorem tabs_next (g : List Nat) (j : Nat) : tabs g j ++ [wT g (j + 1)] = tabs g (j + 1) := by
  unfold tabs
  rw [List.range_succ (n := j + 1), List.map_append, List.map_singleton]
theorem clk {g : List Nat} : ∀ (m j : Nat), ClockOk g (g.map bits) m (lsT g j) (tabs g j) → ∃ t, j ≤ t ∧ t ≤ j + m ∧ clockP g (g.map bits) m (lsT g j) (tabs g j) = tabs g t ∧ (127 ∈ wT g t ∨ wT g (t + 1) = wT g t) ∧ ∀ i, j < i → i < t → 127 ∉ wT g i
  | 0, j, h => h.elim
  | m + 1, j, h => by
    unfold clockP
    rw [tabs_last]
    unfold ClockOk at h
    rw [tabs_last] at h
    by_cases e : wonOf (g.map bits) (lsT g j) = wT g j
    · rw [if_pos e]
      exact ⟨j, Nat.le_refl _, by omega, rfl, .inr e, fun i h1 h2 => by omega⟩
    · rw [if_neg e]
      by_cases e2 : 127 ∈ wonOf (g.map bits) (lsT g j)
      · rw [if_pos e2]
        exact ⟨j + 1, by omega, by omega, tabs_next g j, .inl e2, fun i h1 h2 => by omega⟩
      · rw [if_neg e2]
        have h3 := (h.resolve_left e).resolve_left e2
        have e3 : tabs g j ++ [wonOf (g.map bits) (lsT g j)] = tabs g (j + 1) := tabs_next g j
        rw [e3] at h3 ⊢
        obtain ⟨t, t1, t2, t3, t4, t5⟩ := clk m (j + 1) h3
        refine ⟨t, by omega, by omega, t3, t4, fun i h1 h2 => ?_⟩
        by_cases e4 : i = j + 1
        · subst e4; exact e2
        · exact t5 i (by omega) h2
theorem clkOk {g : List Nat} : ∀ (m j i : Nat), j ≤ i → i < j + m → wT g (i + 1) = wT g i → ClockOk g (g.map bits) m (lsT g j) (tabs g j)
  | 0, j, i, h1, h2, _ => by omega
  | m + 1, j, i, h1, h2, h => by
    unfold ClockOk
    rw [tabs_last]
    by_cases e : i = j
    · subst e; exact .inl h
    · have e3 : tabs g j ++ [wonOf (g.map bits) (lsT g j)] = tabs g (j + 1) := tabs_next g j
      rw [e3]
      exact .inr (.inr (clkOk m (j + 1) i (by omega) (by omega) h))
theorem clock_won {g : List Nat} (T : Town g) {m t : Nat} (ho : ClockOk g (g.map bits) m W0 [W0]) (h1 : 127 ∈ wT g (t + 1)) (h2 : ∀ i, i ≤ t → 127 ∉ wT g i) : clockP g (g.map bits) m W0 [W0] = tabs g (t + 1) := by
  obtain ⟨u, _, _, u3, u4, u5⟩ := clk (g := g) m 0 ho
  have e : u = t + 1 := by
    rcases Nat.lt_trichotomy u (t + 1) with z | z | z
    · exfalso
      rcases u4 with y | y
      · exact h2 u (by omega) y
      · have := still_on T y (t + 1 - u)
        rw [show u + (t + 1 - u) = t + 1 by omega] at this
        rw [this] at h1
        exact h2 u (by omega) h1
    · exact z
    · exact absurd h1 (u5 (t + 1) (by omega) z)
  rw [← e]; exact u3
theorem full_iff {g : List Nat} {j : Nat} : 127 ∈ wT g j ↔ ∃ c, c < 7 ∧ ∀ r, r < 7 → win g j c r := by
  constructor
  · intro h
    obtain ⟨c, hc, e⟩ := List.mem_iff_getElem.mp h
    have hc7 : c < 7 := by rw [wT_len] at hc; exact hc
    refine ⟨c, hc7, fun r hr => ?_⟩
    unfold win
    rw [List.getD_eq_getElem?_getD, List.getElem?_eq_getElem hc, e]
    exact (by decide : ∀ x : Fin 7, (127 : Nat).testBit x.val = true) ⟨r, hr⟩
  · rintro ⟨c, hc, h⟩
    have hc' : c < (wT g j).length := by rw [wT_len]; exact hc
    have e : (wT g j).getD c 0 = 127 := bit_ext (wT_lt g j c hc) (by decide) fun r hr => by
      rw [h r hr]
      exact ((by decide : ∀ x : Fin 7, (127 : Nat).testBit x.val = true) ⟨r, hr⟩).symm
    rw [List.getD_eq_getElem?_getD, List.getElem?_eq_getElem hc'] at e
    exact List.mem_iff_getElem.mpr ⟨c, hc', e⟩
end
section
noncomputable def fsP (g : List Nat) : Nat → NN
  | 0 => []
  | i + 1 => fsP g i ++ piecesOf g (lvl g i)
noncomputable def msP (g : List Nat) (i : Nat) : List Nat := (List.range i).map fun k => (fsP g k).length
theorem pl {g : List Nat} : ∀ (m j : Nat), PeelOk g m (lvl g j) → ∃ t, j ≤ t ∧ t ≤ j + m ∧ Ends g (lvl g t) ∧ (∀ i, j ≤ i → i < t → ¬ Ends g (lvl g i)) ∧ peelP g m ⟨lvl g j, msP g j, fsP g j⟩ = ⟨lvl g t, msP g t, fsP g t⟩
  | 0, j, h => h.elim
  | m + 1, j, h => by
    unfold PeelOk at h
    by_cases e : Ends g (lvl g j)
    · exact ⟨j, Nat.le_refl _, by omega, e, fun i h1 h2 => by omega, peelP_end e⟩
    · have h3 := (h.2.resolve_left e).2
      obtain ⟨t, t1, t2, t3, t4, t5⟩ := pl m (j + 1) h3
      refine ⟨t, by omega, by omega, t3, fun i h1 h2 => ?_, ?_⟩
      · by_cases e4 : i = j
        · subst e4; exact e
        · exact t4 i (by omega) h2
      · rw [peelP_more e]
        have e5 : msP g j ++ [(fsP g j).length] = msP g (j + 1) := by
          unfold msP
          rw [List.range_succ, List.map_append, List.map_singleton]
        show peelP g m ⟨lvl g (j + 1), msP g j ++ [(fsP g j).length], fsP g (j + 1)⟩ = _
        rw [e5]; exact t5
theorem nd_take {l : List Nat} {j u : Nat} (nd : l.Nodup) (h : l[j]? = some u) : u ∉ l.take j := by
  intro hm
  obtain ⟨i, hi, e⟩ := List.mem_iff_getElem.mp hm
  rw [List.length_take] at hi
  rw [List.getElem_take] at e
  have hj : j < l.length := (List.getElem?_eq_some_iff.mp h).1
  have e2 : l[j] = u := (List.getElem?_eq_some_iff.mp h).2
  exact List.pairwise_iff_getElem.mp nd i j (by omega) hj (by omega) (e.trans e2.symm)
section
variable {g : List Nat} (T : Town g)
include T
theorem lvl_ne (i : Nat) : bits (lvl g i) ≠ [] := by
  have := foldF_in T (x := 0) (by decide) i
  exact List.ne_nil_of_mem (mem_bits.mpr this)
theorem round_ok (i : Nat) : RoundOk g (lvl g i) := by
  refine ⟨lvl_ne T i, fun u hu => ?_, fun j u hj => ?_⟩
  · obtain ⟨h1, h2, h3⟩ := gone_iff.mp hu
    exact (hold_ok T (lvl_lt i) h1 h3).1
  · have nd : (goneOf g (lvl g i)).Nodup := (bits_nd _).filter _
    have hu := gone_iff.mp (List.mem_of_getElem? hj)
    have hs : ((goneOf g (lvl g i)).take j).Nodup := nd.sublist (List.take_sublist _ _)
    obtain ⟨_, h2⟩ := offs_bit (lvl_lt i) hs fun v hv => (gone_iff.mp (List.mem_of_mem_take hv)).2.1
    refine bit_le ?_
    rw [h2 u hu.1, hu.2.1, Bool.true_and, Bool.not_eq_true', Bool.eq_false_iff, ne_eq, List.elem_iff]
    exact nd_take nd hj
theorem plOk : ∀ (m i : Nat), (bits (lvl g i)).length ≤ m → PeelOk g m (lvl g i)
  | 0, i, h => absurd (List.eq_nil_of_length_eq_zero (Nat.le_zero.mp h)) (lvl_ne T i)
  | m + 1, i, h => by
    refine ⟨round_ok T i, ?_⟩
    by_cases e : Ends g (lvl g i)
    · exact .inl e
    · refine .inr ⟨e, plOk m (i + 1) ?_⟩
      have hg : goneOf g (lvl g i) ≠ [] := fun z => e (.inr z)
      obtain ⟨u, hu⟩ := List.exists_mem_of_ne_nil _ hg
      obtain ⟨u1, u2, u3⟩ := gone_iff.mp hu
      have hn := (next_ok (g := g) (lvl_lt (g := g) i)).2
      have := (filt_le (l := List.range 7) (p := (lvl g (i + 1)).testBit) (q := (lvl g i).testBit) fun x hx h => lvl_sub (List.mem_range.mp hx) h).2 ⟨u, List.mem_range.mpr u1, u2, by
        rw [Bool.eq_false_iff]
        intro z
        exact u3 ((hn u u1).mp z).2⟩
      have h4 : (bits (lvl g (i + 1))).length < (bits (lvl g i)).length := this
      omega
omit T in
theorem holdP_map {h : Nat → Nat} : ∀ {l : List Nat} {x : Nat}, l.Nodup → (∀ u ∈ l, h u ∉ l) → holdP x (l.map fun u => (u, h u)) = if x ∈ l then h x else x
  | [], x, _, _ => rfl
  | a :: r, x, nd, hh => by
    obtain ⟨nd1, nd2⟩ := List.nodup_cons.mp nd
    have ih : ∀ y, holdP y (r.map fun u => (u, h u)) = if y ∈ r then h y else y := fun y => holdP_map nd2 fun u hu z => hh u (.tail _ hu) (.tail _ z)
    show holdP (if a = x then h a else x) (r.map fun u => (u, h u)) = _
    by_cases e : a = x
    · subst e
      have n1 : ¬ h a ∈ r := fun z => hh a (.head _) (.tail _ z)
      rw [if_pos rfl, ih, if_neg n1, if_pos List.mem_cons_self]
    · rw [if_neg e, ih]
      by_cases e2 : x ∈ r
      · rw [if_pos e2, if_pos (List.mem_cons_of_mem _ e2)]
      · have n2 : ¬ x ∈ a :: r := fun z => by
          rcases List.mem_cons.mp z with y | y
          · exact e y.symm
          · exact e2 y
        rw [if_neg e2, if_neg n2]
theorem holdP_pieces {lv x : Nat} (hlv : lv < 128) (hx : x < 7) (hb : lv.testBit x = true) : holdP x (piecesOf g lv) = fold1 g lv x := by
  unfold piecesOf
  have nd : (goneOf g lv).Nodup := (bits_nd lv).filter _
  have hh : ∀ u ∈ goneOf g lv, holdOf (overP g lv) u ∉ goneOf g lv := fun u hu z => by
    obtain ⟨h1, h2, h3⟩ := gone_iff.mp hu
    exact (gone_iff.mp z).2.2 (hold_ok T hlv h1 h3).2.2
  rw [holdP_map nd hh]
  unfold fold1
  by_cases e : overP g lv x = []
  · have n1 : ¬ x ∈ goneOf g lv := fun z => (gone_iff.mp z).2.2 e
    rw [if_pos e, if_neg n1]
  · have n2 : x ∈ goneOf g lv := gone_iff.mpr ⟨hx, hb, e⟩
    rw [if_neg e, if_pos n2]
theorem holdP_fs {x : Nat} (hx : x < 7) : ∀ i, holdP x (fsP g i) = foldF g i x
  | 0 => rfl
  | i + 1 => by
    obtain ⟨h1, h2⟩ := foldF_in T hx i
    have : holdP x (fsP g i ++ piecesOf g (lvl g i)) = holdP (holdP x (fsP g i)) (piecesOf g (lvl g i)) := by unfold holdP; exact List.foldl_append ..
    show holdP x (fsP g i ++ piecesOf g (lvl g i)) = _
    rw [this, holdP_fs hx i, holdP_pieces T (lvl_lt i) h1 h2]
    rfl
theorem hub_iff {i c : Nat} : c ∈ hubsOf g (lvl g i) ↔ c < 7 ∧ (lvl g i).testBit c = true ∧ ∀ r, r < 7 → (lvl g i).testBit r = true → adj g c r := by
  unfold hubsOf
  rw [List.mem_filter, mem_bits, and_assoc]
  constructor
  · rintro ⟨h1, h2, h3⟩
    refine ⟨h1, h2, fun r hr hb => ?_⟩
    rw [seen_at T h1, beq_iff_eq] at h3
    have := congrArg (fun n => n.testBit r) h3
    simp only [Nat.testBit_and, hb, Bool.true_and] at this
    exact this
  · rintro ⟨h1, h2, h3⟩
    refine ⟨h1, h2, ?_⟩
    rw [seen_at T h1]
    exact sub_iff.mpr fun x hx => h3 x (bit_high (lvl_lt i) hx) hx
theorem no_hub {i : Nat} (h : hubsOf g (lvl g i) = []) : 127 ∉ wT g (i + 1) := by
  intro z
  obtain ⟨c, hc, hw⟩ := full_iff.mp z
  obtain ⟨c1, c2⟩ := foldF_in T hc i
  have : foldF g i c ∈ hubsOf g (lvl g i) := (hub_iff T).mpr ⟨c1, c2, fun r hr hb => win_lower T i hc hr hb (hw r hr)⟩
  rw [h] at this
  cases this
theorem full_up {i : Nat} (h : 127 ∈ wT g i) : ∀ k, 127 ∈ wT g (i + k) := fun k => by
  obtain ⟨c, hc, hw⟩ := full_iff.mp h
  exact full_iff.mpr ⟨c, hc, fun r hr => win_le T hc hr (hw r hr) k⟩
theorem no_hub_le {i j : Nat} (h : hubsOf g (lvl g i) = []) (hj : j ≤ i + 1) : 127 ∉ wT g j := fun z => by
  have := full_up T z (i + 1 - j)
  rw [show j + (i + 1 - j) = i + 1 by omega] at this
  exact no_hub T h this
omit T in
theorem full0 : 127 ∉ wT g 0 := by show 127 ∉ W0; decide
theorem lost_all {t : Nat} (h : hubsOf g (lvl g t) = []) (h2 : goneOf g (lvl g t) = []) (j : Nat) : 127 ∉ wT g j := by
  have e : ∀ k, lvl g (t + k) = lvl g t := by
    intro k
    induction k with
    | zero => rfl
    | succ k ih =>
      show offs (lvl g (t + k)) (goneOf g (lvl g (t + k))) = _
      rw [ih, h2]; rfl
  refine no_hub_le T (i := t + j) (by rw [e]; exact h) (by omega)
theorem fs_ne {i : Nat} (h : ∀ k, k < i → ¬ Ends g (lvl g k)) (hi : 0 < i) : (fsP g (i - 1)).length < (fsP g i).length := by
  obtain ⟨k, rfl⟩ : ∃ k, i = k + 1 := ⟨i - 1, by omega⟩
  show (fsP g k).length < (fsP g k ++ piecesOf g (lvl g k)).length
  rw [List.length_append]
  have h1 : goneOf g (lvl g k) ≠ [] := fun z => h k (by omega) (.inr z)
  have h2 : 0 < (piecesOf g (lvl g k)).length := by
    unfold piecesOf
    rw [List.length_map]
    exact List.length_pos_iff.mpr h1
  omega
structure Turns (j cop room : Nat) : Prop where
  c7 : cop < 7
  near : ∀ r, r < 7 → room.testBit r = true → adj g cop (foldF g (j - 1) r)
  free : ∃ r, r < 7 ∧ room.testBit r = true ∧ ¬ win g (j - 1) cop r
theorem play_ok {t : Nat} (hE : ∀ k, k < t → ¬ Ends g (lvl g k)) (pick : Nat) : ∀ (j cop rob room : Nat), j ≤ t + 1 → (j = 0 → cop = rob) → (0 < j → Turns (g := g) j cop room) → PlayOk g (tabs g (t + 1)) pick j ⟨cop, rob, room, fsP g (j - 1), msP g (j - 1)⟩
  | 0, cop, rob, room, _, h, _ => h rfl
  | j + 1, cop, rob, room, hj, _, hI => by
    have I := hI (by omega)
    have hc := I.c7
    have htab : (tabs g (t + 1)).getD (j + 1 - 1) [] = wT g j := by
      unfold tabs
      rw [List.getD_eq_getElem?_getD, List.getElem?_map, List.getElem?_range (by omega)]
      rfl
    have hw : wAt (tabs g (t + 1)) (j + 1) cop = (wT g j).getD cop 0 := by
      unfold wAt; rw [htab]
    have hw8 : (wT g j).getD cop 0 < 128 := wT_lt g j cop hc
    have hfree : ∀ r, r ∈ freeAt room ((wT g j).getD cop 0) ↔ r < 7 ∧ room.testBit r = true ∧ ¬ win g j cop r := by
      intro r
      unfold freeAt
      rw [mem_bits]
      constructor
      · rintro ⟨h1, h2⟩
        rw [Nat.testBit_and, Bool.and_eq_true] at h2
        rw [bit_not ⟨_, hw8⟩ ⟨r, h1⟩] at h2
        exact ⟨h1, h2.1, fun z => by have := h2.2; unfold win at z; rw [z] at this; cases this⟩
      · rintro ⟨h1, h2, h3⟩
        refine ⟨h1, ?_⟩
        rw [Nat.testBit_and, h2, Bool.true_and, bit_not ⟨_, hw8⟩ ⟨r, h1⟩]
        cases e : ((wT g j).getD cop 0).testBit r with
        | false => rfl
        | true => exact absurd e h3
    have hne : freeAt room ((wT g j).getD cop 0) ≠ [] := by
      obtain ⟨r, h1, h2, h3⟩ := I.free
      exact List.ne_nil_of_mem ((hfree r).mpr ⟨h1, h2, h3⟩)
    have hrb : rbAt (tabs g (t + 1)) pick (j + 1) ⟨cop, rob, room, fsP g j, msP g j⟩ = robAt room ((wT g j).getD cop 0) pick (j + 1) := by
      unfold rbAt; rw [hw]
    have hmem := (hfree _).mp (robAt_mem (pick := pick) (x := j + 1) hne)
    generalize hR : robAt room ((wT g j).getD cop 0) pick (j + 1) = rb at hrb hmem
    obtain ⟨r1, r2, r3⟩ := hmem
    have hhold : holdP rb (fsP g j) = foldF g j rb := holdP_fs T r1 j
    have hadj : adj g cop (foldF g j rb) := I.near rb r1 r2
    have hf7 : foldF g j rb < 7 := (foldF_in T r1 j).1
    refine ⟨⟨?_, ?_, hc, ?_, ?_, ?_, ?_, ?_, ?_⟩, ?_⟩
    · unfold tabs; simp; omega
    · show cop < ((tabs g (t + 1)).getD (j + 1 - 1) []).length
      rw [htab, wT_len]; exact hc
    · show wAt (tabs g (t + 1)) (j + 1) cop ≤ 127
      rw [hw]; omega
    · show freeAt room (wAt (tabs g (t + 1)) (j + 1) cop) ≠ []
      rw [hw]; exact hne
    · show holdP (rbAt _ _ _ _) (fsP g j) < 7
      erw [hrb]; rw [hhold]; exact hf7
    · show (g.getD cop 0).testBit (holdP (rbAt _ _ _ _) (fsP g j)) = true
      erw [hrb]; rw [hhold]; exact hadj
    · show fsP g j = [] ↔ msP g j = []
      cases j with
      | zero => exact ⟨fun _ => rfl, fun _ => rfl⟩
      | succ i =>
        constructor
        · intro z
          have := fs_ne T (i := i + 1) (fun k hk => hE k (by omega)) (by omega)
          rw [z] at this
          exact absurd this (Nat.not_lt_zero _)
        · intro z
          have := congrArg List.length z
          simp [msP] at this
    · show msP g j ≠ [] → (msP g j).getLastD 0 < (fsP g j).length
      intro z
      cases j with
      | zero => exact absurd rfl z
      | succ i =>
        have e : (msP g (i + 1)).getLastD 0 = (fsP g i).length := by
          unfold msP
          rw [List.range_succ, List.map_append, List.map_singleton, List.getLastD_concat]
        rw [e]
        exact fs_ne T (i := i + 1) (fun k hk => hE k (by omega)) (by omega)
    · have hstep : stepP g (tabs g (t + 1)) pick (j + 1) ⟨cop, rob, room, fsP g j, msP g j⟩ = ⟨foldF g j rb, rb, g.getD rb 0, fsP g (j - 1), msP g (j - 1)⟩ := by
        unfold stepP
        rw [hrb]
        show (⟨holdP rb (fsP g j), rb, g.getD rb 0, (fsP g j).take ((msP g j).getLastD 0), (msP g j).dropLast⟩ : PS) = _
        rw [hhold]
        cases j with
        | zero => rfl
        | succ i =>
          have e : (msP g (i + 1)) = msP g i ++ [(fsP g i).length] := by
            unfold msP
            rw [List.range_succ, List.map_append, List.map_singleton]
          rw [e, List.getLastD_concat, List.dropLast_concat]
          show (⟨_, _, _, (fsP g i ++ piecesOf g (lvl g i)).take (fsP g i).length, _⟩ : PS) = _
          rw [List.take_left]
          rfl
      show PlayOk g (tabs g (t + 1)) pick j (stepP g (tabs g (t + 1)) pick (j + 1) ⟨cop, rob, room, fsP g j, msP g j⟩)
      rw [hstep]
      refine play_ok hE pick j _ _ _ (by omega) (fun z => by subst z; rfl) fun hj0 => ?_
      obtain ⟨i, rfl⟩ : ∃ i, j = i + 1 := ⟨j - 1, by omega⟩
      refine ⟨hf7, fun r hr ha => foldF_shift T r1 hr ha i, ?_⟩
      refine Classical.byContradiction fun hn => ?_
      have hall : ∀ x, x < 7 → adj g rb x → win g i (foldF g (i + 1) rb) x := fun x hx ha => Classical.byContradiction fun y => hn ⟨x, hx, ha, y⟩
      cases i with
      | zero =>
        have e1 := (win_0 hf7 r1).mp (hall rb r1 (T.refl _ r1))
        obtain ⟨u, u1, u2, u3⟩ := T.deg rb r1
        have e2 := (win_0 hf7 u1).mp (hall u u1 u3)
        exact u2 (e2.trans e1.symm)
      | succ i => exact r3 ((win_2 T hc r1).mpr ⟨_, hf7, hadj, hall⟩)
theorem town_ok (f : Nat) : LawOk g f := by
  refine ⟨T.len, fun x hx => ?_, 7, 59, by decide, by decide, ?_⟩
  · obtain ⟨v, hv, e⟩ := List.mem_iff_getElem.mp hx
    have hv7 : v < 7 := by rw [T.len] at hv; exact hv
    have := T.refl v hv7
    rw [List.getD_eq_getElem?_getD, List.getElem?_eq_getElem hv, e] at this
    exact List.ne_nil_of_mem (mem_bits.mpr ⟨hv7, this⟩)
  have hp : PeelOk g 8 (lvl g 0) := plOk T 8 0 (Nat.le_trans (List.length_filter_le _ _) (by rw [List.length_range]; decide))
  have hc : ClockOk g (g.map bits) 60 (lsT g 0) (tabs g 0) := by
    obtain ⟨i, h1, h2⟩ := still T
    exact clkOk 60 0 i (by omega) (by omega) h2
  obtain ⟨t, _, t2, t3, t4, t5⟩ := pl 8 0 hp
  have t5' : peelP g (7 + 1) ⟨127, [], []⟩ = ⟨lvl g t, msP g t, fsP g t⟩ := t5
  have hfl : ∀ i, (fsP g i).length ≤ 7 * i := by
    intro i
    induction i with
    | zero => exact Nat.le_refl _
    | succ i ih =>
      show (fsP g i ++ piecesOf g (lvl g i)).length ≤ _
      rw [List.length_append]
      have := pieces_le g (lvl g i)
      omega
  have hfl' := hfl t
  have hml : (msP g t).length = t := by unfold msP; simp
  obtain ⟨u, _, u2, u3, u4, u5⟩ := clk 60 0 hc
  have u3' : clockP g (g.map bits) (59 + 1) W0 [W0] = tabs g u := u3
  have htl : ∀ u, (tabs g u).length = u + 1 := fun u => by unfold tabs; simp
  refine ⟨hp, hc, ?_, ?_, ?_, ?_, ?_⟩
  · rw [t5']; show (fsP g t).length < 900; omega
  · rw [t5']; show (msP g t).length < 700; omega
  · rw [u3', htl]; omega
  · rw [u3', htl]; omega
  · rw [t5', u3']
    constructor
    · intro h
      have hg := t3.resolve_left fun z => z h
      rw [tabs_last]
      exact lost_all T h hg u
    · intro h
      have hh : hubsOf g (lvl g t) ≠ [] := h
      obtain ⟨c, hcm⟩ := List.exists_mem_of_ne_nil _ hh
      have hub_won : ∀ c, c ∈ hubsOf g (lvl g t) → ∀ r, r < 7 → win g (t + 1) c r := fun c hc r hr => by
        obtain ⟨c1, c2, c3⟩ := (hub_iff T).mp hc
        obtain ⟨f1, f2⟩ := foldF_in T hr t
        exact win_upper T t c1 hr (c3 _ f1 f2)
      have hwon : 127 ∈ wT g (t + 1) := full_iff.mpr ⟨c, ((hub_iff T).mp hcm).1, hub_won c hcm⟩
      have hlost : ∀ i, i ≤ t → 127 ∉ wT g i := by
        intro i hi
        cases t with
        | zero =>
          obtain rfl : i = 0 := by omega
          exact full0
        | succ t =>
          have hn : hubsOf g (lvl g t) = [] := Classical.byContradiction fun z => t4 t (by omega) (by omega) (.inl z)
          exact no_hub_le T hn hi
      have hu : tabs g u = tabs g (t + 1) := by rw [← u3']; exact clock_won T hc hwon hlost
      have hu1 : u = t + 1 := by
        have := congrArg List.length hu
        rw [htl, htl] at this
        omega
      subst hu1
      refine ⟨by rw [tabs_last]; exact hwon, by rw [htl]; show t + 1 + 1 = (msP g t).length + 2; omega, ?_⟩
      show PlayOk g (tabs g (t + 1)) f ((msP g t).length + 1) ⟨_, _, 127, fsP g t, msP g t⟩
      rw [hml]
      have hlen : 0 < (hubsOf g (lvl g t)).length := List.length_pos_iff.mpr hh
      have hmod : f % (hubsOf g (lvl g t)).length < (hubsOf g (lvl g t)).length := Nat.mod_lt _ hlen
      have hcop : (hubsOf g (lvl g t)).getD (f % (hubsOf g (lvl g t)).length) 0 ∈ hubsOf g (lvl g t) := by
        rw [List.getD_eq_getElem?_getD, List.getElem?_eq_getElem hmod]
        exact List.getElem_mem hmod
      show PlayOk g (tabs g (t + 1)) f (t + 1) ⟨(hubsOf g (lvl g t)).getD (f % (hubsOf g (lvl g t)).length) 0, (hubsOf g (lvl g t)).getD (f % (hubsOf g (lvl g t)).length) 0, 127, fsP g t, msP g t⟩
      generalize (hubsOf g (lvl g t)).getD (f % (hubsOf g (lvl g t)).length) 0 = c at hcop
      obtain ⟨c1, c2, c3⟩ := (hub_iff T).mp hcop
      refine play_ok T (fun k hk => t4 k (by omega) hk) f (t + 1) c c 127 (Nat.le_refl _) (fun z => by omega) fun _ => ⟨c1, fun r hr _ => ?_, ?_⟩
      · obtain ⟨f1, f2⟩ := foldF_in T hr t
        exact c3 _ f1 f2
      · refine Classical.byContradiction fun hn => hlost t (Nat.le_refl _) (full_iff.mpr ⟨c, c1, fun r hr => Classical.byContradiction fun y => hn ⟨r, hr, ?_, y⟩⟩)
        exact (by decide : ∀ x : Fin 7, (127 : Nat).testBit x.val = true) ⟨r, hr⟩
end
end
structure Tied (xs : List Nat) : Prop where
  len : xs.length = 7
  lt : ∀ v, v < 7 → xs.getD v 0 < 128
  refl : ∀ v, v < 7 → (xs.getD v 0).testBit v = true
  symm : ∀ u v, u < 7 → v < 7 → (xs.getD u 0).testBit v = true → (xs.getD v 0).testBit u = true
theorem getD_set {xs : List Nat} {i u a : Nat} (hi : i < xs.length) : (xs.set i a).getD u 0 = if i = u then a else xs.getD u 0 := by
  rw [List.getD_eq_getElem?_getD, List.getElem?_set]
  by_cases e : i = u
  · rw [if_pos e, if_pos e, if_pos hi]; rfl
  · rw [if_neg e, if_neg e, List.getD_eq_getElem?_getD]
theorem tie_getD {xs : List Nat} {k j u : Nat} (h : xs.length = 7) (hk : k < 7) (hj : j < 7) (hkj : j ≠ k) : (tie xs (k, j)).getD u 0 = if u = k then xs.getD k 0 ||| 1 <<< j else if u = j then xs.getD j 0 ||| 1 <<< k else xs.getD u 0 := by
  unfold tie
  show ((xs.set k (xs.getD k 0 ||| 1 <<< j)).set j ((xs.set k (xs.getD k 0 ||| 1 <<< j)).getD j 0 ||| 1 <<< k)).getD u 0 = _
  rw [getD_set (by rw [List.length_set, h]; exact hj), getD_set (by rw [h]; exact hk), getD_set (by rw [h]; exact hk)]
  by_cases e1 : u = k
  · subst e1
    have n1 : ¬ j = u := hkj
    simp [n1]
  · have n1 : ¬ k = u := fun z => e1 z.symm
    by_cases e2 : u = j
    · subst e2
      simp [n1, e1]
    · have n2 : ¬ j = u := fun z => e2 z.symm
      simp [n1, n2, e1, e2]
theorem tie_bit {xs : List Nat} {k j u x : Nat} (h : xs.length = 7) (hk : k < 7) (hj : j < 7) (hkj : j ≠ k) (hx : x < 7) : ((tie xs (k, j)).getD u 0).testBit x = true ↔ (xs.getD u 0).testBit x = true ∨ (u = k ∧ x = j) ∨ (u = j ∧ x = k) := by
  rw [tie_getD h hk hj hkj]
  have b1 : ∀ v, v < 7 → ((1 <<< v).testBit x = true ↔ x = v) := fun v hv => by rw [bit_one ⟨v, hv⟩ ⟨x, hx⟩, beq_iff_eq]
  by_cases e1 : u = k
  · subst e1
    rw [if_pos rfl, Nat.testBit_or, Bool.or_eq_true, b1 j hj]
    constructor
    · rintro (z | z)
      · exact .inl z
      · exact .inr (.inl ⟨rfl, z⟩)
    · rintro (z | ⟨_, z⟩ | ⟨z, _⟩)
      · exact .inl z
      · exact .inr z
      · exact absurd z.symm hkj
  · rw [if_neg e1]
    by_cases e2 : u = j
    · subst e2
      rw [if_pos rfl, Nat.testBit_or, Bool.or_eq_true, b1 k hk]
      constructor
      · rintro (z | z)
        · exact .inl z
        · exact .inr (.inr ⟨rfl, z⟩)
      · rintro (z | ⟨z, _⟩ | ⟨_, z⟩)
        · exact .inl z
        · exact absurd z hkj
        · exact .inr z
    · rw [if_neg e2]
      constructor
      · exact .inl
      · rintro (z | ⟨z, _⟩ | ⟨z, _⟩)
        · exact z
        · exact absurd z e1
        · exact absurd z e2
theorem Tied.tie {xs : List Nat} {k j : Nat} (T : Tied xs) (hk : k < 7) (hj : j < 7) (hkj : j ≠ k) : Tied (Mine.tie xs (k, j)) := by
  refine ⟨by rw [tie_len]; exact T.len, fun v hv => ?_, fun v hv => ?_, fun u v hu hv h => ?_⟩
  · rw [tie_getD T.len hk hj hkj]
    have b : ∀ w, w < 7 → 1 <<< w < 2 ^ 7 := fun w hw => (by decide : ∀ w : Fin 7, 1 <<< w.val < 2 ^ 7) ⟨w, hw⟩
    split
    · exact Nat.or_lt_two_pow (n := 7) (T.lt _ hk) (b _ hj)
    · split
      · exact Nat.or_lt_two_pow (n := 7) (T.lt _ hj) (b _ hk)
      · exact T.lt v hv
  · exact (tie_bit T.len hk hj hkj hv).mpr (.inl (T.refl v hv))
  · rcases (tie_bit T.len hk hj hkj hv).mp h with z | ⟨z1, z2⟩ | ⟨z1, z2⟩
    · exact (tie_bit T.len hk hj hkj hu).mpr (.inl (T.symm u v hu hv z))
    · exact (tie_bit T.len hk hj hkj hu).mpr (.inr (.inr ⟨z2, z1⟩))
    · exact (tie_bit T.len hk hj hkj hu).mpr (.inr (.inl ⟨z2, z1⟩))
theorem ties : ∀ {l : NN} {xs : List Nat}, Tied xs → (∀ p ∈ l, p.1 < 7 ∧ p.2 < p.1) →
    Tied (l.foldl tie xs) ∧ (∀ u x, x < 7 → (xs.getD u 0).testBit x = true → ((l.foldl tie xs).getD u 0).testBit x = true) ∧ ∀ p ∈ l, ((l.foldl tie xs).getD p.1 0).testBit p.2 = true
  | [], xs, T, _ => ⟨T, fun _ _ _ h => h, fun p hp => nomatch hp⟩
  | p :: r, xs, T, h => by
    obtain ⟨h1, h2⟩ := h p (.head _)
    obtain ⟨i1, i2, i3⟩ := ties (l := r) (T.tie h1 (by omega : p.2 < 7) (by omega)) fun q hq => h q (.tail _ hq)
    refine ⟨i1, fun u x hx hb => i2 u x hx ((tie_bit T.len h1 (by omega) (by omega) hx).mpr (.inl hb)), fun q hq => ?_⟩
    rcases List.mem_cons.mp hq with z | z
    · subst z
      exact i2 _ _ (by omega) ((tie_bit T.len h1 (by omega) (by omega) (by omega)).mpr (.inr (.inl ⟨rfl, rfl⟩)))
    · exact i3 q z
theorem drawFrom_has {cs : List Nat} {v : Nat} : ∀ {m x : Nat}, x ≤ v → v < x + m → ∃ y, (v, y) ∈ drawFrom cs x m
  | 0, x, h1, h2 => by omega
  | m + 1, x, h1, h2 => by
    by_cases e : v = x
    · subst e
      obtain ⟨y, r, e⟩ := drawFrom_hd (cs := cs) (m := m) (x := v)
      exact ⟨y, by rw [e]; exact .head _⟩
    · obtain ⟨y, hy⟩ := drawFrom_has (cs := cs) (v := v) (m := m) (x := x + 1) (by omega) (by omega)
      exact ⟨y, List.mem_append_right (drawOne cs x) hy⟩
theorem tied0 : Tied W0 := by
  refine ⟨rfl, fun v hv => ?_, fun v hv => ?_, fun u v hu hv h => ?_⟩
  · exact (by decide : ∀ v : Fin 7, W0.getD v.val 0 < 128) ⟨v, hv⟩
  · exact (by decide : ∀ v : Fin 7, (W0.getD v.val 0).testBit v.val = true) ⟨v, hv⟩
  · exact (by decide : ∀ u v : Fin 7, (W0.getD u.val 0).testBit v.val = true → (W0.getD v.val 0).testBit u.val = true) ⟨u, hu⟩ ⟨v, hv⟩ h
theorem near_town (zs : List Int) : Town (nearOf zs) := by
  have hm : ∀ p ∈ drawnOf zs, p.1 < 7 ∧ p.2 < p.1 := fun p hp => by
    have := drawFrom_mem (by omega) hp
    omega
  obtain ⟨h1, _, h3⟩ := ties tied0 hm
  refine ⟨h1.len, h1.lt, h1.refl, h1.symm, fun v hv => ?_⟩
  by_cases e : v = 0
  · subst e
    obtain ⟨y, hy⟩ := drawFrom_has (cs := cellsOf zs) (v := 1) (m := 6) (x := 1) (by omega) (by omega)
    have hy' := hm _ hy
    have hb := h3 _ hy
    have : y = 0 := by have := hy'.2; simp at this; exact this
    subst this
    exact ⟨1, by omega, by omega, h1.symm 1 0 (by omega) (by omega) hb⟩
  · obtain ⟨y, hy⟩ := drawFrom_has (cs := cellsOf zs) (v := v) (m := 6) (x := 1) (by omega) (by omega)
    have hy' := (hm _ hy).2
    simp only at hy'
    exact ⟨y, by omega, by omega, h3 _ hy⟩
theorem maths (zs : List Int) : LawOk (nearOf zs) (firstOf zs) := town_ok (near_town zs) _
end Mine
open PySem PySem.W PySem.W.X PySem.W.ZRun PyProof.Rows
set_option maxRecDepth 100000 in
set_option maxHeartbeats 0 in
theorem PySem.Challenge.cw_wk0008_01_holds : PySem.Challenge.rw_wk0008_01.Holds := by
  w_on; o_law
  refine holds_openX (q := Mine.vw) (loose := Mine.looseL) (Xt := fun s => xlAt Mine.vw [] s && recOk (RowW.records PySem.Challenge.rw_wk0008_01.row.toRowW) s) (XP := XL Mine.vw []) (Yf := obsZ Mine.asL) (Ya := valZ Mine.kList 228 468) (N := 2788) Mine.top_left (fun s e => xl_of s (Bool.and_eq_true_iff.mp e).1) XL.keeps (by rfl) (by rfl) (by rfl) (fun s e => recFacts_of (Bool.and_eq_true_iff.mp e).2) (by rfl) (by assumption) (by decide +kernel) ⟨rfl, rfl, rfl, rfl, rfl, by decide +kernel⟩ ?hw ?hc
  (case hw => w_witness2)
  intro w s₀ s₁ mg mb G y fa o pm cd doc dV kV ho hd hcd hD hmg hg args vals as L hpre hlay hrd hwl hlo
  obtain ⟨ZA, ZI, ZN, ZT⟩ := z_facts Mine.as_eq y
  have KX : Frag.In (Mine.kList w.params) s₁.heap := InK.keeps w s₀.heap s₁.heap ZI (Laid.keeps L)
  have hK : KT.Holds s₁.heap 1 0 (Mine.kAll w.params) := Mine.kAll_holds fun p hp => Laid.keeps L _ _ (Mine.allIn_mem ZA p hp)
  refine Ground.open G ?_
  intro T B D TE TW
  wrow_args hpre hlay hrd hwl hlo
  obtain ⟨hat, hsz⟩ := script_at L
  rw [ZN] at hat hsz
  subst hat
  x_fa T KX hmg
  rename_i ns _ _ _ _ _ _ _ vs _ _ hI _ hlen _ hLst _ _
  refine enter_call (codeAny_mono (Mine.law_ends Mine.maths hK hsz (script_obj L hLst) hI (by omega) (Top.nolimit T)) ?_)
  rintro r s' ⟨rfl, e1, e2, e3⟩
  exact ⟨.inl ⟨_, _, [], rfl, fun _ => rfl, ReadsW.bool true, by first | rfl | wrow_post, fun _ => ⟨List.nodup_nil, fun _ hm => (nomatch hm)⟩⟩, .of_keep e1, e3, .of_eq (e2.trans hg)⟩
