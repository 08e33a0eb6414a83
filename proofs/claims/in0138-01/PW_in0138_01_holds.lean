import PyProof.Rows.All
import Wide.All
import OpenK.AllK
import Wide.FinOn
import PySem.Challenge.RW_in0138_01
set_option Elab.async false
/-! part Eng -/
set_option maxRecDepth 100000
set_option linter.unusedVariables false
namespace Mine
open PySem PySem.Spec PySem.Calls PyProof.Rows PySem.W PySem.W.X

/-! the machine's trees, in the library's quick form -/
noncomputable def den : Code → Sem Fin := @PySem.W.Fast.tw11892475500146522536 PySem.W.Fast.tw14364793385576792824
theorem den_eq : denote table = den := by
  rw [table_eq_tree]
  exact congr (PySem.W.Fast.te11892475500146522536) (PySem.W.Fast.te14364793385576792824)
noncomputable def enterF : Sem Unit := PySem.W.Fast.tw15066281185411960212 0
theorem enterF_eq : enterFrame 0 = enterF := congrFun PySem.W.Fast.te15066281185411960212 0
noncomputable def roomF' : Sem Unit := PySem.W.Fast.tw10648789137845014744 "comparison"
theorem roomF'_eq : cRoom "comparison" = roomF' := congrFun PySem.W.Fast.te10648789137845014744 "comparison"
noncomputable def leavF (env : Env) (e : Value) : Sem Unit := PySem.W.Fast.tw9442747609961115081 env e
/-- what a def's body hands on -/
noncomputable def funK : Flow → Sem Fin := fun fl => match fl with
  | .ret v => PySem.W.Fast.tw6905046200447255374 v
  | _ => PySem.W.Fast.tw6905046200447255374 .none
theorem leavF_eq (env : Env) (e : Value) : leaving env e = leavF env e := congrFun (congrFun PySem.W.Fast.te9442747609961115081 env) e

/-- a comparison, and the same behind its look at the room -/
noncomputable def richT : CmpOp → Value → Value → Sem Value := PySem.W.Fast.tw9423741818375054981
noncomputable def richN (op : CmpOp) (a b : Value) : Sem Value := match richT op a b with
  | .stack k => k []
  | t => t
noncomputable def evT : Expr → Env → Sem Value := PySem.W.Fast.tw14044960220447912780
noncomputable def exT : List Stmt → Env → Sem Flow := PySem.W.Fast.tw12563942051412417395

abbrev St := List (Addr × Obj)

/-- what a call does: its code, the objects that it is shown, its answer, those objects behind it, what it hands on -/
structure Ct where
  code : Code
  need : St
  k : Nat
  res : (Nat → Addr) → (Nat → Tok) → (Nat → Value) → Result
  post : (Nat → Addr) → (Nat → Tok) → (Nat → Value) → List Obj
  new : (Nat → Addr) → (Nat → Tok) → (Nat → Value) → List Obj
  D : Nat
  U : Nat
  fr : Option (List Env) := none
  raw : List Bool := []

inductive KK where
  | base
  | ret (c : Code) (hd : Option Value) (k : Result → Sem Fin) (d u : Nat) (κ : KK)

inductive HL where
  | nil
  | n (x : Nat) (r : HL)
  | sp (r1 r2 : HL)
  | j (C : Ct) (ps : List Nat) (r : (Nat → Addr) → (Nat → Tok) → (Nat → Value) → Nat → Nat → HL)
  | fin (α : Nat → Addr) (τ : Nat → Tok) (ν : Nat → Value) (ps : List Nat)
  | lv (pe : Nat) (fs : List Nat) (r : Value → Array Value → HL)
  | sg (r1 r2 : HL)
  | eq (i j : Nat) (t₀ t₁ : Addr → Addr → Sem Fin) (r : HL)
  | rm (W : List Stmt → Env → Sem Value → Sem Fin) (op : CmpOp) (x y : Addr) (r : HL)
def hl : List Nat → HL → HL
  | [], e => e
  | x :: r, e => .n x (hl r e)
def ofV (l : List Value) : Nat → Value := fun i => l.getD i .none
def ofL (l : List Nat) : Nat → Nat := fun i => l.getD i 0

def bad (b : Bool) : Prop := match b with | true => False | false => True
def same (b : Bool) {α : Type} (x y : α) : Prop := match b with | true => x = y | false => y = y

def getS : St → Nat → Option (Addr × Obj)
  | [], _ => none
  | x :: r, n => match n with | 0 => some x | n + 1 => getS r n
def updS : St → Nat → (Obj → Obj) → St
  | [], _, _ => []
  | x :: r, n, f => match n with | 0 => (x.1, f x.2) :: r | n + 1 => x :: updS r n f
def len : St → Nat
  | [] => 0
  | _ :: r => len r + 1
def lenO : List Obj → Nat
  | [] => 0
  | _ :: r => lenO r + 1
def dropS : St → Nat → St
  | l, 0 => l
  | [], _ + 1 => []
  | _ :: r, n + 1 => dropS r n
def objs : St → List Obj
  | [] => []
  | x :: r => x.2 :: objs r
def zipO : List Addr → List Obj → St
  | [], _ => []
  | a :: as, l => match l with | [] => [] | o :: os => (a, o) :: zipO as os
def adrs (α : Nat → Addr) : Nat → Nat → List Addr
  | _, 0 => []
  | i, k + 1 => α i :: adrs α (i + 1) k
def putAll : List Nat → List Obj → St → St
  | [], _, L => L
  | x :: xs, os, L => match os with | [] => L | o :: os => putAll xs os (updS L x fun _ => o)
def picks : List Nat → St → List (Option (Addr × Obj))
  | [], _ => []
  | x :: xs, L => getS L x :: picks xs L
def somes : St → List (Option (Addr × Obj))
  | [] => []
  | x :: r => some x :: somes r
def memN : Nat → List Nat → Bool
  | _, [] => false
  | x, y :: r => match Nat.beq x y with | true => true | false => memN x r
def nodupN : List Nat → Bool
  | [] => true
  | x :: r => match memN x r with | true => false | false => nodupN r
def allLt : List Nat → Nat → Bool
  | [], _ => true
  | x :: r, n => match Nat.blt x n with | true => allLt r n | false => false

/-! the same, worked out at once (for the kernel: no chains of things put off; by bare recursors).
b stands LAST everywhere: the kernel compares arguments from the last one on, so the two runs part there at once -/
noncomputable def normE (l : List DictEntry) : (List DictEntry → Prop) → Bool → Prop :=
  List.rec (motive := fun _ => (List DictEntry → Prop) → Bool → Prop) (fun k _ => k [])
    (fun e _ ih k b => DictEntry.rec (motive := fun _ => Prop) (fun h key v => ih (fun r' => k (⟨h, key, v⟩ :: r')) b) e) l
noncomputable def normO (o : Obj) (k : Obj → Prop) (b : Bool) : Prop :=
  Obj.rec (motive := fun _ => Prop) (fun cls dict data slots => match data with
    | .dict es n => Array.rec (motive := fun _ => Prop) (fun l => normE l (fun l' => k ⟨cls, dict, .dict ⟨l'⟩ n, slots⟩) b) es
    | d => k ⟨cls, dict, d, slots⟩) o
noncomputable def updN (L : St) (n : Nat) (f : Obj → Obj) (k : St → Prop) (b : Bool) : Prop :=
  List.rec (motive := fun _ => Nat → (St → Prop) → Bool → Prop) (fun _ k _ => k [])
    (fun x r ih n k b => match n with
      | 0 => Prod.rec (motive := fun _ => Prop) (fun a o => normO (f o) (fun o' => k ((a, o') :: r)) b) x
      | n + 1 => ih n (fun r' => k (x :: r')) b) L n k b
/-- put as it stands -/
noncomputable def updR (L : St) (n : Nat) (f : Obj → Obj) (k : St → Prop) (b : Bool) : Prop :=
  List.rec (motive := fun _ => Nat → (St → Prop) → Bool → Prop) (fun _ k _ => k [])
    (fun x r ih n k b => match n with
      | 0 => Prod.rec (motive := fun _ => Prop) (fun a o => k ((a, f o) :: r)) x
      | n + 1 => ih n (fun r' => k (x :: r')) b) L n k b
noncomputable def putN (ps : List Nat) (ws : List Bool) (os : List Obj) (L : St) (k : St → Prop) (b : Bool) : Prop :=
  List.rec (motive := fun _ => List Bool → List Obj → St → (St → Prop) → Bool → Prop) (fun _ _ L k _ => k L)
    (fun x _ ih ws os L k b => List.rec (motive := fun _ => Prop) (k L) (fun o os _ => match ws with
      | [] => updN L x (fun _ => o) (fun L' => ih [] os L' k b) b
      | w :: ws => match w with
        | true => updR L x (fun _ => o) (fun L' => ih ws os L' k b) b
        | false => updN L x (fun _ => o) (fun L' => ih ws os L' k b) b) os) ps ws os L k b
noncomputable def consN (N L : St) (k : St → Prop) (b : Bool) : Prop :=
  List.rec (motive := fun _ => (St → Prop) → Bool → Prop) (fun k _ => k L) (fun x _ ih k b => ih (fun L' => k (x :: L')) b) N k b
theorem normE_eq (b : Bool) : ∀ (l : List DictEntry) (k : List DictEntry → Prop), normE l k b = k l
  | [], _ => rfl
  | ⟨h, key, v⟩ :: r, k => normE_eq b r fun r' => k (⟨h, key, v⟩ :: r')
theorem normO_eq (b : Bool) (o : Obj) (k : Obj → Prop) : normO o k b = k o := by
  obtain ⟨cls, dict, data, slots⟩ := o
  cases data with
  | dict es n =>
    obtain ⟨l⟩ := es
    exact normE_eq b l fun l' => k ⟨cls, dict, .dict ⟨l'⟩ n, slots⟩
  | _ => rfl
theorem updN_eq (b : Bool) : ∀ (L : St) (n : Nat) (f : Obj → Obj) (k : St → Prop), updN L n f k b = k (updS L n f)
  | [], _, _, _ => rfl
  | (a, o) :: r, 0, f, k => normO_eq b (f o) fun o' => k ((a, o') :: r)
  | x :: r, n + 1, f, k => updN_eq b r n f fun r' => k (x :: r')
theorem updR_eq (b : Bool) : ∀ (L : St) (n : Nat) (f : Obj → Obj) (k : St → Prop), updR L n f k b = k (updS L n f)
  | [], _, _, _ => rfl
  | (a, o) :: r, 0, f, k => rfl
  | x :: r, n + 1, f, k => updR_eq b r n f fun r' => k (x :: r')
theorem putN_eq (b : Bool) : ∀ (ps : List Nat) (ws : List Bool) (os : List Obj) (L : St) (k : St → Prop), putN ps ws os L k b = k (putAll ps os L)
  | [], _, _, _, _ => rfl
  | _ :: _, _, [], _, _ => rfl
  | x :: xs, [], o :: os, L, k => (updN_eq b L x (fun _ => o) fun L' => putN xs [] os L' k b).trans (putN_eq b xs [] os _ k)
  | x :: xs, true :: ws, o :: os, L, k => (updR_eq b L x (fun _ => o) fun L' => putN xs ws os L' k b).trans (putN_eq b xs ws os _ k)
  | x :: xs, false :: ws, o :: os, L, k => (updN_eq b L x (fun _ => o) fun L' => putN xs ws os L' k b).trans (putN_eq b xs ws os _ k)
theorem consN_eq (b : Bool) : ∀ (N L : St) (k : St → Prop), consN N L k b = k (N ++ L)
  | [], _, _ => rfl
  | x :: r, L, k => consN_eq b r L fun L' => k (x :: L')
def hdK : KK → Option Value
  | .base => none
  | .ret _ hd _ _ _ κ => match hd with | none => hdK κ | some v => some v

def callerN : Nat := PySem.code "claim.caller"
def wtD (c : Code) : Nat := match c with
  | .builtin id _ => match Nat.beq (PySem.code id) callerN with | true => 305 | false => 5
  | .call .. => 0
  | _ => 1
def wtU (c : Code) : Nat := match c with
  | .builtin id _ => 10
  | .call .. => 1
  | _ => 9
theorem code_app (s t : String) : ∃ r, PySem.code (s ++ t) = s.toByteArray.data.toList.foldr (fun b h => h * 256 + b.toNat + 1) r := by
  refine ⟨t.toByteArray.data.toList.foldr (fun b h => h * 256 + b.toNat + 1) 0, ?_⟩
  unfold PySem.code
  rw [String.toByteArray_append]
  simp
theorem life_code {id : String} (h : id.startsWith "lifetime." = true) : PySem.code id % 16777216 = 6777453 := by
  rw [String.startsWith_string_iff] at h
  obtain ⟨t, ht⟩ := h
  have e : id = "lifetime." ++ String.ofList t := by
    rw [← String.ofList_toList (s := id), ← ht, String.ofList_append, String.ofList_toList]
  obtain ⟨r, hr⟩ := code_app "lifetime." (String.ofList t)
  rw [e, hr]
  have hb : "lifetime.".toByteArray.data.toList = [108, 105, 102, 101, 116, 105, 109, 101, 46] := by decide +kernel
  rw [hb]
  simp only [List.foldr_cons, List.foldr_nil]
  have h1 : (108 : UInt8).toNat = 108 := rfl
  have h2 : (105 : UInt8).toNat = 105 := rfl
  have h3 : (102 : UInt8).toNat = 102 := rfl
  rw [h1, h2, h3]
  omega
def qk (c : Code) : Bool := match c with
  | .builtin id _ => match Nat.beq (PySem.code id % 16777216) 6777453 with | true => false | false => true
  | _ => true
theorem qk_quiet {c : Code} (h : qk c = true) : c.quiet = true := by
  cases c with
  | builtin id args =>
    refine Code.quiet_builtin args ?_
    cases q : id.startsWith "lifetime." with
    | false => rfl
    | true =>
      have := life_code q
      simp [qk, this] at h
  | _ => rfl
def onP (P : Params) (b : Bool) : Params := { P with followText := fun _ => b }

/-! the frames around, and what becomes of them when a raise leaves one -/
def frK (F : Option (List Env)) : KK → Option (List Env)
  | .base => F
  | .ret c _ _ _ _ κ => pushEnvs c.envs (frK F κ)
def okFr (b : Bool) (x : Option (List Env)) (F : Option (List Env)) : Prop := match x with | none => True | some l => same b F (some l)
def rdO (e : Env) (back : Value) (o : Obj) : Obj := { o with slots := #[some e.code, some (.ref e.globals), o.slots.getD 2 none, some back, o.slots.getD 4 none, e.func.map Value.ref, some (.ref e.builtins)] ++ (e.cells.map fun c => some (.ref c.2)).toArray }
def backV (bk : Value) : List Env → Value
  | [] => bk
  | e :: _ => e.frame.elim .notImplemented .ref
def okEnv (e : Env) : Bool := !(e.scope.kind == .module) && !(e.scope.isGenerator || e.scope.isCoroutine)
noncomputable def readyN (bk : Value) : List Env → List Nat → St → (St → Prop) → Bool → Prop
  | [], _, L, k, _ => k L
  | e :: es, fs, L, k, b => match fs with
    | [] => bad b
    | f :: fs => match getS L f with
      | none => bad b
      | some p => same b e.frame (some p.1) ∧ same b (okEnv e) true ∧ match p.2.slots.getD 3 none with
        | some _ => k L
        | none => updR L f (rdO e (backV bk es)) (fun L' => readyN bk es fs L' k b) b
def nthV : List Value → Nat → Option Value
  | [], _ => none
  | x :: r, n => match n with | 0 => some x | n + 1 => nthV r n
def tbO (vs : Array Value) : Obj := { cls := .type "traceback", data := .fields vs }
/-- an exception that hasn't been in flight -/
def newX (b : Bool) (o : Obj) : Prop := match o.data with
  | .fields vs => same b (nthV vs.toList 1) (some .none)
  | _ => bad b

abbrev Ty := HL → Code → KK → Sem Fin → St → Nat → Nat → Nat → Nat → Nat → Nat → Bool → Prop

structure Vw where
  prog : Program
  P : Params
  kt : KT
  C : Ct

def retM (v : Vw) (ih : Ty) (tr : HL) (r : Result) (κ : KK) (L : St) (B m T i : Nat) (b : Bool) : Prop := match κ with
  | .base => match tr with
    | .fin α τ ν ps => same b r (v.C.res α τ ν) ∧ same b (objs (dropS L (len L - len v.C.need))) (v.C.post α τ ν) ∧ same b (picks ps L) (somes (zipO (adrs α 0 v.C.k) (v.C.new α τ ν))) ∧ same b (allLt ps (len L - len v.C.need) && nodupN ps) true
    | _ => bad b
  | .ret c _ k d u κ => ih tr c κ (k r) L B m T i d u b

def jumpM (v : Vw) (c' : Code) (hk : Option Value) (F : Option (List Env)) (C : Ct) (ps : List Nat) (L : St) (d u : Nat) (X : (Nat → Addr) → (Nat → Tok) → (Nat → Value) → Nat → Nat → Prop) (b : Bool) : Prop :=
  same b c' C.code ∧ same b hk none ∧ same b (picks ps L) (somes C.need) ∧ same b (nodupN ps && (Nat.ble d C.D && Nat.ble u C.U)) true ∧ okFr b C.fr F ∧
    ∀ α τ ν B' T', same b (Nat.ble (len C.need) (lenO (C.post α τ ν))) true ∧ X α τ ν B' T'

noncomputable def stepT (v : Vw) (ih : Ty) (tr : HL) (c : Code) (κ : KK) (t : Sem Fin) (L : St) (B m T i d u : Nat) (b : Bool) : Prop := match t with
  | .pure fin => match fin with
    | .done f => retM v ih tr (.ok f) κ L B m T i b
    | .again c' => match tr with
      | .n _ tr => same b (qk c') true ∧ ih tr c' κ (den c') L B m T i d u b
      | .j C ps r => same b (qk c') true ∧ jumpM v c' (hdK κ) (frK v.C.fr κ) C ps L d u (fun α τ ν B' T' => putN ps C.raw (C.post α τ ν) L (fun L' => consN (zipO (adrs α 0 C.k) (C.new α τ ν)) L' (fun L' => retM v ih (r α τ ν B' T') (C.res α τ ν) κ L' B' 0 T' 0 b) b) b) b
      | _ => bad b
  | .raise e => retM v ih tr (.error e) κ L B m T i b
  | .rule _ k => ih tr c κ (k ()) L B m T i d u b
  | .at _ k => ih tr c κ (k ()) L B m T i d u b
  | .point _ k => ih tr c κ (k ()) L B m T i d u b
  | .ask k => match tr with
    | .n x tr => match x with
      | 0 => ih tr c κ (k ⟨v.prog, v.P⟩) L B m T i d u b
      | _ + 1 => same b (k ⟨v.prog, v.P⟩) (k ⟨v.prog, onP v.P (v.P.followText "special-get-raises")⟩) ∧ same b (k ⟨v.prog, onP v.P true⟩) (k ⟨v.prog, onP v.P false⟩) ∧ ih tr c κ (k ⟨v.prog, onP v.P true⟩) L B m T i d u b
    | .sp r1 r2 => same b (k ⟨v.prog, v.P⟩) (k ⟨v.prog, onP v.P (v.P.followText "comprehension-iter-twice")⟩) ∧ ih r1 c κ (k ⟨v.prog, onP v.P true⟩) L B m T i d u b ∧ ih r2 c κ (k ⟨v.prog, onP v.P false⟩) L B m T i d u b
    | .sg r1 r2 => same b (k ⟨v.prog, v.P⟩) (k ⟨v.prog, onP v.P (v.P.followText "special-get-raises")⟩) ∧ ih r1 c κ (k ⟨v.prog, onP v.P true⟩) L B m T i d u b ∧ ih r2 c κ (k ⟨v.prog, onP v.P false⟩) L B m T i d u b
    | _ => bad b
  | .fresh k => ih tr c κ (k (T + i)) L B m T (i + 1) d u b
  | .load a _ k => match tr with
    | .n x tr => match Nat.beq (x % 2) 0 with
      | true => match getS L (x / 2) with
        | some p => same b a p.1 ∧ ih tr c κ (k p.2) L B m T i d u b
        | none => bad b
      | false => match v.kt.get (x / 2) with
        | some o => same b a (x / 2) ∧ ih tr c κ (k o) L B m T i d u b
        | none => bad b
    | _ => bad b
  | .update a _ f k => match tr with
    | .n x tr => match getS L (x / 2) with
      | some p => same b a p.1 ∧ same b (f p.2).isFreed false ∧ updN L (x / 2) f (fun L' => ih tr c κ (k ()) L' B m T i d u b) b
      | none => bad b
    | _ => bad b
  | .alloc o k => same b o.isFreed false ∧ normO o (fun o' => ih tr c κ (k (B + m)) ((B + m, o') :: L) B (m + 1) T i d u b) b
  | .call c' hd _ _ k => match tr with
    | .n _ tr => same b (okMark hd) true ∧ ih tr c' (.ret c hd k d u κ) (den c') L B m T i (d + wtD c) (u + wtU c) b
    | .j C ps r => same b hd none ∧ jumpM v c' (hdK κ) (pushEnvs c.envs (frK v.C.fr κ)) C ps L (d + wtD c) (u + wtU c) (fun α τ ν B' T' => putN ps C.raw (C.post α τ ν) L (fun L' => consN (zipO (adrs α 0 C.k) (C.new α τ ν)) L' (fun L' => ih (r α τ ν B' T') c κ (k (C.res α τ ν)) L' B' 0 T' 0 d u b) b) b) b
    | _ => bad b
  | .handled own k => same b own false ∧ ih tr c κ (k (hdK κ)) L B m T i d u b
  | .stack k => match tr with
    | .n x tr => match x with
      | 0 => match tr with
        | .n _ tr => match k [] with
          | .load _ _ k' => match v.kt.get 2 with
            | some o => same b t (PySem.W.R.bindR enterF fun _ => k' o) ∧ same b (Nat.blt (d + wtD c) 1000) true ∧ ih tr c κ (k' o) L B m T i d u b
            | none => bad b
          | _ => bad b
        | _ => bad b
      | x + 1 => match x with
        | 0 => same b t (PySem.W.R.bindR roomF' fun _ => k []) ∧ same b (Nat.blt (u + wtU c) 9900) true ∧ ih tr c κ (k []) L B m T i d u b
        | _ + 1 => ∀ (p : Pos) (below : List (Code × Pos)), ih tr c κ (k ((c, p) :: below)) L B m T i d u b
    | _ => bad b
  | _ => bad b

/-- a raise leaves a frame -/
noncomputable def leaveM (v : Vw) (ih : Ty) (pe : Nat) (fs : List Nat) (r : Value → Array Value → HL) (c : Code) (κ : KK) (t : Sem Fin) (L : St) (B m T i : Nat) (b : Bool) : Prop :=
  match c.env? with
  | none => bad b
  | some env => match getS L pe with
    | none => bad b
    | some p => match frK v.C.fr κ with
      | none => bad b
      | some es => same b c.isFrame true ∧ same b t (PySem.W.R.bindR (PySem.W.R.bindR (leavF env (.ref p.1)) fun _ => (.raise (.ref p.1) : Sem Flow)) funK) ∧ newX b p.2 ∧
        ∀ bk tb, readyN bk (env :: es) fs L (fun L' => match getS L' pe with
          | none => bad b
          | some p' => same b p'.1 p.1 ∧ newX b p'.2 ∧
            updN L' pe (Obj.mapFields (·.setIfInBounds 1 (.ref (B + m)))) (fun L'' => retM v ih (r bk tb) (.error (.ref p.1)) κ ((B + m, tbO tb) :: L'') B (m + 1) T i b) b) b
/-- two objects are not one: a tree that asks it is put by one that doesn't -/
noncomputable def eqM (v : Vw) (ih : Ty) (x y : Nat) (t₀ t₁ : Addr → Addr → Sem Fin) (r : HL) (c : Code) (κ : KK) (t : Sem Fin) (L : St) (B m T i d u : Nat) (b : Bool) : Prop :=
  match getS L x with
  | none => bad b
  | some p => match getS L y with
    | none => bad b
    | some q => same b (Nat.beq x y) false ∧ same b t (t₀ p.1 q.1) ∧ ih r c κ (t₁ p.1 q.1) L B m T i d u b
/-- a look at the room within a comparison, deep in a def's statements -/
noncomputable def rmM (v : Vw) (ih : Ty) (W : List Stmt → Env → Sem Value → Sem Fin) (op : CmpOp) (x y : Addr) (r : HL) (c : Code) (κ : KK) (t : Sem Fin) (L : St) (B m T i d u : Nat) (b : Bool) : Prop := match c with
  | .func body env => same b t (W body env (richT op (.ref x) (.ref y))) ∧ same b (Nat.blt (u + wtU c) 9900) true ∧ ih r c κ (W body env (richN op (.ref x) (.ref y))) L B m T i d u b
  | _ => bad b
noncomputable def stepM (v : Vw) (ih : Ty) (tr : HL) (c : Code) (κ : KK) (t : Sem Fin) (L : St) (B m T i d u : Nat) (b : Bool) : Prop := match tr with
  | .lv pe fs r => match t with
    | .load .. => leaveM v ih pe fs r c κ t L B m T i b
    | _ => stepT v ih tr c κ t L B m T i d u b
  | .eq x y t₀ t₁ r => match t with
    | .load .. => eqM v ih x y t₀ t₁ r c κ t L B m T i d u b
    | _ => stepT v ih tr c κ t L B m T i d u b
  | .rm W op x y r => match t with
    | .stack .. => rmM v ih W op x y r c κ t L B m T i d u b
    | _ => stepT v ih tr c κ t L B m T i d u b
  | tr => stepT v ih tr c κ t L B m T i d u b

noncomputable def M (v : Vw) (n : Nat) : Ty :=
  Nat.rec (motive := fun _ => Ty) (fun _ _ _ _ _ _ _ _ _ _ _ b => bad b) (fun _ ih => stepM v ih) n

end Mine
/-! part Snd -/
set_option maxRecDepth 100000
set_option linter.unusedVariables false
namespace Mine
open PySem PySem.Spec PySem.Calls PyProof.Rows PySem.W PySem.W.X

theorem frames_le (c : Code) : c.frames ≤ 3 := by
  unfold Code.frames
  split <;> first | decide | (split <;> decide)
theorem caller_code {id : String} {args : Args} (h : (Code.builtin id args).isCaller = true) : id = "claim.caller" := by
  unfold Code.isCaller at h
  split at h
  · rename_i e; cases e; rfl
  · cases h
theorem weight_le (c : Code) : c.weight ≤ wtD c := by
  cases c with
  | builtin id args =>
    have h3 := frames_le (.builtin id args)
    unfold Code.weight
    by_cases hk : (Code.builtin id args).isCaller = true
    · have e := caller_code hk
      subst e
      have : wtD (.builtin "claim.caller" args) = 305 := by
        unfold wtD callerN
        simp
      rw [this]
      have hm : claimMargin = 300 := rfl
      repeat' split
      all_goals omega
    · have : 5 ≤ wtD (.builtin id args) := by
        cases q : Nat.beq (PySem.code id) callerN <;> simp [wtD, q]
      simp only [hk]
      repeat' split
      all_goals first | omega | contradiction
  | call f args => simp [Code.weight, wtD, Code.frames, Code.isFrame, Code.isCreation, Code.isGuard, Code.isCaller]
  | _ => simp only [Code.weight, wtD, Code.frames, Code.isCreation, Code.isGuard, Code.isCaller]; (repeat' split) <;> simp_all
theorem cunits_le (c : Code) : c.cUnits ≤ wtU c := by
  have h3 := frames_le c
  cases c with
  | builtin id args => simp only [Code.cUnits, wtU]; omega
  | call f args => simp [Code.cUnits, wtU]
  | _ => simp only [Code.cUnits, wtU]; omega

section
variable (prog : Program) (w : World) (A₀ : Around) (R₀ : Result → Shared → Prop)
def arK : KK → Around
  | .base => A₀
  | .ret c hd _ _ _ κ => ((arK κ).under c).mark hd
def enK : KK → Result → Shared → Prop
  | .base => R₀
  | .ret c _ k _ _ κ => postR prog w (arK A₀ κ) c (postC prog w (arK A₀ κ) (enK κ)) (postE (enK κ)) k
def Means (c : Code) (κ : KK) (t : Sem Fin) (s : Shared) : Prop :=
  wpOwn (model prog w) (arK A₀ κ) c t (postC prog w (arK A₀ κ) (enK prog w A₀ R₀ κ)) (postE (enK prog w A₀ R₀ κ)) s
inductive KOk : KK → Nat → Nat → Prop
  | base {d u : Nat} (h : A₀.depth ≤ d) (g : A₀.units ≤ u) : KOk .base d u
  | ret {c : Code} {hd : Option Value} {k : Result → Sem Fin} {d u : Nat} {κ : KK} (h : KOk κ d u) : KOk (.ret c hd k d u κ) (d + wtD c) (u + wtU c)
end
section
variable {prog : Program} {w : World} {A₀ : Around} {R₀ : Result → Shared → Prop}
theorem KOk.depth {κ : KK} {d u : Nat} (h : KOk A₀ κ d u) : (arK A₀ κ).depth ≤ d ∧ (arK A₀ κ).units ≤ u := by
  induction h with
  | base h g => exact ⟨h, g⟩
  | ret h ih =>
    refine ⟨Nat.add_le_add ih.1 (weight_le _), Nat.add_le_add ih.2 (cunits_le _)⟩
theorem handled_arK (h : A₀.handled = none) : ∀ κ, (arK A₀ κ).handled = hdK κ
  | .base => h
  | .ret c hd k d u κ => by
    show (hd.or (arK A₀ κ).handled) = _
    rw [handled_arK h κ]
    cases hd <;> rfl

theorem frames_arK (v : Option (List Env)) (h : ∀ l, v = some l → A₀.frames = some l) : ∀ κ l, frK v κ = some l → (arK A₀ κ).frames = some l
  | .base, l, e => h l e
  | .ret c hd k d u κ, l, e => by
    obtain ⟨l₀, e1, e2⟩ := pushEnvs_some (show pushEnvs c.envs (frK v κ) = some l from e)
    show pushEnvs c.envs (arK A₀ κ).frames = some l
    rw [frames_arK v h κ l₀ e1, pushEnvs_eq, e2]; rfl
end

theorem same_eq {α : Type} {x y : α} (h : same true x y) : x = y := h

/-! the list of what is known -/
theorem updS_fst : ∀ (L : St) (j : Nat) (f : Obj → Obj), (updS L j f).map (·.1) = L.map (·.1)
  | [], _, _ => rfl
  | _ :: _, 0, _ => rfl
  | x :: r, j + 1, f => by
    show x.1 :: (updS r j f).map (·.1) = _
    rw [updS_fst r j f]; rfl
theorem getS_mem : ∀ {L : St} {j : Nat} {p : Addr × Obj}, getS L j = some p → p ∈ L
  | [], _, _, h => by cases h
  | x :: r, 0, p, h => by cases h; exact .head _
  | x :: r, j + 1, p, h => .tail _ (getS_mem (L := r) (j := j) h)
theorem updS_mem : ∀ {L : St} {j : Nat} {f : Obj → Obj} {p q : Addr × Obj}, getS L j = some p → (L.map (·.1)).Nodup → q ∈ updS L j f → q = (p.1, f p.2) ∨ (q ∈ L ∧ q.1 ≠ p.1)
  | [], _, _, _, _, h, _, _ => by cases h
  | x :: r, 0, f, p, q, h, nd, hq => by
    cases h
    rcases List.mem_cons.mp hq with e | e
    · exact .inl e
    · refine .inr ⟨.tail _ e, fun z => ?_⟩
      have := (List.nodup_cons.mp nd).1
      exact this (List.mem_map.mpr ⟨q, e, z⟩)
  | x :: r, j + 1, f, p, q, h, nd, hq => by
    have nd' := List.nodup_cons.mp nd
    rcases List.mem_cons.mp hq with e | e
    · subst e
      refine .inr ⟨.head _, fun z => ?_⟩
      exact nd'.1 (List.mem_map.mpr ⟨p, getS_mem (L := r) (j := j) h, z.symm⟩)
    · rcases updS_mem (L := r) (j := j) h nd'.2 e with e | ⟨e, z⟩
      · exact .inl e
      · exact .inr ⟨.tail _ e, z⟩

def Base (kt : KT) (h : Heap) : Prop := (∀ a o, kt.get a = some o → h.get? a = some o) ∧ h.NoLimit ∧ (kt.get 2).isSome = true
def Keeps (as : List Addr) (h h' : Heap) : Prop := ∀ b o, h.get? b = some o → b ∉ as → h'.get? b = some o
theorem Base.keeps {kt : KT} {h h' : Heap} {as : List Addr} (B : Base kt h) (K : Keeps as h h') (off : ∀ a ∈ as, kt.get a = none) : Base kt h' := by
  have key : ∀ a o, kt.get a = some o → h'.get? a = some o := fun a o e => K a o (B.1 a o e) fun m => by
    rw [off a m] at e; cases e
  refine ⟨key, B.2.1.at fun o e => ?_, B.2.2⟩
  obtain ⟨o', e'⟩ := Option.isSome_iff_exists.mp B.2.2
  have h1 : h.get? cStatics = some o' := B.1 _ _ e'
  have h2 : h'.get? cStatics = some o' := key _ _ e'
  rw [h1] at e; rw [h2]; exact e

structure Rep (kt : KT) (h₀ : Heap) (as : List Addr) (h : Heap) (L : St) (B m : Nat) : Prop where
  size : h.objs.size = B + m
  grow : h₀.objs.size ≤ h.objs.size
  own : ∀ p ∈ L, h.get? p.1 = some p.2
  nd : (L.map (·.1)).Nodup
  off : ∀ p ∈ L, kt.get p.1 = none
  low : ∀ p ∈ L, p.1 ∈ as ∨ h₀.objs.size ≤ p.1
  tail : ∃ pre : St, ∃ I : St, L = pre ++ I ∧ I.map (·.1) = as
  base : Base kt h
  keep : Keeps as h₀ h

theorem memN_iff : ∀ {x : Nat} {l : List Nat}, memN x l = true ↔ x ∈ l
  | x, [] => by simp [memN]
  | x, y :: r => by
    unfold memN
    cases h : Nat.beq x y with
    | true =>
      have := Nat.eq_of_beq_eq_true h
      simp [this]
    | false =>
      have : x ≠ y := Nat.ne_of_beq_eq_false h
      simp [this, memN_iff]
theorem nodupN_iff : ∀ {l : List Nat}, nodupN l = true → l.Nodup
  | [], _ => List.nodup_nil
  | x :: r, h => by
    unfold nodupN at h
    cases q : memN x r with
    | true => rw [q] at h; cases h
    | false =>
      rw [q] at h
      refine List.nodup_cons.mpr ⟨fun m => ?_, nodupN_iff h⟩
      rw [memN_iff.mpr m] at q; cases q
theorem getS_inj : ∀ {L : St} {i j : Nat} {p q : Addr × Obj}, (L.map (·.1)).Nodup → getS L i = some p → getS L j = some q → p.1 = q.1 → i = j
  | [], _, _, _, _, _, h, _, _ => by cases h
  | x :: r, 0, 0, _, _, _, _, _, _ => rfl
  | x :: r, 0, j + 1, p, q, nd, h, g, e => by
    cases h
    exact absurd (List.mem_map.mpr ⟨q, getS_mem (L := r) (j := j) g, e.symm⟩) (List.nodup_cons.mp nd).1
  | x :: r, i + 1, 0, p, q, nd, h, g, e => by
    cases g
    exact absurd (List.mem_map.mpr ⟨p, getS_mem (L := r) (j := i) h, e⟩) (List.nodup_cons.mp nd).1
  | x :: r, i + 1, j + 1, p, q, nd, h, g, e => by
    rw [getS_inj (L := r) (List.nodup_cons.mp nd).2 h g e]

/-- what is picked at different places lies at different addresses -/
theorem picks_nodup : ∀ {ps : List Nat} {L need : St}, (L.map (·.1)).Nodup → picks ps L = somes need → ps.Nodup → (need.map (·.1)).Nodup
  | [], L, [], _, _, _ => List.nodup_nil
  | [], L, _ :: _, _, h, _ => by cases h
  | x :: xs, L, [], _, h, _ => by cases h
  | x :: xs, L, p :: need, nd, h, hp => by
    have h1 : getS L x = some p := (List.cons.inj h).1
    have h2 : picks xs L = somes need := (List.cons.inj h).2
    have hp' := List.nodup_cons.mp hp
    refine List.nodup_cons.mpr ⟨fun m => ?_, picks_nodup nd h2 hp'.2⟩
    obtain ⟨q, hq, e⟩ := List.mem_map.mp m
    have : ∃ y ∈ xs, getS L y = some q := by
      clear h hp hp' m h1 nd e
      induction xs generalizing need with
      | nil => cases need with
        | nil => cases hq
        | cons _ _ => cases h2
      | cons y ys ih => cases need with
        | nil => cases hq
        | cons r need =>
          have g1 : getS L y = some r := (List.cons.inj h2).1
          rcases List.mem_cons.mp hq with z | z
          · subst z; exact ⟨y, .head _, g1⟩
          · obtain ⟨y', hy, hg⟩ := ih _ (List.cons.inj h2).2 z
            exact ⟨y', .tail _ hy, hg⟩
    obtain ⟨y, hy, hg⟩ := this
    have := getS_inj nd h1 hg e.symm
    exact hp'.1 (this ▸ hy)
theorem picks_mem : ∀ {ps : List Nat} {L need : St}, picks ps L = somes need → ∀ p ∈ need, p ∈ L
  | [], L, [], _, _, hp => nomatch hp
  | [], L, _ :: _, h, _, _ => by cases h
  | x :: xs, L, [], h, _, hp => nomatch hp
  | x :: xs, L, p :: need, h, q, hq => by
    rcases List.mem_cons.mp hq with e | e
    · subst e; exact getS_mem (List.cons.inj h).1
    · exact picks_mem (List.cons.inj h).2 q e

theorem putAll_fst : ∀ (ps : List Nat) (os : List Obj) (L : St), (putAll ps os L).map (·.1) = L.map (·.1)
  | [], _, _ => rfl
  | _ :: _, [], _ => rfl
  | x :: xs, o :: os, L => by
    show (putAll xs os (updS L x fun _ => o)).map (·.1) = _
    rw [putAll_fst, updS_fst]
theorem getS_updS_fst : ∀ {L : St} {j : Nat} (i : Nat) {f : Obj → Obj} {p : Addr × Obj}, getS L j = some p → ∃ o, getS (updS L i f) j = some (p.1, o)
  | [], _, _, _, _, h => by cases h
  | x :: r, 0, 0, f, p, h => by cases h; exact ⟨_, rfl⟩
  | x :: r, 0, i + 1, f, p, h => by cases h; exact ⟨_, rfl⟩
  | x :: r, j + 1, 0, f, p, h => ⟨p.2, h⟩
  | x :: r, j + 1, i + 1, f, p, h => getS_updS_fst (L := r) (j := j) i h
def atA : List Nat → St → List Addr → Prop
  | [], _, as => as = []
  | x :: xs, L, as => match as with
    | [] => False
    | a :: as => (∃ o, getS L x = some (a, o)) ∧ atA xs L as
theorem atA_upd : ∀ {ps : List Nat} {L : St} {as : List Addr} (i : Nat) (f : Obj → Obj), atA ps L as → atA ps (updS L i f) as
  | [], _, _, _, _, h => h
  | x :: xs, L, [], _, _, h => h.elim
  | x :: xs, L, a :: as, i, f, ⟨⟨o, h⟩, h2⟩ => ⟨by obtain ⟨o', e⟩ := getS_updS_fst i (f := f) h; exact ⟨o', e⟩, atA_upd i f h2⟩
theorem atA_of : ∀ {ps : List Nat} {L need : St}, picks ps L = somes need → atA ps L (need.map (·.1))
  | [], L, [], _ => rfl
  | [], L, _ :: _, h => by cases h
  | x :: xs, L, [], h => by cases h
  | x :: xs, L, p :: need, h => ⟨⟨p.2, (List.cons.inj h).1⟩, atA_of (List.cons.inj h).2⟩
theorem putAll_own {h' : Heap} : ∀ {ps : List Nat} {os : List Obj} {as : List Addr} {L : St}, (L.map (·.1)).Nodup → atA ps L as → as.length ≤ os.length →
    (∀ p ∈ zipO as os, h'.get? p.1 = some p.2) → (∀ p ∈ L, h'.get? p.1 = some p.2 ∨ p.1 ∈ as) → ∀ p ∈ putAll ps os L, h'.get? p.1 = some p.2
  | [], os, as, L, nd, ha, hl, hz, hL, p, hp => by
    cases ha
    exact (hL p hp).elim id fun m => nomatch m
  | x :: xs, os, [], L, nd, ha, hl, hz, hL, p, hp => ha.elim
  | x :: xs, [], a :: as, L, nd, ha, hl, hz, hL, p, hp => by simp at hl
  | x :: xs, o :: os, a :: as, L, nd, ⟨⟨o₀, hx⟩, ha⟩, hl, hz, hL, p, hp => by
    refine putAll_own (ps := xs) (os := os) (as := as) (L := updS L x fun _ => o) (by rw [updS_fst]; exact nd) (atA_upd x _ ha) (by simpa using hl) (fun q hq => hz q (.tail _ hq)) (fun q hq => ?_) p hp
    rcases updS_mem hx nd hq with e | ⟨e, ne⟩
    · subst e; exact .inl (hz (a, o) (.head _))
    · rcases hL q e with z | z
      · exact .inl z
      · rcases List.mem_cons.mp z with z | z
        · exact absurd z ne
        · exact .inr z
end Mine
/-! part Snd2 -/
set_option maxRecDepth 100000
set_option linter.unusedVariables false
namespace Mine
open PySem PySem.Spec PySem.Calls PyProof.Rows PySem.W PySem.W.X

structure After (C : Ct) (h h' : Heap) (α : Nat → Addr) (τ : Nat → Tok) (ν : Nat → Value) : Prop where
  keep : Keeps (C.need.map (·.1)) h h'
  grow : h.objs.size ≤ h'.objs.size
  long : C.need.length ≤ (C.post α τ ν).length
  post : ∀ p ∈ zipO (C.need.map (·.1)) (C.post α τ ν), h'.get? p.1 = some p.2
  new : ∀ p ∈ zipO (adrs α 0 C.k) (C.new α τ ν), h'.get? p.1 = some p.2 ∧ h.objs.size ≤ p.1
  nd : ((zipO (adrs α 0 C.k) (C.new α τ ν)).map (·.1)).Nodup

def Valid (prog : Program) (w : World) (kt : KT) (C : Ct) : Prop :=
  ∀ (A : Around) (s : Shared) (R : Result → Shared → Prop), A.handled = none → A.depth ≤ C.D → A.units ≤ C.U → (∀ l, C.fr = some l → A.frames = some l) → Base kt s.heap → (∀ p ∈ C.need, s.heap.get? p.1 = some p.2) → (C.need.map (·.1)).Nodup → (∀ p ∈ C.need, kt.get p.1 = none) →
    (∀ α τ ν h' tk', After C s.heap h' α τ ν → R (C.res α τ ν) { s with heap := h', toks := tk' }) → codeAny (model prog w) A C.code R s

theorem rich_room (op : CmpOp) (a b : Addr) : ∃ X : Unit → Sem Value, richT op (.ref a) (.ref b) = PySem.W.R.keepR [.ref a, .ref b] (PySem.W.R.bindR roomF' X) := ⟨_, rfl⟩
theorem room_is : ∃ (c : List (Code × Pos) → Prop) (D : ∀ st, Decidable (c st)) (s : String), ¬ c [] ∧ roomF' = .stack fun st => @ite _ (c st) (D st) (.unsupported s) (.pure ()) :=
  ⟨fun st => W.Fast.tw3755427657022040156 (W.R.mapR (fun x => W.Fast.tw165980757501359005 x.fst) st) ≥ cLine, fun st => inferInstance, _, (by show ¬ (cLine ≤ 0); decide), rfl⟩
/-- a wrapper hands a look at the stack on, and what the model doesn't cover -/
structure Strict (W : Sem Value → Sem Fin) : Prop where
  stack : ∀ k, W (.stack k) = .stack fun st => W (k st)
  uns : ∀ s, W (.unsupported s) = .unsupported s
theorem Strict.room {W : Sem Value → Sem Fin} (h : Strict W) (op : CmpOp) (a b : Addr) : W (richT op (.ref a) (.ref b)) = PySem.W.R.bindR roomF' fun _ => W (richN op (.ref a) (.ref b)) := by
  obtain ⟨X, e⟩ := rich_room op a b
  obtain ⟨c, D, s, h0, er⟩ := room_is
  have e2 : richT op (.ref a) (.ref b) = .stack fun st => PySem.W.R.keepR [.ref a, .ref b] (PySem.W.R.bindR (@ite _ (c st) (D st) (.unsupported s) (.pure ())) X) := by rw [e, er]; rfl
  have e3 : richN op (.ref a) (.ref b) = PySem.W.R.keepR [.ref a, .ref b] (X ()) := by
    unfold richN
    rw [e2]
    simp only [if_neg h0]
    rfl
  rw [e3, e2, h.stack, er]
  show Sem.stack _ = Sem.stack _
  congr 1
  funext st
  by_cases q : c st
  · simp only [if_pos q]
    exact h.uns s
  · simp only [if_neg q]
    rfl
def Good (prog : Program) (w : World) (kt : KT) : HL → Prop
  | .nil => True
  | .n _ r => Good prog w kt r
  | .sp a b => Good prog w kt a ∧ Good prog w kt b
  | .sg a b => Good prog w kt a ∧ Good prog w kt b
  | .j C _ r => Valid prog w kt C ∧ ∀ α τ ν B T, Good prog w kt (r α τ ν B T)
  | .fin .. => True
  | .lv _ _ r => ∀ bk tb, Good prog w kt (r bk tb)
  | .eq _ _ t₀ t₁ r => (∀ a b, a ≠ b → t₀ a b = t₁ a b) ∧ Good prog w kt r
  | .rm W _ _ _ r => (∀ body env, Strict (W body env)) ∧ Good prog w kt r
theorem good_hl {prog : Program} {w : World} {kt : KT} : ∀ (l : List Nat) {e : HL}, Good prog w kt e → Good prog w kt (hl l e)
  | [], _, h => h
  | _ :: r, _, h => good_hl r h

theorem len_eq : ∀ L : St, len L = L.length
  | [] => rfl
  | _ :: r => by simp [len, len_eq r]
theorem lenO_eq : ∀ L : List Obj, lenO L = L.length
  | [] => rfl
  | _ :: r => by simp [lenO, lenO_eq r]
theorem dropS_eq : ∀ (L : St) (n : Nat), dropS L n = L.drop n
  | [], 0 => rfl
  | [], n + 1 => rfl
  | _ :: _, 0 => rfl
  | _ :: r, n + 1 => by simp [dropS, dropS_eq r n]
theorem objs_eq : ∀ L : St, objs L = L.map (·.2)
  | [] => rfl
  | _ :: r => by simp [objs, objs_eq r]
theorem zip_objs : ∀ I : St, zipO (I.map (·.1)) (objs I) = I
  | [] => rfl
  | x :: r => by simp [objs, zipO, zip_objs r]
theorem getS_append : ∀ (pre I : St) {q : Addr × Obj}, q ∈ I → ∃ y, pre.length ≤ y ∧ getS (pre ++ I) y = some q
  | [], [], _, h => nomatch h
  | [], x :: r, q, h => by
    rcases List.mem_cons.mp h with e | e
    · subst e; exact ⟨0, Nat.le_refl _, rfl⟩
    · obtain ⟨y, _, hy⟩ := getS_append [] r e
      exact ⟨y + 1, Nat.zero_le _, hy⟩
  | p :: pre, I, q, h => by
    obtain ⟨y, hy, e⟩ := getS_append pre I h
    exact ⟨y + 1, Nat.succ_le_succ hy, e⟩
theorem allLt_iff : ∀ {l : List Nat} {n : Nat}, allLt l n = true → ∀ x ∈ l, x < n
  | [], _, _, _, hx => nomatch hx
  | y :: r, n, h, x, hx => by
    unfold allLt at h
    cases q : Nat.blt y n with
    | false => rw [q] at h; cases h
    | true =>
      rw [q] at h
      rcases List.mem_cons.mp hx with e | e
      · subst e; exact Nat.le_of_ble_eq_true q
      · exact allLt_iff h x e
theorem picks_at : ∀ {ps : List Nat} {L need : St}, picks ps L = somes need → ∀ p ∈ need, ∃ x ∈ ps, getS L x = some p
  | [], L, [], _, _, hp => nomatch hp
  | [], L, _ :: _, h, _, _ => by cases h
  | x :: xs, L, [], h, _, hp => nomatch hp
  | x :: xs, L, p :: need, h, q, hq => by
    rcases List.mem_cons.mp hq with e | e
    · subst e; exact ⟨x, .head _, (List.cons.inj h).1⟩
    · obtain ⟨y, hy, g⟩ := picks_at (List.cons.inj h).2 q e
      exact ⟨y, .tail _ hy, g⟩
theorem nodup_append' {l₁ l₂ : List Nat} (h1 : l₁.Nodup) (h2 : l₂.Nodup) (h : ∀ a ∈ l₁, a ∉ l₂) : (l₁ ++ l₂).Nodup :=
  List.nodup_append.mpr ⟨h1, h2, fun a ha b hb e => h a ha (e ▸ hb)⟩

section
variable {kt : KT} {h₀ h : Heap} {as : List Addr} {L : St} {B m : Nat}
theorem Rep.alloc (D : Rep kt h₀ as h L B m) {o : Obj} (hf : o.isFreed = false) : Rep kt h₀ as (h.push o) ((B + m, o) :: L) B (m + 1) := by
  have lt : ∀ p ∈ L, p.1 < h.objs.size := fun p hp => Heap.lt_size (D.own p hp)
  refine ⟨by rw [Heap.size_push, D.size, Nat.add_assoc], by rw [Heap.size_push]; exact Nat.le_succ_of_le D.grow, fun p hp => ?_, ?_, fun p hp => ?_, fun p hp => ?_, ?_, ?_, fun b o' e q => Heap.get?_push_of_some o (D.keep b o' e q)⟩
  · rcases List.mem_cons.mp hp with e | e
    · subst e
      show (h.push o).get? (B + m) = some o
      rw [← D.size]; exact Heap.get?_push_size h hf
    · exact Heap.get?_push_of_some o (D.own p e)
  · refine List.nodup_cons.mpr ⟨fun q => ?_, D.nd⟩
    obtain ⟨p, hp, e⟩ := List.mem_map.mp q
    have := lt p hp
    rw [e, D.size] at this
    exact Nat.lt_irrefl _ this
  · rcases List.mem_cons.mp hp with e | e
    · subst e
      cases q : kt.get (B + m) with
      | none => rfl
      | some o' =>
        have := Heap.lt_size (D.base.1 _ _ q)
        rw [D.size] at this
        exact absurd this (Nat.lt_irrefl _)
    · exact D.off p e
  · rcases List.mem_cons.mp hp with e | e
    · subst e; exact .inr (by show h₀.objs.size ≤ B + m; rw [← D.size]; exact D.grow)
    · exact D.low p e
  · obtain ⟨pre, I, e, f⟩ := D.tail
    exact ⟨(B + m, o) :: pre, I, by rw [e]; rfl, f⟩
  · refine ⟨fun a o' e => Heap.get?_push_of_some o (D.base.1 a o' e), D.base.2.1.at fun o' e => Heap.get?_push_of_some o e, D.base.2.2⟩
theorem updS_tail {j : Nat} {f : Obj → Obj} {pre I : St} : ∃ pre' I' : St, updS (pre ++ I) j f = pre' ++ I' ∧ pre'.length = pre.length ∧ I'.map (·.1) = I.map (·.1) := by
  induction pre generalizing j with
  | nil => exact ⟨[], updS I j f, rfl, rfl, updS_fst ..⟩
  | cons x r ih => cases j with
    | zero => exact ⟨(x.1, f x.2) :: r, I, rfl, rfl, rfl⟩
    | succ j =>
      obtain ⟨p, q, e, l, g⟩ := ih (j := j)
      exact ⟨x :: p, q, congrArg (x :: ·) e, congrArg (· + 1) l, g⟩
theorem Rep.update (D : Rep kt h₀ as h L B m) {j : Nat} {p : Addr × Obj} {f : Obj → Obj} (hj : getS L j = some p) (hf : (f p.2).isFreed = false) : Rep kt h₀ as (h.update p.1 f) (updS L j f) B m := by
  have ho := D.own p (getS_mem hj)
  have hs : Heap.SameBut p.1 h (h.update p.1 f) := Heap.SameBut.update ..
  have ge : (h.update p.1 f).get? p.1 = some (f p.2) := Heap.get?_update_self f ho hf
  have off := D.off p (getS_mem hj)
  have mm : ∀ q ∈ updS L j f, ∃ q' ∈ L, q'.1 = q.1 := fun q hq => by
    have : q.1 ∈ (updS L j f).map (·.1) := List.mem_map.mpr ⟨q, hq, rfl⟩
    rw [updS_fst] at this
    obtain ⟨q', h1, h2⟩ := List.mem_map.mp this
    exact ⟨q', h1, h2⟩
  have kp : ∀ b o, h.get? b = some o → b ≠ p.1 → (h.update p.1 f).get? b = some o := fun b o e ne => (hs.2 b ne).trans e
  refine ⟨by rw [hs.1, D.size], by rw [hs.1]; exact D.grow, fun q hq => ?_, by rw [updS_fst]; exact D.nd, fun q hq => ?_, fun q hq => ?_, ?_, ?_, fun b o e q => ?_⟩
  · rcases updS_mem hj D.nd hq with e | ⟨e, ne⟩
    · subst e; exact ge
    · exact kp _ _ (D.own q e) ne
  · obtain ⟨q', h1, h2⟩ := mm q hq
    rw [← h2]; exact D.off q' h1
  · obtain ⟨q', h1, h2⟩ := mm q hq
    rw [← h2]; exact D.low q' h1
  · obtain ⟨pre, I, e, g⟩ := D.tail
    subst e
    obtain ⟨pre', I', e', _, g'⟩ := updS_tail (j := j) (f := f) (pre := pre) (I := I)
    exact ⟨pre', I', e', g'.trans g⟩
  · refine D.base.keeps (as := [p.1]) (fun b o e q => kp b o e fun z => q (z ▸ List.mem_singleton.mpr rfl)) fun a ha => ?_
    rw [List.mem_singleton.mp ha]; exact off
  · have hb := D.keep b o e q
    refine kp b o hb fun z => ?_
    rcases D.low p (getS_mem hj) with y | y
    · exact q (z ▸ y)
    · have := Heap.lt_size e
      rw [z] at this
      exact absurd this (Nat.not_lt.mpr y)

theorem putAll_tail : ∀ (ps : List Nat) (os : List Obj) {L pre I : St}, L = pre ++ I → ∃ pre' I' : St, putAll ps os L = pre' ++ I' ∧ I'.map (·.1) = I.map (·.1)
  | [], _, L, pre, I, e => ⟨pre, I, e, rfl⟩
  | _ :: _, [], L, pre, I, e => ⟨pre, I, e, rfl⟩
  | x :: xs, o :: os, L, pre, I, e => by
    obtain ⟨pre', I', e', _, g'⟩ := updS_tail (j := x) (f := fun _ => o) (pre := pre) (I := I)
    obtain ⟨p2, I2, e2, g2⟩ := putAll_tail xs os (L := updS L x fun _ => o) (pre := pre') (I := I') (by rw [e]; exact e')
    exact ⟨p2, I2, e2, g2.trans g'⟩
theorem Rep.jump (D : Rep kt h₀ as h L B m) {C : Ct} {ps : List Nat} {α : Nat → Addr} {τ : Nat → Tok} {ν : Nat → Value} {h' : Heap} (hp : picks ps L = somes C.need) (A : After C h h' α τ ν) :
    Rep kt h₀ as h' (zipO (adrs α 0 C.k) (C.new α τ ν) ++ putAll ps (C.post α τ ν) L) h'.objs.size 0 := by
  have inL : ∀ p ∈ C.need, p ∈ L := picks_mem hp
  have offN : ∀ a ∈ C.need.map (·.1), kt.get a = none := fun a ha => by
    obtain ⟨p, h1, h2⟩ := List.mem_map.mp ha
    rw [← h2]; exact D.off p (inL p h1)
  have base' := D.base.keeps A.keep offN
  have ownO : ∀ p ∈ putAll ps (C.post α τ ν) L, h'.get? p.1 = some p.2 :=
    putAll_own D.nd (atA_of hp) (by simpa using A.long) A.post fun p hpL => by
      by_cases q : p.1 ∈ C.need.map (·.1)
      · exact .inr q
      · exact .inl (A.keep _ _ (D.own p hpL) q)
  have mm : ∀ q ∈ putAll ps (C.post α τ ν) L, ∃ q' ∈ L, q'.1 = q.1 := fun q hq => by
    have : q.1 ∈ (putAll ps (C.post α τ ν) L).map (·.1) := List.mem_map.mpr ⟨q, hq, rfl⟩
    rw [putAll_fst] at this
    obtain ⟨q', h1, h2⟩ := List.mem_map.mp this
    exact ⟨q', h1, h2⟩
  refine ⟨rfl, Nat.le_trans D.grow A.grow, fun p hq => ?_, ?_, fun p hq => ?_, fun p hq => ?_, ?_, base', fun b o e q => ?_⟩
  · rcases List.mem_append.mp hq with e | e
    · exact (A.new p e).1
    · exact ownO p e
  · rw [List.map_append]
    refine nodup_append' A.nd (by rw [putAll_fst]; exact D.nd) fun a ha hb => ?_
    obtain ⟨p, h1, h2⟩ := List.mem_map.mp ha
    obtain ⟨q, h3, h4⟩ := List.mem_map.mp hb
    obtain ⟨q', h5, h6⟩ := mm q h3
    have := Heap.lt_size (D.own q' h5)
    rw [h6, h4, ← h2] at this
    exact absurd this (Nat.not_lt.mpr (A.new p h1).2)
  · rcases List.mem_append.mp hq with e | e
    · cases q : kt.get p.1 with
      | none => rfl
      | some o' =>
        have := Heap.lt_size (D.base.1 _ _ q)
        exact absurd this (Nat.not_lt.mpr (A.new p e).2)
    · obtain ⟨q', h1, h2⟩ := mm p e
      rw [← h2]; exact D.off q' h1
  · rcases List.mem_append.mp hq with e | e
    · exact .inr (Nat.le_trans D.grow (A.new p e).2)
    · obtain ⟨q', h1, h2⟩ := mm p e
      rw [← h2]; exact D.low q' h1
  · obtain ⟨pre, I, e, g⟩ := D.tail
    obtain ⟨pre', I', e', g'⟩ := putAll_tail ps (C.post α τ ν) e
    exact ⟨zipO (adrs α 0 C.k) (C.new α τ ν) ++ pre', I', by rw [e', List.append_assoc], g'.trans g⟩
  · have hb := D.keep b o e q
    refine A.keep b o hb fun z => ?_
    obtain ⟨p, h1, h2⟩ := List.mem_map.mp z
    rcases D.low p (inL p h1) with y | y
    · exact q (h2 ▸ y)
    · have := Heap.lt_size e
      rw [← h2] at this
      exact absurd this (Nat.not_lt.mpr y)
end
end Mine
/-! part Snd3 -/
set_option maxRecDepth 100000
set_option linter.unusedVariables false
namespace Mine
open PySem PySem.Spec PySem.Calls PyProof.Rows PySem.W PySem.W.X

theorem onP_split {α : Type} {P : Params} {row : String} {k : Params → α} (h : k P = k (onP P (P.followText row))) : k P = k (onP P true) ∨ k P = k (onP P false) := by
  cases q : P.followText row with
  | true => exact .inl (by rw [h, q])
  | false => exact .inr (by rw [h, q])

theorem ready_all {bk : Value} {K : Array Value → St → Prop} : ∀ (es : List Env) (fs : List Nat) (L : St), (∀ tb, readyN bk es fs L (K tb) true) → readyN bk es fs L (fun L' => ∀ tb, K tb L') true
  | [], fs, L, H => H
  | e :: es, [], L, H => H #[]
  | e :: es, f :: fs, L, H => by
    rcases hg : getS L f with _ | p
    · simp only [readyN, hg] at H
      exact (H #[]).elim
    · simp only [readyN, hg] at H ⊢
      refine ⟨(H #[]).1, (H #[]).2.1, ?_⟩
      cases hs : p.2.slots.getD 3 none with
      | some x =>
        have z := fun tb => (H tb).2.2
        simp only [hs] at z
        exact z
      | none =>
        have z := fun tb => (H tb).2.2
        simp only [hs, updR_eq] at z
        simp only [updR_eq]
        exact ready_all es fs _ z

theorem nthV_eq : ∀ (l : List Value) (n : Nat), nthV l n = l[n]?
  | [], n => by simp [nthV]
  | x :: r, 0 => rfl
  | x :: r, n + 1 => by simp [nthV, nthV_eq r n]
theorem newX_is {o : Obj} (h : newX true o) : ∃ vs, o.data = .fields vs ∧ vs[1]? = some .none := by
  obtain ⟨c, d, dt, sl⟩ := o
  cases dt with
  | fields vs =>
    have h' : nthV vs.toList 1 = some .none := h
    rw [nthV_eq] at h'
    exact ⟨vs, rfl, by simpa using h'⟩
  | _ => exact h.elim
theorem freed_no {h : Heap} {a : Addr} {o : Obj} (e : h.get? a = some o) : o.isFreed = false := by
  have := ((Heap.get?_eq_some h a o).mp e).2
  obtain ⟨c, d, dt, sl⟩ := o
  cases dt <;> first | rfl | cases this
theorem rdO_freed {e : Env} {v : Value} {o : Obj} (h : o.isFreed = false) : (rdO e v o).isFreed = false := by
  obtain ⟨c, d, dt, sl⟩ := o
  cases dt <;> first | rfl | exact h
theorem ready_sound {M : Model} {A : Around} {E : Value → Shared → Prop} {kt : KT} {h₀ : Heap} {as : List Addr} {B m : Nat} {g : Array GenState} {dr : Drawn} {tk : Nat} {os : OsState} :
    ∀ (es : List Env) (fs : List Nat) (L : St) (h : Heap) (K : Value → St → Prop) (Q : Unit → Shared → Prop), Rep kt h₀ as h L B m → (∀ bk, readyN bk es fs L (K bk) true) → (∀ bk h' L', Rep kt h₀ as h' L' B m → K bk L' → Q () ⟨h', g, dr, tk, os⟩) →
      wpAny M A (readyFrames es) Q E ⟨h, g, dr, tk, os⟩
  | [], fs, L, h, K, Q, D, H, q => wpAny_pure (q .none h L D (H .none))
  | e :: es, [], L, h, K, Q, D, H, q => (H .none).elim
  | e :: es, f :: fs, L, h, K, Q, D, H, q => by
    rcases hg : getS L f with _ | p
    · simp only [readyN, hg] at H
      exact (H .none).elim
    · simp only [readyN, hg] at H
      have h1 : e.frame = some p.1 := (H .none).1
      have h2 : okEnv e = true := (H .none).2.1
      have ho := D.own p (getS_mem hg)
      have hnf := freed_no ho
      simp only [okEnv, Bool.and_eq_true, Bool.not_eq_true', Bool.or_eq_false_iff] at h2
      obtain ⟨h2, h3, h4⟩ := h2
      have hk : ¬ e.scope.kind = .module := by
        intro z
        rw [z] at h2
        cases h2
      simp only [readyFrames, h1]
      refine wpAny_bind (wpAny_load ho ?_)
      cases hs : p.2.slots.getD 3 none with
      | some x =>
        rw [if_pos (by rfl)]
        refine wpAny_pure (q .none h L D ?_)
        have z := (H .none).2.2
        simp only [hs] at z
        exact z
      | none =>
        rw [if_neg (by simp)]
        refine wpAny_bind (wpAny_of_eq (a := false) (by simp [behindIsImport, hk]) ?_)
        have z := fun bk => (H bk).2.2
        simp only [hs, updR_eq] at z
        cases es with
        | nil =>
          refine wpAny_bind (wpAny_keptBack_nil fun v => ?_)
          refine wpAny_bind (wpAny_update ho ?_)
          exact wpAny_pure (q v _ _ (D.update hg (rdO_freed hnf)) (z v))
        | cons e' es =>
          refine wpAny_bind (wpAny_of_eq (a := e'.frame.elim .notImplemented .ref) (by simp [keptBack, h3, h4]) ?_)
          refine wpAny_bind (wpAny_update ho ?_)
          exact ready_sound (e' :: es) fs _ _ K Q (D.update hg (rdO_freed hnf)) z q
theorem leave_wp {M : Model} {A : Around} {E : Value → Shared → Prop} {kt : KT} {h₀ h : Heap} {as : List Addr} {B m : Nat} {g : Array GenState} {dr : Drawn} {tk : Nat} {os : OsState} {env : Env} {es : List Env} {L : St} {pe : Nat} {fs : List Nat} {p : Addr × Obj}
    {X : Value → Array Value → St → Prop} {Q : Unit → Shared → Prop} (hfr : A.frames = some (env :: es)) (hp : getS L pe = some p) (hx : newX true p.2) (D : Rep kt h₀ as h L B m)
    (H : ∀ bk tb, readyN bk (env :: es) fs L (fun L' => match getS L' pe with
          | none => bad true
          | some p' => same true p'.1 p.1 ∧ newX true p'.2 ∧ updN L' pe (Obj.mapFields (·.setIfInBounds 1 (.ref (B + m)))) (fun L'' => X bk tb ((B + m, tbO tb) :: L'')) true) true)
    (q : ∀ bk tb h' L', Rep kt h₀ as h' L' B (m + 1) → X bk tb L' → Q () ⟨h', g, dr, tk, os⟩) : wpAny M A (leaving env (.ref p.1)) Q E ⟨h, g, dr, tk, os⟩ := by
  obtain ⟨vs, hd, h1⟩ := newX_is hx
  have he := D.own p (getS_mem hp)
  unfold leaving
  refine wpAny_bind ?_
  unfold noteFrame
  have hf : ∃ f, env.frame = some f := by
    have := H .none #[]
    cases fs with
    | nil => exact this.elim
    | cons f fs =>
      rcases hg : getS L f with _ | p'
      · simp only [readyN, hg] at this
        exact this.elim
      · simp only [readyN, hg] at this
        exact ⟨_, this.1⟩
  obtain ⟨f, hf⟩ := hf
  simp only [hf]
  refine wpAny_bind (wpAny_field he hd h1 ?_)
  rw [if_neg (by decide)]
  unfold PySem.frameOf
  refine wpAny_bind (wpAny_bind (wpAny_frameEnvs hfr ?_))
  have hdw : ((env :: es).dropWhile fun x => x.frame != env.frame) = env :: es := by simp [List.dropWhile]
  rw [hdw]
  unfold frameObject
  refine wpAny_bind (wpAny_bind (ready_sound (env :: es) fs L h (fun bk L' => ∀ tb, match getS L' pe with
          | none => bad true
          | some p' => same true p'.1 p.1 ∧ newX true p'.2 ∧ updN L' pe (Obj.mapFields (·.setIfInBounds 1 (.ref (B + m)))) (fun L'' => X bk tb ((B + m, tbO tb) :: L'')) true) _ D (fun bk => ?_) fun bk h₁ L₁ D₁ H₁ => ?_))
  · exact ready_all (env :: es) fs L (fun tb => H bk tb)
  · refine wpAny_pure ?_
    rw [hf]
    refine wpAny_pure ?_
    refine wpAny_bind (wpAny_entryPlaceOf fun pl hpl => ?_)
    unfold EntryCells.newEntry newFields
    refine wpAny_bind (wpAny_newObj_type ?_ (hpl.sizeOk5 _ _ _ _ _))
    rcases hg : getS L₁ pe with _ | p'
    · simp only [hg] at H₁
      exact (H₁ #[]).elim
    simp only [hg] at H₁
    have e1 : p'.1 = p.1 := (H₁ #[]).1
    obtain ⟨vs', hd', h1'⟩ := newX_is (H₁ #[]).2.1
    have z := fun tb => (H₁ tb).2.2
    simp only [updN_eq] at z
    have hsz : 1 < vs'.size := (Array.getElem?_eq_some_iff.mp h1').1
    generalize hO : ({ cls := .type "traceback", dict := none, data := .fields ([Value.none, .ref f, .none, rawInt f, .none] ++ (if pl.isEmpty then List.replicate 6 Value.none else pl)).toArray } : Obj) = O at *
    have hOd : ∃ tvs, O = tbO tvs ∧ 3 < tvs.size := ⟨_, hO.symm, by simp only [List.size_toArray, List.length_append, List.length_cons, List.length_nil]; omega⟩
    obtain ⟨tvs, rfl, ht3⟩ := hOd
    have D₂ := D₁.alloc (o := tbO tvs) rfl
    have g2 : getS ((B + m, tbO tvs) :: L₁) (pe + 1) = some p' := hg
    have he2 := D₂.own p' (getS_mem g2)
    have fd : ∀ v, (Obj.mapFields (·.setIfInBounds 1 v) p'.2).isFreed = false := fun v => Obj.isFreed_of_fields (Obj.data_mapFields hd' (·.setIfInBounds 1 v))
    rw [show h₁.objs.size = B + m from D₁.size]
    rw [← e1]
    refine wpAny_setField he2 hd' hsz ?_
    have D₃ := D₂.update (j := pe + 1) (f := Obj.mapFields (·.setIfInBounds 1 (Value.ref (B + m)))) g2 (fd _)
    have own3 := D₃.own
    have he3 := Heap.get?_update_self (Obj.mapFields (·.setIfInBounds 1 (Value.ref (B + m)))) he2 (fd _)
    have hd3 := Obj.data_mapFields hd' (·.setIfInBounds 1 (Value.ref (B + m)))
    have ht := D₃.own (B + m, tbO tvs) (.head _)
    refine wpAny_setFlight_none he3 hd3 (by simp [Array.getElem?_setIfInBounds, hsz]) ht rfl ht3 ?_
    have D₄ := D₃.update (j := 0) (p := (B + m, tbO tvs)) (f := Obj.mapFields (·.setIfInBounds 3 .none)) rfl rfl
    exact q bk (tvs.setIfInBounds 3 .none) _ _ D₄ (z _)

section
variable {v : Vw} {w : World} {A₀ : Around} {R₀ : Result → Shared → Prop} {h₀ : Heap} {g : Array GenState} {dr : Drawn} {os : OsState}
  (hP : v.P = w.params) (hA : A₀.handled = none) (hF : ∀ l, v.C.fr = some l → A₀.frames = some l)
  (hfin : ∀ α τ ν h' tk', After v.C h₀ h' α τ ν → R₀ (v.C.res α τ ν) ⟨h', g, dr, tk', os⟩)

def Sound (v : Vw) (w : World) (A₀ : Around) (R₀ : Result → Shared → Prop) (h₀ : Heap) (g : Array GenState) (dr : Drawn) (os : OsState) (ih : Ty) : Prop :=
  ∀ tr c κ t L B m T i d u h, Good v.prog w v.kt tr → ih tr c κ t L B m T i d u true → Rep v.kt h₀ (v.C.need.map (·.1)) h L B m → KOk A₀ κ d u → Means v.prog w A₀ R₀ c κ t ⟨h, g, dr, T + i, os⟩

include hfin in
theorem fin_sound {r : Result} {α : Nat → Addr} {τ : Nat → Tok} {ν : Nat → Value} {ps : List Nat} {L : St} {B m T i : Nat} {h : Heap}
    (e1 : r = v.C.res α τ ν) (e2 : objs (dropS L (len L - len v.C.need)) = v.C.post α τ ν) (e3 : picks ps L = somes (zipO (adrs α 0 v.C.k) (v.C.new α τ ν)))
    (e4 : (allLt ps (len L - len v.C.need) && nodupN ps) = true) (D : Rep v.kt h₀ (v.C.need.map (·.1)) h L B m) : R₀ r ⟨h, g, dr, T + i, os⟩ := by
  rw [e1]
  have e5 := Bool.and_eq_true_iff.mp e4
  obtain ⟨pre, I, eL, eI⟩ := D.tail
  have hlI : I.length = v.C.need.length := by
    have := congrArg List.length eI
    simpa using this
  have hI : dropS L (len L - len v.C.need) = I := by
    rw [dropS_eq, len_eq, len_eq, eL, List.length_append, hlI, Nat.add_sub_cancel, List.drop_left]
  have hn : len L - len v.C.need = pre.length := by rw [len_eq, len_eq, eL, List.length_append, hlI, Nat.add_sub_cancel]
  rw [hI] at e2
  rw [hn] at e5
  refine hfin α τ ν h _ ⟨D.keep, D.grow, ?_, fun p hp => ?_, fun p hp => ?_, picks_nodup D.nd e3 (nodupN_iff e5.2)⟩
  · rw [← e2, objs_eq, List.length_map, hlI]; exact Nat.le_refl _
  · rw [← eI, ← e2, zip_objs] at hp
    exact D.own p (by rw [eL]; exact List.mem_append.mpr (.inr hp))
  · have hL := picks_mem e3 p hp
    refine ⟨D.own p hL, (D.low p hL).resolve_left fun q => ?_⟩
    rw [← eI] at q
    obtain ⟨q', h1, h2⟩ := List.mem_map.mp q
    obtain ⟨y, hy, gy⟩ := getS_append pre I h1
    rw [← eL] at gy
    obtain ⟨x, hx, gx⟩ := picks_at e3 p hp
    have := getS_inj D.nd gx gy h2.symm
    have := allLt_iff e5.1 x hx
    omega

include hfin in
theorem ret_sound {ih : Ty} (IH : Sound v w A₀ R₀ h₀ g dr os ih) {tr : HL} {r : Result} {κ : KK} {L : St} {B m T i d u : Nat} {h : Heap} (hg : Good v.prog w v.kt tr)
    (H : retM v ih tr r κ L B m T i true) (D : Rep v.kt h₀ (v.C.need.map (·.1)) h L B m) (K : KOk A₀ κ d u) : enK v.prog w A₀ R₀ κ r ⟨h, g, dr, T + i, os⟩ := by
  cases κ with
  | base =>
    cases tr with
    | fin α τ ν ps => exact fin_sound hfin H.1 H.2.1 H.2.2.1 H.2.2.2 D
    | _ => exact H.elim
  | ret c hd k d' u' κ =>
    cases K with
    | ret K => exact IH _ _ _ _ _ _ _ _ _ _ _ h hg H D K

theorem okFr_is {x F : Option (List Env)} {A : Around} (h : okFr true x F) (hF : ∀ l, F = some l → A.frames = some l) : ∀ l, x = some l → A.frames = some l := by
  intro l e
  subst e
  exact hF l h
include hP hA hF hfin in
theorem stepT_sound {ih : Ty} (IH : Sound v w A₀ R₀ h₀ g dr os ih) : Sound v w A₀ R₀ h₀ g dr os (stepT v ih) := by
  intro tr c κ t L B m T i d u h hg H D K
  have setS : (⟨v.prog, v.P⟩ : Setting) = ⟨v.prog, w.params⟩ := by rw [hP]
  cases t with
  | pure fin =>
    cases fin with
    | done f => exact y_pure _ _ _ _ _ _ _ _ _ (y_done _ _ _ _ _ _ (ret_sound hfin IH hg H D K))
    | again c' =>
      cases tr with
      | n x tr =>
        replace hg : Good v.prog w v.kt tr := hg
        exact y_pure _ _ _ _ _ _ _ _ _ (y_again _ _ _ _ _ _ (qk_quiet H.1) (y_code _ _ _ _ _ _ (by rw [den_eq]; exact IH _ _ _ _ _ _ _ _ _ _ _ h hg H.2 D K)))
      | j C ps r =>
        obtain ⟨hq, h1, h2, h3, h4, hfr, h5⟩ := H
        have h4' := Bool.and_eq_true_iff.mp h4
        have h4'' := Bool.and_eq_true_iff.mp h4'.2
        refine y_pure _ _ _ _ _ _ _ _ _ (y_again _ _ _ _ _ _ (qk_quiet hq) ?_)
        rw [h1]
        have kd := K.depth
        refine hg.1 _ _ _ ((handled_arK hA κ).trans h2) (Nat.le_trans kd.1 (Nat.le_of_ble_eq_true h4''.1)) (Nat.le_trans kd.2 (Nat.le_of_ble_eq_true h4''.2)) (okFr_is hfr (frames_arK _ hF κ)) D.base (fun p hp => D.own p (picks_mem h3 p hp)) (picks_nodup D.nd h3 (nodupN_iff h4'.1)) (fun p hp => D.off p (picks_mem h3 p hp)) ?_
        intro α τ ν h' tk' A
        have h6 := (h5 α τ ν h'.objs.size tk').2
        simp only [putN_eq, consN_eq] at h6
        exact ret_sound (i := 0) hfin IH (hg.2 α τ ν h'.objs.size tk') h6 (D.jump h3 A) K
      | _ => exact H.elim
  | raise e => exact y_raise _ _ _ _ _ _ _ _ _ (y_err _ _ _ (ret_sound hfin IH hg H D K))
  | rule tag k => exact y_skim _ _ _ _ _ _ _ _ _ 1 (IH _ _ _ _ _ _ _ _ _ _ _ h hg H D K)
  | «at» q k => exact y_skim _ _ _ _ _ _ _ _ _ 1 (IH _ _ _ _ _ _ _ _ _ _ _ h hg H D K)
  | point l k => exact y_skim _ _ _ _ _ _ _ _ _ 1 (IH _ _ _ _ _ _ _ _ _ _ _ h hg H D K)
  | ask k =>
    refine y_skim _ _ _ _ _ _ _ _ _ 1 ?_
    show Means v.prog w A₀ R₀ c κ (k ⟨v.prog, w.params⟩) _
    rw [← setS]
    cases tr with
    | n x tr =>
      replace hg : Good v.prog w v.kt tr := hg
      cases x with
      | zero => exact IH _ _ _ _ _ _ _ _ _ _ _ h hg H D K
      | succ x =>
        obtain ⟨e1, e2, H⟩ := H
        have e1 := same_eq e1
        have e2 := same_eq e2
        have : k ⟨v.prog, v.P⟩ = k ⟨v.prog, onP v.P true⟩ := by
          rcases onP_split (k := fun P => k ⟨v.prog, P⟩) e1 with q | q
          · exact q
          · exact q.trans e2.symm
        rw [this]
        exact IH _ _ _ _ _ _ _ _ _ _ _ h hg H D K
    | sp r1 r2 =>
      obtain ⟨e1, H1, H2⟩ := H
      have e1 := same_eq e1
      rcases onP_split (k := fun P => k ⟨v.prog, P⟩) e1 with q | q
      · show Means v.prog w A₀ R₀ c κ (k ⟨v.prog, v.P⟩) _
        rw [show k ⟨v.prog, v.P⟩ = _ from q]
        exact IH _ _ _ _ _ _ _ _ _ _ _ h hg.1 H1 D K
      · rw [show k ⟨v.prog, v.P⟩ = _ from q]
        exact IH _ _ _ _ _ _ _ _ _ _ _ h hg.2 H2 D K
    | sg r1 r2 =>
      obtain ⟨e1, H1, H2⟩ := H
      have e1 := same_eq e1
      rcases onP_split (k := fun P => k ⟨v.prog, P⟩) e1 with q | q
      · show Means v.prog w A₀ R₀ c κ (k ⟨v.prog, v.P⟩) _
        rw [show k ⟨v.prog, v.P⟩ = _ from q]
        exact IH _ _ _ _ _ _ _ _ _ _ _ h hg.1 H1 D K
      · rw [show k ⟨v.prog, v.P⟩ = _ from q]
        exact IH _ _ _ _ _ _ _ _ _ _ _ h hg.2 H2 D K
    | _ => exact H.elim
  | fresh k => exact y_fresh _ _ _ _ _ _ _ _ _ _ _ _ _ (IH _ _ _ _ _ _ _ T (i + 1) _ _ h hg H D K)
  | load a q k =>
    cases tr with
    | n x tr =>
      replace hg : Good v.prog w v.kt tr := hg
      simp only [stepT] at H
      split at H
      · split at H
        · rename_i p e
          have ea : a = p.1 := H.1
          subst ea
          exact y_load _ _ _ _ _ _ _ _ _ _ _ _ _ _ _ _ (D.own p (getS_mem e)) (IH _ _ _ _ _ _ _ _ _ _ _ h hg H.2 D K)
        · exact H.elim
      · split at H
        · rename_i o e
          have ea : a = x / 2 := H.1
          subst ea
          exact y_load _ _ _ _ _ _ _ _ _ _ _ _ _ _ _ _ (D.base.1 _ _ e) (IH _ _ _ _ _ _ _ _ _ _ _ h hg H.2 D K)
        · exact H.elim
    | _ => exact H.elim
  | update a q f k =>
    cases tr with
    | n x tr =>
      replace hg : Good v.prog w v.kt tr := hg
      simp only [stepT] at H
      split at H
      · rename_i p e
        obtain ⟨ea, hf, H⟩ := H
        rw [updN_eq] at H
        have ea : a = p.1 := ea
        subst ea
        exact wpOwn_bind (m := updatePart p.1 q f) (f := k) (wpOwn_of_wpAny (wpAny_updatePart (D.own p (getS_mem e)) (IH _ _ _ _ _ _ _ _ _ _ _ _ hg H (D.update e hf) K)))
      · exact H.elim
    | _ => exact H.elim
  | alloc o k =>
    obtain ⟨hf, H⟩ := H
    rw [normO_eq] at H
    refine wpOwn_bind (m := alloc o) (f := k) (wpOwn_of_wpAny (wpAny_alloc ?_))
    show Means v.prog w A₀ R₀ c κ (k h.objs.size) _
    rw [D.size]
    exact IH _ _ _ _ _ _ _ _ _ _ _ _ hg H (D.alloc hf) K
  | call c' hd gd l k =>
    cases tr with
    | n x tr =>
      replace hg : Good v.prog w v.kt tr := hg
      obtain ⟨hm, H⟩ := H
      have hm : okMark hd = true := hm
      have hnb : hd ≠ some byPass := by
        intro e
        subst e
        simp [okMark] at hm
      exact y_call _ _ _ _ _ _ _ _ _ _ _ _ _ hnb (y_code _ _ _ _ _ _ (by rw [den_eq]; exact IH _ _ (.ret c hd k d u κ) _ _ _ _ _ _ _ _ h hg H D (.ret K)))
    | j C ps r =>
      obtain ⟨hd0, h1, h2, h3, h4, hfr, h5⟩ := H
      have hd0 : hd = none := hd0
      subst hd0
      have h4' := Bool.and_eq_true_iff.mp h4
      have h4'' := Bool.and_eq_true_iff.mp h4'.2
      refine y_call _ _ _ _ _ _ _ _ _ _ _ _ _ (by intro e; cases e) ?_
      rw [h1]
      have kd := (KOk.ret (c := c) (hd := none) (k := k) K).depth
      refine hg.1 _ _ _ ((handled_arK hA (.ret c none k d u κ)).trans h2) (Nat.le_trans kd.1 (Nat.le_of_ble_eq_true h4''.1)) (Nat.le_trans kd.2 (Nat.le_of_ble_eq_true h4''.2)) (okFr_is hfr (frames_arK _ hF (.ret c none k d u κ))) D.base (fun p hp => D.own p (picks_mem h3 p hp)) (picks_nodup D.nd h3 (nodupN_iff h4'.1)) (fun p hp => D.off p (picks_mem h3 p hp)) ?_
      intro α τ ν h' tk' A
      have h6 := (h5 α τ ν h'.objs.size tk').2
      simp only [putN_eq, consN_eq] at h6
      exact IH _ _ _ _ _ _ _ tk' 0 _ _ h' (hg.2 α τ ν h'.objs.size tk') h6 (D.jump h3 A) K
    | _ => exact H.elim
  | handled own k =>
    obtain ⟨ho, H⟩ := H
    have ho : own = false := ho
    subst ho
    refine y_handled _ _ _ _ _ _ _ _ _ ?_
    have : (arK A₀ κ).handled = hdK κ := handled_arK hA κ
    rw [this]
    exact IH _ _ _ _ _ _ _ _ _ _ _ h hg H D K
  | stack k =>
    cases tr with
    | n x tr =>
      replace hg : Good v.prog w v.kt tr := hg
      cases x with
      | zero =>
        cases tr with
        | n x tr =>
          replace hg : Good v.prog w v.kt tr := hg
          simp only [stepT] at H
          split at H
          · split at H
            · obtain ⟨e, hd, H⟩ := H
              have e := same_eq e
              rw [e, ← PySem.W.R.bindR_eq, ← enterF_eq]
              have hd : (arK A₀ κ).depth + c.weight < recursionLimit := by
                have := Nat.le_of_ble_eq_true hd
                have h1 := K.depth.1
                have h2 := weight_le c
                show _ < 1000
                omega
              exact wpOwn_bind (wpOwn_of_wpAny (wpAny_enterFrame D.base.2.1 hd (IH _ _ _ _ _ _ _ _ _ _ _ h hg H D K)))
            · exact H.elim
          · exact H.elim
        | _ => exact H.elim
      | succ x =>
        cases x with
        | succ x => exact y_stack _ _ _ _ _ _ _ _ _ fun p below _ => IH _ _ _ _ _ _ _ _ _ _ _ h hg (H p below) D K
        | zero =>
          obtain ⟨e, hu, H⟩ := H
          have e := same_eq e
          rw [e, ← PySem.W.R.bindR_eq, ← roomF'_eq]
          have hu : (arK A₀ κ).units + c.cUnits < cLine := by
            have := Nat.le_of_ble_eq_true hu
            have h1 := K.depth.2
            have h2 := cunits_le c
            show _ < 9900
            omega
          exact wpOwn_bind (wpOwn_of_wpAny (wpAny_cRoom hu (IH _ _ _ _ _ _ _ _ _ _ _ h hg H D K)))
    | _ => exact H.elim
  | _ => exact H.elim

include hF hfin in
theorem leave_sound {ih : Ty} (IH : Sound v w A₀ R₀ h₀ g dr os ih) {pe : Nat} {fs : List Nat} {r : Value → Array Value → HL} {c : Code} {κ : KK} {t : Sem Fin} {L : St} {B m T i d u : Nat} {h : Heap} (hg : Good v.prog w v.kt (.lv pe fs r))
    (H : leaveM v ih pe fs r c κ t L B m T i true) (D : Rep v.kt h₀ (v.C.need.map (·.1)) h L B m) (K : KOk A₀ κ d u) : Means v.prog w A₀ R₀ c κ t ⟨h, g, dr, T + i, os⟩ := by
  unfold leaveM at H
  rcases hc : c.env? with _ | env
  · simp only [hc] at H
    exact H.elim
  rcases hp : getS L pe with _ | p
  · simp only [hc, hp] at H
    exact H.elim
  rcases hf : frK v.C.fr κ with _ | es
  · simp only [hc, hp, hf] at H
    exact H.elim
  simp only [hc, hp, hf] at H
  obtain ⟨h1, h2, h3, H⟩ := H
  have h1 : c.isFrame = true := h1
  have h2 := same_eq h2
  have hfr : ((arK A₀ κ).under c).frames = some (env :: es) := by
    show pushEnvs c.envs (arK A₀ κ).frames = _
    rw [frames_arK _ hF κ es hf, pushEnvs_eq]
    simp [Code.envs, h1, hc]
  rw [h2, ← PySem.W.R.bindR_eq, ← leavF_eq]
  refine wpOwn_bind (wpOwn_bind (wpOwn_of_wpAny (leave_wp (X := fun bk tb L' => retM v ih (r bk tb) (.error (.ref p.1)) κ L' B (m + 1) T i true) hfr hp h3 D H fun bk tb h' L' D' X => ?_)))
  exact y_raise _ _ _ _ _ _ _ _ _ (y_err _ _ _ (ret_sound hfin IH (hg bk tb) X D' K))
theorem rm_sound {ih : Ty} (IH : Sound v w A₀ R₀ h₀ g dr os ih) {W : List Stmt → Env → Sem Value → Sem Fin} {op : CmpOp} {x y : Addr} {r : HL} {c : Code} {κ : KK} {t : Sem Fin} {L : St} {B m T i d u : Nat} {h : Heap} (hg : Good v.prog w v.kt (.rm W op x y r))
    (H : rmM v ih W op x y r c κ t L B m T i d u true) (D : Rep v.kt h₀ (v.C.need.map (·.1)) h L B m) (K : KOk A₀ κ d u) : Means v.prog w A₀ R₀ c κ t ⟨h, g, dr, T + i, os⟩ := by
  cases c with
  | func body env =>
    obtain ⟨e, hu, H⟩ := H
    have e := same_eq e
    rw [e, (hg.1 body env).room op x y, ← PySem.W.R.bindR_eq, ← roomF'_eq]
    have hu : (arK A₀ κ).units + (Code.func body env).cUnits < cLine := by
      have := Nat.le_of_ble_eq_true hu
      have h1 := K.depth.2
      have h2 := cunits_le (.func body env)
      show _ < 9900
      omega
    exact wpOwn_bind (wpOwn_of_wpAny (wpAny_cRoom hu (IH _ _ _ _ _ _ _ _ _ _ _ h hg.2 H D K)))
  | _ => exact H.elim
theorem eq_sound {ih : Ty} (IH : Sound v w A₀ R₀ h₀ g dr os ih) {x y : Nat} {t₀ t₁ : Addr → Addr → Sem Fin} {r : HL} {c : Code} {κ : KK} {t : Sem Fin} {L : St} {B m T i d u : Nat} {h : Heap} (hg : Good v.prog w v.kt (.eq x y t₀ t₁ r))
    (H : eqM v ih x y t₀ t₁ r c κ t L B m T i d u true) (D : Rep v.kt h₀ (v.C.need.map (·.1)) h L B m) (K : KOk A₀ κ d u) : Means v.prog w A₀ R₀ c κ t ⟨h, g, dr, T + i, os⟩ := by
  unfold eqM at H
  rcases hx : getS L x with _ | p
  · simp only [hx] at H
    exact H.elim
  rcases hy : getS L y with _ | q
  · simp only [hx, hy] at H
    exact H.elim
  simp only [hx, hy] at H
  obtain ⟨h1, h2, H⟩ := H
  have h1 := Nat.ne_of_beq_eq_false h1
  have h2 := same_eq h2
  have ne : p.1 ≠ q.1 := fun e => h1 (getS_inj D.nd hx hy e)
  rw [h2, hg.1 _ _ ne]
  exact IH _ _ _ _ _ _ _ _ _ _ _ h hg.2 H D K
include hP hA hF hfin in
theorem step_sound {ih : Ty} (IH : Sound v w A₀ R₀ h₀ g dr os ih) : Sound v w A₀ R₀ h₀ g dr os (stepM v ih) := by
  intro tr c κ t L B m T i d u h hg H D K
  cases tr with
  | lv pe fs r =>
    have go := fun H => stepT_sound hP hA hF hfin IH (.lv pe fs r) c κ t L B m T i d u h hg H D K
    cases t with
    | load => exact leave_sound hF hfin IH hg H D K
    | _ => exact go H
  | eq x y t₀ t₁ r =>
    have go := fun H => stepT_sound hP hA hF hfin IH (.eq x y t₀ t₁ r) c κ t L B m T i d u h hg H D K
    cases t with
    | load => exact eq_sound IH hg H D K
    | _ => exact go H
  | rm W op x y r =>
    have go := fun H => stepT_sound hP hA hF hfin IH (.rm W op x y r) c κ t L B m T i d u h hg H D K
    cases t with
    | stack => exact rm_sound IH hg H D K
    | _ => exact go H
  | _ => exact stepT_sound hP hA hF hfin IH _ _ _ _ _ _ _ _ _ _ _ h hg H D K
include hP hA hF hfin in
theorem sound : ∀ n, Sound v w A₀ R₀ h₀ g dr os (M v n)
  | 0 => fun _ _ _ _ _ _ _ _ _ _ _ _ _ H _ _ => H.elim
  | n + 1 => step_sound hP hA hF hfin (sound n)
end

/-- the unchecked run is true in any case -/
theorem same_f {α : Type} (x y : α) : same false x y := rfl
theorem ret_f {v : Vw} {ih : Ty} (IH : ∀ tr c κ t L B m T i d u, ih tr c κ t L B m T i d u false) {tr : HL} {r : Result} {κ : KK} {L : St} {B m T i : Nat} : retM v ih tr r κ L B m T i false := by
  cases κ with
  | base => cases tr with
    | fin α τ ν ps => exact ⟨rfl, rfl, rfl, rfl⟩
    | _ => trivial
  | ret => exact IH ..
theorem okFr_f (x F : Option (List Env)) : okFr false x F := by
  cases x with
  | none => trivial
  | some l => rfl
theorem stepT_f {v : Vw} {ih : Ty} (IH : ∀ tr c κ t L B m T i d u, ih tr c κ t L B m T i d u false) : ∀ tr c κ t L B m T i d u, stepT v ih tr c κ t L B m T i d u false := by
  intro tr c κ t L B m T i d u
  cases t with
  | pure fin => cases fin with
    | done f => exact ret_f IH
    | again c' => cases tr with
      | n => exact ⟨rfl, IH ..⟩
      | j => exact ⟨rfl, rfl, rfl, rfl, rfl, okFr_f .., fun _ _ _ _ _ => ⟨rfl, by simp only [putN_eq, consN_eq]; exact ret_f IH⟩⟩
      | _ => trivial
  | raise => exact ret_f IH
  | rule => exact IH ..
  | «at» => exact IH ..
  | point => exact IH ..
  | ask k => cases tr with
    | n x tr => cases x with
      | zero => exact IH ..
      | succ => exact ⟨rfl, rfl, IH ..⟩
    | sp => exact ⟨rfl, IH .., IH ..⟩
    | sg => exact ⟨rfl, IH .., IH ..⟩
    | _ => trivial
  | fresh => exact IH ..
  | load a q k => cases tr with
    | n x tr =>
      simp only [stepT]
      split
      · split
        · exact ⟨rfl, IH ..⟩
        · trivial
      · split
        · exact ⟨rfl, IH ..⟩
        · trivial
    | _ => trivial
  | update a q f k => cases tr with
    | n x tr =>
      simp only [stepT]
      split
      · exact ⟨rfl, rfl, by rw [updN_eq]; exact IH ..⟩
      · trivial
    | _ => trivial
  | alloc => exact ⟨rfl, by rw [normO_eq]; exact IH ..⟩
  | call => cases tr with
    | n => exact ⟨rfl, IH ..⟩
    | j => exact ⟨rfl, rfl, rfl, rfl, rfl, okFr_f .., fun _ _ _ _ _ => ⟨rfl, by simp only [putN_eq, consN_eq]; exact IH ..⟩⟩
    | _ => trivial
  | handled => exact ⟨rfl, IH ..⟩
  | stack k => cases tr with
    | n x tr => cases x with
      | zero => cases tr with
        | n =>
          simp only [stepT]
          split
          · split
            · exact ⟨rfl, rfl, IH ..⟩
            · trivial
          · trivial
        | _ => trivial
      | succ x => cases x with
        | zero => exact ⟨rfl, rfl, IH ..⟩
        | succ => exact fun _ _ => IH ..
    | _ => trivial
  | _ => trivial
theorem newX_f (o : Obj) : newX false o := by
  obtain ⟨c, d, dt, sl⟩ := o
  cases dt <;> first | trivial | rfl
theorem ready_f {bk : Value} {K : St → Prop} (hK : ∀ L, K L) : ∀ (es : List Env) (fs : List Nat) (L : St), readyN bk es fs L K false
  | [], fs, L => hK L
  | e :: es, [], L => trivial
  | e :: es, f :: fs, L => by
    rcases hg : getS L f with _ | p
    · simp only [readyN, hg]
      trivial
    · simp only [readyN, hg]
      refine ⟨rfl, rfl, ?_⟩
      cases hs : p.2.slots.getD 3 none with
      | some x => exact hK L
      | none =>
        simp only [updR_eq]
        exact ready_f hK es fs _
theorem leave_f {v : Vw} {ih : Ty} (IH : ∀ tr c κ t L B m T i d u, ih tr c κ t L B m T i d u false) {pe : Nat} {fs : List Nat} {r : Value → Array Value → HL} {c : Code} {κ : KK} {t : Sem Fin} {L : St} {B m T i : Nat} : leaveM v ih pe fs r c κ t L B m T i false := by
  unfold leaveM
  split
  · trivial
  split
  · trivial
  split
  · trivial
  refine ⟨rfl, rfl, newX_f _, fun bk tb => ready_f (fun L' => ?_) _ _ _⟩
  split
  · trivial
  · refine ⟨rfl, newX_f _, ?_⟩
    rw [updN_eq]
    exact ret_f IH
theorem step_f {v : Vw} {ih : Ty} (IH : ∀ tr c κ t L B m T i d u, ih tr c κ t L B m T i d u false) : ∀ tr c κ t L B m T i d u, stepM v ih tr c κ t L B m T i d u false := by
  intro tr c κ t L B m T i d u
  cases tr with
  | lv pe fs r =>
    have go := stepT_f (v := v) IH (.lv pe fs r) c κ t L B m T i d u
    cases t with
    | load => exact leave_f IH
    | _ => exact go
  | eq x y t₀ t₁ r =>
    have go := stepT_f (v := v) IH (.eq x y t₀ t₁ r) c κ t L B m T i d u
    cases t with
    | load =>
      show eqM v ih x y t₀ t₁ r c κ _ L B m T i d u false
      unfold eqM
      split
      · trivial
      split
      · trivial
      · exact ⟨rfl, rfl, IH ..⟩
    | _ => exact go
  | rm W op x y r =>
    have go := stepT_f (v := v) IH (.rm W op x y r) c κ t L B m T i d u
    cases t with
    | stack =>
      show rmM v ih W op x y r c κ _ L B m T i d u false
      cases c with
      | func => exact ⟨rfl, rfl, IH ..⟩
      | _ => trivial
    | _ => exact go
  | _ => exact stepT_f IH ..
theorem M_f (v : Vw) : ∀ n tr c κ t L B m T i d u, M v n tr c κ t L B m T i d u false
  | 0 => fun _ _ _ _ _ _ _ _ _ _ _ => trivial
  | n + 1 => step_f (M_f v n)

/-- a contract, by a run in the kernel -/
theorem valid_of {prog : Program} {w : World} {kt : KT} {C : Ct} (n : Nat) (tr : Nat → Nat → HL) (hg : ∀ B T, Good prog w kt (tr B T))
    (e : ∀ B T, M ⟨prog, w.params, kt, C⟩ n (tr B T) C.code .base (den C.code) C.need B 0 T 0 C.D C.U true = M ⟨prog, w.params, kt, C⟩ n (tr B T) C.code .base (den C.code) C.need B 0 T 0 C.D C.U false) : Valid prog w kt C := by
  intro A s R hA hD hU hF hB hown hnd hoff hfin
  have H := (e s.heap.objs.size s.toks) ▸ M_f ⟨prog, w.params, kt, C⟩ n (tr s.heap.objs.size s.toks) C.code .base (den C.code) C.need s.heap.objs.size 0 s.toks 0 C.D C.U
  have D : Rep kt s.heap (C.need.map (·.1)) s.heap C.need s.heap.objs.size 0 :=
    ⟨rfl, Nat.le_refl _, hown, hnd, hoff, fun p hp => .inl (List.mem_map.mpr ⟨p, hp, rfl⟩), ⟨[], C.need, rfl, rfl⟩, hB, fun b o e _ => e⟩
  have z := sound (v := ⟨prog, w.params, kt, C⟩) (w := w) (A₀ := A) (R₀ := R) (h₀ := s.heap) (g := s.gens) (dr := s.drawn) (os := s.os) rfl hA hF (fun α τ ν h' tk' a => hfin α τ ν h' tk' a) n _ _ _ _ _ _ _ _ _ _ _ s.heap (hg _ _) H D (.base hD hU)
  exact y_code _ _ _ _ _ _ (by rw [den_eq]; exact z)
end Mine
/-! part Obs -/
set_option maxRecDepth 100000
namespace Mine
open PySem PySem.Spec PySem.Calls PyProof.Rows PySem.W PySem.W.X
def inst (c d : Addr) : Obj := { cls := .ref c, dict := some d }
def dic (es : List DictEntry) (n : Nat) : Obj := { cls := .type "dict", data := .dict ⟨es⟩ n }
def lst (vs : List Value) (n : Nat) : Obj := { cls := .type "list", data := .seq ⟨vs⟩ n }
def deq (st : Int) (vs : List Value) : Obj := { cls := .type "collections.deque", data := .fields ⟨.none :: .int st 0 :: vs⟩ }
def kS (l : List Nat) (t : Tok) : Value := .str ⟨⟨l⟩⟩ t
/-- the dict of a lexer of netrc -/
def netD (hs : Nat → Int) (ts : Nat → Tok) (line ins ws pb : Value) (n : Nat) : Obj := dic [
  ⟨hs 0, kS [108, 105, 110, 101, 110, 111] (ts 0), line⟩,
  ⟨hs 1, kS [105, 110, 115, 116, 114, 101, 97, 109] (ts 1), ins⟩,
  ⟨hs 2, kS [119, 104, 105, 116, 101, 115, 112, 97, 99, 101] (ts 2), ws⟩,
  ⟨hs 3, kS [112, 117, 115, 104, 98, 97, 99, 107] (ts 3), pb⟩] n
def ret0 (v : Value) : Result := .ok (.ret v)
end Mine
/-! part Bi -/
set_option maxRecDepth 100000
namespace Mine
open PySem PySem.Spec PySem.Calls PyProof.Rows PySem.W PySem.W.X

theorem valid_meets {prog : Program} {w : World} {kt : KT} {C : Ct} {T : String} {name : Str} {id : String} {B : Builtin} {self : Value} {rest : List Value} {S : PySem.Spec}
    (slot : Slot T name id) (entry : entryFor table id = some B) (args : argsOk id ⟨self :: rest, []⟩) (g : Meets (B ⟨self :: rest, []⟩) S) (hc : C.code = .call (.builtin id) ⟨self :: rest, []⟩)
    (hT : ∀ s : Shared, (∀ p ∈ C.need, s.heap.get? p.1 = some p.2) → s.TypeIs self T)
    (h : ∀ (A : Around) (R : Result → Shared → Prop) (s : Shared), (∀ p ∈ C.need, s.heap.get? p.1 = some p.2) →
      (∀ α τ ν h' tk', After C s.heap h' α τ ν → R (C.res α τ ν) { s with heap := h', toks := tk' }) → S A R s) : Valid prog w kt C := by
  intro A s R hA hD hU hF hB hown hnd hoff hfin
  rw [hc]
  exact codeAny_call_builtin slot.plain entry (slot.check _ _ _ _ _ _ _ _ (hT s hown) args (g prog w A R s (h A R s hown hfin)))

/-- nothing is turned -/
theorem after_same {C : Ct} {h : Heap} {α : Nat → Addr} {τ : Nat → Tok} {ν : Nat → Value} (hp : C.post α τ ν = objs C.need) (hn : C.new α τ ν = []) (hown : ∀ p ∈ C.need, h.get? p.1 = some p.2) : After C h h α τ ν := by
  refine ⟨fun _ _ e _ => e, Nat.le_refl _, by rw [hp, objs_eq, List.length_map]; exact Nat.le_refl _, fun p hpp => ?_, fun p hpp => ?_, ?_⟩
  · rw [hp, zip_objs] at hpp
    exact hown p hpp
  · rw [hn] at hpp
    cases hk : adrs α 0 C.k with
    | nil => rw [hk] at hpp; cases hpp
    | cons a as => rw [hk] at hpp; cases hpp
  · rw [hn]
    cases adrs α 0 C.k with
    | nil => exact List.nodup_nil
    | cons a as => exact List.nodup_nil
/-- one object is turned -/
theorem after_one {C : Ct} {h : Heap} {α : Nat → Addr} {τ : Nat → Tok} {ν : Nat → Value} {a : Addr} {o : Obj} {f : Obj → Obj} (hd : C.need = [(a, o)]) (hp : C.post α τ ν = [f o]) (hn : C.new α τ ν = []) (hown : h.get? a = some o) (hf : (f o).isFreed = false) : After C h (h.update a f) α τ ν := by
  have hs : Heap.SameBut a h (h.update a f) := Heap.SameBut.update ..
  refine ⟨fun b o' e q => ?_, Nat.le_of_eq hs.1.symm, by rw [hd, hp]; exact Nat.le_refl _, fun p hpp => ?_, fun p hpp => ?_, ?_⟩
  · rw [hd] at q
    exact (hs.2 b fun z => q (z ▸ List.mem_singleton.mpr rfl)).trans e
  · rw [hd, hp] at hpp
    rw [List.mem_singleton.mp hpp]
    exact Heap.get?_update_self f hown hf
  · rw [hn] at hpp
    cases hk : adrs α 0 C.k with
    | nil => rw [hk] at hpp; cases hpp
    | cons a as => rw [hk] at hpp; cases hpp
  · rw [hn]
    cases adrs α 0 C.k with
    | nil => exact List.nodup_nil
    | cons a as => exact List.nodup_nil

section
variable {prog : Program} {w : World} {kt : KT}
def cAppend (p : Addr) (vs : List Value) (n : Nat) (v : Value) : Ct :=
  { code := .call (.builtin "list.append") ⟨[.ref p, v], []⟩, need := [(p, lst vs n)], k := 0, res := fun _ _ _ => ret0 .none, post := fun _ _ _ => [lst (vs ++ [v]) (n + 1)], new := fun _ _ _ => [], D := 900, U := 9000 }
theorem lst_type {p : Addr} {vs : List Value} {n : Nat} {s : Shared} (h : s.heap.get? p = some (lst vs n)) : s.TypeIs (.ref p) "list" := ⟨_, h, rfl⟩
theorem vAppend (p : Addr) (vs : List Value) (n : Nat) (v : Value) (hl : vs.length ≤ 1000) : Valid prog w kt (cAppend p vs n v) := by
  have hsz : (⟨vs⟩ : Array Value).size ≤ sizeLine := Nat.le_trans hl (by decide)
  refine valid_meets F.slot_list_append F.entry_list_append (F.args_list_append_2 _ _) (PySem.AutoListH.list_append_list_val_0 p ⟨vs⟩ n v hsz) rfl (fun s h => lst_type (h _ (.head _))) fun A R s hown hfin => ⟨hown _ (.head _), ?_⟩
  refine hfin (fun _ => 0) (fun _ => 0) (fun _ => .none) _ _ (after_one (a := p) (o := lst vs n) rfl ?_ rfl (hown _ (.head _)) rfl)
  show [lst (vs ++ [v]) (n + 1)] = [Obj.mapSeq _ (lst vs n)]
  simp [lst, Obj.mapSeq]
def cPop0 (p : Addr) (vs : List Value) (n : Nat) (v : Value) (t : Tok) : Ct :=
  { code := .call (.builtin "list.pop") ⟨[.ref p, .int 0 t], []⟩, need := [(p, lst (v :: vs) n)], k := 0, res := fun _ _ _ => ret0 v, post := fun _ _ _ => [lst vs (n + 1)], new := fun _ _ _ => [], D := 900, U := 9000 }
theorem vPop0 (p : Addr) (vs : List Value) (n : Nat) (v : Value) (t : Tok) (hl : vs.length ≤ 1000) : Valid prog w kt (cPop0 p vs n v t) := by
  have hsz : (⟨v :: vs⟩ : Array Value).size ≤ sizeLine := Nat.le_trans (Nat.succ_le_succ hl) (by decide)
  refine valid_meets F.slot_list_pop F.entry_list_pop (F.args_list_pop_2 _ _) (PySem.MeetsSeq.list_pop_at p ⟨v :: vs⟩ n 0 t 0 v (by decide) (by simp [seqIndex?]) rfl hsz) rfl (fun s h => lst_type (h _ (.head _))) fun A R s hown hfin => ⟨hown _ (.head _), ?_⟩
  refine hfin (fun _ => 0) (fun _ => 0) (fun _ => .none) _ _ (after_one (a := p) (o := lst (v :: vs) n) rfl ?_ rfl (hown _ (.head _)) rfl)
  show [lst vs (n + 1)] = [Obj.mapSeq _ (lst (v :: vs) n)]
  simp [lst, Obj.mapSeq, Array.eraseIdxIfInBounds]
def cInsert (p : Addr) (vs : List Value) (n : Nat) (x : Int) (t : Tok) (v : Value) : Ct :=
  { code := .call (.builtin "list.insert") ⟨[.ref p, .int x t, v], []⟩, need := [(p, lst vs n)], k := 0, res := fun _ _ _ => ret0 .none, post := fun _ _ _ => [lst (vs.take x.toNat ++ v :: vs.drop x.toNat) (n + 1)], new := fun _ _ _ => [], D := 900, U := 9000 }
theorem fits_idx {i : Int} (h0 : 0 ≤ i) (h : i ≤ 1000) : ¬ (!Builtin.List.listFitsIndex i) = true := by
  have : Builtin.List.listFitsIndex i = true := by
    unfold Builtin.List.listFitsIndex
    simp only [Bool.and_eq_true, decide_eq_true_eq]
    constructor <;> omega
  rw [this]; decide
theorem take_size {vs : List Value} {i : Nat} {v : Value} : ((⟨vs⟩ : Array Value).extract 0 i).push v ++ (⟨vs⟩ : Array Value).extract i = ⟨vs.take i ++ v :: vs.drop i⟩ := by
  apply Array.ext'
  simp
  exact List.take_of_length_le (by simp)
theorem vInsert (p : Addr) (vs : List Value) (n : Nat) (x : Int) (t : Tok) (v : Value) (hl : vs.length ≤ 1000) (h0 : 0 ≤ x) (hi : x ≤ (vs.length : Int)) : Valid prog w kt (cInsert p vs n x t v) := by
  have hsz : (⟨vs⟩ : Array Value).size ≤ sizeLine := Nat.le_trans hl (by decide)
  refine valid_meets F.slot_list_insert F.entry_list_insert (F.args_list_insert_3 _ _ _) (PySem.AutoListH.list_insert_list_int_val_1 p ⟨vs⟩ n x t v (fits_idx h0 (by omega)) hsz) rfl (fun s h => lst_type (h _ (.head _))) fun A R s hown hfin => ⟨hown _ (.head _), ?_⟩
  refine hfin (fun _ => 0) (fun _ => 0) (fun _ => .none) _ _ (after_one (a := p) (o := lst vs n) rfl ?_ rfl (hown _ (.head _)) rfl)
  have h0 : ¬ x < 0 := by omega
  have hm : min x.toNat (⟨vs⟩ : Array Value).size = x.toNat := by
    show min x.toNat vs.length = x.toNat
    omega
  show [lst (vs.take x.toNat ++ v :: vs.drop x.toNat) (n + 1)] = [Obj.mapSeq _ (lst vs n)]
  simp only [lst, Obj.mapSeq, h0, if_false, hm, take_size]
  have hne : ((⟨vs.take x.toNat ++ v :: vs.drop x.toNat⟩ : Array Value).size == (⟨vs⟩ : Array Value).size) = false := by
    show ((vs.take x.toNat ++ v :: vs.drop x.toNat).length == vs.length) = false
    simp
    omega
  rw [hne]
  rfl
def cStrEq (a b : Str) (t u : Tok) (β : Bool) : Ct :=
  { code := .call (.builtin "str.__eq__") ⟨[.str a t, .str b u], []⟩, need := [], k := 0, res := fun _ _ _ => ret0 (.bool β), post := fun _ _ _ => [], new := fun _ _ _ => [], D := 900, U := 9000 }
theorem vStrEq (a b : Str) (t u : Tok) (β : Bool) (h : (a.cps.toList == b.cps.toList) = β) : Valid prog w kt (cStrEq a b t u β) := by
  refine valid_meets F.slot_str_eq F.entry_str_eq (F.args_str_eq_2 _ _) (gives_str_eq a b t u).meets rfl (fun s _ => typeIs_str s a t) fun A R s hown hfin => ?_
  show R (.ok (.ret (.bool _))) s
  rw [h]
  exact hfin (fun _ => 0) (fun _ => 0) (fun _ => .none) s.heap s.toks (after_same rfl rfl hown)
end
end Mine
/-! part Bi2 -/
set_option maxRecDepth 100000
namespace Mine
open PySem PySem.Spec PySem.Calls PyProof.Rows PySem.W PySem.W.X

theorem valid_slot {prog : Program} {w : World} {kt : KT} {C : Ct} {T : String} {name : Str} {id : String} {B : Builtin} {self : Value} {rest : List Value}
    (slot : Slot T name id) (entry : entryFor table id = some B) (args : argsOk id ⟨self :: rest, []⟩) (hc : C.code = .call (.builtin id) ⟨self :: rest, []⟩)
    (hT : ∀ s : Shared, (∀ p ∈ C.need, s.heap.get? p.1 = some p.2) → s.TypeIs self T)
    (h : ∀ (A : Around) (R : Result → Shared → Prop) (s : Shared), A.handled = none → (∀ p ∈ C.need, s.heap.get? p.1 = some p.2) →
      (∀ α τ ν h' tk', After C s.heap h' α τ ν → R (C.res α τ ν) { s with heap := h', toks := tk' }) →
      wpAny (model prog w) A.in1 (B ⟨self :: rest, []⟩) (fun fin s' => match fin with | .done f => R (.ok f) s' | .again c' => c'.quiet = true ∧ codeAny (model prog w) A c' R s') (fun e s' => R (.error e) s') s) : Valid prog w kt C := by
  intro A s R hA hD hU hF hB hown hnd hoff hfin
  rw [hc]
  exact codeAny_call_builtin slot.plain entry (slot.check _ _ _ _ _ _ _ _ (hT s hown) args (h A R s hA hown hfin))

def itO (l : Value) (i : Int) : Obj := { cls := .type "list_iterator", data := .fields ⟨[l, .int i 0]⟩ }
def stopO (a : Value) : Obj := { cls := .type "StopIteration", data := .fields ⟨[a, .none, .none, .none, .bool false, .none]⟩ }
section
variable {prog : Program} {w : World} {kt : KT}
def cLNext (it l : Addr) (vs : List Value) (n i : Nat) (v : Value) : Ct :=
  { code := .call (.builtin "list_iterator.__next__") ⟨[.ref it], []⟩, need := [(it, itO (.ref l) (i : Int)), (l, lst vs n)], k := 0, res := fun _ _ _ => ret0 v, post := fun _ _ _ => [itO (.ref l) ((i + 1 : Nat) : Int), lst vs n], new := fun _ _ _ => [], D := 900, U := 9000 }
/-- the first of the objects that are shown is turned -/
theorem after_first {C : Ct} {h : Heap} {α : Nat → Addr} {τ : Nat → Tok} {ν : Nat → Value} {a : Addr} {o : Obj} {f : Obj → Obj} {r : St} (hd : C.need = (a, o) :: r) (hp : C.post α τ ν = f o :: objs r) (hn : C.new α τ ν = []) (hown : ∀ p ∈ C.need, h.get? p.1 = some p.2) (hnd : (C.need.map (·.1)).Nodup) (hf : (f o).isFreed = false) : After C h (h.update a f) α τ ν := by
  have hs : Heap.SameBut a h (h.update a f) := Heap.SameBut.update ..
  rw [hd] at hown hnd
  have nd := List.nodup_cons.mp hnd
  refine ⟨fun b o' e q => ?_, Nat.le_of_eq hs.1.symm, by rw [hd, hp, objs_eq]; simp, fun p hpp => ?_, fun p hpp => ?_, ?_⟩
  · rw [hd] at q
    exact (hs.2 b fun z => q (z ▸ .head _)).trans e
  · rw [hd, hp] at hpp
    rcases List.mem_cons.mp hpp with z | z
    · rw [z]; exact Heap.get?_update_self f (hown _ (.head _)) hf
    · have z' : p ∈ r := by
        have := zip_objs r
        rw [this] at z; exact z
      refine (hs.2 p.1 fun q => nd.1 (List.mem_map.mpr ⟨p, z', q⟩)).trans (hown p (.tail _ z'))
  · rw [hn] at hpp
    cases hk : adrs α 0 C.k with
    | nil => rw [hk] at hpp; cases hpp
    | cons a as => rw [hk] at hpp; cases hpp
  · rw [hn]
    cases adrs α 0 C.k with
    | nil => exact List.nodup_nil
    | cons a as => exact List.nodup_nil
theorem vLNext (it l : Addr) (vs : List Value) (n i : Nat) (v : Value) (hv : vs[i]? = some v) : Valid prog w kt (cLNext it l vs n i v) := by
  intro A s R hA hD hU hF hB hown hnd hoff hfin
  have hit := hown (it, itO (.ref l) (i : Int)) (.head _)
  have hl := hown (l, lst vs n) (.tail _ (.head _))
  refine codeAny_call_builtin slot_listiter_next.plain entry_listiter_next (slot_listiter_next.check _ _ _ _ _ _ _ _ ⟨_, hit, rfl⟩ (args_listiter_next _) ?_)
  show wpAny _ _ (field (.ref it) 0 >>= _) _ _ s
  refine wpAny_bind (wpAny_field hit rfl (x := .ref l) rfl ?_)
  show wpAny _ _ (if (Value.ref l == Value.none) = true then _ else _) _ _ s
  rw [if_neg (show ¬ ((Value.ref l == Value.none) = true) from Bool.false_ne_true)]
  show wpAny _ _ (field (.ref it) 1 >>= _) _ _ s
  refine wpAny_bind (wpAny_field hit rfl (x := .int i 0) rfl ?_)
  show wpAny _ _ (seqItems? (.ref l) >>= _) _ _ s
  refine wpAny_bind (wpAny_seqItems hl rfl ?_)
  simp only [Int.toNat_natCast, show (⟨vs⟩ : Array Value)[i]? = some v by simpa using hv]
  refine wpAny_bind (wpAny_setField hit rfl (by simp) (wpAny_pure ?_))
  exact hfin (fun _ => 0) (fun _ => 0) (fun _ => .none) _ _ (after_first (a := it) (o := itO (.ref l) (i : Int)) (f := Obj.mapFields (·.setIfInBounds 1 (rawInt ((i : Int) + 1)))) (r := [(l, lst vs n)]) rfl (by simp [cLNext, itO, Obj.mapFields, rawInt, objs]) rfl hown hnd rfl)
/-- the list is at its end -/
def cLEnd (it l : Addr) (vs : List Value) (n i : Nat) : Ct :=
  { code := .call (.builtin "list_iterator.__next__") ⟨[.ref it], []⟩, need := [(it, itO (.ref l) (i : Int)), (l, lst vs n)], k := 1, res := fun α _ _ => .error (.ref (α 0)), post := fun _ _ _ => [itO .none (i : Int), lst vs n], new := fun _ _ ν => [stopO (ν 0)], D := 900, U := 9000 }
theorem after_first_new {C : Ct} {h : Heap} {α : Nat → Addr} {τ : Nat → Tok} {ν : Nat → Value} {a : Addr} {o o1 o2 : Obj} {f : Obj → Obj} {r : St} (hd : C.need = (a, o) :: r) (hp : C.post α τ ν = f o :: objs r) (hn : C.new α τ ν = [o2]) (hk : C.k = 1) (hα : α 0 = h.objs.size + 1)
    (hown : ∀ p ∈ C.need, h.get? p.1 = some p.2) (hnd : (C.need.map (·.1)).Nodup) (hf : (f o).isFreed = false) (h2 : o2.isFreed = false) : After C h (((h.update a f).push o1).push o2) α τ ν := by
  have hs : Heap.SameBut a h (h.update a f) := Heap.SameBut.update ..
  have up : ∀ b o', (h.update a f).get? b = some o' → (((h.update a f).push o1).push o2).get? b = some o' := fun b o' e => Heap.get?_push_of_some _ (Heap.get?_push_of_some _ e)
  rw [hd] at hown hnd
  have nd := List.nodup_cons.mp hnd
  have sz : ((h.update a f).push o1).objs.size = h.objs.size + 1 := by rw [Heap.size_push, hs.1]
  refine ⟨fun b o' e q => ?_, ?_, by rw [hd, hp, objs_eq]; simp, fun p hpp => ?_, fun p hpp => ?_, ?_⟩
  · rw [hd] at q
    exact up _ _ ((hs.2 b fun z => q (z ▸ .head _)).trans e)
  · rw [Heap.size_push, sz]; omega
  · rw [hd, hp] at hpp
    rcases List.mem_cons.mp hpp with z | z
    · rw [z]; exact up _ _ (Heap.get?_update_self f (hown _ (.head _)) hf)
    · have z' : p ∈ r := by
        have := zip_objs r
        rw [this] at z; exact z
      refine up _ _ ((hs.2 p.1 fun q => nd.1 (List.mem_map.mpr ⟨p, z', q⟩)).trans (hown p (.tail _ z')))
  · rw [hn, hk] at hpp
    have z : p = (α 0, o2) := by simpa [adrs, zipO] using hpp
    rw [z, hα]
    refine ⟨?_, Nat.le_succ _⟩
    show (((h.update a f).push o1).push o2).get? (h.objs.size + 1) = some o2
    rw [← sz]; exact Heap.get?_push_size _ h2
  · rw [hn, hk]; simp [adrs, zipO]
theorem vLEnd (it l : Addr) (vs : List Value) (n i : Nat) (hv : vs[i]? = none) : Valid prog w kt (cLEnd it l vs n i) := by
  intro A s R hA hD hU hF hB hown hnd hoff hfin
  have hit := hown (it, itO (.ref l) (i : Int)) (.head _)
  have hl := hown (l, lst vs n) (.tail _ (.head _))
  refine codeAny_call_builtin slot_listiter_next.plain entry_listiter_next (slot_listiter_next.check _ _ _ _ _ _ _ _ ⟨_, hit, rfl⟩ (args_listiter_next _) ?_)
  show wpAny _ _ (field (.ref it) 0 >>= _) _ _ s
  refine wpAny_bind (wpAny_field hit rfl (x := .ref l) rfl ?_)
  show wpAny _ _ (if (Value.ref l == Value.none) = true then _ else _) _ _ s
  rw [if_neg (show ¬ ((Value.ref l == Value.none) = true) from Bool.false_ne_true)]
  show wpAny _ _ (field (.ref it) 1 >>= _) _ _ s
  refine wpAny_bind (wpAny_field hit rfl (x := .int i 0) rfl ?_)
  show wpAny _ _ (seqItems? (.ref l) >>= _) _ _ s
  refine wpAny_bind (wpAny_seqItems hl rfl ?_)
  simp only [Int.toNat_natCast, show (⟨vs⟩ : Array Value)[i]? = none by simpa using hv]
  refine wpAny_bind (wpAny_rule (wpAny_bind (wpAny_setField hit rfl (by simp) ?_)))
  show wpAny _ _ (newExc (.type "StopIteration") [] >>= _) _ _ _
  refine wpAny_bind ?_
  simp only [newExc, newTuple]
  refine wpAny_bind (wpAny_newObj_type ?_ (by size_fits))
  refine wpAny_bind (m := firstArgMember _ _) (wpAny_of_eq (a := Value.none) (by first | rfl | (simp only [firstArgMember]; rfl)) ?_)
  refine wpAny_newObj_type ?_ (by size_fits)
  simp only [raiseNew]
  refine wpAny_bind (wpAny_handled ?_)
  rw [show A.in1.handled = none from hA]
  refine wpAny_bind (wpAny_pure (wpAny_throw ?_))
  have hsz : ((s.heap.update it (Obj.mapFields (·.setIfInBounds 0 Value.none))).push { cls := .type "tuple", data := .seq #[] 0 }).objs.size = s.heap.objs.size + 1 := by
    rw [Heap.size_push, Heap.size_update]
  refine (congrArg (fun x => R (.error (.ref x)) _) hsz).mpr ?_
  exact hfin (fun _ => s.heap.objs.size + 1) (fun _ => 0) (fun _ => .ref s.heap.objs.size) _ _ (by
    rw [Heap.size_update, show ownMembersOf (.type "StopIteration") [] = #[] from by kernel_rfl]
    exact after_first_new (a := it) (o := itO (.ref l) (i : Int)) (f := Obj.mapFields (·.setIfInBounds 0 Value.none)) (r := [(l, lst vs n)]) rfl (by simp [cLEnd, itO, Obj.mapFields, objs]) rfl rfl rfl hown hnd rfl rfl)
end
end Mine
/-! part Ext -/
set_option maxRecDepth 100000
namespace Mine
open PySem PySem.Spec PySem.Calls PyProof.Rows PySem.W PySem.W.X
noncomputable def extF (self it r : Value) : Sem PySem.Fin := PySem.W.Fast.tw8938917530802602619 self it r
noncomputable def extNe (self it r : Value) : { t : Sem PySem.Fin // PySem.Builtin.List.listSameRef self it = false → extF self it r = t } := by
  refine ⟨?_, fun h => ?_⟩
  rotate_left
  · unfold extF PySem.W.Fast.tw8938917530802602619
    simp only [h, Bool.false_or]
    exact rfl
theorem extNe_is (a b : Addr) (r : Value) (h : a ≠ b) : extF (.ref a) (.ref b) r = (extNe (.ref a) (.ref b) r).1 := (extNe _ _ _).2 (by simp [PySem.Builtin.List.listSameRef, h])
set_option pp.proofs true
end Mine
/-! part Wr -/
set_option maxRecDepth 100000
set_option linter.unusedVariables false
namespace Mine
open PySem PySem.Spec PySem.Calls PyProof.Rows PySem.W PySem.W.X
/-! what stands around a comparison in a def's statements -/
noncomputable def holdT {α : Type} : List Value → Sem α → Sem α := @PySem.W.Fast.tw17359229931016689406 α
noncomputable def relT : List Value → List Value → Sem Unit := PySem.W.Fast.tw16427652380498605876
noncomputable def binT : Operator → Value → Value → Sem Value := PySem.W.Fast.tw2036766266224100846
noncomputable def cmpT : CmpOp → Value → Value → Sem Value := PySem.W.Fast.tw12886488535604756494
noncomputable def trueT : Value → Sem Bool := PySem.W.Fast.tw15245631507167962100
noncomputable def swapT : List Expr → Expr → Env → Sem (Option (List Str)) := PySem.W.Fast.tw4016559146275205325
noncomputable def storeT : Env → Value → Option (List Str) → List (Value → Sem Unit) → Sem Flow := PySem.W.Fast.tw2470068587113613483
noncomputable def asgT : List Expr → Env → List (Bool × (Value → Sem Unit)) := PySem.W.Fast.tw15628205474173192105
noncomputable def spliT : List (Bool × Sem Value) → Sem (List Value) := PySem.W.Fast.tw5798641394067236252
noncomputable def backT : Pos → List (Bool × Sem Value) → List (Bool × Sem Value) := PySem.W.Fast.tw4897270859577272712
noncomputable def starT : List Expr → Env → List (Bool × Sem Value) := PySem.W.Fast.tw13897175071876407860
noncomputable def listT : List Value → Sem Value := PySem.W.Fast.tw2244487426110161322
open PySem.W.R (bindR onRaiseR)
noncomputable def fnW (env : Env) (m : Sem Flow) : Sem Fin := bindR (onRaiseR m (leavF env)) funK
noncomputable def stW (rest : List Stmt) (env : Env) (m : Sem Flow) : Sem Flow := bindR m fun fl => match fl with
  | .next => exT rest env
  | f => .pure f
noncomputable def retW (m : Sem Value) : Sem Flow := bindR m fun v => .pure (.ret v)
noncomputable def opW (x y : Value) (m : Sem Value) : Sem Value := bindR (holdT [x, y] m) fun r => bindR (relT [x, y] [r]) fun _ => .pure r
noncomputable def tstW (x y : Value) (m : Sem Value) : Sem Bool := bindR (opW x y m) fun c => holdT [c] (trueT c)
noncomputable def ifxW (e1 e2 : Expr) (env : Env) (x y : Value) (m : Sem Value) : Sem Value := bindR (tstW x y m) fun b => if b = true then evT e1 env else evT e2 env
/-- return (m) - (x < y): at the first -/
noncomputable def cmpW1 (a b : Addr) (body : List Stmt) (env : Env) (m : Sem Value) : Sem Fin := match body with
  | .Return (some (.BinOp _ op r p)) _ :: rest => fnW env (stW rest env (retW (bindR (opW (.ref a) (.ref b) m) fun x => bindR (holdT [x] (evT r env)) fun y => bindR (standAt p) fun _ => opW x y (binT op x y))))
  | _ => bindR m fun _ => .pure (.done .next)
/-- at the second -/
noncomputable def cmpW2 (v : Value) (a b : Addr) (body : List Stmt) (env : Env) (m : Sem Value) : Sem Fin := match body with
  | .Return (some (.BinOp _ op r p)) _ :: rest => fnW env (stW rest env (retW (bindR (opW (.ref a) (.ref b) m) fun y => bindR (standAt p) fun _ => opW v y (binT op v y))))
  | _ => bindR m fun _ => .pure (.done .next)
theorem sCmp1 (a b : Addr) (body : List Stmt) (env : Env) : Strict (cmpW1 a b body env) := by
  unfold cmpW1
  split <;> exact ⟨fun _ => rfl, fun _ => rfl⟩
theorem sCmp2 (v : Value) (a b : Addr) (body : List Stmt) (env : Env) : Strict (cmpW2 v a b body env) := by
  unfold cmpW2
  split <;> exact ⟨fun _ => rfl, fun _ => rfl⟩
/-- n = e1 if m else e2 -/
noncomputable def lawW0 (i : Nat) (a b : Addr) (body : List Stmt) (env : Env) (m : Sem Value) : Sem Fin := match body.drop i with
  | .Assign ts (.IfExp te e1 e2 p) _ :: rest => fnW env (stW rest env (bindR (ifxW e1 e2 env (.ref a) (.ref b) m) fun v => bindR (swapT ts (.IfExp te e1 e2 p) env) fun s => storeT env v s ((asgT ts env).map (·.2))))
  | _ => bindR m fun _ => .pure (.done .next)
theorem sLaw0 (i : Nat) (a b : Addr) (body : List Stmt) (env : Env) : Strict (lawW0 i a b body env) := by
  unfold lawW0
  split <;> exact ⟨fun _ => rfl, fun _ => rfl⟩
/-- if m: .. -/
noncomputable def lawWif (i : Nat) (a b : Addr) (body : List Stmt) (env : Env) (m : Sem Value) : Sem Fin := match body.drop i with
  | .If _ s1 s2 _ :: rest => fnW env (stW rest env (bindR (tstW (.ref a) (.ref b) m) fun c => if c = true then exT s1 env else exT s2 env))
  | _ => bindR m fun _ => .pure (.done .next)
theorem sLawif (i : Nat) (a b : Addr) (body : List Stmt) (env : Env) : Strict (lawWif i a b body env) := by
  unfold lawWif
  split <;> exact ⟨fun _ => rfl, fun _ => rfl⟩
/-- return l == [0 if m else -1, ..] -/
noncomputable def lawWr1 (i : Nat) (l : Addr) (a b : Addr) (body : List Stmt) (env : Env) (m : Sem Value) : Sem Fin := match body.drop i with
  | .Return (some (.Compare _ [op] [.List [.IfExp _ e1 e2 _, e] p2] p)) _ :: rest => fnW env (stW rest env (retW (bindR (holdT [.ref l] (bindR (bindR (ifxW e1 e2 env (.ref a) (.ref b) m) fun v => bindR (.pure [v]) fun here => bindR (holdT here (spliT (backT p2 (starT [e] env)))) fun r => .pure (here ++ r)) fun vs => listT vs)) fun rv => bindR (standAt p) fun _ => opW (.ref l) rv (cmpT op (.ref l) rv))))
  | _ => bindR m fun _ => .pure (.done .next)
theorem sLawr1 (i : Nat) (l : Addr) (a b : Addr) (body : List Stmt) (env : Env) : Strict (lawWr1 i l a b body env) := by
  unfold lawWr1
  split <;> exact ⟨fun _ => rfl, fun _ => rfl⟩
/-- return l == [v, 0 if m else -1] -/
noncomputable def lawWr2 (i : Nat) (l : Addr) (n : Int) (t : Tok) (a b : Addr) (body : List Stmt) (env : Env) (m : Sem Value) : Sem Fin := match body.drop i with
  | .Return (some (.Compare _ [op] [.List [_, .IfExp _ e1 e2 _] p2] p)) _ :: rest => fnW env (stW rest env (retW (bindR (holdT [.ref l] (bindR (bindR (holdT [.int n t] (bindR (ifxW e1 e2 env (.ref a) (.ref b) m) fun v => bindR (.pure [v]) fun here => bindR (holdT here (spliT (backT p2 (starT [] env)))) fun r => .pure (here ++ r))) fun r => .pure ([.int n t] ++ r)) fun vs => listT vs)) fun rv => bindR (standAt p) fun _ => opW (.ref l) rv (cmpT op (.ref l) rv))))
  | _ => bindR m fun _ => .pure (.done .next)
theorem sLawr2 (i : Nat) (l : Addr) (n : Int) (t : Tok) (a b : Addr) (body : List Stmt) (env : Env) : Strict (lawWr2 i l n t a b body env) := by
  unfold lawWr2
  split <;> exact ⟨fun _ => rfl, fun _ => rfl⟩
/-- return m -/
noncomputable def lawWr3 (i : Nat) (a b : Addr) (body : List Stmt) (env : Env) (m : Sem Value) : Sem Fin := match body.drop i with
  | .Return (some _) _ :: rest => fnW env (stW rest env (retW (opW (.ref a) (.ref b) m)))
  | _ => bindR m fun _ => .pure (.done .next)
theorem sLawr3 (i : Nat) (a b : Addr) (body : List Stmt) (env : Env) : Strict (lawWr3 i a b body env) := by
  unfold lawWr3
  split <;> exact ⟨fun _ => rfl, fun _ => rfl⟩
end Mine
/-! part H1 -/
set_option maxRecDepth 100000
set_option linter.unusedVariables false
namespace Mine
open PySem PySem.Spec PySem.Calls PyProof.Rows PySem.W PySem.W.X
/-! the text's own run, worked out at once, by bare recursors -/
section
variable {β : Type}
noncomputable def listA {α : Type} (l : List α) (k : List α → Option β) : Option β :=
  List.rec (motive := fun _ => (List α → Option β) → Option β) (fun k => k []) (fun x _ ih k => ih fun r => k (x :: r)) l k
noncomputable def entsA (l : List DictEntry) (k : List DictEntry → Option β) : Option β :=
  List.rec (motive := fun _ => (List DictEntry → Option β) → Option β) (fun k => k [])
    (fun e _ ih k => DictEntry.rec (motive := fun _ => Option β) (fun h key v => ih (fun r' => k (⟨h, key, v⟩ :: r'))) e) l k
noncomputable def objA (o : Obj) (k : Obj → Option β) : Option β :=
  Obj.rec (motive := fun _ => Option β) (fun cls dict data slots => match data with
    | .dict es n => Array.rec (motive := fun _ => Option β) (fun l => entsA l (fun l' => k ⟨cls, dict, .dict ⟨l'⟩ n, slots⟩)) es
    | .seq es n => Array.rec (motive := fun _ => Option β) (fun l => listA l (fun l' => k ⟨cls, dict, .seq ⟨l'⟩ n, slots⟩)) es
    | .fields es => Array.rec (motive := fun _ => Option β) (fun l => listA l (fun l' => k ⟨cls, dict, .fields ⟨l'⟩, slots⟩)) es
    | d => k ⟨cls, dict, d, slots⟩) o
theorem listA_eq {α : Type} : ∀ (l : List α) (k : List α → Option β), listA l k = k l
  | [], k => rfl
  | x :: r, k => listA_eq r fun r => k (x :: r)
theorem entsA_eq : ∀ (l : List DictEntry) (k : List DictEntry → Option β), entsA l k = k l
  | [], k => rfl
  | ⟨h, key, v⟩ :: r, k => entsA_eq r fun r' => k (⟨h, key, v⟩ :: r')
theorem objA_eq (o : Obj) (k : Obj → Option β) : objA o k = k o := by
  obtain ⟨cls, dict, data, slots⟩ := o
  cases data with
  | dict es n => obtain ⟨l⟩ := es; exact entsA_eq l _
  | seq es n => obtain ⟨l⟩ := es; exact listA_eq l _
  | fields es => obtain ⟨l⟩ := es; exact listA_eq l _
  | _ => rfl
noncomputable def natA (n : Nat) (k : Nat → Option β) : Option β := Nat.rec (motive := fun _ => Option β) (k 0) (fun m _ => k (m + 1)) n
theorem natA_eq (n : Nat) (k : Nat → Option β) : natA n k = k n := by cases n <;> rfl
noncomputable def setA (T : BT) (i : Nat) (f : Obj → Obj) (k : BT → Option β) : Option β :=
  BT.rec (motive := fun _ => Nat → (BT → Option β) → Option β) (fun _ k => k .nil) (fun v l r ihl ihr i k => match Nat.beq i 0 with
    | true => objA (f v) fun v' => k (.node v' l r)
    | false => match Nat.beq (i % 2) 1 with
      | true => ihl (i / 2) fun l' => k (.node v l' r)
      | false => ihr (i / 2 - 1) fun r' => k (.node v l r')) T i k
theorem setA_eq (f : Obj → Obj) : ∀ (T : BT) (i : Nat) (k : BT → Option β), setA T i f k = k (T.set i f)
  | .nil, i, k => rfl
  | .node v l r, i, k => by
    show (match Nat.beq i 0 with
      | true => objA (f v) fun v' => k (.node v' l r)
      | false => match Nat.beq (i % 2) 1 with
        | true => setA l (i / 2) f fun l' => k (.node v l' r)
        | false => setA r (i / 2 - 1) f fun r' => k (.node v l r')) = k (match Nat.beq i 0 with
      | true => .node (f v) l r
      | false => match Nat.beq (i % 2) 1 with
        | true => .node v (l.set (i / 2) f) r
        | false => .node v l (r.set (i / 2 - 1) f))
    cases Nat.beq i 0 with
    | true => exact objA_eq ..
    | false => cases Nat.beq (i % 2) 1 with
      | true => exact setA_eq f l _ _
      | false => exact setA_eq f r _ _
noncomputable def insA (T : BT) (i : Nat) (o : Obj) (k : BT → Option β) : Option β :=
  BT.rec (motive := fun _ => Nat → (BT → Option β) → Option β) (fun _ k => objA o fun o' => k (.node o' .nil .nil)) (fun v l r ihl ihr i k => match Nat.beq i 0 with
    | true => objA o fun o' => k (.node o' l r)
    | false => match Nat.beq (i % 2) 1 with
      | true => ihl (i / 2) fun l' => k (.node v l' r)
      | false => ihr (i / 2 - 1) fun r' => k (.node v l r')) T i k
theorem insA_eq (o : Obj) : ∀ (T : BT) (i : Nat) (k : BT → Option β), insA T i o k = k (T.ins i o)
  | .nil, i, k => objA_eq o fun o' => k (.node o' .nil .nil)
  | .node v l r, i, k => by
    show (match Nat.beq i 0 with
      | true => objA o fun o' => k (.node o' l r)
      | false => match Nat.beq (i % 2) 1 with
        | true => insA l (i / 2) o fun l' => k (.node v l' r)
        | false => insA r (i / 2 - 1) o fun r' => k (.node v l r')) = k (match Nat.beq i 0 with
      | true => .node o l r
      | false => match Nat.beq (i % 2) 1 with
        | true => .node v (l.ins (i / 2) o) r
        | false => .node v l (r.ins (i / 2 - 1) o))
    cases Nat.beq i 0 with
    | true => exact objA_eq ..
    | false => cases Nat.beq (i % 2) 1 with
      | true => exact insA_eq o l _ _
      | false => exact insA_eq o r _ _
abbrev Kn (β : Type) := BT → Nat → Nat → Thread → Option β
abbrev Rn (β : Type) := BT → Nat → Nat → Thread → Kn β → Option β
/-- what stays -/
structure St0 where
  den : Code → Sem Fin
  p : Program
  w : World
  life : Life
  drawn : Drawn
  os : OsState
def St0.at (z : St0) (T : BT) (n tk : Nat) : SharedT := ⟨T, n, z.life, #[], z.drawn, tk, z.os⟩
noncomputable def stepA (z : St0) (ok : Thread → Bool) (ih : Rn β) (T : BT) (n tk : Nat) (t : Thread) (K : Kn β) : Option β :=
  match ok t with
  | false => none
  | true => match t with
    | ⟨cur, code, pos, stack⟩ => match cur with
      | .rule _ k => ih T n tk ⟨k (), code, pos, stack⟩ K
      | .at p k => ih T n tk ⟨k (), code, p, stack⟩ K
      | .point _ k => ih T n tk ⟨k (), code, pos, stack⟩ K
      | .ask k => ih T n tk ⟨k ⟨z.p, z.w.params⟩, code, pos, stack⟩ K
      | .fresh k => natA (tk + 1) fun tk' => ih T n tk' ⟨k tk, code, pos, stack⟩ K
      | .load a _ k => match Nat.blt a n with
        | true => match T.get a with
          | some o => match alive o with
            | some o' => ih T n tk ⟨k o', code, pos, stack⟩ K
            | none => none
          | none => none
        | false => none
      | .update a _ f k => match Nat.blt a n with
        | true => match T.get a with
          | some o => match alive o with
            | some _ => setA T a f fun T' => ih T' n tk ⟨k (), code, pos, stack⟩ K
            | none => none
          | none => none
        | false => none
      | .alloc o k => insA T n o fun T' => match (T'.get n).isSome with
        | true => natA (n + 1) fun n' => ih T' n' tk ⟨k n, code, pos, stack⟩ K
        | false => none
      | .loadIfAlive a k => match Nat.blt a n with
        | true => match T.get a with
          | some o => ih T n tk ⟨k (alive o), code, pos, stack⟩ K
          | none => none
        | false => ih T n tk ⟨k none, code, pos, stack⟩ K
      | .pure fin => match fin with
        | .done fl => match stack with
          | .ret k _ _ _ c p _ :: rest => ih T n tk ⟨k (.ok fl), c, p, rest⟩ K
          | _ => none
        | .again c => match step z.den z.p z.w ⟨{}, #[], z.drawn, tk, z.os⟩ ⟨.pure (.again c), code, pos, stack⟩ with
          | .go _ t' => ih T n tk t' K
          | .halt _ _ => none
      | .raise e => match stack with
        | .ret k _ _ _ c p _ :: rest => ih T n tk ⟨k (.error e), c, p, rest⟩ K
        | _ => none
      | .call c h g l k => match step z.den z.p z.w ⟨{}, #[], z.drawn, tk, z.os⟩ ⟨.call c h g l k, code, pos, stack⟩ with
        | .go _ t' => ih T n tk t' K
        | .halt _ _ => none
      | .handled own k => match step z.den z.p z.w ⟨{}, #[], z.drawn, tk, z.os⟩ ⟨.handled own k, code, pos, stack⟩ with
        | .go _ t' => ih T n tk t' K
        | .halt _ _ => none
      | .stack k => match step z.den z.p z.w ⟨{}, #[], z.drawn, tk, z.os⟩ ⟨.stack k, code, pos, stack⟩ with
        | .go _ t' => ih T n tk t' K
        | .halt _ _ => none
      | _ => none
noncomputable def runA (z : St0) (ok : Thread → Bool) (f : Nat) : Rn β :=
  Nat.rec (motive := fun _ => Rn β) (fun T n tk t K => K T n tk t) (fun _ ih => stepA z ok ih) f
/-- the same in the machine -/
def goS (den : Code → Sem Fin) (p : Program) (w : World) (ok : Thread → Bool) : Nat → Shared → Thread → Option (Shared × Thread)
  | 0, s, t => some (s, t)
  | f + 1, s, t => match ok t with
    | false => none
    | true => match step den p w s t with
      | .go s' t' => goS den p w ok f s' t'
      | .halt _ _ => none
theorem runA_spec {z : St0} {ok : Thread → Bool} : ∀ (f : Nat) {T : BT} {n tk : Nat} {t : Thread} {K : Kn β} {r : β}, runA z ok f T n tk t K = some r →
    ∃ T' n' tk' t', goS z.den z.p z.w ok f (z.at T n tk).abs t = some ((z.at T' n' tk').abs, t') ∧ K T' n' tk' t' = some r
  | 0, T, n, tk, t, K, r, h => ⟨T, n, tk, t, rfl, h⟩
  | f + 1, T, n, tk, t, K, r, h => by
    have h : stepA z ok (runA z ok f) T n tk t K = some r := h
    unfold stepA at h
    unfold goS
    cases ho : ok t with
    | false => rw [ho] at h; cases h
    | true =>
      rw [ho] at h
      simp only at h
      have go : ∀ {T' n' tk' t'}, PySem.W.stepT z.den z.p z.w (z.at T n tk) t = some (z.at T' n' tk', t') → runA z ok f T' n' tk' t' K = some r →
          ∃ T'' n'' tk'' t'', (match step z.den z.p z.w (z.at T n tk).abs t with
            | .go s' t' => goS z.den z.p z.w ok f s' t'
            | .halt _ _ => none) = some ((z.at T'' n'' tk'').abs, t'') ∧ K T'' n'' tk'' t'' = some r := fun e h => by
        rw [stepT_spec e]
        exact runA_spec f h
      obtain ⟨cur, code, pos, stack⟩ := t
      cases cur with
      | rule s k => exact go rfl h
      | «at» p k => exact go rfl h
      | point l k => exact go rfl h
      | ask k => exact go rfl h
      | fresh k => simp only [natA_eq] at h; exact go rfl h
      | load a q k =>
        cases e1 : Nat.blt a n with
        | false => simp only [e1] at h; cases h
        | true => cases e2 : T.get a with
          | none => simp only [e1, e2] at h; cases h
          | some o => cases e3 : alive o with
            | none => simp only [e1, e2, e3] at h; cases h
            | some o' =>
              simp only [e1, e2, e3] at h
              exact go (by simp only [PySem.W.stepT, St0.at, e1, e2, e3]) h
      | update a q g k =>
        cases e1 : Nat.blt a n with
        | false => simp only [e1] at h; cases h
        | true => cases e2 : T.get a with
          | none => simp only [e1, e2] at h; cases h
          | some o => cases e3 : alive o with
            | none => simp only [e1, e2, e3] at h; cases h
            | some o' =>
              simp only [e1, e2, e3, setA_eq] at h
              exact go (by simp only [PySem.W.stepT, St0.at, e1, e2, e3]) h
      | alloc o k =>
        simp only [insA_eq] at h
        cases e1 : ((T.ins n o).get n).isSome with
        | false => simp only [e1] at h; cases h
        | true =>
          simp only [e1, natA_eq] at h
          exact go (by simp only [PySem.W.stepT, St0.at, e1]) h
      | loadIfAlive a k =>
        cases e1 : Nat.blt a n with
        | false =>
          simp only [e1] at h
          exact go (by simp only [PySem.W.stepT, St0.at, e1]) h
        | true => cases e2 : T.get a with
          | none => simp only [e1, e2] at h; cases h
          | some o =>
            simp only [e1, e2] at h
            exact go (by simp only [PySem.W.stepT, St0.at, e1, e2]) h
      | pure fin => cases fin with
        | done fl => cases stack with
          | nil => cases h
          | cons fr rest => cases fr with
            | ret => exact go rfl h
            | gen => cases h
        | again c => exact go rfl h
      | raise e => cases stack with
        | nil => cases h
        | cons fr rest => cases fr with
          | ret => exact go rfl h
          | gen => cases h
      | call c hd g l k => exact go rfl h
      | handled own k => exact go rfl h
      | stack k => exact go rfl h
      | _ => cases h
end
end Mine
/-! part H4 -/
set_option maxRecDepth 100000
set_option linter.unusedVariables false
namespace Mine
open PySem PySem.Spec PySem.Calls PyProof.Rows PySem.W PySem.W.X
/-! the text's run, from the start to its end, and the looks at what it leaves -/
noncomputable def startQ : Program → Shared × Thread := PySem.W.Fast.tw1435165496053646825
noncomputable def exitQ : Thread → Option (List Value) := PySem.W.Fast.tw3805553451399329143
noncomputable def fenceQ : Program → Shared → Option Shared := PySem.W.Fast.tw14289696077712309145
noncomputable def nsQ : Heap → Addr → Str → Option Value := PySem.W.Fast.tw8920871248978507458
noncomputable def okQ : Nat → Option Value → Thread → Bool := PySem.W.Fast.tw6613529449190102663
theorem startQ_eq : start = startQ := PySem.W.Fast.te1435165496053646825
theorem exitQ_eq : Thread.atExitBegin = exitQ := PySem.W.Fast.te3805553451399329143
theorem fenceQ_eq : fenceModules? = fenceQ := PySem.W.Fast.te14289696077712309145
theorem nsQ_eq : Heap.nsMap = nsQ := PySem.W.Fast.te8920871248978507458
theorem okQ_eq : stepOk = okQ := PySem.W.Fast.te6613529449190102663
theorem denT : denote treeTable = den := by rw [← table_eq_tree]; exact den_eq
noncomputable def okI (t : Thread) : Bool := match exitQ t with | none => true | some _ => false
noncomputable def okT (n₀ : Nat) (ann : Option Value) (t : Thread) : Bool := match through t with | true => false | false => okQ n₀ ann t
section
variable {β : Type}
/-- the objects in a row, and a tree of them -/
noncomputable def rowA (T : BT) (n : Nat) (k : List Obj → Option β) : Option β := listA ((List.range' 0 n).map fun i => (T.get i).getD default) k
noncomputable def treeA (l : List Obj) (T : BT) (n : Nat) (k : BT → Nat → Option β) : Option β :=
  List.rec (motive := fun _ => BT → Nat → (BT → Nat → Option β) → Option β) (fun T n k => k T n) (fun o _ ih T n k => insA T n o fun T' => match (T'.get n).isSome with
    | true => natA (n + 1) fun n' => ih T' n' k
    | false => none) l T n k
noncomputable def afterA (p : Program) (w : World) (f : Nat) (s₀ : Shared) (K : Shared → Kn β) : Option β :=
  match s₀.gens.toList with
  | [] => match s₀.heap.isNs mainGlobals with
    | true => treeA s₀.heap.objs.toList .nil 0 fun T n => natA s₀.toks fun tk => runA ⟨den, p, w, s₀.heap.life, s₀.drawn, s₀.os⟩ (okT n (nsQ s₀.heap mainGlobals "__annotations__")) f T n tk (topStub p) (K s₀)
    | false => none
  | _ => none
noncomputable def headA (p : Program) (w : World) (e f : Nat) (K : Shared → Kn β) : Option β :=
  runA ⟨den, opening p, w, {}, {}, (startQ (opening p)).1.os⟩ okI e .nil 0 1 (startQ (opening p)).2 fun T n tk t => match exitQ t with
    | some [] => rowA T n fun l => match fenceQ p ⟨⟨⟨l⟩, {}⟩, #[], {}, tk, (startQ (opening p)).1.os⟩ with
      | some s₀ => afterA p w f s₀ K
      | none => none
    | _ => none
noncomputable def endA (look : Shared → Shared → Option β) (s₀ : Shared) : Kn β := fun T n tk t => match through t with
  | true => rowA T n fun l => look s₀ ⟨⟨⟨l⟩, s₀.heap.life⟩, #[], s₀.drawn, tk, s₀.os⟩
  | false => none
theorem row_is (T : BT) (n : Nat) (life : Life) : (⟨⟨(List.range' 0 n).map fun i => (T.get i).getD default⟩, life⟩ : Heap) = absHeap T n life := by
  unfold absHeap BT.list
  rw [List.range_eq_range']
theorem treeA_spec : ∀ (l : List Obj) (T : BT) (n : Nat) (k : BT → Nat → Option β) (r : β), treeA l T n k = some r → ∃ T', k T' (n + l.length) = some r ∧ ∀ life, absHeap T' (n + l.length) life = ⟨(absHeap T n life).objs ++ l.toArray, life⟩
  | [], T, n, k, r, h => ⟨T, h, fun life => by simp; rfl⟩
  | o :: l, T, n, k, r, h => by
    have h : (insA T n o fun T' => match (T'.get n).isSome with
      | true => natA (n + 1) fun n' => treeA l T' n' k
      | false => none) = some r := h
    rw [insA_eq] at h
    cases e : ((T.ins n o).get n).isSome with
    | false => rw [e] at h; cases h
    | true =>
      rw [e] at h
      simp only [natA_eq] at h
      obtain ⟨T', h1, h2⟩ := treeA_spec l _ _ _ _ h
      have e2 : n + (o :: l).length = n + 1 + l.length := by simp only [List.length_cons]; omega
      rw [e2]
      refine ⟨T', h1, fun life => ?_⟩
      rw [h2 life, absHeap_ins e]
      show Heap.mk _ _ = Heap.mk _ _
      congr 1
      simp [Heap.push]
end
theorem imp_ends {p : Program} {w : World} : ∀ (f : Nat) {s s' : Shared} {t t' : Thread}, goS den p w okI f s t = some (s', t') → exitQ t' = some [] → importEnds treeTable p w (f + 1) s t = some s'
  | 0, s, s', t, t', h, e => by
    cases h
    unfold importEnds
    rw [exitQ_eq, e]
  | f + 1, s, s', t, t', h, e => by
    unfold goS at h
    unfold importEnds
    rw [exitQ_eq, denT]
    unfold okI at h
    cases q : exitQ t with
    | some x => simp only [q] at h; cases h
    | none =>
      simp only [q] at h ⊢
      cases hs : step den p w s t with
      | halt o s2 => rw [hs] at h; cases h
      | go s2 t2 =>
        rw [hs] at h
        exact imp_ends f h e
theorem top_ends {p : Program} {w : World} {n₀ : Nat} {ann : Option Value} : ∀ (f : Nat) {s s' : Shared} {t t' : Thread}, goS den p w (okT n₀ ann) f s t = some (s', t') → through t' = true → topRun treeTable p w n₀ ann (f + 1) s t = some s'
  | 0, s, s', t, t', h, e => by
    cases h
    unfold topRun
    rw [e]
  | f + 1, s, s', t, t', h, e => by
    unfold goS at h
    unfold topRun
    rw [denT, okQ_eq]
    unfold okT at h
    cases q : through t with
    | true => simp only [q] at h; cases h
    | false =>
      simp only [q] at h ⊢
      cases q2 : okQ n₀ ann t with
      | false => simp only [q2] at h; cases h
      | true =>
        simp only [q2] at h ⊢
        cases hs : step den p w s t with
        | halt o s2 => rw [hs] at h; cases h
        | go s2 t2 =>
          rw [hs] at h
          exact top_ends f h e
theorem left_of {p q : Program} {loose : List Str} {Xt : Shared → Bool} {α : Type} {Yf : Shared → α} {Ya : World → α} {N e f : Nat} (he : e + 1 ≤ N) (hf : f + 1 ≤ N)
    {β : Type} {r : World → β} {look : World → Shared → Shared → Option β}
    (hl : ∀ w s₀ s₁, look w s₀ s₁ = some (r w) → (staticsOk (importedModules p.main.body) s₀.heap s₁.heap && namesBound p s₁.heap && gensDone s₁ && laidKept s₀.heap s₁.heap) = true ∧ (openSeen q loose (importedModules p.main.body) Xt true s₁, Yf s₁) = (openGood q loose, Ya w))
    (h : ∀ w, headA p w e f (endA (look w)) = some (r w)) : LeftO p q loose Xt Yf Ya N := fun w => by
  have h := h w
  unfold headA at h
  obtain ⟨T, n, tk, t, h1, h⟩ := runA_spec e h
  simp only at h1 h
  have hst : (St0.at ⟨den, opening p, w, {}, {}, (startQ (opening p)).1.os⟩ .nil 0 1).abs = (start (opening p)).1 := by rw [← startQ_eq]; rfl
  rw [hst] at h1
  cases q1 : exitQ t with
  | none => rw [q1] at h; cases h
  | some x => cases x with
    | cons a b => rw [q1] at h; cases h
    | nil =>
      simp only [q1, rowA, listA_eq, row_is] at h
      rw [← startQ_eq] at h1 h
      have i1 := imp_ends e h1 q1
      have i2 := importEnds_mono (N - (e + 1)) _ _ _ _ i1
      rw [show e + 1 + (N - (e + 1)) = N by omega] at i2
      rw [← fenceQ_eq] at h
      cases q2 : fenceModules? p ⟨absHeap T n {}, #[], {}, tk, (start (opening p)).1.os⟩ with
      | none => rw [q2] at h; cases h
      | some s₀ =>
        simp only [q2] at h
        have fo : fencedOpening treeTable p w N = some s₀ := by
          unfold fencedOpening
          rw [i2]
          exact q2
        obtain ⟨⟨⟨os₀⟩, life₀⟩, ⟨g₀⟩, d₀, k₀, o₀⟩ := s₀
        unfold afterA at h
        cases g₀ with
        | cons a b => cases h
        | nil =>
          simp only at h
          cases q3 : (⟨⟨os₀⟩, life₀⟩ : Heap).isNs mainGlobals with
          | false => rw [q3] at h; cases h
          | true =>
            simp only [q3] at h
            obtain ⟨T2, h, hT⟩ := treeA_spec _ _ _ _ _ h
            simp only [natA_eq] at h
            obtain ⟨T3, n3, tk3, t3, h3, h⟩ := runA_spec f h
            have hT := hT life₀
            simp only [Nat.zero_add] at hT h3
            have e0 : (absHeap .nil 0 life₀).objs = #[] := rfl
            rw [e0] at hT
            have ha : (St0.at ⟨den, p, w, life₀, d₀, o₀⟩ T2 os₀.length k₀).abs = ⟨⟨⟨os₀⟩, life₀⟩, ⟨[]⟩, d₀, k₀, o₀⟩ := by
              show Shared.mk (absHeap T2 os₀.length life₀) #[] d₀ k₀ o₀ = _
              rw [hT]
              have : (#[] : Array Obj) ++ os₀.toArray = ⟨os₀⟩ := by simp
              rw [this]
            rw [ha] at h3
            unfold endA at h
            cases q4 : through t3 with
            | false => rw [q4] at h; cases h
            | true =>
              simp only [q4, rowA, listA_eq, row_is] at h
              have j1 := top_ends f h3 q4
              have j2 := topRun_mono (N - (f + 1)) _ _ _ _ j1
              rw [show f + 1 + (N - (f + 1)) = N by omega] at j2
              obtain ⟨l1, l2⟩ := hl w _ _ h
              unfold openEnds
              rw [fo]
              show (topFrom treeTable p w N _).map _ = _
              have t : topFrom treeTable p w N ⟨⟨⟨os₀⟩, life₀⟩, ⟨[]⟩, d₀, k₀, o₀⟩ = some ⟨absHeap T3 n3 life₀, #[], d₀, tk3, o₀⟩ := by
                unfold topFrom
                dsimp only
                rw [q3, nsQ_eq]
                show (topRun treeTable p w os₀.length (nsQ ⟨⟨os₀⟩, life₀⟩ mainGlobals "__annotations__") N ⟨⟨⟨os₀⟩, life₀⟩, ⟨[]⟩, d₀, k₀, o₀⟩ (topStub p)).bind _ = _
                rw [j2]
                have l1' : (staticsOk (importedModules p.main.body) ⟨⟨os₀⟩, life₀⟩ (absHeap T3 n3 life₀) && namesBound p (absHeap T3 n3 life₀) && gensDone ⟨absHeap T3 n3 life₀, #[], d₀, tk3, o₀⟩ && laidKept ⟨⟨os₀⟩, life₀⟩ (absHeap T3 n3 life₀)) = true := l1
                simp only [St0.at, SharedT.abs, Option.bind_some]
                rw [l1']
              rw [t]
              exact congrArg some l2
end Mine
/-! part Kt -/
set_option maxRecDepth 100000
set_option linter.unusedVariables false
namespace Mine
open PySem PySem.Spec PySem.Calls PyProof.Rows PySem.W PySem.W.X
abbrev pw := PySem.Challenge.pw_in0138_01
/-! the objects of the text's end that the law meets; a def's own parts are named, not written out -/
noncomputable def pwB : List Stmt := PySem.Challenge.pw_in0138_01.main.body
def nthP : List Stmt → Nat → Stmt
  | [], _ => .Pass default
  | x :: r, n => match n with | 0 => x | n + 1 => nthP r n
def clsB : Stmt → List Stmt
  | .ClassDef _ _ _ b _ _ _ _ _ _ _ => b
  | _ => []
def fnD (S : Stmt) (nm qual : Str) (dfl md code : Value) : Data := match S with
  | .FunctionDef _ a b _ _ _ sc _ _ _ => .func { name := nm, qualname := qual, params := a, body := .stmts b, scope := sc, globals := 3, closure := [], defaults := dfl, kwdefaults := .none, pyModule := md, code := code }
  | _ => .plain
noncomputable def ob0 (P : Params) : Obj := { cls := .type "dict", dict := none, data := .dict ⟨[⟨PyData.keyHash P ⟨⟨[95, 95, 110, 97, 109, 101, 95, 95]⟩⟩, kS [95, 95, 110, 97, 109, 101, 95, 95] 1, kS [98, 117, 105, 108, 116, 105, 110, 115] 160⟩, ⟨PyData.keyHash P ⟨⟨[95, 95, 100, 111, 99, 95, 95]⟩⟩, kS [95, 95, 100, 111, 99, 95, 95] 2, .builtin "builtins.__doc__:str#opaque"⟩, ⟨PyData.keyHash P ⟨⟨[95, 95, 112, 97, 99, 107, 97, 103, 101, 95, 95]⟩⟩, kS [95, 95, 112, 97, 99, 107, 97, 103, 101, 95, 95] 3, .builtin "builtins.__package__:str#opaque"⟩, ⟨PyData.keyHash P ⟨⟨[95, 95, 108, 111, 97, 100, 101, 114, 95, 95]⟩⟩, kS [95, 95, 108, 111, 97, 100, 101, 114, 95, 95] 4, .builtin "builtins.__loader__:shared#opaque"⟩, ⟨PyData.keyHash P ⟨⟨[95, 95, 115, 112, 101, 99, 95, 95]⟩⟩, kS [95, 95, 115, 112, 101, 99, 95, 95] 5, .builtin "builtins.__spec__#opaque"⟩, ⟨PyData.keyHash P ⟨⟨[95, 95, 98, 117, 105, 108, 100, 95, 99, 108, 97, 115, 115, 95, 95]⟩⟩, kS [95, 95, 98, 117, 105, 108, 100, 95, 99, 108, 97, 115, 115, 95, 95] 6, .builtin "__build_class__"⟩, ⟨PyData.keyHash P ⟨⟨[95, 95, 105, 109, 112, 111, 114, 116, 95, 95]⟩⟩, kS [95, 95, 105, 109, 112, 111, 114, 116, 95, 95] 7, .builtin "__import__"⟩, ⟨PyData.keyHash P ⟨⟨[97, 98, 115]⟩⟩, kS [97, 98, 115] 8, .builtin "abs"⟩, ⟨PyData.keyHash P ⟨⟨[97, 108, 108]⟩⟩, kS [97, 108, 108] 9, .builtin "all"⟩, ⟨PyData.keyHash P ⟨⟨[97, 110, 121]⟩⟩, kS [97, 110, 121] 10, .builtin "any"⟩, ⟨PyData.keyHash P ⟨⟨[97, 115, 99, 105, 105]⟩⟩, kS [97, 115, 99, 105, 105] 11, .builtin "ascii"⟩, ⟨PyData.keyHash P ⟨⟨[98, 105, 110]⟩⟩, kS [98, 105, 110] 12, .builtin "bin"⟩, ⟨PyData.keyHash P ⟨⟨[98, 114, 101, 97, 107, 112, 111, 105, 110, 116]⟩⟩, kS [98, 114, 101, 97, 107, 112, 111, 105, 110, 116] 13, .builtin "breakpoint"⟩, ⟨PyData.keyHash P ⟨⟨[99, 97, 108, 108, 97, 98, 108, 101]⟩⟩, kS [99, 97, 108, 108, 97, 98, 108, 101] 14, .builtin "callable"⟩, ⟨PyData.keyHash P ⟨⟨[99, 104, 114]⟩⟩, kS [99, 104, 114] 15, .builtin "chr"⟩, ⟨PyData.keyHash P ⟨⟨[99, 111, 109, 112, 105, 108, 101]⟩⟩, kS [99, 111, 109, 112, 105, 108, 101] 16, .builtin "compile"⟩, ⟨PyData.keyHash P ⟨⟨[100, 101, 108, 97, 116, 116, 114]⟩⟩, kS [100, 101, 108, 97, 116, 116, 114] 17, .builtin "delattr"⟩, ⟨PyData.keyHash P ⟨⟨[100, 105, 114]⟩⟩, kS [100, 105, 114] 18, .builtin "dir"⟩, ⟨PyData.keyHash P ⟨⟨[100, 105, 118, 109, 111, 100]⟩⟩, kS [100, 105, 118, 109, 111, 100] 19, .builtin "divmod"⟩, ⟨PyData.keyHash P ⟨⟨[101, 118, 97, 108]⟩⟩, kS [101, 118, 97, 108] 20, .builtin "eval"⟩, ⟨PyData.keyHash P ⟨⟨[101, 120, 101, 99]⟩⟩, kS [101, 120, 101, 99] 21, .builtin "exec"⟩, ⟨PyData.keyHash P ⟨⟨[102, 111, 114, 109, 97, 116]⟩⟩, kS [102, 111, 114, 109, 97, 116] 22, .builtin "format"⟩, ⟨PyData.keyHash P ⟨⟨[103, 101, 116, 97, 116, 116, 114]⟩⟩, kS [103, 101, 116, 97, 116, 116, 114] 23, .builtin "getattr"⟩, ⟨PyData.keyHash P ⟨⟨[103, 108, 111, 98, 97, 108, 115]⟩⟩, kS [103, 108, 111, 98, 97, 108, 115] 24, .builtin "globals"⟩, ⟨PyData.keyHash P ⟨⟨[104, 97, 115, 97, 116, 116, 114]⟩⟩, kS [104, 97, 115, 97, 116, 116, 114] 25, .builtin "hasattr"⟩, ⟨PyData.keyHash P ⟨⟨[104, 97, 115, 104]⟩⟩, kS [104, 97, 115, 104] 26, .builtin "hash"⟩, ⟨PyData.keyHash P ⟨⟨[104, 101, 120]⟩⟩, kS [104, 101, 120] 27, .builtin "hex"⟩, ⟨PyData.keyHash P ⟨⟨[105, 100]⟩⟩, kS [105, 100] 28, .builtin "id"⟩, ⟨PyData.keyHash P ⟨⟨[105, 110, 112, 117, 116]⟩⟩, kS [105, 110, 112, 117, 116] 29, .builtin "input"⟩, ⟨PyData.keyHash P ⟨⟨[105, 115, 105, 110, 115, 116, 97, 110, 99, 101]⟩⟩, kS [105, 115, 105, 110, 115, 116, 97, 110, 99, 101] 30, .builtin "isinstance"⟩, ⟨PyData.keyHash P ⟨⟨[105, 115, 115, 117, 98, 99, 108, 97, 115, 115]⟩⟩, kS [105, 115, 115, 117, 98, 99, 108, 97, 115, 115] 31, .builtin "issubclass"⟩, ⟨PyData.keyHash P ⟨⟨[105, 116, 101, 114]⟩⟩, kS [105, 116, 101, 114] 32, .builtin "iter"⟩, ⟨PyData.keyHash P ⟨⟨[97, 105, 116, 101, 114]⟩⟩, kS [97, 105, 116, 101, 114] 33, .builtin "aiter"⟩, ⟨PyData.keyHash P ⟨⟨[108, 101, 110]⟩⟩, kS [108, 101, 110] 34, .builtin "len"⟩, ⟨PyData.keyHash P ⟨⟨[108, 111, 99, 97, 108, 115]⟩⟩, kS [108, 111, 99, 97, 108, 115] 35, .builtin "locals"⟩, ⟨PyData.keyHash P ⟨⟨[109, 97, 120]⟩⟩, kS [109, 97, 120] 36, .builtin "max"⟩, ⟨PyData.keyHash P ⟨⟨[109, 105, 110]⟩⟩, kS [109, 105, 110] 37, .builtin "min"⟩, ⟨PyData.keyHash P ⟨⟨[110, 101, 120, 116]⟩⟩, kS [110, 101, 120, 116] 38, .builtin "next"⟩, ⟨PyData.keyHash P ⟨⟨[97, 110, 101, 120, 116]⟩⟩, kS [97, 110, 101, 120, 116] 39, .builtin "anext"⟩, ⟨PyData.keyHash P ⟨⟨[111, 99, 116]⟩⟩, kS [111, 99, 116] 40, .builtin "oct"⟩, ⟨PyData.keyHash P ⟨⟨[111, 114, 100]⟩⟩, kS [111, 114, 100] 41, .builtin "ord"⟩, ⟨PyData.keyHash P ⟨⟨[112, 111, 119]⟩⟩, kS [112, 111, 119] 42, .builtin "pow"⟩, ⟨PyData.keyHash P ⟨⟨[112, 114, 105, 110, 116]⟩⟩, kS [112, 114, 105, 110, 116] 43, .builtin "print"⟩, ⟨PyData.keyHash P ⟨⟨[114, 101, 112, 114]⟩⟩, kS [114, 101, 112, 114] 44, .builtin "repr"⟩, ⟨PyData.keyHash P ⟨⟨[114, 111, 117, 110, 100]⟩⟩, kS [114, 111, 117, 110, 100] 45, .builtin "round"⟩, ⟨PyData.keyHash P ⟨⟨[115, 101, 116, 97, 116, 116, 114]⟩⟩, kS [115, 101, 116, 97, 116, 116, 114] 46, .builtin "setattr"⟩, ⟨PyData.keyHash P ⟨⟨[115, 111, 114, 116, 101, 100]⟩⟩, kS [115, 111, 114, 116, 101, 100] 47, .builtin "sorted"⟩, ⟨PyData.keyHash P ⟨⟨[115, 117, 109]⟩⟩, kS [115, 117, 109] 48, .builtin "sum"⟩, ⟨PyData.keyHash P ⟨⟨[118, 97, 114, 115]⟩⟩, kS [118, 97, 114, 115] 49, .builtin "vars"⟩, ⟨PyData.keyHash P ⟨⟨[78, 111, 110, 101]⟩⟩, kS [78, 111, 110, 101] 50, .none⟩, ⟨PyData.keyHash P ⟨⟨[69, 108, 108, 105, 112, 115, 105, 115]⟩⟩, kS [69, 108, 108, 105, 112, 115, 105, 115] 51, .ellipsis⟩, ⟨PyData.keyHash P ⟨⟨[78, 111, 116, 73, 109, 112, 108, 101, 109, 101, 110, 116, 101, 100]⟩⟩, kS [78, 111, 116, 73, 109, 112, 108, 101, 109, 101, 110, 116, 101, 100] 52, .notImplemented⟩, ⟨PyData.keyHash P ⟨⟨[70, 97, 108, 115, 101]⟩⟩, kS [70, 97, 108, 115, 101] 53, .bool false⟩, ⟨PyData.keyHash P ⟨⟨[84, 114, 117, 101]⟩⟩, kS [84, 114, 117, 101] 54, .bool true⟩, ⟨PyData.keyHash P ⟨⟨[98, 111, 111, 108]⟩⟩, kS [98, 111, 111, 108] 55, .type "bool"⟩, ⟨PyData.keyHash P ⟨⟨[109, 101, 109, 111, 114, 121, 118, 105, 101, 119]⟩⟩, kS [109, 101, 109, 111, 114, 121, 118, 105, 101, 119] 56, .type "memoryview"⟩, ⟨PyData.keyHash P ⟨⟨[98, 121, 116, 101, 97, 114, 114, 97, 121]⟩⟩, kS [98, 121, 116, 101, 97, 114, 114, 97, 121] 57, .type "bytearray"⟩, ⟨PyData.keyHash P ⟨⟨[98, 121, 116, 101, 115]⟩⟩, kS [98, 121, 116, 101, 115] 58, .type "bytes"⟩, ⟨PyData.keyHash P ⟨⟨[99, 108, 97, 115, 115, 109, 101, 116, 104, 111, 100]⟩⟩, kS [99, 108, 97, 115, 115, 109, 101, 116, 104, 111, 100] 59, .type "classmethod"⟩, ⟨PyData.keyHash P ⟨⟨[99, 111, 109, 112, 108, 101, 120]⟩⟩, kS [99, 111, 109, 112, 108, 101, 120] 60, .type "complex"⟩, ⟨PyData.keyHash P ⟨⟨[100, 105, 99, 116]⟩⟩, kS [100, 105, 99, 116] 61, .type "dict"⟩, ⟨PyData.keyHash P ⟨⟨[101, 110, 117, 109, 101, 114, 97, 116, 101]⟩⟩, kS [101, 110, 117, 109, 101, 114, 97, 116, 101] 62, .type "enumerate"⟩, ⟨PyData.keyHash P ⟨⟨[102, 105, 108, 116, 101, 114]⟩⟩, kS [102, 105, 108, 116, 101, 114] 63, .type "filter"⟩, ⟨PyData.keyHash P ⟨⟨[102, 108, 111, 97, 116]⟩⟩, kS [102, 108, 111, 97, 116] 64, .type "float"⟩, ⟨PyData.keyHash P ⟨⟨[102, 114, 111, 122, 101, 110, 115, 101, 116]⟩⟩, kS [102, 114, 111, 122, 101, 110, 115, 101, 116] 65, .type "frozenset"⟩, ⟨PyData.keyHash P ⟨⟨[112, 114, 111, 112, 101, 114, 116, 121]⟩⟩, kS [112, 114, 111, 112, 101, 114, 116, 121] 66, .type "property"⟩, ⟨PyData.keyHash P ⟨⟨[105, 110, 116]⟩⟩, kS [105, 110, 116] 67, .type "int"⟩, ⟨PyData.keyHash P ⟨⟨[108, 105, 115, 116]⟩⟩, kS [108, 105, 115, 116] 68, .type "list"⟩, ⟨PyData.keyHash P ⟨⟨[109, 97, 112]⟩⟩, kS [109, 97, 112] 69, .type "map"⟩, ⟨PyData.keyHash P ⟨⟨[111, 98, 106, 101, 99, 116]⟩⟩, kS [111, 98, 106, 101, 99, 116] 70, .type "object"⟩, ⟨PyData.keyHash P ⟨⟨[114, 97, 110, 103, 101]⟩⟩, kS [114, 97, 110, 103, 101] 71, .type "range"⟩, ⟨PyData.keyHash P ⟨⟨[114, 101, 118, 101, 114, 115, 101, 100]⟩⟩, kS [114, 101, 118, 101, 114, 115, 101, 100] 72, .type "reversed"⟩, ⟨PyData.keyHash P ⟨⟨[115, 101, 116]⟩⟩, kS [115, 101, 116] 73, .type "set"⟩, ⟨PyData.keyHash P ⟨⟨[115, 108, 105, 99, 101]⟩⟩, kS [115, 108, 105, 99, 101] 74, .type "slice"⟩, ⟨PyData.keyHash P ⟨⟨[115, 116, 97, 116, 105, 99, 109, 101, 116, 104, 111, 100]⟩⟩, kS [115, 116, 97, 116, 105, 99, 109, 101, 116, 104, 111, 100] 75, .type "staticmethod"⟩, ⟨PyData.keyHash P ⟨⟨[115, 116, 114]⟩⟩, kS [115, 116, 114] 76, .type "str"⟩, ⟨PyData.keyHash P ⟨⟨[115, 117, 112, 101, 114]⟩⟩, kS [115, 117, 112, 101, 114] 77, .type "super"⟩, ⟨PyData.keyHash P ⟨⟨[116, 117, 112, 108, 101]⟩⟩, kS [116, 117, 112, 108, 101] 78, .type "tuple"⟩, ⟨PyData.keyHash P ⟨⟨[116, 121, 112, 101]⟩⟩, kS [116, 121, 112, 101] 79, .type "type"⟩, ⟨PyData.keyHash P ⟨⟨[122, 105, 112]⟩⟩, kS [122, 105, 112] 80, .type "zip"⟩, ⟨PyData.keyHash P ⟨⟨[95, 95, 100, 101, 98, 117, 103, 95, 95]⟩⟩, kS [95, 95, 100, 101, 98, 117, 103, 95, 95] 81, .bool true⟩, ⟨PyData.keyHash P ⟨⟨[66, 97, 115, 101, 69, 120, 99, 101, 112, 116, 105, 111, 110]⟩⟩, kS [66, 97, 115, 101, 69, 120, 99, 101, 112, 116, 105, 111, 110] 82, .type "BaseException"⟩, ⟨PyData.keyHash P ⟨⟨[66, 97, 115, 101, 69, 120, 99, 101, 112, 116, 105, 111, 110, 71, 114, 111, 117, 112]⟩⟩, kS [66, 97, 115, 101, 69, 120, 99, 101, 112, 116, 105, 111, 110, 71, 114, 111, 117, 112] 83, .type "BaseExceptionGroup"⟩, ⟨PyData.keyHash P ⟨⟨[69, 120, 99, 101, 112, 116, 105, 111, 110]⟩⟩, kS [69, 120, 99, 101, 112, 116, 105, 111, 110] 84, .type "Exception"⟩, ⟨PyData.keyHash P ⟨⟨[71, 101, 110, 101, 114, 97, 116, 111, 114, 69, 120, 105, 116]⟩⟩, kS [71, 101, 110, 101, 114, 97, 116, 111, 114, 69, 120, 105, 116] 85, .type "GeneratorExit"⟩, ⟨PyData.keyHash P ⟨⟨[75, 101, 121, 98, 111, 97, 114, 100, 73, 110, 116, 101, 114, 114, 117, 112, 116]⟩⟩, kS [75, 101, 121, 98, 111, 97, 114, 100, 73, 110, 116, 101, 114, 114, 117, 112, 116] 86, .type "KeyboardInterrupt"⟩, ⟨PyData.keyHash P ⟨⟨[83, 121, 115, 116, 101, 109, 69, 120, 105, 116]⟩⟩, kS [83, 121, 115, 116, 101, 109, 69, 120, 105, 116] 87, .type "SystemExit"⟩, ⟨PyData.keyHash P ⟨⟨[65, 114, 105, 116, 104, 109, 101, 116, 105, 99, 69, 114, 114, 111, 114]⟩⟩, kS [65, 114, 105, 116, 104, 109, 101, 116, 105, 99, 69, 114, 114, 111, 114] 88, .type "ArithmeticError"⟩, ⟨PyData.keyHash P ⟨⟨[65, 115, 115, 101, 114, 116, 105, 111, 110, 69, 114, 114, 111, 114]⟩⟩, kS [65, 115, 115, 101, 114, 116, 105, 111, 110, 69, 114, 114, 111, 114] 89, .type "AssertionError"⟩, ⟨PyData.keyHash P ⟨⟨[65, 116, 116, 114, 105, 98, 117, 116, 101, 69, 114, 114, 111, 114]⟩⟩, kS [65, 116, 116, 114, 105, 98, 117, 116, 101, 69, 114, 114, 111, 114] 90, .type "AttributeError"⟩, ⟨PyData.keyHash P ⟨⟨[66, 117, 102, 102, 101, 114, 69, 114, 114, 111, 114]⟩⟩, kS [66, 117, 102, 102, 101, 114, 69, 114, 114, 111, 114] 91, .type "BufferError"⟩, ⟨PyData.keyHash P ⟨⟨[69, 79, 70, 69, 114, 114, 111, 114]⟩⟩, kS [69, 79, 70, 69, 114, 114, 111, 114] 92, .type "EOFError"⟩, ⟨PyData.keyHash P ⟨⟨[73, 109, 112, 111, 114, 116, 69, 114, 114, 111, 114]⟩⟩, kS [73, 109, 112, 111, 114, 116, 69, 114, 114, 111, 114] 93, .type "ImportError"⟩, ⟨PyData.keyHash P ⟨⟨[76, 111, 111, 107, 117, 112, 69, 114, 114, 111, 114]⟩⟩, kS [76, 111, 111, 107, 117, 112, 69, 114, 114, 111, 114] 94, .type "LookupError"⟩, ⟨PyData.keyHash P ⟨⟨[77, 101, 109, 111, 114, 121, 69, 114, 114, 111, 114]⟩⟩, kS [77, 101, 109, 111, 114, 121, 69, 114, 114, 111, 114] 95, .type "MemoryError"⟩, ⟨PyData.keyHash P ⟨⟨[78, 97, 109, 101, 69, 114, 114, 111, 114]⟩⟩, kS [78, 97, 109, 101, 69, 114, 114, 111, 114] 96, .type "NameError"⟩, ⟨PyData.keyHash P ⟨⟨[79, 83, 69, 114, 114, 111, 114]⟩⟩, kS [79, 83, 69, 114, 114, 111, 114] 97, .type "OSError"⟩, ⟨PyData.keyHash P ⟨⟨[82, 101, 102, 101, 114, 101, 110, 99, 101, 69, 114, 114, 111, 114]⟩⟩, kS [82, 101, 102, 101, 114, 101, 110, 99, 101, 69, 114, 114, 111, 114] 98, .type "ReferenceError"⟩, ⟨PyData.keyHash P ⟨⟨[82, 117, 110, 116, 105, 109, 101, 69, 114, 114, 111, 114]⟩⟩, kS [82, 117, 110, 116, 105, 109, 101, 69, 114, 114, 111, 114] 99, .type "RuntimeError"⟩, ⟨PyData.keyHash P ⟨⟨[83, 116, 111, 112, 65, 115, 121, 110, 99, 73, 116, 101, 114, 97, 116, 105, 111, 110]⟩⟩, kS [83, 116, 111, 112, 65, 115, 121, 110, 99, 73, 116, 101, 114, 97, 116, 105, 111, 110] 100, .type "StopAsyncIteration"⟩, ⟨PyData.keyHash P ⟨⟨[83, 116, 111, 112, 73, 116, 101, 114, 97, 116, 105, 111, 110]⟩⟩, kS [83, 116, 111, 112, 73, 116, 101, 114, 97, 116, 105, 111, 110] 101, .type "StopIteration"⟩, ⟨PyData.keyHash P ⟨⟨[83, 121, 110, 116, 97, 120, 69, 114, 114, 111, 114]⟩⟩, kS [83, 121, 110, 116, 97, 120, 69, 114, 114, 111, 114] 102, .type "SyntaxError"⟩, ⟨PyData.keyHash P ⟨⟨[83, 121, 115, 116, 101, 109, 69, 114, 114, 111, 114]⟩⟩, kS [83, 121, 115, 116, 101, 109, 69, 114, 114, 111, 114] 103, .type "SystemError"⟩, ⟨PyData.keyHash P ⟨⟨[84, 121, 112, 101, 69, 114, 114, 111, 114]⟩⟩, kS [84, 121, 112, 101, 69, 114, 114, 111, 114] 104, .type "TypeError"⟩, ⟨PyData.keyHash P ⟨⟨[86, 97, 108, 117, 101, 69, 114, 114, 111, 114]⟩⟩, kS [86, 97, 108, 117, 101, 69, 114, 114, 111, 114] 105, .type "ValueError"⟩, ⟨PyData.keyHash P ⟨⟨[87, 97, 114, 110, 105, 110, 103]⟩⟩, kS [87, 97, 114, 110, 105, 110, 103] 106, .type "Warning"⟩, ⟨PyData.keyHash P ⟨⟨[70, 108, 111, 97, 116, 105, 110, 103, 80, 111, 105, 110, 116, 69, 114, 114, 111, 114]⟩⟩, kS [70, 108, 111, 97, 116, 105, 110, 103, 80, 111, 105, 110, 116, 69, 114, 114, 111, 114] 107, .type "FloatingPointError"⟩, ⟨PyData.keyHash P ⟨⟨[79, 118, 101, 114, 102, 108, 111, 119, 69, 114, 114, 111, 114]⟩⟩, kS [79, 118, 101, 114, 102, 108, 111, 119, 69, 114, 114, 111, 114] 108, .type "OverflowError"⟩, ⟨PyData.keyHash P ⟨⟨[90, 101, 114, 111, 68, 105, 118, 105, 115, 105, 111, 110, 69, 114, 114, 111, 114]⟩⟩, kS [90, 101, 114, 111, 68, 105, 118, 105, 115, 105, 111, 110, 69, 114, 114, 111, 114] 109, .type "ZeroDivisionError"⟩, ⟨PyData.keyHash P ⟨⟨[66, 121, 116, 101, 115, 87, 97, 114, 110, 105, 110, 103]⟩⟩, kS [66, 121, 116, 101, 115, 87, 97, 114, 110, 105, 110, 103] 110, .type "BytesWarning"⟩, ⟨PyData.keyHash P ⟨⟨[68, 101, 112, 114, 101, 99, 97, 116, 105, 111, 110, 87, 97, 114, 110, 105, 110, 103]⟩⟩, kS [68, 101, 112, 114, 101, 99, 97, 116, 105, 111, 110, 87, 97, 114, 110, 105, 110, 103] 111, .type "DeprecationWarning"⟩, ⟨PyData.keyHash P ⟨⟨[69, 110, 99, 111, 100, 105, 110, 103, 87, 97, 114, 110, 105, 110, 103]⟩⟩, kS [69, 110, 99, 111, 100, 105, 110, 103, 87, 97, 114, 110, 105, 110, 103] 112, .type "EncodingWarning"⟩, ⟨PyData.keyHash P ⟨⟨[70, 117, 116, 117, 114, 101, 87, 97, 114, 110, 105, 110, 103]⟩⟩, kS [70, 117, 116, 117, 114, 101, 87, 97, 114, 110, 105, 110, 103] 113, .type "FutureWarning"⟩, ⟨PyData.keyHash P ⟨⟨[73, 109, 112, 111, 114, 116, 87, 97, 114, 110, 105, 110, 103]⟩⟩, kS [73, 109, 112, 111, 114, 116, 87, 97, 114, 110, 105, 110, 103] 114, .type "ImportWarning"⟩, ⟨PyData.keyHash P ⟨⟨[80, 101, 110, 100, 105, 110, 103, 68, 101, 112, 114, 101, 99, 97, 116, 105, 111, 110, 87, 97, 114, 110, 105, 110, 103]⟩⟩, kS [80, 101, 110, 100, 105, 110, 103, 68, 101, 112, 114, 101, 99, 97, 116, 105, 111, 110, 87, 97, 114, 110, 105, 110, 103] 115, .type "PendingDeprecationWarning"⟩, ⟨PyData.keyHash P ⟨⟨[82, 101, 115, 111, 117, 114, 99, 101, 87, 97, 114, 110, 105, 110, 103]⟩⟩, kS [82, 101, 115, 111, 117, 114, 99, 101, 87, 97, 114, 110, 105, 110, 103] 116, .type "ResourceWarning"⟩, ⟨PyData.keyHash P ⟨⟨[82, 117, 110, 116, 105, 109, 101, 87, 97, 114, 110, 105, 110, 103]⟩⟩, kS [82, 117, 110, 116, 105, 109, 101, 87, 97, 114, 110, 105, 110, 103] 117, .type "RuntimeWarning"⟩, ⟨PyData.keyHash P ⟨⟨[83, 121, 110, 116, 97, 120, 87, 97, 114, 110, 105, 110, 103]⟩⟩, kS [83, 121, 110, 116, 97, 120, 87, 97, 114, 110, 105, 110, 103] 118, .type "SyntaxWarning"⟩, ⟨PyData.keyHash P ⟨⟨[85, 110, 105, 99, 111, 100, 101, 87, 97, 114, 110, 105, 110, 103]⟩⟩, kS [85, 110, 105, 99, 111, 100, 101, 87, 97, 114, 110, 105, 110, 103] 119, .type "UnicodeWarning"⟩, ⟨PyData.keyHash P ⟨⟨[85, 115, 101, 114, 87, 97, 114, 110, 105, 110, 103]⟩⟩, kS [85, 115, 101, 114, 87, 97, 114, 110, 105, 110, 103] 120, .type "UserWarning"⟩, ⟨PyData.keyHash P ⟨⟨[66, 108, 111, 99, 107, 105, 110, 103, 73, 79, 69, 114, 114, 111, 114]⟩⟩, kS [66, 108, 111, 99, 107, 105, 110, 103, 73, 79, 69, 114, 114, 111, 114] 121, .type "BlockingIOError"⟩, ⟨PyData.keyHash P ⟨⟨[67, 104, 105, 108, 100, 80, 114, 111, 99, 101, 115, 115, 69, 114, 114, 111, 114]⟩⟩, kS [67, 104, 105, 108, 100, 80, 114, 111, 99, 101, 115, 115, 69, 114, 114, 111, 114] 122, .type "ChildProcessError"⟩, ⟨PyData.keyHash P ⟨⟨[67, 111, 110, 110, 101, 99, 116, 105, 111, 110, 69, 114, 114, 111, 114]⟩⟩, kS [67, 111, 110, 110, 101, 99, 116, 105, 111, 110, 69, 114, 114, 111, 114] 123, .type "ConnectionError"⟩, ⟨PyData.keyHash P ⟨⟨[70, 105, 108, 101, 69, 120, 105, 115, 116, 115, 69, 114, 114, 111, 114]⟩⟩, kS [70, 105, 108, 101, 69, 120, 105, 115, 116, 115, 69, 114, 114, 111, 114] 124, .type "FileExistsError"⟩, ⟨PyData.keyHash P ⟨⟨[70, 105, 108, 101, 78, 111, 116, 70, 111, 117, 110, 100, 69, 114, 114, 111, 114]⟩⟩, kS [70, 105, 108, 101, 78, 111, 116, 70, 111, 117, 110, 100, 69, 114, 114, 111, 114] 125, .type "FileNotFoundError"⟩, ⟨PyData.keyHash P ⟨⟨[73, 110, 116, 101, 114, 114, 117, 112, 116, 101, 100, 69, 114, 114, 111, 114]⟩⟩, kS [73, 110, 116, 101, 114, 114, 117, 112, 116, 101, 100, 69, 114, 114, 111, 114] 126, .type "InterruptedError"⟩, ⟨PyData.keyHash P ⟨⟨[73, 115, 65, 68, 105, 114, 101, 99, 116, 111, 114, 121, 69, 114, 114, 111, 114]⟩⟩, kS [73, 115, 65, 68, 105, 114, 101, 99, 116, 111, 114, 121, 69, 114, 114, 111, 114] 127, .type "IsADirectoryError"⟩, ⟨PyData.keyHash P ⟨⟨[78, 111, 116, 65, 68, 105, 114, 101, 99, 116, 111, 114, 121, 69, 114, 114, 111, 114]⟩⟩, kS [78, 111, 116, 65, 68, 105, 114, 101, 99, 116, 111, 114, 121, 69, 114, 114, 111, 114] 128, .type "NotADirectoryError"⟩, ⟨PyData.keyHash P ⟨⟨[80, 101, 114, 109, 105, 115, 115, 105, 111, 110, 69, 114, 114, 111, 114]⟩⟩, kS [80, 101, 114, 109, 105, 115, 115, 105, 111, 110, 69, 114, 114, 111, 114] 129, .type "PermissionError"⟩, ⟨PyData.keyHash P ⟨⟨[80, 114, 111, 99, 101, 115, 115, 76, 111, 111, 107, 117, 112, 69, 114, 114, 111, 114]⟩⟩, kS [80, 114, 111, 99, 101, 115, 115, 76, 111, 111, 107, 117, 112, 69, 114, 114, 111, 114] 130, .type "ProcessLookupError"⟩, ⟨PyData.keyHash P ⟨⟨[84, 105, 109, 101, 111, 117, 116, 69, 114, 114, 111, 114]⟩⟩, kS [84, 105, 109, 101, 111, 117, 116, 69, 114, 114, 111, 114] 131, .type "TimeoutError"⟩, ⟨PyData.keyHash P ⟨⟨[73, 110, 100, 101, 110, 116, 97, 116, 105, 111, 110, 69, 114, 114, 111, 114]⟩⟩, kS [73, 110, 100, 101, 110, 116, 97, 116, 105, 111, 110, 69, 114, 114, 111, 114] 132, .type "IndentationError"⟩, ⟨PyData.keyHash P ⟨⟨[95, 73, 110, 99, 111, 109, 112, 108, 101, 116, 101, 73, 110, 112, 117, 116, 69, 114, 114, 111, 114]⟩⟩, kS [95, 73, 110, 99, 111, 109, 112, 108, 101, 116, 101, 73, 110, 112, 117, 116, 69, 114, 114, 111, 114] 133, .type "_IncompleteInputError"⟩, ⟨PyData.keyHash P ⟨⟨[73, 110, 100, 101, 120, 69, 114, 114, 111, 114]⟩⟩, kS [73, 110, 100, 101, 120, 69, 114, 114, 111, 114] 134, .type "IndexError"⟩, ⟨PyData.keyHash P ⟨⟨[75, 101, 121, 69, 114, 114, 111, 114]⟩⟩, kS [75, 101, 121, 69, 114, 114, 111, 114] 135, .type "KeyError"⟩, ⟨PyData.keyHash P ⟨⟨[77, 111, 100, 117, 108, 101, 78, 111, 116, 70, 111, 117, 110, 100, 69, 114, 114, 111, 114]⟩⟩, kS [77, 111, 100, 117, 108, 101, 78, 111, 116, 70, 111, 117, 110, 100, 69, 114, 114, 111, 114] 136, .type "ModuleNotFoundError"⟩, ⟨PyData.keyHash P ⟨⟨[78, 111, 116, 73, 109, 112, 108, 101, 109, 101, 110, 116, 101, 100, 69, 114, 114, 111, 114]⟩⟩, kS [78, 111, 116, 73, 109, 112, 108, 101, 109, 101, 110, 116, 101, 100, 69, 114, 114, 111, 114] 137, .type "NotImplementedError"⟩, ⟨PyData.keyHash P ⟨⟨[80, 121, 116, 104, 111, 110, 70, 105, 110, 97, 108, 105, 122, 97, 116, 105, 111, 110, 69, 114, 114, 111, 114]⟩⟩, kS [80, 121, 116, 104, 111, 110, 70, 105, 110, 97, 108, 105, 122, 97, 116, 105, 111, 110, 69, 114, 114, 111, 114] 138, .type "PythonFinalizationError"⟩, ⟨PyData.keyHash P ⟨⟨[82, 101, 99, 117, 114, 115, 105, 111, 110, 69, 114, 114, 111, 114]⟩⟩, kS [82, 101, 99, 117, 114, 115, 105, 111, 110, 69, 114, 114, 111, 114] 139, .type "RecursionError"⟩, ⟨PyData.keyHash P ⟨⟨[85, 110, 98, 111, 117, 110, 100, 76, 111, 99, 97, 108, 69, 114, 114, 111, 114]⟩⟩, kS [85, 110, 98, 111, 117, 110, 100, 76, 111, 99, 97, 108, 69, 114, 114, 111, 114] 140, .type "UnboundLocalError"⟩, ⟨PyData.keyHash P ⟨⟨[85, 110, 105, 99, 111, 100, 101, 69, 114, 114, 111, 114]⟩⟩, kS [85, 110, 105, 99, 111, 100, 101, 69, 114, 114, 111, 114] 141, .type "UnicodeError"⟩, ⟨PyData.keyHash P ⟨⟨[66, 114, 111, 107, 101, 110, 80, 105, 112, 101, 69, 114, 114, 111, 114]⟩⟩, kS [66, 114, 111, 107, 101, 110, 80, 105, 112, 101, 69, 114, 114, 111, 114] 142, .type "BrokenPipeError"⟩, ⟨PyData.keyHash P ⟨⟨[67, 111, 110, 110, 101, 99, 116, 105, 111, 110, 65, 98, 111, 114, 116, 101, 100, 69, 114, 114, 111, 114]⟩⟩, kS [67, 111, 110, 110, 101, 99, 116, 105, 111, 110, 65, 98, 111, 114, 116, 101, 100, 69, 114, 114, 111, 114] 143, .type "ConnectionAbortedError"⟩, ⟨PyData.keyHash P ⟨⟨[67, 111, 110, 110, 101, 99, 116, 105, 111, 110, 82, 101, 102, 117, 115, 101, 100, 69, 114, 114, 111, 114]⟩⟩, kS [67, 111, 110, 110, 101, 99, 116, 105, 111, 110, 82, 101, 102, 117, 115, 101, 100, 69, 114, 114, 111, 114] 144, .type "ConnectionRefusedError"⟩, ⟨PyData.keyHash P ⟨⟨[67, 111, 110, 110, 101, 99, 116, 105, 111, 110, 82, 101, 115, 101, 116, 69, 114, 114, 111, 114]⟩⟩, kS [67, 111, 110, 110, 101, 99, 116, 105, 111, 110, 82, 101, 115, 101, 116, 69, 114, 114, 111, 114] 145, .type "ConnectionResetError"⟩, ⟨PyData.keyHash P ⟨⟨[84, 97, 98, 69, 114, 114, 111, 114]⟩⟩, kS [84, 97, 98, 69, 114, 114, 111, 114] 146, .type "TabError"⟩, ⟨PyData.keyHash P ⟨⟨[85, 110, 105, 99, 111, 100, 101, 68, 101, 99, 111, 100, 101, 69, 114, 114, 111, 114]⟩⟩, kS [85, 110, 105, 99, 111, 100, 101, 68, 101, 99, 111, 100, 101, 69, 114, 114, 111, 114] 147, .type "UnicodeDecodeError"⟩, ⟨PyData.keyHash P ⟨⟨[85, 110, 105, 99, 111, 100, 101, 69, 110, 99, 111, 100, 101, 69, 114, 114, 111, 114]⟩⟩, kS [85, 110, 105, 99, 111, 100, 101, 69, 110, 99, 111, 100, 101, 69, 114, 114, 111, 114] 148, .type "UnicodeEncodeError"⟩, ⟨PyData.keyHash P ⟨⟨[85, 110, 105, 99, 111, 100, 101, 84, 114, 97, 110, 115, 108, 97, 116, 101, 69, 114, 114, 111, 114]⟩⟩, kS [85, 110, 105, 99, 111, 100, 101, 84, 114, 97, 110, 115, 108, 97, 116, 101, 69, 114, 114, 111, 114] 149, .type "UnicodeTranslateError"⟩, ⟨PyData.keyHash P ⟨⟨[69, 120, 99, 101, 112, 116, 105, 111, 110, 71, 114, 111, 117, 112]⟩⟩, kS [69, 120, 99, 101, 112, 116, 105, 111, 110, 71, 114, 111, 117, 112] 150, .type "ExceptionGroup"⟩, ⟨PyData.keyHash P ⟨⟨[69, 110, 118, 105, 114, 111, 110, 109, 101, 110, 116, 69, 114, 114, 111, 114]⟩⟩, kS [69, 110, 118, 105, 114, 111, 110, 109, 101, 110, 116, 69, 114, 114, 111, 114] 151, .type "OSError"⟩, ⟨PyData.keyHash P ⟨⟨[73, 79, 69, 114, 114, 111, 114]⟩⟩, kS [73, 79, 69, 114, 114, 111, 114] 152, .type "OSError"⟩, ⟨PyData.keyHash P ⟨⟨[111, 112, 101, 110]⟩⟩, kS [111, 112, 101, 110] 153, .builtin "open"⟩, ⟨PyData.keyHash P ⟨⟨[113, 117, 105, 116]⟩⟩, kS [113, 117, 105, 116] 154, .builtin "builtins.quit#opaque"⟩, ⟨PyData.keyHash P ⟨⟨[101, 120, 105, 116]⟩⟩, kS [101, 120, 105, 116] 155, .builtin "builtins.exit#opaque"⟩, ⟨PyData.keyHash P ⟨⟨[99, 111, 112, 121, 114, 105, 103, 104, 116]⟩⟩, kS [99, 111, 112, 121, 114, 105, 103, 104, 116] 156, .builtin "builtins.copyright#opaque"⟩, ⟨PyData.keyHash P ⟨⟨[99, 114, 101, 100, 105, 116, 115]⟩⟩, kS [99, 114, 101, 100, 105, 116, 115] 157, .builtin "builtins.credits#opaque"⟩, ⟨PyData.keyHash P ⟨⟨[108, 105, 99, 101, 110, 115, 101]⟩⟩, kS [108, 105, 99, 101, 110, 115, 101] 158, .builtin "builtins.license#opaque"⟩, ⟨PyData.keyHash P ⟨⟨[104, 101, 108, 112]⟩⟩, kS [104, 101, 108, 112] 159, .builtin "builtins.help#opaque"⟩]⟩ 159, slots := ⟨[]⟩ }
noncomputable def ob2 (P : Params) : Obj := { cls := .none, dict := none, data := .dict ⟨[⟨PyData.keyHash P ⟨⟨[105, 109, 112, 111, 114, 116, 46, 108, 111, 97, 100, 101, 100, 46, 95, 99, 111, 108, 108, 101, 99, 116, 105, 111, 110, 115]⟩⟩, kS [105, 109, 112, 111, 114, 116, 46, 108, 111, 97, 100, 101, 100, 46, 95, 99, 111, 108, 108, 101, 99, 116, 105, 111, 110, 115] 185, .bool true⟩, ⟨PyData.keyHash P ⟨⟨[99, 108, 97, 115, 115, 46, 95, 102, 114, 111, 122, 101, 110, 95, 105, 109, 112, 111, 114, 116, 108, 105, 98, 46, 66, 117, 105, 108, 116, 105, 110, 73, 109, 112, 111, 114, 116, 101, 114]⟩⟩, kS [99, 108, 97, 115, 115, 46, 95, 102, 114, 111, 122, 101, 110, 95, 105, 109, 112, 111, 114, 116, 108, 105, 98, 46, 66, 117, 105, 108, 116, 105, 110, 73, 109, 112, 111, 114, 116, 101, 114] 187, .ref 15⟩, ⟨PyData.keyHash P ⟨⟨[119, 97, 116, 99, 104, 101, 100, 46, 105, 109, 112, 111, 114, 116]⟩⟩, kS [119, 97, 116, 99, 104, 101, 100, 46, 105, 109, 112, 111, 114, 116] 208, .ref 19⟩, ⟨PyData.keyHash P ⟨⟨[99, 108, 97, 115, 115, 46, 95, 102, 114, 111, 122, 101, 110, 95, 105, 109, 112, 111, 114, 116, 108, 105, 98, 46, 77, 111, 100, 117, 108, 101, 83, 112, 101, 99]⟩⟩, kS [99, 108, 97, 115, 115, 46, 95, 102, 114, 111, 122, 101, 110, 95, 105, 109, 112, 111, 114, 116, 108, 105, 98, 46, 77, 111, 100, 117, 108, 101, 83, 112, 101, 99] 218, .ref 23⟩, ⟨PyData.keyHash P ⟨⟨[115, 121, 115, 46, 109, 111, 100, 117, 108, 101, 115, 46, 98, 111, 111, 107, 101, 100, 45, 101, 112, 111, 99, 104]⟩⟩, kS [115, 121, 115, 46, 109, 111, 100, 117, 108, 101, 115, 46, 98, 111, 111, 107, 101, 100, 45, 101, 112, 111, 99, 104] 247, .int (3) 0⟩, ⟨PyData.keyHash P ⟨⟨[115, 121, 115, 46, 109, 111, 100, 117, 108, 101, 115, 46, 108, 97, 110, 100, 101, 100, 46, 95, 99, 111, 108, 108, 101, 99, 116, 105, 111, 110, 115]⟩⟩, kS [115, 121, 115, 46, 109, 111, 100, 117, 108, 101, 115, 46, 108, 97, 110, 100, 101, 100, 46, 95, 99, 111, 108, 108, 101, 99, 116, 105, 111, 110, 115] 248, .bool true⟩, ⟨PyData.keyHash P ⟨⟨[105, 109, 112, 111, 114, 116, 46, 108, 97, 116, 101, 114, 45, 108, 97, 105, 100, 46, 95, 99, 111, 108, 108, 101, 99, 116, 105, 111, 110, 115]⟩⟩, kS [105, 109, 112, 111, 114, 116, 46, 108, 97, 116, 101, 114, 45, 108, 97, 105, 100, 46, 95, 99, 111, 108, 108, 101, 99, 116, 105, 111, 110, 115] 263, .bool true⟩, ⟨PyData.keyHash P ⟨⟨[119, 97, 116, 99, 104, 101, 100, 46, 108, 105, 98, 114, 97, 114, 121]⟩⟩, kS [119, 97, 116, 99, 104, 101, 100, 46, 108, 105, 98, 114, 97, 114, 121] 265, .ref 28⟩, ⟨PyData.keyHash P ⟨⟨[119, 97, 116, 99, 104, 101, 100, 46, 108, 105, 98, 114, 97, 114, 121, 45, 111, 98, 106, 101, 99, 116, 115]⟩⟩, kS [119, 97, 116, 99, 104, 101, 100, 46, 108, 105, 98, 114, 97, 114, 121, 45, 111, 98, 106, 101, 99, 116, 115] 0, kS [13] 0⟩, ⟨PyData.keyHash P ⟨⟨[119, 97, 116, 99, 104, 101, 100, 46, 108, 105, 98, 114, 97, 114, 121, 45, 100, 101, 101, 112, 46, 95, 99, 111, 108, 108, 101, 99, 116, 105, 111, 110, 115]⟩⟩, kS [119, 97, 116, 99, 104, 101, 100, 46, 108, 105, 98, 114, 97, 114, 121, 45, 100, 101, 101, 112, 46, 95, 99, 111, 108, 108, 101, 99, 116, 105, 111, 110, 115] 266, kS [4, 0, 0, 12, 4, 0, 0, 12, 4, 0, 0, 3, 4, 0, 0, 12, 8, 4, 100, 105, 99, 116, 2] 0⟩, ⟨PyData.keyHash P ⟨⟨[116, 121, 112, 101, 46, 95, 95, 115, 117, 98, 99, 108, 97, 115, 115, 101, 115, 95, 95, 46, 79, 83, 69, 114, 114, 111, 114, 46, 48]⟩⟩, kS [116, 121, 112, 101, 46, 95, 95, 115, 117, 98, 99, 108, 97, 115, 115, 101, 115, 95, 95, 46, 79, 83, 69, 114, 114, 111, 114, 46, 48] 322, .int (63) 0⟩, ⟨PyData.keyHash P ⟨⟨[116, 121, 112, 101, 46, 95, 95, 115, 117, 98, 99, 108, 97, 115, 115, 101, 115, 95, 95, 46, 79, 83, 69, 114, 114, 111, 114, 46, 110]⟩⟩, kS [116, 121, 112, 101, 46, 95, 95, 115, 117, 98, 99, 108, 97, 115, 115, 101, 115, 95, 95, 46, 79, 83, 69, 114, 114, 111, 114, 46, 110] 323, .int (1) 0⟩]⟩ 12, slots := ⟨[]⟩ }
noncomputable def ob3 (P : Params) : Obj := { cls := .type "dict", dict := none, data := .dict ⟨[⟨PyData.keyHash P ⟨⟨[95, 95, 110, 97, 109, 101, 95, 95]⟩⟩, kS [95, 95, 110, 97, 109, 101, 95, 95] 165, kS [108, 97, 119, 95, 105, 110, 48, 49, 51, 56, 95, 48, 49] 1212⟩, ⟨PyData.keyHash P ⟨⟨[95, 95, 100, 111, 99, 95, 95]⟩⟩, kS [95, 95, 100, 111, 99, 95, 95] 166, .none⟩, ⟨PyData.keyHash P ⟨⟨[95, 95, 112, 97, 99, 107, 97, 103, 101, 95, 95]⟩⟩, kS [95, 95, 112, 97, 99, 107, 97, 103, 101, 95, 95] 167, .none⟩, ⟨PyData.keyHash P ⟨⟨[95, 95, 108, 111, 97, 100, 101, 114, 95, 95]⟩⟩, kS [95, 95, 108, 111, 97, 100, 101, 114, 95, 95] 168, .builtin "__main__.__loader__#opaque"⟩, ⟨PyData.keyHash P ⟨⟨[95, 95, 115, 112, 101, 99, 95, 95]⟩⟩, kS [95, 95, 115, 112, 101, 99, 95, 95] 169, .none⟩, ⟨PyData.keyHash P ⟨⟨[95, 95, 97, 110, 110, 111, 116, 97, 116, 105, 111, 110, 115, 95, 95]⟩⟩, kS [95, 95, 97, 110, 110, 111, 116, 97, 116, 105, 111, 110, 115, 95, 95] 170, .ref 6⟩, ⟨PyData.keyHash P ⟨⟨[95, 95, 98, 117, 105, 108, 116, 105, 110, 115, 95, 95]⟩⟩, kS [95, 95, 98, 117, 105, 108, 116, 105, 110, 115, 95, 95] 171, .ref 4⟩, ⟨PyData.keyHash P ⟨⟨[95, 95, 102, 105, 108, 101, 95, 95]⟩⟩, kS [95, 95, 102, 105, 108, 101, 95, 95] 173, kS [47, 99, 108, 97, 105, 109, 47, 99, 117, 116, 46, 112, 121] 172⟩, ⟨PyData.keyHash P ⟨⟨[95, 95, 99, 97, 99, 104, 101, 100, 95, 95]⟩⟩, kS [95, 95, 99, 97, 99, 104, 101, 100, 95, 95] 174, .none⟩, ⟨PyData.keyHash P ⟨⟨[100, 101, 113, 117, 101]⟩⟩, kS [100, 101, 113, 117, 101] 272, .type "collections.deque"⟩, ⟨PyData.keyHash P ⟨⟨[95, 119, 97, 108, 108]⟩⟩, kS [95, 119, 97, 108, 108] 285, .ref 39⟩, ⟨PyData.keyHash P ⟨⟨[95, 119, 104, 101, 110, 99, 101]⟩⟩, kS [95, 119, 104, 101, 110, 99, 101] 295, .ref 46⟩, ⟨PyData.keyHash P ⟨⟨[95, 105, 110, 100, 101, 120]⟩⟩, kS [95, 105, 110, 100, 101, 120] 303, .ref 53⟩, ⟨PyData.keyHash P ⟨⟨[85, 110, 115, 117, 112, 112, 111, 114, 116, 101, 100, 79, 112, 101, 114, 97, 116, 105, 111, 110]⟩⟩, kS [85, 110, 115, 117, 112, 112, 111, 114, 116, 101, 100, 79, 112, 101, 114, 97, 116, 105, 111, 110] 325, .ref 63⟩, ⟨PyData.keyHash P ⟨⟨[73, 79, 66, 97, 115, 101]⟩⟩, kS [73, 79, 66, 97, 115, 101] 357, .ref 83⟩, ⟨PyData.keyHash P ⟨⟨[66, 117, 102, 102, 101, 114, 101, 100, 73, 79, 66, 97, 115, 101]⟩⟩, kS [66, 117, 102, 102, 101, 114, 101, 100, 73, 79, 66, 97, 115, 101] 375, .ref 98⟩, ⟨PyData.keyHash P ⟨⟨[84, 101, 120, 116, 73, 79, 66, 97, 115, 101]⟩⟩, kS [84, 101, 120, 116, 73, 79, 66, 97, 115, 101] 393, .ref 110⟩, ⟨PyData.keyHash P ⟨⟨[66, 121, 116, 101, 115, 73, 79]⟩⟩, kS [66, 121, 116, 101, 115, 73, 79] 655, .ref 340⟩, ⟨PyData.keyHash P ⟨⟨[83, 116, 114, 105, 110, 103, 73, 79]⟩⟩, kS [83, 116, 114, 105, 110, 103, 73, 79] 942, .ref 587⟩, ⟨PyData.keyHash P ⟨⟨[95, 107, 105, 110, 100]⟩⟩, kS [95, 107, 105, 110, 100] 953, .ref 596⟩, ⟨PyData.keyHash P ⟨⟨[95, 102, 115, 112, 97, 116, 104]⟩⟩, kS [95, 102, 115, 112, 97, 116, 104] 962, .ref 603⟩, ⟨PyData.keyHash P ⟨⟨[95, 99, 104, 101, 99, 107, 95, 97, 114, 103, 95, 116, 121, 112, 101, 115]⟩⟩, kS [95, 99, 104, 101, 99, 107, 95, 97, 114, 103, 95, 116, 121, 112, 101, 115] 972, .ref 610⟩, ⟨PyData.keyHash P ⟨⟨[105, 115, 97, 98, 115]⟩⟩, kS [105, 115, 97, 98, 115] 979, .ref 617⟩, ⟨PyData.keyHash P ⟨⟨[106, 111, 105, 110]⟩⟩, kS [106, 111, 105, 110] 990, .ref 624⟩, ⟨PyData.keyHash P ⟨⟨[100, 105, 114, 110, 97, 109, 101]⟩⟩, kS [100, 105, 114, 110, 97, 109, 101] 1000, .ref 631⟩, ⟨PyData.keyHash P ⟨⟨[115, 104, 108, 101, 120]⟩⟩, kS [115, 104, 108, 101, 120] 1141, .ref 722⟩, ⟨PyData.keyHash P ⟨⟨[95, 110, 101, 116, 114, 99, 108, 101, 120]⟩⟩, kS [95, 110, 101, 116, 114, 99, 108, 101, 120] 1201, .ref 764⟩, ⟨PyData.keyHash P ⟨⟨[116, 104, 114, 101, 101, 95, 119, 97, 121, 95, 99, 109, 112]⟩⟩, kS [116, 104, 114, 101, 101, 95, 119, 97, 121, 95, 99, 109, 112] 1211, .ref 775⟩, ⟨PyData.keyHash P ⟨⟨[95, 108, 97, 119, 95, 115, 116, 114, 101, 97, 109]⟩⟩, kS [95, 108, 97, 119, 95, 115, 116, 114, 101, 97, 109] 1224, .ref 782⟩, ⟨PyData.keyHash P ⟨⟨[95, 108, 97, 119, 95, 112, 97, 115, 115]⟩⟩, kS [95, 108, 97, 119, 95, 112, 97, 115, 115] 1237, .ref 789⟩, ⟨PyData.keyHash P ⟨⟨[95, 108, 97, 119, 95, 111, 110, 99, 101]⟩⟩, kS [95, 108, 97, 119, 95, 111, 110, 99, 101] 1246, .ref 796⟩, ⟨PyData.keyHash P ⟨⟨[95, 108, 97, 119, 95, 116, 119, 105, 99, 101]⟩⟩, kS [95, 108, 97, 119, 95, 116, 119, 105, 99, 101] 1257, .ref 803⟩, ⟨PyData.keyHash P ⟨⟨[95, 108, 97, 119, 95, 111, 114, 100, 101, 114]⟩⟩, kS [95, 108, 97, 119, 95, 111, 114, 100, 101, 114] 1263, .ref 808⟩, ⟨PyData.keyHash P ⟨⟨[108, 97, 119]⟩⟩, kS [108, 97, 119] 1269, .ref 813⟩]⟩ 34, slots := ⟨[]⟩ }
noncomputable def ob4 (P : Params) : Obj := { cls := .type "module", dict := some (0), data := .plain, slots := ⟨[]⟩ }
noncomputable def ob52 (P : Params) : Obj := { cls := .type "code", dict := none, data := .fields ⟨[kS [95, 105, 110, 100, 101, 120] 296, kS [95, 105, 110, 100, 101, 120] 297, kS [47, 99, 108, 97, 105, 109, 47, 99, 117, 116, 46, 112, 121] 298, .int (11) 0, .int (2) 0, .int (0) 0, .int (0) 0, .int (3) 0, .ref 47, .bool true, .int (273) 0, .ref 48, .none, .ref 49, .ref 50, .ref 51, .int (301) 0, .int (11) 0, kS [47, 99, 108, 97, 105, 109, 47, 99, 117, 116, 46, 112, 121] 302]⟩, slots := ⟨[]⟩ }
noncomputable def ob53 (P : Params) : Obj := { cls := .type "function", dict := none, data := fnD (nthP pwB 4) ⟨⟨[95, 105, 110, 100, 101, 120]⟩⟩ ⟨⟨[95, 105, 110, 100, 101, 120]⟩⟩ (.none) (kS [105, 111] 286) (.ref 52), slots := ⟨[]⟩ }
noncomputable def ob79 (P : Params) : Obj := { cls := .type "code", dict := none, data := .fields ⟨[kS [95, 95, 110, 101, 119, 95, 95] 340, kS [73, 79, 66, 97, 115, 101, 46, 95, 95, 110, 101, 119, 95, 95] 341, kS [47, 99, 108, 97, 105, 109, 47, 99, 117, 116, 46, 112, 121] 342, .int (23) 0, .int (1) 0, .int (1) 0, .int (0) 0, .int (15) 0, .ref 74, .bool true, .int (273) 0, .ref 75, .none, .ref 76, .ref 77, .ref 78, .int (346) 0, .int (23) 0, kS [47, 99, 108, 97, 105, 109, 47, 99, 117, 116, 46, 112, 121] 347]⟩, slots := ⟨[]⟩ }
noncomputable def ob80 (P : Params) : Obj := { cls := .type "function", dict := none, data := fnD (nthP (clsB (nthP pwB 6)) 1) ⟨⟨[95, 95, 110, 101, 119, 95, 95]⟩⟩ ⟨⟨[73, 79, 66, 97, 115, 101, 46, 95, 95, 110, 101, 119, 95, 95]⟩⟩ (.none) (kS [105, 111] 286) (.ref 79), slots := ⟨[]⟩ }
noncomputable def ob82 (P : Params) : Obj := { cls := .type "dict", dict := none, data := .dict ⟨[⟨PyData.keyHash P ⟨⟨[95, 95, 109, 111, 100, 117, 108, 101, 95, 95]⟩⟩, kS [95, 95, 109, 111, 100, 117, 108, 101, 95, 95] 333, kS [105, 111] 338⟩, ⟨PyData.keyHash P ⟨⟨[95, 95, 102, 105, 114, 115, 116, 108, 105, 110, 101, 110, 111, 95, 95]⟩⟩, kS [95, 95, 102, 105, 114, 115, 116, 108, 105, 110, 101, 110, 111, 95, 95] 337, .int (20) 336⟩, ⟨PyData.keyHash P ⟨⟨[95, 95, 110, 101, 119, 95, 95]⟩⟩, kS [95, 95, 110, 101, 119, 95, 95] 348, .ref 84⟩, ⟨PyData.keyHash P ⟨⟨[95, 95, 115, 116, 97, 116, 105, 99, 95, 97, 116, 116, 114, 105, 98, 117, 116, 101, 115, 95, 95]⟩⟩, kS [95, 95, 115, 116, 97, 116, 105, 99, 95, 97, 116, 116, 114, 105, 98, 117, 116, 101, 115, 95, 95] 349, .ref 81⟩, ⟨PyData.keyHash P ⟨⟨[95, 95, 100, 105, 99, 116, 95, 95]⟩⟩, kS [95, 95, 100, 105, 99, 116, 95, 95] 352, .ref 85⟩, ⟨PyData.keyHash P ⟨⟨[95, 95, 119, 101, 97, 107, 114, 101, 102, 95, 95]⟩⟩, kS [95, 95, 119, 101, 97, 107, 114, 101, 102, 95, 95] 354, .ref 86⟩, ⟨PyData.keyHash P ⟨⟨[95, 95, 100, 111, 99, 95, 95]⟩⟩, kS [95, 95, 100, 111, 99, 95, 95] 355, .none⟩]⟩ 4, slots := ⟨[]⟩ }
noncomputable def ob83 (P : Params) : Obj := { cls := .type "type", dict := none, data := .cls { name := ⟨⟨[73, 79, 66, 97, 115, 101]⟩⟩, bases := [.type "object"], mro := [.ref 83, .type "object"], ns := 82, qualname := ⟨⟨[73, 79, 66, 97, 115, 101]⟩⟩, hasDict := true, slotNames := [], subclasses := [.ref 98, .ref 110], abstract := false, collection := none, hasDel := false }, slots := ⟨[none, none, some (kS [73, 79, 66, 97, 115, 101] 326), some (kS [73, 79, 66, 97, 115, 101] 334), some (.none), some (.bool true)]⟩ }
noncomputable def ob84 (P : Params) : Obj := { cls := .type "staticmethod", dict := none, data := .fields ⟨[.ref 80]⟩, slots := ⟨[]⟩ }
noncomputable def ob109 (P : Params) : Obj := { cls := .type "dict", dict := none, data := .dict ⟨[⟨PyData.keyHash P ⟨⟨[95, 95, 109, 111, 100, 117, 108, 101, 95, 95]⟩⟩, kS [95, 95, 109, 111, 100, 117, 108, 101, 95, 95] 383, kS [105, 111] 388⟩, ⟨PyData.keyHash P ⟨⟨[95, 95, 102, 105, 114, 115, 116, 108, 105, 110, 101, 110, 111, 95, 95]⟩⟩, kS [95, 95, 102, 105, 114, 115, 116, 108, 105, 110, 101, 110, 111, 95, 95] 387, .int (29) 386⟩, ⟨PyData.keyHash P ⟨⟨[95, 95, 115, 116, 97, 116, 105, 99, 95, 97, 116, 116, 114, 105, 98, 117, 116, 101, 115, 95, 95]⟩⟩, kS [95, 95, 115, 116, 97, 116, 105, 99, 95, 97, 116, 116, 114, 105, 98, 117, 116, 101, 115, 95, 95] 390, .ref 108⟩, ⟨PyData.keyHash P ⟨⟨[95, 95, 100, 111, 99, 95, 95]⟩⟩, kS [95, 95, 100, 111, 99, 95, 95] 391, .none⟩]⟩ 2, slots := ⟨[]⟩ }
noncomputable def ob110 (P : Params) : Obj := { cls := .type "type", dict := none, data := .cls { name := ⟨⟨[84, 101, 120, 116, 73, 79, 66, 97, 115, 101]⟩⟩, bases := [.ref 83], mro := [.ref 110, .ref 83, .type "object"], ns := 109, qualname := ⟨⟨[84, 101, 120, 116, 73, 79, 66, 97, 115, 101]⟩⟩, hasDict := true, slotNames := [], subclasses := [.ref 587], abstract := false, collection := none, hasDel := false }, slots := ⟨[some (.ref 101), none, some (kS [84, 101, 120, 116, 73, 79, 66, 97, 115, 101] 376), some (kS [84, 101, 120, 116, 73, 79, 66, 97, 115, 101] 384), some (.none), some (.bool true)]⟩ }
noncomputable def ob340 (P : Params) : Obj := { cls := .type "type", dict := none, data := .cls { name := ⟨⟨[66, 121, 116, 101, 115, 73, 79]⟩⟩, bases := [.ref 98], mro := [.ref 340, .ref 98, .ref 83, .type "object"], ns := 339, qualname := ⟨⟨[66, 121, 116, 101, 115, 73, 79]⟩⟩, hasDict := true, slotNames := [], subclasses := [], abstract := false, collection := none, hasDel := false }, slots := ⟨[some (.ref 113), none, some (kS [66, 121, 116, 101, 115, 73, 79] 394), some (kS [66, 121, 116, 101, 115, 73, 79] 402), some (.none), some (.bool true)]⟩ }
noncomputable def ob350 (P : Params) : Obj := { cls := .type "tuple", dict := none, data := .seq ⟨[kS [] 670, kS [10] 671]⟩ 0, slots := ⟨[]⟩ }
noncomputable def ob356 (P : Params) : Obj := { cls := .type "code", dict := none, data := .fields ⟨[kS [95, 95, 105, 110, 105, 116, 95, 95] 672, kS [83, 116, 114, 105, 110, 103, 73, 79, 46, 95, 95, 105, 110, 105, 116, 95, 95] 673, kS [47, 99, 108, 97, 105, 109, 47, 99, 117, 116, 46, 112, 121] 674, .int (204) 0, .int (3) 0, .int (0) 0, .int (0) 0, .int (3) 0, .ref 351, .bool true, .int (273) 0, .ref 352, .none, .ref 353, .ref 354, .ref 355, .int (678) 0, .int (204) 0, kS [47, 99, 108, 97, 105, 109, 47, 99, 117, 116, 46, 112, 121] 679]⟩, slots := ⟨[]⟩ }
noncomputable def ob357 (P : Params) : Obj := { cls := .type "function", dict := none, data := fnD (nthP (clsB (nthP pwB 10)) 1) ⟨⟨[95, 95, 105, 110, 105, 116, 95, 95]⟩⟩ ⟨⟨[83, 116, 114, 105, 110, 103, 73, 79, 46, 95, 95, 105, 110, 105, 116, 95, 95]⟩⟩ (.ref 350) (kS [105, 111] 286) (.ref 356), slots := ⟨[]⟩ }
noncomputable def ob363 (P : Params) : Obj := { cls := .type "code", dict := none, data := .fields ⟨[kS [95, 95, 116, 114, 97, 110, 115, 108, 97, 116, 101, 100] 681, kS [83, 116, 114, 105, 110, 103, 73, 79, 46, 95, 95, 116, 114, 97, 110, 115, 108, 97, 116, 101, 100] 682, kS [47, 99, 108, 97, 105, 109, 47, 99, 117, 116, 46, 112, 121] 683, .int (217) 0, .int (2) 0, .int (0) 0, .int (0) 0, .int (3) 0, .ref 358, .bool true, .int (273) 0, .ref 359, .none, .ref 360, .ref 361, .ref 362, .int (687) 0, .int (217) 0, kS [47, 99, 108, 97, 105, 109, 47, 99, 117, 116, 46, 112, 121] 688]⟩, slots := ⟨[]⟩ }
noncomputable def ob364 (P : Params) : Obj := { cls := .type "function", dict := none, data := fnD (nthP (clsB (nthP pwB 10)) 2) ⟨⟨[95, 95, 116, 114, 97, 110, 115, 108, 97, 116, 101, 100]⟩⟩ ⟨⟨[83, 116, 114, 105, 110, 103, 73, 79, 46, 95, 95, 116, 114, 97, 110, 115, 108, 97, 116, 101, 100]⟩⟩ (.none) (kS [105, 111] 286) (.ref 363), slots := ⟨[]⟩ }
noncomputable def ob370 (P : Params) : Obj := { cls := .type "code", dict := none, data := .fields ⟨[kS [95, 95, 99, 104, 101, 99, 107] 690, kS [83, 116, 114, 105, 110, 103, 73, 79, 46, 95, 95, 99, 104, 101, 99, 107] 691, kS [47, 99, 108, 97, 105, 109, 47, 99, 117, 116, 46, 112, 121] 692, .int (225) 0, .int (1) 0, .int (0) 0, .int (0) 0, .int (3) 0, .ref 365, .bool true, .int (273) 0, .ref 366, .none, .ref 367, .ref 368, .ref 369, .int (694) 0, .int (225) 0, kS [47, 99, 108, 97, 105, 109, 47, 99, 117, 116, 46, 112, 121] 695]⟩, slots := ⟨[]⟩ }
noncomputable def ob371 (P : Params) : Obj := { cls := .type "function", dict := none, data := fnD (nthP (clsB (nthP pwB 10)) 3) ⟨⟨[95, 95, 99, 104, 101, 99, 107]⟩⟩ ⟨⟨[83, 116, 114, 105, 110, 103, 73, 79, 46, 95, 95, 99, 104, 101, 99, 107]⟩⟩ (.none) (kS [105, 111] 286) (.ref 370), slots := ⟨[]⟩ }
noncomputable def ob526 (P : Params) : Obj := { cls := .type "tuple", dict := none, data := .seq ⟨[.int (-1) 863]⟩ 0, slots := ⟨[]⟩ }
noncomputable def ob532 (P : Params) : Obj := { cls := .type "code", dict := none, data := .fields ⟨[kS [114, 101, 97, 100] 864, kS [83, 116, 114, 105, 110, 103, 73, 79, 46, 114, 101, 97, 100] 865, kS [47, 99, 108, 97, 105, 109, 47, 99, 117, 116, 46, 112, 121] 866, .int (347) 0, .int (2) 0, .int (2) 0, .int (0) 0, .int (3) 0, .ref 527, .bool true, .int (273) 0, .ref 528, .none, .ref 529, .ref 530, .ref 531, .int (871) 0, .int (347) 0, kS [47, 99, 108, 97, 105, 109, 47, 99, 117, 116, 46, 112, 121] 872]⟩, slots := ⟨[]⟩ }
noncomputable def ob533 (P : Params) : Obj := { cls := .type "function", dict := none, data := fnD (nthP (clsB (nthP pwB 10)) 25) ⟨⟨[114, 101, 97, 100]⟩⟩ ⟨⟨[83, 116, 114, 105, 110, 103, 73, 79, 46, 114, 101, 97, 100]⟩⟩ (.ref 526) (kS [105, 111] 286) (.ref 532), slots := ⟨[]⟩ }
noncomputable def ob586 (P : Params) : Obj := { cls := .type "dict", dict := none, data := .dict ⟨[⟨PyData.keyHash P ⟨⟨[95, 95, 109, 111, 100, 117, 108, 101, 95, 95]⟩⟩, kS [95, 95, 109, 111, 100, 117, 108, 101, 95, 95] 663, kS [95, 105, 111] 668⟩, ⟨PyData.keyHash P ⟨⟨[95, 95, 102, 105, 114, 115, 116, 108, 105, 110, 101, 110, 111, 95, 95]⟩⟩, kS [95, 95, 102, 105, 114, 115, 116, 108, 105, 110, 101, 110, 111, 95, 95] 667, .int (201) 666⟩, ⟨PyData.keyHash P ⟨⟨[95, 95, 105, 110, 105, 116, 95, 95]⟩⟩, kS [95, 95, 105, 110, 105, 116, 95, 95] 680, .ref 357⟩, ⟨PyData.keyHash P ⟨⟨[95, 83, 116, 114, 105, 110, 103, 73, 79, 95, 95, 116, 114, 97, 110, 115, 108, 97, 116, 101, 100]⟩⟩, kS [95, 83, 116, 114, 105, 110, 103, 73, 79, 95, 95, 116, 114, 97, 110, 115, 108, 97, 116, 101, 100] 689, .ref 364⟩, ⟨PyData.keyHash P ⟨⟨[95, 83, 116, 114, 105, 110, 103, 73, 79, 95, 95, 99, 104, 101, 99, 107]⟩⟩, kS [95, 83, 116, 114, 105, 110, 103, 73, 79, 95, 95, 99, 104, 101, 99, 107] 696, .ref 371⟩, ⟨PyData.keyHash P ⟨⟨[95, 83, 116, 114, 105, 110, 103, 73, 79, 95, 95, 99, 104, 101, 99, 107, 95, 100, 111, 116]⟩⟩, kS [95, 83, 116, 114, 105, 110, 103, 73, 79, 95, 95, 99, 104, 101, 99, 107, 95, 100, 111, 116] 703, .ref 378⟩, ⟨PyData.keyHash P ⟨⟨[95, 83, 116, 114, 105, 110, 103, 73, 79, 95, 95, 108, 105, 110, 101]⟩⟩, kS [95, 83, 116, 114, 105, 110, 103, 73, 79, 95, 95, 108, 105, 110, 101] 718, .ref 385⟩, ⟨PyData.keyHash P ⟨⟨[99, 108, 111, 115, 101, 100]⟩⟩, kS [99, 108, 111, 115, 101, 100] 726, .ref 393⟩, ⟨PyData.keyHash P ⟨⟨[108, 105, 110, 101, 95, 98, 117, 102, 102, 101, 114, 105, 110, 103]⟩⟩, kS [108, 105, 110, 101, 95, 98, 117, 102, 102, 101, 114, 105, 110, 103] 734, .ref 401⟩, ⟨PyData.keyHash P ⟨⟨[110, 101, 119, 108, 105, 110, 101, 115]⟩⟩, kS [110, 101, 119, 108, 105, 110, 101, 115] 742, .ref 409⟩, ⟨PyData.keyHash P ⟨⟨[101, 110, 99, 111, 100, 105, 110, 103]⟩⟩, kS [101, 110, 99, 111, 100, 105, 110, 103] 750, .ref 417⟩, ⟨PyData.keyHash P ⟨⟨[101, 114, 114, 111, 114, 115]⟩⟩, kS [101, 114, 114, 111, 114, 115] 758, .ref 425⟩, ⟨PyData.keyHash P ⟨⟨[99, 108, 111, 115, 101]⟩⟩, kS [99, 108, 111, 115, 101] 765, .ref 432⟩, ⟨PyData.keyHash P ⟨⟨[95, 95, 101, 110, 116, 101, 114, 95, 95]⟩⟩, kS [95, 95, 101, 110, 116, 101, 114, 95, 95] 772, .ref 439⟩, ⟨PyData.keyHash P ⟨⟨[95, 95, 101, 120, 105, 116, 95, 95]⟩⟩, kS [95, 95, 101, 120, 105, 116, 95, 95] 780, .ref 446⟩, ⟨PyData.keyHash P ⟨⟨[114, 101, 97, 100, 97, 98, 108, 101]⟩⟩, kS [114, 101, 97, 100, 97, 98, 108, 101] 787, .ref 453⟩, ⟨PyData.keyHash P ⟨⟨[119, 114, 105, 116, 97, 98, 108, 101]⟩⟩, kS [119, 114, 105, 116, 97, 98, 108, 101] 794, .ref 460⟩, ⟨PyData.keyHash P ⟨⟨[115, 101, 101, 107, 97, 98, 108, 101]⟩⟩, kS [115, 101, 101, 107, 97, 98, 108, 101] 801, .ref 467⟩, ⟨PyData.keyHash P ⟨⟨[105, 115, 97, 116, 116, 121]⟩⟩, kS [105, 115, 97, 116, 116, 121] 808, .ref 474⟩, ⟨PyData.keyHash P ⟨⟨[102, 108, 117, 115, 104]⟩⟩, kS [102, 108, 117, 115, 104] 815, .ref 481⟩, ⟨PyData.keyHash P ⟨⟨[102, 105, 108, 101, 110, 111]⟩⟩, kS [102, 105, 108, 101, 110, 111] 822, .ref 488⟩, ⟨PyData.keyHash P ⟨⟨[100, 101, 116, 97, 99, 104]⟩⟩, kS [100, 101, 116, 97, 99, 104] 829, .ref 495⟩, ⟨PyData.keyHash P ⟨⟨[103, 101, 116, 118, 97, 108, 117, 101]⟩⟩, kS [103, 101, 116, 118, 97, 108, 117, 101] 836, .ref 502⟩, ⟨PyData.keyHash P ⟨⟨[116, 101, 108, 108]⟩⟩, kS [116, 101, 108, 108] 843, .ref 509⟩, ⟨PyData.keyHash P ⟨⟨[115, 101, 101, 107]⟩⟩, kS [115, 101, 101, 107] 853, .ref 517⟩, ⟨PyData.keyHash P ⟨⟨[116, 114, 117, 110, 99, 97, 116, 101]⟩⟩, kS [116, 114, 117, 110, 99, 97, 116, 101] 861, .ref 525⟩, ⟨PyData.keyHash P ⟨⟨[114, 101, 97, 100]⟩⟩, kS [114, 101, 97, 100] 873, .ref 533⟩, ⟨PyData.keyHash P ⟨⟨[114, 101, 97, 100, 108, 105, 110, 101]⟩⟩, kS [114, 101, 97, 100, 108, 105, 110, 101] 883, .ref 541⟩, ⟨PyData.keyHash P ⟨⟨[114, 101, 97, 100, 108, 105, 110, 101, 115]⟩⟩, kS [114, 101, 97, 100, 108, 105, 110, 101, 115] 893, .ref 549⟩, ⟨PyData.keyHash P ⟨⟨[95, 95, 105, 116, 101, 114, 95, 95]⟩⟩, kS [95, 95, 105, 116, 101, 114, 95, 95] 900, .ref 556⟩, ⟨PyData.keyHash P ⟨⟨[95, 95, 110, 101, 120, 116, 95, 95]⟩⟩, kS [95, 95, 110, 101, 120, 116, 95, 95] 908, .ref 563⟩, ⟨PyData.keyHash P ⟨⟨[119, 114, 105, 116, 101]⟩⟩, kS [119, 114, 105, 116, 101] 920, .ref 570⟩, ⟨PyData.keyHash P ⟨⟨[119, 114, 105, 116, 101, 108, 105, 110, 101, 115]⟩⟩, kS [119, 114, 105, 116, 101, 108, 105, 110, 101, 115] 928, .ref 577⟩, ⟨PyData.keyHash P ⟨⟨[95, 95, 114, 101, 112, 114, 95, 95]⟩⟩, kS [95, 95, 114, 101, 112, 114, 95, 95] 935, .ref 584⟩, ⟨PyData.keyHash P ⟨⟨[95, 95, 115, 116, 97, 116, 105, 99, 95, 97, 116, 116, 114, 105, 98, 117, 116, 101, 115, 95, 95]⟩⟩, kS [95, 95, 115, 116, 97, 116, 105, 99, 95, 97, 116, 116, 114, 105, 98, 117, 116, 101, 115, 95, 95] 939, .ref 585⟩, ⟨PyData.keyHash P ⟨⟨[95, 95, 100, 111, 99, 95, 95]⟩⟩, kS [95, 95, 100, 111, 99, 95, 95] 940, .none⟩]⟩ 2, slots := ⟨[]⟩ }
noncomputable def ob587 (P : Params) : Obj := { cls := .type "type", dict := none, data := .cls { name := ⟨⟨[83, 116, 114, 105, 110, 103, 73, 79]⟩⟩, bases := [.ref 110], mro := [.ref 587, .ref 110, .ref 83, .type "object"], ns := 586, qualname := ⟨⟨[83, 116, 114, 105, 110, 103, 73, 79]⟩⟩, hasDict := true, slotNames := [], subclasses := [], abstract := false, collection := none, hasDel := false }, slots := ⟨[some (.ref 343), none, some (kS [83, 116, 114, 105, 110, 103, 73, 79] 656), some (kS [83, 116, 114, 105, 110, 103, 73, 79] 664), some (.none), some (.bool true)]⟩ }
noncomputable def ob639 (P : Params) : Obj := { cls := .type "tuple", dict := none, data := .seq ⟨[.none, .none, .bool false, .bool false]⟩ 0, slots := ⟨[]⟩ }
noncomputable def ob645 (P : Params) : Obj := { cls := .type "code", dict := none, data := .fields ⟨[kS [95, 95, 105, 110, 105, 116, 95, 95] 1015, kS [115, 104, 108, 101, 120, 46, 95, 95, 105, 110, 105, 116, 95, 95] 1016, kS [47, 99, 108, 97, 105, 109, 47, 99, 117, 116, 46, 112, 121] 1017, .int (472) 0, .int (5) 0, .int (0) 0, .int (0) 0, .int (3) 0, .ref 640, .bool true, .int (273) 0, .ref 641, .none, .ref 642, .ref 643, .ref 644, .int (1024) 0, .int (472) 0, kS [47, 99, 108, 97, 105, 109, 47, 99, 117, 116, 46, 112, 121] 1025]⟩, slots := ⟨[]⟩ }
noncomputable def ob646 (P : Params) : Obj := { cls := .type "function", dict := none, data := fnD (nthP (clsB (nthP pwB 19)) 0) ⟨⟨[95, 95, 105, 110, 105, 116, 95, 95]⟩⟩ ⟨⟨[115, 104, 108, 101, 120, 46, 95, 95, 105, 110, 105, 116, 95, 95]⟩⟩ (.ref 639) (kS [99, 112, 121, 51, 49, 51, 46, 115, 104, 108, 101, 120] 1001) (.ref 645), slots := ⟨[]⟩ }
noncomputable def ob652 (P : Params) : Obj := { cls := .type "code", dict := none, data := .fields ⟨[kS [112, 117, 110, 99, 116, 117, 97, 116, 105, 111, 110, 95, 99, 104, 97, 114, 115] 1027, kS [115, 104, 108, 101, 120, 46, 112, 117, 110, 99, 116, 117, 97, 116, 105, 111, 110, 95, 99, 104, 97, 114, 115] 1028, kS [47, 99, 108, 97, 105, 109, 47, 99, 117, 116, 46, 112, 121] 1029, .int (513) 0, .int (1) 0, .int (0) 0, .int (0) 0, .int (3) 0, .ref 647, .bool true, .int (273) 0, .ref 648, .none, .ref 649, .ref 650, .ref 651, .int (1031) 0, .int (513) 0, kS [47, 99, 108, 97, 105, 109, 47, 99, 117, 116, 46, 112, 121] 1032]⟩, slots := ⟨[]⟩ }
noncomputable def ob653 (P : Params) : Obj := { cls := .type "function", dict := none, data := fnD (nthP (clsB (nthP pwB 19)) 1) ⟨⟨[112, 117, 110, 99, 116, 117, 97, 116, 105, 111, 110, 95, 99, 104, 97, 114, 115]⟩⟩ ⟨⟨[115, 104, 108, 101, 120, 46, 112, 117, 110, 99, 116, 117, 97, 116, 105, 111, 110, 95, 99, 104, 97, 114, 115]⟩⟩ (.none) (kS [99, 112, 121, 51, 49, 51, 46, 115, 104, 108, 101, 120] 1001) (.ref 652), slots := ⟨[]⟩ }
noncomputable def ob654 (P : Params) : Obj := { cls := .type "property", dict := none, data := .fields ⟨[.ref 653, .none, .none, .none, kS [112, 117, 110, 99, 116, 117, 97, 116, 105, 111, 110, 95, 99, 104, 97, 114, 115] 1034, .bool false]⟩, slots := ⟨[]⟩ }
noncomputable def ob660 (P : Params) : Obj := { cls := .type "code", dict := none, data := .fields ⟨[kS [112, 117, 115, 104, 95, 116, 111, 107, 101, 110] 1035, kS [115, 104, 108, 101, 120, 46, 112, 117, 115, 104, 95, 116, 111, 107, 101, 110] 1036, kS [47, 99, 108, 97, 105, 109, 47, 99, 117, 116, 46, 112, 121] 1037, .int (517) 0, .int (2) 0, .int (0) 0, .int (0) 0, .int (3) 0, .ref 655, .bool true, .int (273) 0, .ref 656, .none, .ref 657, .ref 658, .ref 659, .int (1040) 0, .int (517) 0, kS [47, 99, 108, 97, 105, 109, 47, 99, 117, 116, 46, 112, 121] 1041]⟩, slots := ⟨[]⟩ }
noncomputable def ob661 (P : Params) : Obj := { cls := .type "function", dict := none, data := fnD (nthP (clsB (nthP pwB 19)) 2) ⟨⟨[112, 117, 115, 104, 95, 116, 111, 107, 101, 110]⟩⟩ ⟨⟨[115, 104, 108, 101, 120, 46, 112, 117, 115, 104, 95, 116, 111, 107, 101, 110]⟩⟩ (.none) (kS [99, 112, 121, 51, 49, 51, 46, 115, 104, 108, 101, 120] 1001) (.ref 660), slots := ⟨[]⟩ }
noncomputable def ob682 (P : Params) : Obj := { cls := .type "code", dict := none, data := .fields ⟨[kS [103, 101, 116, 95, 116, 111, 107, 101, 110] 1059, kS [115, 104, 108, 101, 120, 46, 103, 101, 116, 95, 116, 111, 107, 101, 110] 1060, kS [47, 99, 108, 97, 105, 109, 47, 99, 117, 116, 46, 112, 121] 1061, .int (542) 0, .int (1) 0, .int (0) 0, .int (0) 0, .int (3) 0, .ref 677, .bool true, .int (273) 0, .ref 678, .none, .ref 679, .ref 680, .ref 681, .int (1068) 0, .int (542) 0, kS [47, 99, 108, 97, 105, 109, 47, 99, 117, 116, 46, 112, 121] 1069]⟩, slots := ⟨[]⟩ }
noncomputable def ob683 (P : Params) : Obj := { cls := .type "function", dict := none, data := fnD (nthP (clsB (nthP pwB 19)) 5) ⟨⟨[103, 101, 116, 95, 116, 111, 107, 101, 110]⟩⟩ ⟨⟨[115, 104, 108, 101, 120, 46, 103, 101, 116, 95, 116, 111, 107, 101, 110]⟩⟩ (.none) (kS [99, 112, 121, 51, 49, 51, 46, 115, 104, 108, 101, 120] 1001) (.ref 682), slots := ⟨[]⟩ }
noncomputable def ob689 (P : Params) : Obj := { cls := .type "code", dict := none, data := .fields ⟨[kS [114, 101, 97, 100, 95, 116, 111, 107, 101, 110] 1071, kS [115, 104, 108, 101, 120, 46, 114, 101, 97, 100, 95, 116, 111, 107, 101, 110] 1072, kS [47, 99, 108, 97, 105, 109, 47, 99, 117, 116, 46, 112, 121] 1073, .int (569) 0, .int (1) 0, .int (0) 0, .int (0) 0, .int (3) 0, .ref 684, .bool true, .int (273) 0, .ref 685, .none, .ref 686, .ref 687, .ref 688, .int (1079) 0, .int (569) 0, kS [47, 99, 108, 97, 105, 109, 47, 99, 117, 116, 46, 112, 121] 1080]⟩, slots := ⟨[]⟩ }
noncomputable def ob690 (P : Params) : Obj := { cls := .type "function", dict := none, data := fnD (nthP (clsB (nthP pwB 19)) 6) ⟨⟨[114, 101, 97, 100, 95, 116, 111, 107, 101, 110]⟩⟩ ⟨⟨[115, 104, 108, 101, 120, 46, 114, 101, 97, 100, 95, 116, 111, 107, 101, 110]⟩⟩ (.none) (kS [99, 112, 121, 51, 49, 51, 46, 115, 104, 108, 101, 120] 1001) (.ref 689), slots := ⟨[]⟩ }
noncomputable def ob711 (P : Params) : Obj := { cls := .type "code", dict := none, data := .fields ⟨[kS [95, 95, 105, 116, 101, 114, 95, 95] 1099, kS [115, 104, 108, 101, 120, 46, 95, 95, 105, 116, 101, 114, 95, 95] 1100, kS [47, 99, 108, 97, 105, 109, 47, 99, 117, 116, 46, 112, 121] 1101, .int (716) 0, .int (1) 0, .int (0) 0, .int (0) 0, .int (3) 0, .ref 706, .bool true, .int (273) 0, .ref 707, .none, .ref 708, .ref 709, .ref 710, .int (1103) 0, .int (716) 0, kS [47, 99, 108, 97, 105, 109, 47, 99, 117, 116, 46, 112, 121] 1104]⟩, slots := ⟨[]⟩ }
noncomputable def ob712 (P : Params) : Obj := { cls := .type "function", dict := none, data := fnD (nthP (clsB (nthP pwB 19)) 9) ⟨⟨[95, 95, 105, 116, 101, 114, 95, 95]⟩⟩ ⟨⟨[115, 104, 108, 101, 120, 46, 95, 95, 105, 116, 101, 114, 95, 95]⟩⟩ (.none) (kS [99, 112, 121, 51, 49, 51, 46, 115, 104, 108, 101, 120] 1001) (.ref 711), slots := ⟨[]⟩ }
noncomputable def ob718 (P : Params) : Obj := { cls := .type "code", dict := none, data := .fields ⟨[kS [95, 95, 110, 101, 120, 116, 95, 95] 1106, kS [115, 104, 108, 101, 120, 46, 95, 95, 110, 101, 120, 116, 95, 95] 1107, kS [47, 99, 108, 97, 105, 109, 47, 99, 117, 116, 46, 112, 121] 1108, .int (719) 0, .int (1) 0, .int (0) 0, .int (0) 0, .int (3) 0, .ref 713, .bool true, .int (273) 0, .ref 714, .none, .ref 715, .ref 716, .ref 717, .int (1111) 0, .int (719) 0, kS [47, 99, 108, 97, 105, 109, 47, 99, 117, 116, 46, 112, 121] 1112]⟩, slots := ⟨[]⟩ }
noncomputable def ob719 (P : Params) : Obj := { cls := .type "function", dict := none, data := fnD (nthP (clsB (nthP pwB 19)) 10) ⟨⟨[95, 95, 110, 101, 120, 116, 95, 95]⟩⟩ ⟨⟨[115, 104, 108, 101, 120, 46, 95, 95, 110, 101, 120, 116, 95, 95]⟩⟩ (.none) (kS [99, 112, 121, 51, 49, 51, 46, 115, 104, 108, 101, 120] 1001) (.ref 718), slots := ⟨[]⟩ }
noncomputable def ob721 (P : Params) : Obj := { cls := .type "dict", dict := none, data := .dict ⟨[⟨PyData.keyHash P ⟨⟨[95, 95, 109, 111, 100, 117, 108, 101, 95, 95]⟩⟩, kS [95, 95, 109, 111, 100, 117, 108, 101, 95, 95] 1010, kS [99, 112, 121, 51, 49, 51, 46, 115, 104, 108, 101, 120] 1001⟩, ⟨PyData.keyHash P ⟨⟨[95, 95, 102, 105, 114, 115, 116, 108, 105, 110, 101, 110, 111, 95, 95]⟩⟩, kS [95, 95, 102, 105, 114, 115, 116, 108, 105, 110, 101, 110, 111, 95, 95] 1014, .int (470) 1013⟩, ⟨PyData.keyHash P ⟨⟨[95, 95, 105, 110, 105, 116, 95, 95]⟩⟩, kS [95, 95, 105, 110, 105, 116, 95, 95] 1026, .ref 646⟩, ⟨PyData.keyHash P ⟨⟨[112, 117, 110, 99, 116, 117, 97, 116, 105, 111, 110, 95, 99, 104, 97, 114, 115]⟩⟩, kS [112, 117, 110, 99, 116, 117, 97, 116, 105, 111, 110, 95, 99, 104, 97, 114, 115] 1034, .ref 654⟩, ⟨PyData.keyHash P ⟨⟨[112, 117, 115, 104, 95, 116, 111, 107, 101, 110]⟩⟩, kS [112, 117, 115, 104, 95, 116, 111, 107, 101, 110] 1042, .ref 661⟩, ⟨PyData.keyHash P ⟨⟨[112, 117, 115, 104, 95, 115, 111, 117, 114, 99, 101]⟩⟩, kS [112, 117, 115, 104, 95, 115, 111, 117, 114, 99, 101] 1051, .ref 669⟩, ⟨PyData.keyHash P ⟨⟨[112, 111, 112, 95, 115, 111, 117, 114, 99, 101]⟩⟩, kS [112, 111, 112, 95, 115, 111, 117, 114, 99, 101] 1058, .ref 676⟩, ⟨PyData.keyHash P ⟨⟨[103, 101, 116, 95, 116, 111, 107, 101, 110]⟩⟩, kS [103, 101, 116, 95, 116, 111, 107, 101, 110] 1070, .ref 683⟩, ⟨PyData.keyHash P ⟨⟨[114, 101, 97, 100, 95, 116, 111, 107, 101, 110]⟩⟩, kS [114, 101, 97, 100, 95, 116, 111, 107, 101, 110] 1081, .ref 690⟩, ⟨PyData.keyHash P ⟨⟨[115, 111, 117, 114, 99, 101, 104, 111, 111, 107]⟩⟩, kS [115, 111, 117, 114, 99, 101, 104, 111, 111, 107] 1089, .ref 697⟩, ⟨PyData.keyHash P ⟨⟨[101, 114, 114, 111, 114, 95, 108, 101, 97, 100, 101, 114]⟩⟩, kS [101, 114, 114, 111, 114, 95, 108, 101, 97, 100, 101, 114] 1098, .ref 705⟩, ⟨PyData.keyHash P ⟨⟨[95, 95, 105, 116, 101, 114, 95, 95]⟩⟩, kS [95, 95, 105, 116, 101, 114, 95, 95] 1105, .ref 712⟩, ⟨PyData.keyHash P ⟨⟨[95, 95, 110, 101, 120, 116, 95, 95]⟩⟩, kS [95, 95, 110, 101, 120, 116, 95, 95] 1113, .ref 719⟩, ⟨PyData.keyHash P ⟨⟨[95, 95, 115, 116, 97, 116, 105, 99, 95, 97, 116, 116, 114, 105, 98, 117, 116, 101, 115, 95, 95]⟩⟩, kS [95, 95, 115, 116, 97, 116, 105, 99, 95, 97, 116, 116, 114, 105, 98, 117, 116, 101, 115, 95, 95] 1134, .ref 720⟩, ⟨PyData.keyHash P ⟨⟨[95, 95, 100, 105, 99, 116, 95, 95]⟩⟩, kS [95, 95, 100, 105, 99, 116, 95, 95] 1136, .ref 723⟩, ⟨PyData.keyHash P ⟨⟨[95, 95, 119, 101, 97, 107, 114, 101, 102, 95, 95]⟩⟩, kS [95, 95, 119, 101, 97, 107, 114, 101, 102, 95, 95] 1138, .ref 724⟩, ⟨PyData.keyHash P ⟨⟨[95, 95, 100, 111, 99, 95, 95]⟩⟩, kS [95, 95, 100, 111, 99, 95, 95] 1139, .none⟩]⟩ 4, slots := ⟨[]⟩ }
noncomputable def ob722 (P : Params) : Obj := { cls := .type "type", dict := none, data := .cls { name := ⟨⟨[115, 104, 108, 101, 120]⟩⟩, bases := [.type "object"], mro := [.ref 722, .type "object"], ns := 721, qualname := ⟨⟨[115, 104, 108, 101, 120]⟩⟩, hasDict := true, slotNames := [], subclasses := [], abstract := false, collection := none, hasDel := false }, slots := ⟨[none, none, some (kS [115, 104, 108, 101, 120] 1003), some (kS [115, 104, 108, 101, 120] 1011), some (.builtin "object.__new__"), some (.bool true)]⟩ }
noncomputable def ob739 (P : Params) : Obj := { cls := .type "code", dict := none, data := .fields ⟨[kS [95, 95, 105, 110, 105, 116, 95, 95] 1156, kS [95, 110, 101, 116, 114, 99, 108, 101, 120, 46, 95, 95, 105, 110, 105, 116, 95, 95] 1157, kS [47, 99, 108, 97, 105, 109, 47, 99, 117, 116, 46, 112, 121] 1158, .int (727) 0, .int (2) 0, .int (0) 0, .int (0) 0, .int (3) 0, .ref 734, .bool true, .int (273) 0, .ref 735, .none, .ref 736, .ref 737, .ref 738, .int (1161) 0, .int (727) 0, kS [47, 99, 108, 97, 105, 109, 47, 99, 117, 116, 46, 112, 121] 1162]⟩, slots := ⟨[]⟩ }
noncomputable def ob740 (P : Params) : Obj := { cls := .type "function", dict := none, data := fnD (nthP (clsB (nthP pwB 21)) 0) ⟨⟨[95, 95, 105, 110, 105, 116, 95, 95]⟩⟩ ⟨⟨[95, 110, 101, 116, 114, 99, 108, 101, 120, 46, 95, 95, 105, 110, 105, 116, 95, 95]⟩⟩ (.none) (kS [99, 112, 121, 51, 49, 51, 46, 110, 101, 116, 114, 99] 1142) (.ref 739), slots := ⟨[]⟩ }
noncomputable def ob746 (P : Params) : Obj := { cls := .type "code", dict := none, data := .fields ⟨[kS [95, 114, 101, 97, 100, 95, 99, 104, 97, 114] 1164, kS [95, 110, 101, 116, 114, 99, 108, 101, 120, 46, 95, 114, 101, 97, 100, 95, 99, 104, 97, 114] 1165, kS [47, 99, 108, 97, 105, 109, 47, 99, 117, 116, 46, 112, 121] 1166, .int (733) 0, .int (1) 0, .int (0) 0, .int (0) 0, .int (3) 0, .ref 741, .bool true, .int (273) 0, .ref 742, .none, .ref 743, .ref 744, .ref 745, .int (1169) 0, .int (733) 0, kS [47, 99, 108, 97, 105, 109, 47, 99, 117, 116, 46, 112, 121] 1170]⟩, slots := ⟨[]⟩ }
noncomputable def ob747 (P : Params) : Obj := { cls := .type "function", dict := none, data := fnD (nthP (clsB (nthP pwB 21)) 1) ⟨⟨[95, 114, 101, 97, 100, 95, 99, 104, 97, 114]⟩⟩ ⟨⟨[95, 110, 101, 116, 114, 99, 108, 101, 120, 46, 95, 114, 101, 97, 100, 95, 99, 104, 97, 114]⟩⟩ (.none) (kS [99, 112, 121, 51, 49, 51, 46, 110, 101, 116, 114, 99] 1142) (.ref 746), slots := ⟨[]⟩ }
noncomputable def ob753 (P : Params) : Obj := { cls := .type "code", dict := none, data := .fields ⟨[kS [103, 101, 116, 95, 116, 111, 107, 101, 110] 1172, kS [95, 110, 101, 116, 114, 99, 108, 101, 120, 46, 103, 101, 116, 95, 116, 111, 107, 101, 110] 1173, kS [47, 99, 108, 97, 105, 109, 47, 99, 117, 116, 46, 112, 121] 1174, .int (739) 0, .int (1) 0, .int (0) 0, .int (0) 0, .int (3) 0, .ref 748, .bool true, .int (273) 0, .ref 749, .none, .ref 750, .ref 751, .ref 752, .int (1179) 0, .int (739) 0, kS [47, 99, 108, 97, 105, 109, 47, 99, 117, 116, 46, 112, 121] 1180]⟩, slots := ⟨[]⟩ }
noncomputable def ob754 (P : Params) : Obj := { cls := .type "function", dict := none, data := fnD (nthP (clsB (nthP pwB 21)) 2) ⟨⟨[103, 101, 116, 95, 116, 111, 107, 101, 110]⟩⟩ ⟨⟨[95, 110, 101, 116, 114, 99, 108, 101, 120, 46, 103, 101, 116, 95, 116, 111, 107, 101, 110]⟩⟩ (.none) (kS [99, 112, 121, 51, 49, 51, 46, 110, 101, 116, 114, 99] 1142) (.ref 753), slots := ⟨[]⟩ }
noncomputable def ob760 (P : Params) : Obj := { cls := .type "code", dict := none, data := .fields ⟨[kS [112, 117, 115, 104, 95, 116, 111, 107, 101, 110] 1182, kS [95, 110, 101, 116, 114, 99, 108, 101, 120, 46, 112, 117, 115, 104, 95, 116, 111, 107, 101, 110] 1183, kS [47, 99, 108, 97, 105, 109, 47, 99, 117, 116, 46, 112, 121] 1184, .int (766) 0, .int (2) 0, .int (0) 0, .int (0) 0, .int (3) 0, .ref 755, .bool true, .int (273) 0, .ref 756, .none, .ref 757, .ref 758, .ref 759, .int (1187) 0, .int (766) 0, kS [47, 99, 108, 97, 105, 109, 47, 99, 117, 116, 46, 112, 121] 1188]⟩, slots := ⟨[]⟩ }
noncomputable def ob761 (P : Params) : Obj := { cls := .type "function", dict := none, data := fnD (nthP (clsB (nthP pwB 21)) 3) ⟨⟨[112, 117, 115, 104, 95, 116, 111, 107, 101, 110]⟩⟩ ⟨⟨[95, 110, 101, 116, 114, 99, 108, 101, 120, 46, 112, 117, 115, 104, 95, 116, 111, 107, 101, 110]⟩⟩ (.none) (kS [99, 112, 121, 51, 49, 51, 46, 110, 101, 116, 114, 99] 1142) (.ref 760), slots := ⟨[]⟩ }
noncomputable def ob763 (P : Params) : Obj := { cls := .type "dict", dict := none, data := .dict ⟨[⟨PyData.keyHash P ⟨⟨[95, 95, 109, 111, 100, 117, 108, 101, 95, 95]⟩⟩, kS [95, 95, 109, 111, 100, 117, 108, 101, 95, 95] 1151, kS [99, 112, 121, 51, 49, 51, 46, 110, 101, 116, 114, 99] 1142⟩, ⟨PyData.keyHash P ⟨⟨[95, 95, 102, 105, 114, 115, 116, 108, 105, 110, 101, 110, 111, 95, 95]⟩⟩, kS [95, 95, 102, 105, 114, 115, 116, 108, 105, 110, 101, 110, 111, 95, 95] 1155, .int (725) 1154⟩, ⟨PyData.keyHash P ⟨⟨[95, 95, 105, 110, 105, 116, 95, 95]⟩⟩, kS [95, 95, 105, 110, 105, 116, 95, 95] 1163, .ref 740⟩, ⟨PyData.keyHash P ⟨⟨[95, 114, 101, 97, 100, 95, 99, 104, 97, 114]⟩⟩, kS [95, 114, 101, 97, 100, 95, 99, 104, 97, 114] 1171, .ref 747⟩, ⟨PyData.keyHash P ⟨⟨[103, 101, 116, 95, 116, 111, 107, 101, 110]⟩⟩, kS [103, 101, 116, 95, 116, 111, 107, 101, 110] 1181, .ref 754⟩, ⟨PyData.keyHash P ⟨⟨[112, 117, 115, 104, 95, 116, 111, 107, 101, 110]⟩⟩, kS [112, 117, 115, 104, 95, 116, 111, 107, 101, 110] 1189, .ref 761⟩, ⟨PyData.keyHash P ⟨⟨[95, 95, 115, 116, 97, 116, 105, 99, 95, 97, 116, 116, 114, 105, 98, 117, 116, 101, 115, 95, 95]⟩⟩, kS [95, 95, 115, 116, 97, 116, 105, 99, 95, 97, 116, 116, 114, 105, 98, 117, 116, 101, 115, 95, 95] 1194, .ref 762⟩, ⟨PyData.keyHash P ⟨⟨[95, 95, 100, 105, 99, 116, 95, 95]⟩⟩, kS [95, 95, 100, 105, 99, 116, 95, 95] 1196, .ref 765⟩, ⟨PyData.keyHash P ⟨⟨[95, 95, 119, 101, 97, 107, 114, 101, 102, 95, 95]⟩⟩, kS [95, 95, 119, 101, 97, 107, 114, 101, 102, 95, 95] 1198, .ref 766⟩, ⟨PyData.keyHash P ⟨⟨[95, 95, 100, 111, 99, 95, 95]⟩⟩, kS [95, 95, 100, 111, 99, 95, 95] 1199, .none⟩]⟩ 4, slots := ⟨[]⟩ }
noncomputable def ob764 (P : Params) : Obj := { cls := .type "type", dict := none, data := .cls { name := ⟨⟨[95, 110, 101, 116, 114, 99, 108, 101, 120]⟩⟩, bases := [.type "object"], mro := [.ref 764, .type "object"], ns := 763, qualname := ⟨⟨[95, 110, 101, 116, 114, 99, 108, 101, 120]⟩⟩, hasDict := true, slotNames := [], subclasses := [], abstract := false, collection := none, hasDel := false }, slots := ⟨[none, none, some (kS [95, 110, 101, 116, 114, 99, 108, 101, 120] 1144), some (kS [95, 110, 101, 116, 114, 99, 108, 101, 120] 1152), some (.builtin "object.__new__"), some (.bool true)]⟩ }
noncomputable def ob774 (P : Params) : Obj := { cls := .type "code", dict := none, data := .fields ⟨[kS [116, 104, 114, 101, 101, 95, 119, 97, 121, 95, 99, 109, 112] 1204, kS [116, 104, 114, 101, 101, 95, 119, 97, 121, 95, 99, 109, 112] 1205, kS [47, 99, 108, 97, 105, 109, 47, 99, 117, 116, 46, 112, 121] 1206, .int (769) 0, .int (2) 0, .int (0) 0, .int (0) 0, .int (3) 0, .ref 769, .bool true, .int (273) 0, .ref 770, .none, .ref 771, .ref 772, .ref 773, .int (1209) 0, .int (769) 0, kS [47, 99, 108, 97, 105, 109, 47, 99, 117, 116, 46, 112, 121] 1210]⟩, slots := ⟨[]⟩ }
noncomputable def ob775 (P : Params) : Obj := { cls := .type "function", dict := none, data := fnD (nthP pwB 23) ⟨⟨[116, 104, 114, 101, 101, 95, 119, 97, 121, 95, 99, 109, 112]⟩⟩ ⟨⟨[116, 104, 114, 101, 101, 95, 119, 97, 121, 95, 99, 109, 112]⟩⟩ (.none) (kS [99, 112, 121, 51, 49, 51, 46, 117, 110, 105, 116, 116, 101, 115, 116, 46, 117, 116, 105, 108] 1202) (.ref 774), slots := ⟨[]⟩ }
noncomputable def ob781 (P : Params) : Obj := { cls := .type "code", dict := none, data := .fields ⟨[kS [95, 108, 97, 119, 95, 115, 116, 114, 101, 97, 109] 1214, kS [95, 108, 97, 119, 95, 115, 116, 114, 101, 97, 109] 1215, kS [47, 99, 108, 97, 105, 109, 47, 99, 117, 116, 46, 112, 121] 1216, .int (772) 0, .int (1) 0, .int (0) 0, .int (0) 0, .int (3) 0, .ref 776, .bool true, .int (273) 0, .ref 777, .none, .ref 778, .ref 779, .ref 780, .int (1222) 0, .int (772) 0, kS [47, 99, 108, 97, 105, 109, 47, 99, 117, 116, 46, 112, 121] 1223]⟩, slots := ⟨[]⟩ }
noncomputable def ob782 (P : Params) : Obj := { cls := .type "function", dict := none, data := fnD (nthP pwB 25) ⟨⟨[95, 108, 97, 119, 95, 115, 116, 114, 101, 97, 109]⟩⟩ ⟨⟨[95, 108, 97, 119, 95, 115, 116, 114, 101, 97, 109]⟩⟩ (.none) (kS [108, 97, 119, 95, 105, 110, 48, 49, 51, 56, 95, 48, 49] 1212) (.ref 781), slots := ⟨[]⟩ }
noncomputable def ob788 (P : Params) : Obj := { cls := .type "code", dict := none, data := .fields ⟨[kS [95, 108, 97, 119, 95, 112, 97, 115, 115] 1225, kS [95, 108, 97, 119, 95, 112, 97, 115, 115] 1226, kS [47, 99, 108, 97, 105, 109, 47, 99, 117, 116, 46, 112, 121] 1227, .int (782) 0, .int (4) 0, .int (0) 0, .int (0) 0, .int (3) 0, .ref 783, .bool true, .int (273) 0, .ref 784, .none, .ref 785, .ref 786, .ref 787, .int (1235) 0, .int (782) 0, kS [47, 99, 108, 97, 105, 109, 47, 99, 117, 116, 46, 112, 121] 1236]⟩, slots := ⟨[]⟩ }
noncomputable def ob789 (P : Params) : Obj := { cls := .type "function", dict := none, data := fnD (nthP pwB 26) ⟨⟨[95, 108, 97, 119, 95, 112, 97, 115, 115]⟩⟩ ⟨⟨[95, 108, 97, 119, 95, 112, 97, 115, 115]⟩⟩ (.none) (kS [108, 97, 119, 95, 105, 110, 48, 49, 51, 56, 95, 48, 49] 1212) (.ref 788), slots := ⟨[]⟩ }
noncomputable def ob795 (P : Params) : Obj := { cls := .type "code", dict := none, data := .fields ⟨[kS [95, 108, 97, 119, 95, 111, 110, 99, 101] 1238, kS [95, 108, 97, 119, 95, 111, 110, 99, 101] 1239, kS [47, 99, 108, 97, 105, 109, 47, 99, 117, 116, 46, 112, 121] 1240, .int (795) 0, .int (3) 0, .int (0) 0, .int (0) 0, .int (3) 0, .ref 790, .bool true, .int (273) 0, .ref 791, .none, .ref 792, .ref 793, .ref 794, .int (1244) 0, .int (795) 0, kS [47, 99, 108, 97, 105, 109, 47, 99, 117, 116, 46, 112, 121] 1245]⟩, slots := ⟨[]⟩ }
noncomputable def ob796 (P : Params) : Obj := { cls := .type "function", dict := none, data := fnD (nthP pwB 27) ⟨⟨[95, 108, 97, 119, 95, 111, 110, 99, 101]⟩⟩ ⟨⟨[95, 108, 97, 119, 95, 111, 110, 99, 101]⟩⟩ (.none) (kS [108, 97, 119, 95, 105, 110, 48, 49, 51, 56, 95, 48, 49] 1212) (.ref 795), slots := ⟨[]⟩ }
noncomputable def ob802 (P : Params) : Obj := { cls := .type "code", dict := none, data := .fields ⟨[kS [95, 108, 97, 119, 95, 116, 119, 105, 99, 101] 1247, kS [95, 108, 97, 119, 95, 116, 119, 105, 99, 101] 1248, kS [47, 99, 108, 97, 105, 109, 47, 99, 117, 116, 46, 112, 121] 1249, .int (797) 0, .int (3) 0, .int (0) 0, .int (0) 0, .int (3) 0, .ref 797, .bool true, .int (273) 0, .ref 798, .none, .ref 799, .ref 800, .ref 801, .int (1255) 0, .int (797) 0, kS [47, 99, 108, 97, 105, 109, 47, 99, 117, 116, 46, 112, 121] 1256]⟩, slots := ⟨[]⟩ }
noncomputable def ob803 (P : Params) : Obj := { cls := .type "function", dict := none, data := fnD (nthP pwB 28) ⟨⟨[95, 108, 97, 119, 95, 116, 119, 105, 99, 101]⟩⟩ ⟨⟨[95, 108, 97, 119, 95, 116, 119, 105, 99, 101]⟩⟩ (.none) (kS [108, 97, 119, 95, 105, 110, 48, 49, 51, 56, 95, 48, 49] 1212) (.ref 802), slots := ⟨[]⟩ }
noncomputable def ob807 (P : Params) : Obj := { cls := .type "code", dict := none, data := .fields ⟨[kS [95, 108, 97, 119, 95, 111, 114, 100, 101, 114] 1258, kS [95, 108, 97, 119, 95, 111, 114, 100, 101, 114] 1259, kS [47, 99, 108, 97, 105, 109, 47, 99, 117, 116, 46, 112, 121] 1260, .int (805) 0, .int (2) 0, .int (0) 0, .int (0) 0, .int (3) 0, .ref 804, .bool true, .int (273) 0, .ref 805, .none, .none, .none, .ref 806, .int (1261) 0, .int (805) 0, kS [47, 99, 108, 97, 105, 109, 47, 99, 117, 116, 46, 112, 121] 1262]⟩, slots := ⟨[]⟩ }
noncomputable def ob808 (P : Params) : Obj := { cls := .type "function", dict := none, data := fnD (nthP pwB 29) ⟨⟨[95, 108, 97, 119, 95, 111, 114, 100, 101, 114]⟩⟩ ⟨⟨[95, 108, 97, 119, 95, 111, 114, 100, 101, 114]⟩⟩ (.none) (kS [108, 97, 119, 95, 105, 110, 48, 49, 51, 56, 95, 48, 49] 1212) (.ref 807), slots := ⟨[]⟩ }
noncomputable def ob812 (P : Params) : Obj := { cls := .type "code", dict := none, data := .fields ⟨[kS [108, 97, 119] 1264, kS [108, 97, 119] 1265, kS [47, 99, 108, 97, 105, 109, 47, 99, 117, 116, 46, 112, 121] 1266, .int (810) 0, .int (1) 0, .int (0) 0, .int (0) 0, .int (3) 0, .ref 809, .bool true, .int (273) 0, .ref 810, .none, .none, .none, .ref 811, .int (1267) 0, .int (810) 0, kS [47, 99, 108, 97, 105, 109, 47, 99, 117, 116, 46, 112, 121] 1268]⟩, slots := ⟨[]⟩ }
noncomputable def ob813 (P : Params) : Obj := { cls := .type "function", dict := none, data := fnD (nthP pwB 30) ⟨⟨[108, 97, 119]⟩⟩ ⟨⟨[108, 97, 119]⟩⟩ (.none) (kS [108, 97, 119, 95, 105, 110, 48, 49, 51, 56, 95, 48, 49] 1212) (.ref 812), slots := ⟨[]⟩ }
noncomputable def kl (P : Params) : Frag := [(0, ob0 P), (2, ob2 P), (3, ob3 P), (4, ob4 P), (52, ob52 P), (53, ob53 P), (79, ob79 P), (80, ob80 P), (82, ob82 P), (83, ob83 P), (84, ob84 P), (109, ob109 P), (110, ob110 P), (340, ob340 P), (350, ob350 P), (356, ob356 P), (357, ob357 P), (363, ob363 P), (364, ob364 P), (370, ob370 P), (371, ob371 P), (526, ob526 P), (532, ob532 P), (533, ob533 P), (586, ob586 P), (587, ob587 P), (639, ob639 P), (645, ob645 P), (646, ob646 P), (652, ob652 P), (653, ob653 P), (654, ob654 P), (660, ob660 P), (661, ob661 P), (682, ob682 P), (683, ob683 P), (689, ob689 P), (690, ob690 P), (711, ob711 P), (712, ob712 P), (718, ob718 P), (719, ob719 P), (721, ob721 P), (722, ob722 P), (739, ob739 P), (740, ob740 P), (746, ob746 P), (747, ob747 P), (753, ob753 P), (754, ob754 P), (760, ob760 P), (761, ob761 P), (763, ob763 P), (764, ob764 P), (774, ob774 P), (775, ob775 P), (781, ob781 P), (782, ob782 P), (788, ob788 P), (789, ob789 P), (795, ob795 P), (796, ob796 P), (802, ob802 P), (803, ob803 P), (807, ob807 P), (808, ob808 P), (812, ob812 P), (813, ob813 P)]
noncomputable def kt (P : Params) : KT := (.node (some (ob0 P)) (.node none (.node (some (ob3 P)) (.node none (.node none (.node none (.node none (.node none .nil (.node none (.node (some (ob639 P)) .nil .nil) .nil)) .nil) .nil) (.node none (.node (some (ob79 P)) .nil (.node none .nil (.node none (.node (some (ob719 P)) .nil .nil) .nil))) .nil)) (.node none (.node none (.node none (.node none (.node none .nil (.node (some (ob775 P)) .nil .nil)) .nil) (.node none .nil (.node none (.node (some (ob711 P)) .nil .nil) .nil))) (.node none (.node none (.node none .nil (.node (some (ob807 P)) .nil .nil)) .nil) .nil)) .nil)) (.node none (.node none (.node none .nil (.node none (.node none (.node none .nil (.node (some (ob803 P)) .nil .nil)) .nil) (.node none .nil (.node none (.node (some (ob739 P)) .nil .nil) .nil)))) (.node none (.node (some (ob83 P)) .nil .nil) (.node none .nil (.node none (.node (some (ob371 P)) .nil .nil) .nil)))) (.node none (.node none (.node none .nil (.node none (.node none (.node (some (ob587 P)) .nil .nil) .nil) .nil)) (.node none (.node none .nil (.node none (.node (some (ob683 P)) .nil .nil) .nil)) (.node none (.node (some (ob363 P)) .nil .nil) (.node none (.node (some (ob747 P)) .nil .nil) .nil)))) (.node none (.node none (.node none (.node none .nil (.node (some (ob795 P)) .nil .nil)) .nil) .nil) (.node none .nil (.node none .nil (.node none (.node (some (ob763 P)) .nil .nil) .nil))))))) (.node none (.node none (.node none .nil (.node none (.node none .nil (.node none .nil (.node none (.node (some (ob721 P)) .nil .nil) .nil))) (.node none (.node none .nil (.node none (.node (some (ob689 P)) .nil .nil) .nil)) (.node none .nil (.node none (.node (some (ob753 P)) .nil .nil) .nil))))) (.node none .nil (.node none .nil (.node none .nil (.node none .nil (.node none (.node (some (ob761 P)) .nil .nil) .nil)))))) (.node none (.node none (.node none (.node none (.node none .nil (.node none (.node (some (ob645 P)) .nil .nil) .nil)) .nil) (.node none .nil (.node none (.node (some (ob357 P)) .nil .nil) .nil))) (.node (some (ob53 P)) (.node none (.node none (.node none (.node (some (ob533 P)) .nil .nil) (.node (some (ob789 P)) .nil .nil)) (.node none (.node (some (ob661 P)) .nil .nil) .nil)) .nil) .nil)) (.node none (.node none (.node none (.node none (.node none .nil (.node (some (ob781 P)) .nil .nil)) (.node none (.node (some (ob653 P)) .nil .nil) .nil)) .nil) (.node (some (ob109 P)) (.node none (.node none .nil (.node (some (ob813 P)) .nil .nil)) .nil) .nil)) .nil)))) (.node (some (ob2 P)) (.node (some (ob4 P)) (.node none (.node none .nil (.node none (.node (some (ob80 P)) .nil .nil) .nil)) (.node none (.node none (.node none .nil (.node none .nil (.node none (.node (some (ob712 P)) .nil .nil) .nil))) (.node none (.node none (.node none .nil (.node (some (ob808 P)) .nil .nil)) .nil) .nil)) (.node none .nil (.node none .nil (.node none .nil (.node none (.node (some (ob760 P)) .nil .nil) .nil)))))) (.node none (.node none (.node none .nil (.node none .nil (.node none (.node (some (ob356 P)) .nil .nil) (.node none (.node (some (ob740 P)) .nil .nil) .nil)))) (.node (some (ob52 P)) (.node (some (ob84 P)) (.node none (.node none (.node (some (ob532 P)) .nil .nil) (.node (some (ob788 P)) .nil .nil)) (.node none (.node (some (ob660 P)) .nil .nil) .nil)) (.node none (.node (some (ob340 P)) .nil .nil) .nil)) .nil)) (.node none (.node none (.node none (.node none .nil (.node none (.node (some (ob652 P)) .nil .nil) .nil)) .nil) (.node none (.node none (.node none .nil (.node (some (ob812 P)) .nil .nil)) .nil) (.node none (.node (some (ob364 P)) .nil .nil) .nil))) (.node none (.node none (.node none (.node none .nil (.node (some (ob796 P)) .nil .nil)) .nil) .nil) (.node none .nil (.node none .nil (.node none (.node (some (ob764 P)) .nil .nil) .nil))))))) (.node none (.node none (.node none (.node none .nil (.node none (.node none (.node none .nil (.node (some (ob802 P)) .nil .nil)) .nil) .nil)) (.node none (.node (some (ob82 P)) .nil (.node none .nil (.node none (.node (some (ob722 P)) .nil .nil) .nil))) (.node none (.node none .nil (.node none (.node (some (ob690 P)) .nil .nil) .nil)) (.node none (.node (some (ob370 P)) .nil .nil) (.node none (.node (some (ob754 P)) .nil .nil) .nil))))) (.node none (.node none (.node none .nil (.node none (.node none (.node (some (ob586 P)) .nil .nil) .nil) .nil)) (.node none (.node none .nil (.node none (.node (some (ob682 P)) .nil .nil) .nil)) (.node none .nil (.node none (.node (some (ob746 P)) .nil .nil) .nil)))) .nil)) (.node none (.node none (.node none (.node none (.node none (.node none .nil (.node (some (ob774 P)) .nil .nil)) (.node none (.node (some (ob646 P)) .nil .nil) .nil)) .nil) .nil) .nil) (.node none (.node none (.node none (.node none (.node none (.node (some (ob526 P)) .nil .nil) (.node (some (ob782 P)) .nil .nil)) (.node none (.node (some (ob654 P)) .nil .nil) .nil)) (.node none .nil (.node none (.node (some (ob718 P)) .nil .nil) .nil))) (.node (some (ob110 P)) .nil .nil)) (.node none (.node none .nil (.node none (.node (some (ob350 P)) .nil .nil) .nil)) .nil))))))

end Mine
/-! part H5 -/
set_option maxRecDepth 100000
set_option linter.unusedVariables false
namespace Mine
open PySem PySem.Spec PySem.Calls PyProof.Rows PySem.W PySem.W.X
def looseN : List Str := [Str.ofString "UnsupportedOperation", Str.ofString "IOBase", Str.ofString "BufferedIOBase", Str.ofString "TextIOBase", Str.ofString "BytesIO", Str.ofString "StringIO", Str.ofString "shlex"]
noncomputable def viewP : Program := view pw [0, 1, 3, 4, 5, 6, 7, 8, 9, 10, 12, 13, 14, 15, 16, 17, 19, 21, 23, 25, 26, 27, 28, 29, 30]
noncomputable def klT (P : Params) : Frag := (777, { cls := .none, data := .fields ⟨[]⟩ }) :: kl P
def klA : List Addr := [777, 0, 2, 3, 4, 52, 53, 79, 80, 82, 83, 84, 109, 110, 340, 350, 356, 357, 363, 364, 370, 371, 526, 532, 533, 586, 587, 639, 645, 646, 652, 653, 654, 660, 661, 682, 683, 689, 690, 711, 712, 718, 719, 721, 722, 739, 740, 746, 747, 753, 754, 760, 761, 763, 764, 774, 775, 781, 782, 788, 789, 795, 796, 802, 803, 807, 808, 812, 813]
noncomputable def xtP (s : Shared) : Bool := xlAt viewP [] s && recOk [] s
noncomputable def obsP (s : Shared) : List (Option Obj) × Nat := (klA.map s.heap.get?, s.heap.objs.size)
noncomputable def valP (w : World) : List (Option Obj) × Nat := ((klT w.params).map fun p => some p.2, 814)
noncomputable def seenQ := @PySem.W.Fast.tw4187177175401517315
theorem seenQ_eq : @openSeen = seenQ := PySem.W.Fast.te4187177175401517315
noncomputable def lookP (w : World) (s₀ s₁ : Shared) := match staticsOk (importedModules pw.main.body) s₀.heap s₁.heap && namesBound pw s₁.heap && gensDone s₁ && laidKept s₀.heap s₁.heap with
  | true => some (seenQ viewP looseN (importedModules pw.main.body) xtP true s₁, obsP s₁)
  | false => none
theorem head_run (w : World) : headA pw w 828 5260 (endA (lookP w)) = some (openGood viewP looseN, valP w) := by
  kernel_rfl
end Mine
/-! part C2 -/
set_option maxRecDepth 100000
set_option linter.unusedVariables false
namespace Mine
open PySem PySem.Spec PySem.Calls PyProof.Rows PySem.W PySem.W.X
/-- the dict of the lexer of shlex -/
def shD (hs : Nat → Int) (ts : Nat → Tok) (v : Nat → Value) (st tk : Value) (ins q fs : Addr) (n : Nat) : Obj := dic [
  ⟨hs 0, kS [105, 110, 115, 116, 114, 101, 97, 109] (ts 0), .ref ins⟩,
  ⟨hs 1, kS [105, 110, 102, 105, 108, 101] (ts 1), v 1⟩,
  ⟨hs 2, kS [112, 111, 115, 105, 120] (ts 2), .bool true⟩,
  ⟨hs 3, kS [101, 111, 102] (ts 3), .none⟩,
  ⟨hs 4, kS [99, 111, 109, 109, 101, 110, 116, 101, 114, 115] (ts 4), v 4⟩,
  ⟨hs 5, kS [119, 111, 114, 100, 99, 104, 97, 114, 115] (ts 5), v 5⟩,
  ⟨hs 6, kS [119, 104, 105, 116, 101, 115, 112, 97, 99, 101] (ts 6), v 6⟩,
  ⟨hs 7, kS [119, 104, 105, 116, 101, 115, 112, 97, 99, 101, 95, 115, 112, 108, 105, 116] (ts 7), v 7⟩,
  ⟨hs 8, kS [113, 117, 111, 116, 101, 115] (ts 8), v 8⟩,
  ⟨hs 9, kS [101, 115, 99, 97, 112, 101] (ts 9), v 9⟩,
  ⟨hs 10, kS [101, 115, 99, 97, 112, 101, 100, 113, 117, 111, 116, 101, 115] (ts 10), v 10⟩,
  ⟨hs 11, kS [115, 116, 97, 116, 101] (ts 11), st⟩,
  ⟨hs 12, kS [112, 117, 115, 104, 98, 97, 99, 107] (ts 12), .ref q⟩,
  ⟨hs 13, kS [108, 105, 110, 101, 110, 111] (ts 13), v 13⟩,
  ⟨hs 14, kS [100, 101, 98, 117, 103] (ts 14), .int 0 (ts 19)⟩,
  ⟨hs 15, kS [116, 111, 107, 101, 110] (ts 15), tk⟩,
  ⟨hs 16, kS [102, 105, 108, 101, 115, 116, 97, 99, 107] (ts 16), .ref fs⟩,
  ⟨hs 17, kS [115, 111, 117, 114, 99, 101] (ts 17), .none⟩,
  ⟨hs 18, kS [95, 112, 117, 110, 99, 116, 117, 97, 116, 105, 111, 110, 95, 99, 104, 97, 114, 115] (ts 18), kS [] (ts 20)⟩] n
/-- the dict of its stream -/
def ioD (hs : Nat → Int) (ts : Nat → Tok) (v : Nat → Value) (n : Nat) : Obj := dic [
  ⟨hs 30, kS [95, 83, 116, 114, 105, 110, 103, 73, 79, 95, 95, 110, 101, 119, 108, 105, 110, 101] (ts 30), v 30⟩,
  ⟨hs 31, kS [95, 83, 116, 114, 105, 110, 103, 73, 79, 95, 95, 98, 117, 102] (ts 31), kS [] (ts 34)⟩,
  ⟨hs 32, kS [95, 83, 116, 114, 105, 110, 103, 73, 79, 95, 95, 112, 111, 115] (ts 32), .int 0 (ts 35)⟩] n
section
variable {w : World}
def cAppL (q : Addr) (vs : List Value) (n : Int) (x : Str × Tok) : Ct :=
  { code := .call (.builtin "collections.deque.appendleft") ⟨[.ref q, .str x.1 x.2], []⟩, need := [(q, deq n vs)], k := 0, res := fun _ _ _ => ret0 .none, post := fun _ _ _ => [deq (n + 1) (.str x.1 x.2 :: vs)], new := fun _ _ _ => [], D := 900, U := 9000 }
def cPopL (q : Addr) (vs : List Value) (n : Int) (x : Str × Tok) : Ct :=
  { code := .call (.builtin "collections.deque.popleft") ⟨[.ref q], []⟩, need := [(q, deq n (.str x.1 x.2 :: vs))], k := 0, res := fun _ _ _ => ret0 (.str x.1 x.2), post := fun _ _ _ => [deq (n + 1) vs], new := fun _ _ _ => [], D := 900, U := 9000 }
theorem vAppL (q : Addr) (vs : List Value) (n : Int) (x : Str × Tok) (h : vs.length ≤ 9) : Valid pw w (kt w.params) (cAppL q vs n x) := by
  have run : ∀ vs : List Value, (∀ B T, M ⟨pw, w.params, kt w.params, cAppL q vs n x⟩ 30 (hl [0, 0, 0, 0, 0, 0, 0] (.fin (ofL []) (ofL []) (ofV []) [])) (cAppL q vs n x).code .base (den (cAppL q vs n x).code) (cAppL q vs n x).need B 0 T 0 (cAppL q vs n x).D (cAppL q vs n x).U true =
     M ⟨pw, w.params, kt w.params, cAppL q vs n x⟩ 30 (hl [0, 0, 0, 0, 0, 0, 0] (.fin (ofL []) (ofL []) (ofV []) [])) (cAppL q vs n x).code .base (den (cAppL q vs n x).code) (cAppL q vs n x).need B 0 T 0 (cAppL q vs n x).D (cAppL q vs n x).U false) → Valid pw w (kt w.params) (cAppL q vs n x) :=
    fun vs e => valid_of 30 (fun _ _ => hl [0, 0, 0, 0, 0, 0, 0] (.fin (ofL []) (ofL []) (ofV []) [])) (fun _ _ => good_hl _ trivial) e
  match vs, h with
  | [], _ => exact run _ fun B T => by kernel_rfl
  | [a0], _ => exact run _ fun B T => by kernel_rfl
  | [a0, a1], _ => exact run _ fun B T => by kernel_rfl
  | [a0, a1, a2], _ => exact run _ fun B T => by kernel_rfl
  | [a0, a1, a2, a3], _ => exact run _ fun B T => by kernel_rfl
  | [a0, a1, a2, a3, a4], _ => exact run _ fun B T => by kernel_rfl
  | [a0, a1, a2, a3, a4, a5], _ => exact run _ fun B T => by kernel_rfl
  | [a0, a1, a2, a3, a4, a5, a6], _ => exact run _ fun B T => by kernel_rfl
  | [a0, a1, a2, a3, a4, a5, a6, a7], _ => exact run _ fun B T => by kernel_rfl
  | [a0, a1, a2, a3, a4, a5, a6, a7, a8], _ => exact run _ fun B T => by kernel_rfl
  | _ :: _ :: _ :: _ :: _ :: _ :: _ :: _ :: _ :: _ :: r, h => exact absurd h (by simp)
theorem vPopL (q : Addr) (vs : List Value) (n : Int) (x : Str × Tok) (h : vs.length ≤ 9) : Valid pw w (kt w.params) (cPopL q vs n x) := by
  have run : ∀ vs : List Value, (∀ B T, M ⟨pw, w.params, kt w.params, cPopL q vs n x⟩ 30 (hl [0, 0, 0, 0, 0, 0, 0] (.fin (ofL []) (ofL []) (ofV []) [])) (cPopL q vs n x).code .base (den (cPopL q vs n x).code) (cPopL q vs n x).need B 0 T 0 (cPopL q vs n x).D (cPopL q vs n x).U true =
     M ⟨pw, w.params, kt w.params, cPopL q vs n x⟩ 30 (hl [0, 0, 0, 0, 0, 0, 0] (.fin (ofL []) (ofL []) (ofV []) [])) (cPopL q vs n x).code .base (den (cPopL q vs n x).code) (cPopL q vs n x).need B 0 T 0 (cPopL q vs n x).D (cPopL q vs n x).U false) → Valid pw w (kt w.params) (cPopL q vs n x) :=
    fun vs e => valid_of 30 (fun _ _ => hl [0, 0, 0, 0, 0, 0, 0] (.fin (ofL []) (ofL []) (ofV []) [])) (fun _ _ => good_hl _ trivial) e
  match vs, h with
  | [], _ => exact run _ fun B T => by kernel_rfl
  | [a0], _ => exact run _ fun B T => by kernel_rfl
  | [a0, a1], _ => exact run _ fun B T => by kernel_rfl
  | [a0, a1, a2], _ => exact run _ fun B T => by kernel_rfl
  | [a0, a1, a2, a3], _ => exact run _ fun B T => by kernel_rfl
  | [a0, a1, a2, a3, a4], _ => exact run _ fun B T => by kernel_rfl
  | [a0, a1, a2, a3, a4, a5], _ => exact run _ fun B T => by kernel_rfl
  | [a0, a1, a2, a3, a4, a5, a6], _ => exact run _ fun B T => by kernel_rfl
  | [a0, a1, a2, a3, a4, a5, a6, a7], _ => exact run _ fun B T => by kernel_rfl
  | [a0, a1, a2, a3, a4, a5, a6, a7, a8], _ => exact run _ fun B T => by kernel_rfl
  | _ :: _ :: _ :: _ :: _ :: _ :: _ :: _ :: _ :: _ :: r, h => exact absurd h (by simp)

def cNPush (x d p : Addr) (hs : Nat → Int) (ts : Nat → Tok) (line ins ws : Value) (e n : Nat) (vs : List Value) (v : Str × Tok) : Ct :=
  { code := .call (.ref 761) ⟨[.ref x, .str v.1 v.2], []⟩, need := [(x, inst 764 d), (d, netD hs ts line ins ws (.ref p) e), (p, lst vs n)], k := 0, res := fun _ _ _ => ret0 .none,
    post := fun _ _ _ => [inst 764 d, netD hs ts line ins ws (.ref p) e, lst (vs ++ [.str v.1 v.2]) (n + 1)], new := fun _ _ _ => [], D := 800, U := 8500 }
theorem vNPush (x d p : Addr) (hs : Nat → Int) (ts : Nat → Tok) (line ins ws : Value) (e n : Nat) (vs : List Value) (v : Str × Tok) (h : vs.length ≤ 1000) : Valid pw w (kt w.params) (cNPush x d p hs ts line ins ws e n vs v) := by
  refine valid_of 200 (fun B T => hl [1523, 1521, 0, 0, 0, 0, 0, 0, 0, 5, 0, 0, 2, 1529, 1529, 1527, 0, 2, 1529, 1529, 1527, 2, 2, 1529, 4, 6, 6, 6, 6, 0] (.j (cAppend p vs n (.str v.1 v.2)) [3] fun α0 τ0 ν0 B0 T0 => hl [] (.fin (ofL []) (ofL []) (ofV []) []))) (fun B T => good_hl _ ⟨vAppend _ _ _ _ h, fun _ _ _ _ _ => good_hl _ trivial⟩) fun B T => ?_
  kernel_rfl
def cNGet (x d p : Addr) (hs : Nat → Int) (ts : Nat → Tok) (line ins ws : Value) (e n : Nat) (vs : List Value) (v : Str × Tok) : Ct :=
  { code := .call (.ref 754) ⟨[.ref x], []⟩, need := [(x, inst 764 d), (d, netD hs ts line ins ws (.ref p) e), (p, lst (.str v.1 v.2 :: vs) n)], k := 0, res := fun _ _ _ => ret0 (.str v.1 v.2),
    post := fun _ _ _ => [inst 764 d, netD hs ts line ins ws (.ref p) e, lst vs (n + 1)], new := fun _ _ _ => [], D := 800, U := 8500 }
theorem vNGet (x d p : Addr) (hs : Nat → Int) (ts : Nat → Tok) (line ins ws : Value) (e n : Nat) (vs : List Value) (v : Str × Tok) (h : vs.length ≤ 8) : Valid pw w (kt w.params) (cNGet x d p hs ts line ins ws e n vs v) := by
  have run : ∀ vs : List Value, (∀ B T, M ⟨pw, w.params, kt w.params, cNGet x d p hs ts line ins ws e n vs v⟩ 200 (hl [1509, 1507, 0, 0, 0, 0, 5, 0, 0, 2, 1529, 1529, 1527, 0, 2, 1529, 1529, 1527, 2, 2, 1529, 4, 6, 6, 0, 6, 0, 6, 0, 6, 0, 2, 1529, 1529, 1527, 0, 2, 1529, 1529, 1527, 2, 2, 1529, 4, 6, 6, 6, 6, 0, 6, 0, 6, 6, 6, 6] (.fin (ofL []) (ofL []) (ofV []) [])) (cNGet x d p hs ts line ins ws e n vs v).code .base (den (cNGet x d p hs ts line ins ws e n vs v).code) (cNGet x d p hs ts line ins ws e n vs v).need B 0 T 0 800 8500 true =
     M ⟨pw, w.params, kt w.params, cNGet x d p hs ts line ins ws e n vs v⟩ 200 (hl [1509, 1507, 0, 0, 0, 0, 5, 0, 0, 2, 1529, 1529, 1527, 0, 2, 1529, 1529, 1527, 2, 2, 1529, 4, 6, 6, 0, 6, 0, 6, 0, 6, 0, 2, 1529, 1529, 1527, 0, 2, 1529, 1529, 1527, 2, 2, 1529, 4, 6, 6, 6, 6, 0, 6, 0, 6, 6, 6, 6] (.fin (ofL []) (ofL []) (ofV []) [])) (cNGet x d p hs ts line ins ws e n vs v).code .base (den (cNGet x d p hs ts line ins ws e n vs v).code) (cNGet x d p hs ts line ins ws e n vs v).need B 0 T 0 800 8500 false) → Valid pw w (kt w.params) (cNGet x d p hs ts line ins ws e n vs v) :=
    fun vs e => valid_of 200 (fun _ _ => hl [1509, 1507, 0, 0, 0, 0, 5, 0, 0, 2, 1529, 1529, 1527, 0, 2, 1529, 1529, 1527, 2, 2, 1529, 4, 6, 6, 0, 6, 0, 6, 0, 6, 0, 2, 1529, 1529, 1527, 0, 2, 1529, 1529, 1527, 2, 2, 1529, 4, 6, 6, 6, 6, 0, 6, 0, 6, 6, 6, 6] (.fin (ofL []) (ofL []) (ofV []) [])) (fun _ _ => good_hl _ trivial) e
  match vs, h with
  | [], _ => exact run _ fun B T => by kernel_rfl
  | [a0], _ => exact run _ fun B T => by kernel_rfl
  | [a0, a1], _ => exact run _ fun B T => by kernel_rfl
  | [a0, a1, a2], _ => exact run _ fun B T => by kernel_rfl
  | [a0, a1, a2, a3], _ => exact run _ fun B T => by kernel_rfl
  | [a0, a1, a2, a3, a4], _ => exact run _ fun B T => by kernel_rfl
  | [a0, a1, a2, a3, a4, a5], _ => exact run _ fun B T => by kernel_rfl
  | [a0, a1, a2, a3, a4, a5, a6], _ => exact run _ fun B T => by kernel_rfl
  | [a0, a1, a2, a3, a4, a5, a6, a7], _ => exact run _ fun B T => by kernel_rfl
  | _ :: _ :: _ :: _ :: _ :: _ :: _ :: _ :: _ :: r, h => exact absurd h (by simp)
def cSPush (x d q : Addr) (hs : Nat → Int) (ts : Nat → Tok) (v : Nat → Value) (st tk : Value) (ins fs : Addr) (e : Nat) (n : Int) (vs : List Value) (a : Str × Tok) : Ct :=
  { code := .call (.ref 661) ⟨[.ref x, .str a.1 a.2], []⟩, need := [(x, inst 722 d), (d, shD hs ts v st tk ins q fs e), (q, deq n vs)], k := 0, res := fun _ _ _ => ret0 .none,
    post := fun _ _ _ => [inst 722 d, shD hs ts v st tk ins q fs e, deq (n + 1) (.str a.1 a.2 :: vs)], new := fun _ _ _ => [], D := 800, U := 8500 }
theorem vSPush (x d q : Addr) (hs : Nat → Int) (ts : Nat → Tok) (v : Nat → Value) (st tk : Value) (ins fs : Addr) (e : Nat) (n : Int) (vs : List Value) (a : Str × Tok) (h : vs.length ≤ 9) : Valid pw w (kt w.params) (cSPush x d q hs ts v st tk ins fs e n vs a) := by
  refine valid_of 200 (fun B T => hl [1323, 1321, 0, 0, 0, 0, 0, 0, 0, 5, 0, 0, 2, 1445, 1445, 1443, 0, 2, 1445, 1445, 1443, 2, 2, 1445, 4, 1, 0, 0, 0, 2, 1445, 1445, 1443, 0, 2, 1445, 1445, 1443, 2, 2, 1445, 4, 6, 6, 6, 6, 0] (.j (cAppL q vs n a) [3] fun α0 τ0 ν0 B0 T0 => hl [] (.fin (ofL []) (ofL []) (ofV []) []))) (fun B T => good_hl _ ⟨vAppL _ _ _ _ h, fun _ _ _ _ _ => good_hl _ trivial⟩) fun B T => ?_
  kernel_rfl
def cSGet (x d q : Addr) (hs : Nat → Int) (ts : Nat → Tok) (v : Nat → Value) (st tk : Value) (ins fs : Addr) (e : Nat) (n : Int) (vs : List Value) (a : Str × Tok) : Ct :=
  { code := .call (.ref 683) ⟨[.ref x], []⟩, need := [(x, inst 722 d), (d, shD hs ts v st tk ins q fs e), (q, deq n (.str a.1 a.2 :: vs))], k := 0, res := fun _ _ _ => ret0 (.str a.1 a.2),
    post := fun _ _ _ => [inst 722 d, shD hs ts v st tk ins q fs e, deq (n + 1) vs], new := fun _ _ _ => [], D := 800, U := 8500 }
theorem vSGet (x d q : Addr) (hs : Nat → Int) (ts : Nat → Tok) (v : Nat → Value) (st tk : Value) (ins fs : Addr) (e : Nat) (n : Int) (vs : List Value) (a : Str × Tok) (h : vs.length ≤ 8) : Valid pw w (kt w.params) (cSGet x d q hs ts v st tk ins fs e n vs a) := by
  have run : ∀ vs : List Value, (∀ B T, M ⟨pw, w.params, kt w.params, cSGet x d q hs ts v st tk ins fs e n vs a⟩ 200 (hl [1367, 1365, 0, 0, 0, 0, 5, 0, 0, 2, 1445, 1445, 1443, 0, 2, 1445, 1445, 1443, 2, 2, 1445, 4, 6, 6, 0, 6, 0, 6, 0, 6, 0, 2, 1445, 1445, 1443, 0, 2, 1445, 1445, 1443, 2, 2, 1445, 4, 6, 6, 6, 6, 0, 6, 0, 6, 6, 6, 6, 6, 0, 0, 0, 0, 2, 1445, 1445, 1443, 0, 2, 1445, 1445, 1443, 2, 2, 1445, 4, 1, 0, 0, 0] (.fin (ofL []) (ofL []) (ofV []) [])) (cSGet x d q hs ts v st tk ins fs e n vs a).code .base (den (cSGet x d q hs ts v st tk ins fs e n vs a).code) (cSGet x d q hs ts v st tk ins fs e n vs a).need B 0 T 0 800 8500 true =
     M ⟨pw, w.params, kt w.params, cSGet x d q hs ts v st tk ins fs e n vs a⟩ 200 (hl [1367, 1365, 0, 0, 0, 0, 5, 0, 0, 2, 1445, 1445, 1443, 0, 2, 1445, 1445, 1443, 2, 2, 1445, 4, 6, 6, 0, 6, 0, 6, 0, 6, 0, 2, 1445, 1445, 1443, 0, 2, 1445, 1445, 1443, 2, 2, 1445, 4, 6, 6, 6, 6, 0, 6, 0, 6, 6, 6, 6, 6, 0, 0, 0, 0, 2, 1445, 1445, 1443, 0, 2, 1445, 1445, 1443, 2, 2, 1445, 4, 1, 0, 0, 0] (.fin (ofL []) (ofL []) (ofV []) [])) (cSGet x d q hs ts v st tk ins fs e n vs a).code .base (den (cSGet x d q hs ts v st tk ins fs e n vs a).code) (cSGet x d q hs ts v st tk ins fs e n vs a).need B 0 T 0 800 8500 false) → Valid pw w (kt w.params) (cSGet x d q hs ts v st tk ins fs e n vs a) :=
    fun vs e => valid_of 200 (fun _ _ => hl [1367, 1365, 0, 0, 0, 0, 5, 0, 0, 2, 1445, 1445, 1443, 0, 2, 1445, 1445, 1443, 2, 2, 1445, 4, 6, 6, 0, 6, 0, 6, 0, 6, 0, 2, 1445, 1445, 1443, 0, 2, 1445, 1445, 1443, 2, 2, 1445, 4, 6, 6, 6, 6, 0, 6, 0, 6, 6, 6, 6, 6, 0, 0, 0, 0, 2, 1445, 1445, 1443, 0, 2, 1445, 1445, 1443, 2, 2, 1445, 4, 1, 0, 0, 0] (.fin (ofL []) (ofL []) (ofV []) [])) (fun _ _ => good_hl _ trivial) e
  match vs, h with
  | [], _ => exact run _ fun B T => by kernel_rfl
  | [a0], _ => exact run _ fun B T => by kernel_rfl
  | [a0, a1], _ => exact run _ fun B T => by kernel_rfl
  | [a0, a1, a2], _ => exact run _ fun B T => by kernel_rfl
  | [a0, a1, a2, a3], _ => exact run _ fun B T => by kernel_rfl
  | [a0, a1, a2, a3, a4], _ => exact run _ fun B T => by kernel_rfl
  | [a0, a1, a2, a3, a4, a5], _ => exact run _ fun B T => by kernel_rfl
  | [a0, a1, a2, a3, a4, a5, a6], _ => exact run _ fun B T => by kernel_rfl
  | [a0, a1, a2, a3, a4, a5, a6, a7], _ => exact run _ fun B T => by kernel_rfl
  | _ :: _ :: _ :: _ :: _ :: _ :: _ :: _ :: _ :: r, h => exact absurd h (by simp)
/-- nothing waits: the stream is read, and it is empty -/
def cSNone (x d q : Addr) (hs : Nat → Int) (ts : Nat → Tok) (v : Nat → Value) (st tk : Value) (ins fs di : Addr) (e n : Nat) (m m' : Int) : Ct :=
  { code := .call (.ref 683) ⟨[.ref x], []⟩, need := [(x, inst 722 d), (d, shD hs ts v st tk ins q fs e), (q, deq m []), (ins, inst 587 di), (di, ioD hs ts v n), (fs, deq m' [])], k := 0, res := fun _ _ _ => ret0 .none,
    post := fun _ τ _ => [inst 722 d, shD hs ts v .none (kS [] (τ 0)) ins q fs e, deq m [], inst 587 di, ioD hs ts v n, deq m' []], new := fun _ _ _ => [], D := 800, U := 8500 }
theorem vSNone1 (x d q : Addr) (hs : Nat → Int) (ts : Nat → Tok) (v : Nat → Value) (t' t : Tok) (ins fs di : Addr) (e n : Nat) (m m' : Int) : Valid pw w (kt w.params) (cSNone x d q hs ts v (kS [32] t) (kS [] t') ins fs di e n m m') := by
  refine valid_of 1500 (fun B T => hl [1367, 1365, 0, 0, 0, 0, 5, 0, 0, 2, 1445, 1445, 1443, 0, 2, 1445, 1445, 1443, 2, 2, 1445, 4, 6, 6, 0, 6, 0, 6, 0, 6, 0, 2, 1445, 1445, 1443, 2, 1445, 1445, 1443, 2, 1445, 1445, 1443, 1381, 2, 4, 1381, 0, 1381, 1379, 0, 0, 0, 0, 5, 0, 0, 0, 0, 0, 0, 0, 0, 0, 4, 1445, 1445, 1443, 0, 4, 1445, 1445, 1443, 1309, 1309, 1445, 1445, 1443, 0, 1309, 0, 1309, 0, 1307, 1305, 0, 0, 0, 0, 5, 0, 0, 6, 1445, 1445, 1443, 0, 6, 1445, 1445, 1443, 6, 6, 1445, 8, 0, 0, 0, 2, 6, 1445, 1445, 1443, 0, 6, 1445, 1445, 1443, 6, 6, 1445, 8, 12, 1175, 1175, 1173, 221, 219, 167, 165, 12, 1175, 1175, 1173, 221, 219, 167, 165, 12, 1175, 1175, 1173, 1067, 12, 14, 1067, 0, 1067, 1065, 1053, 0, 0, 0, 0, 0, 0, 0, 5, 0, 0, 7, 0, 107, 0, 107, 105, 0, 0, 0, 0, 0, 0, 0, 5, 0, 7, 1, 0, 0, 0, 7, 1, 7, 1, 0, 0, 0, 0, 0, 0, 0, 0, 0, 0, 0, 1, 0, 0, 0, 0, 0, 1, 0, 0, 0, 0, 2, 2, 2, 16, 1175, 1175, 1173, 221, 219, 167, 165, 16, 1175, 1175, 1173, 221, 219, 167, 165, 16, 1175, 1175, 1173, 743, 16, 18, 743, 0, 743, 741, 0, 0, 0, 0, 5, 0, 0, 18, 1175, 1175, 1173, 221, 219, 167, 165, 0, 18, 1175, 1175, 1173, 221, 219, 167, 165, 18, 18, 1175, 20, 4, 18, 1175, 1175, 1173, 221, 219, 167, 165, 0, 18, 1175, 1175, 1173, 221, 219, 167, 165, 18, 18, 1175, 20, 0, 4, 4, 7, 1, 4, 18, 1175, 1175, 1173, 221, 219, 167, 165, 0, 18, 1175, 1175, 1173, 221, 219, 167, 165, 18, 18, 1175, 20, 0, 0, 0, 0, 0, 4, 4, 4, 4, 1, 0, 0, 0, 8, 8, 8, 1, 0, 0, 8, 12, 1445, 1445, 1443, 0, 12, 1445, 1445, 1443, 12, 12, 1445, 14, 1, 0, 0, 8, 12, 1445, 1445, 1443, 0, 12, 1445, 1445, 1443, 12, 12, 1445, 14, 8, 12, 1445, 1445, 1443, 0, 12, 1445, 1445, 1443, 12, 12, 1445, 14, 1, 0, 0, 8, 0, 0, 0, 8, 12, 1445, 1445, 1443, 0, 12, 1445, 0, 12, 1445, 12, 1445, 1445, 1443, 12, 1445, 0, 14, 14, 14, 8, 12, 1445, 1445, 1443, 0, 12, 1445, 1445, 1443, 12, 12, 1445, 14, 0, 8, 8, 8, 12, 1445, 1445, 1443, 0, 12, 1445, 0, 12, 1445, 12, 1445, 1445, 1443, 12, 1445, 0, 14, 14, 14, 8, 12, 1445, 1445, 1443, 0, 12, 1445, 1445, 1443, 12, 12, 1445, 14, 8, 8, 1, 0, 0, 0, 8, 8, 8, 12, 1445, 1445, 1443, 0, 12, 1445, 1445, 1443, 12, 12, 1445, 14, 1, 0, 0, 8, 0, 10, 10, 10, 12, 1445, 1445, 1443, 0, 12, 1445, 1445, 1443, 12, 12, 1445, 14, 0, 10, 10, 12, 1445, 1445, 1443, 0, 12, 1445, 1445, 1443, 12, 12, 1445, 14, 1, 0, 0, 10, 12, 1445, 1445, 1443, 0, 12, 1445, 1445, 1443, 12, 12, 1445, 14, 22, 22, 0, 22, 0, 22, 0, 22, 10, 12, 1445, 1445, 1443, 0, 12, 1445, 1445, 1443, 12, 12, 1445, 14] (.fin (ofL []) (ofL [T + 47]) (ofV []) [])) (fun B T => good_hl _ trivial) fun B T => ?_
  kernel_rfl
theorem vSNone2 (x d q : Addr) (hs : Nat → Int) (ts : Nat → Tok) (v : Nat → Value) (tk : Value) (ins fs di : Addr) (e n : Nat) (m m' : Int) : Valid pw w (kt w.params) (cSNone x d q hs ts v .none tk ins fs di e n m m') := by
  refine valid_of 1500 (fun B T => hl [1367, 1365, 0, 0, 0, 0, 5, 0, 0, 2, 1445, 1445, 1443, 0, 2, 1445, 1445, 1443, 2, 2, 1445, 4, 6, 6, 0, 6, 0, 6, 0, 6, 0, 2, 1445, 1445, 1443, 2, 1445, 1445, 1443, 2, 1445, 1445, 1443, 1381, 2, 4, 1381, 0, 1381, 1379, 0, 0, 0, 0, 5, 0, 0, 0, 0, 0, 0, 0, 0, 0, 4, 1445, 1445, 1443, 0, 4, 1445, 1445, 1443, 1309, 1309, 1445, 1445, 1443, 0, 1309, 0, 1309, 0, 1307, 1305, 0, 0, 0, 0, 5, 0, 0, 6, 1445, 1445, 1443, 0, 6, 1445, 1445, 1443, 6, 6, 1445, 8, 0, 0, 0, 2, 6, 1445, 1445, 1443, 0, 6, 1445, 1445, 1443, 6, 6, 1445, 8, 12, 1175, 1175, 1173, 221, 219, 167, 165, 12, 1175, 1175, 1173, 221, 219, 167, 165, 12, 1175, 1175, 1173, 1067, 12, 14, 1067, 0, 1067, 1065, 1053, 0, 0, 0, 0, 0, 0, 0, 5, 0, 0, 7, 0, 107, 0, 107, 105, 0, 0, 0, 0, 0, 0, 0, 5, 0, 7, 1, 0, 0, 0, 7, 1, 7, 1, 0, 0, 0, 0, 0, 0, 0, 0, 0, 0, 0, 1, 0, 0, 0, 0, 0, 1, 0, 0, 0, 0, 2, 2, 2, 16, 1175, 1175, 1173, 221, 219, 167, 165, 16, 1175, 1175, 1173, 221, 219, 167, 165, 16, 1175, 1175, 1173, 743, 16, 18, 743, 0, 743, 741, 0, 0, 0, 0, 5, 0, 0, 18, 1175, 1175, 1173, 221, 219, 167, 165, 0, 18, 1175, 1175, 1173, 221, 219, 167, 165, 18, 18, 1175, 20, 4, 18, 1175, 1175, 1173, 221, 219, 167, 165, 0, 18, 1175, 1175, 1173, 221, 219, 167, 165, 18, 18, 1175, 20, 0, 4, 4, 7, 1, 4, 18, 1175, 1175, 1173, 221, 219, 167, 165, 0, 18, 1175, 1175, 1173, 221, 219, 167, 165, 18, 18, 1175, 20, 0, 0, 0, 0, 0, 4, 4, 4, 4, 1, 0, 0, 0, 8, 8, 8, 1, 0, 0, 8, 12, 1445, 1445, 1443, 0, 12, 1445, 1445, 1443, 12, 12, 1445, 14, 1, 0, 0, 8, 12, 1445, 1445, 1443, 0, 12, 1445, 1445, 1443, 12, 12, 1445, 14, 8, 12, 1445, 1445, 1443, 0, 12, 1445, 0, 12, 1445, 12, 1445, 1445, 1443, 12, 1445, 0, 14, 14, 14, 8, 12, 1445, 1445, 1443, 0, 12, 1445, 1445, 1443, 12, 12, 1445, 14, 0, 8, 8, 8, 12, 1445, 1445, 1443, 0, 12, 1445, 0, 12, 1445, 12, 1445, 1445, 1443, 12, 1445, 0, 14, 14, 14, 8, 12, 1445, 1445, 1443, 0, 12, 1445, 1445, 1443, 12, 12, 1445, 14, 8, 8, 1, 0, 0, 0, 8, 8, 8, 12, 1445, 1445, 1443, 0, 12, 1445, 1445, 1443, 12, 12, 1445, 14, 1, 0, 0, 8, 0, 10, 10, 10, 12, 1445, 1445, 1443, 0, 12, 1445, 1445, 1443, 12, 12, 1445, 14, 0, 10, 10, 12, 1445, 1445, 1443, 0, 12, 1445, 1445, 1443, 12, 12, 1445, 14, 1, 0, 0, 10, 12, 1445, 1445, 1443, 0, 12, 1445, 1445, 1443, 12, 12, 1445, 14, 22, 22, 0, 22, 0, 22, 0, 22, 10, 12, 1445, 1445, 1443, 0, 12, 1445, 1445, 1443, 12, 12, 1445, 14] (.fin (ofL []) (ofL [T + 44]) (ofV []) [])) (fun B T => good_hl _ trivial) fun B T => ?_
  kernel_rfl
end
end Mine
/-! part C3 -/
set_option maxRecDepth 100000
set_option linter.unusedVariables false
namespace Mine
open PySem PySem.Spec PySem.Calls PyProof.Rows PySem.W PySem.W.X
/-- the six words, rising -/
def pl : Nat → Str
  | 0 => ⟨⟨[]⟩⟩
  | 1 => ⟨⟨[32, 98]⟩⟩
  | 2 => ⟨⟨[34]⟩⟩
  | 3 => ⟨⟨[97]⟩⟩
  | 4 => ⟨⟨[97, 92]⟩⟩
  | _ => ⟨⟨[105, 116, 39, 115]⟩⟩
abbrev E := Nat × Tok
def ev (e : E) : Value := .str (pl e.1) e.2
def es (e : E) : Str × Tok := (pl e.1, e.2)
def sg (i j : Nat) : Int := if i < j then -1 else if i = j then 0 else 1

/-! what stands in the text -/
def fnData (kt : KT) (a : Addr) : FuncData := match kt.get a with | some ⟨_, _, .func fd, _⟩ => fd | _ => default
def fnStmts (kt : KT) (a : Addr) : List Stmt := match (fnData kt a).body with | .stmts b => b | _ => []
def fnEnv (kt : KT) (a loc : Addr) (cells : List (Str × Addr)) (q : List Nat) : Env := { scope := (fnData kt a).scope, locals := loc, globals := (fnData kt a).globals, cells := cells, qual := ⟨⟨q⟩⟩, func := some a, code := (fnData kt a).code, frame := some loc, builtins := (fnData kt a).builtins }
def nthS : List Stmt → Nat → Stmt
  | [], _ => .Pass default
  | x :: _, 0 => x
  | _ :: r, n + 1 => nthS r n
def bodyOf : Stmt → List Stmt
  | .For _ _ b _ _ => b
  | .While _ b _ _ => b
  | _ => []
def elseOf : Stmt → List Stmt
  | .For _ _ _ b _ => b
  | .While _ _ b _ => b
  | _ => []
def headOf : Stmt → Expr
  | .For t _ _ _ _ => t
  | .While t _ _ _ => t
  | _ => .Constant .none 0 default
def whileCode (s : Stmt) (e : Env) : Code := .whileLoop (headOf s) (bodyOf s) (elseOf s) e
def forCode (s : Stmt) (it : Addr) (e : Env) : Code := .forLoop (headOf s) (.ref it) (bodyOf s) (elseOf s) e

def passQ : List Nat := [95, 108, 97, 119, 95, 112, 97, 115, 115, 46, 60, 108, 111, 99, 97, 108, 115, 62, 46]
def passF (hf : Nat → Int) (tf : Nat → Tok) (src tg sk : Addr) (size kv wd top : Value) (n : Nat) (sl : Array (Option Value)) : Obj :=
  { cls := .type "frame", data := .dict ⟨[⟨hf 0, kS [115, 111, 117, 114, 99, 101] (tf 0), .ref src⟩, ⟨hf 1, kS [116, 97, 114, 103, 101, 116] (tf 1), .ref tg⟩, ⟨hf 2, kS [115, 116, 97, 99, 107] (tf 2), .ref sk⟩, ⟨hf 3, kS [115, 105, 122, 101] (tf 3), size⟩, ⟨hf 4, kS [107] (tf 4), kv⟩, ⟨hf 5, kS [119, 111, 114, 100] (tf 5), wd⟩, ⟨hf 6, kS [116, 111, 112] (tf 6), top⟩]⟩ n, slots := sl }
/-- what a pass does not turn -/
structure PS where
  L : Addr
  xT : Addr
  dT : Addr
  pT : Addr
  xS : Addr
  dS : Addr
  q : Addr
  ins : Addr
  di : Addr
  fs : Addr
  src : Addr
  hf : Nat → Int
  tf : Nat → Tok
  hT : Nat → Int
  tT : Nat → Tok
  line : Value
  insT : Value
  wsT : Value
  eT : Nat
  hS : Nat → Int
  tS : Nat → Tok
  vS : Nat → Value
  eS : Nat
  nI : Nat
  mF : Int
  size : Value
  n : Nat
  sl : Array (Option Value)
def PS.tgt (p : PS) (tvs : List Value) (tn : Nat) : St := [(p.xT, inst 764 p.dT), (p.dT, netD p.hT p.tT p.line p.insT p.wsT (.ref p.pT) p.eT), (p.pT, lst tvs tn)]
def PS.stk (p : PS) (st tk : Value) (m : Int) (qs : List Value) : St :=
  [(p.xS, inst 722 p.dS), (p.dS, shD p.hS p.tS p.vS st tk p.ins p.q p.fs p.eS), (p.q, deq m qs), (p.ins, inst 587 p.di), (p.di, ioD p.hS p.tS p.vS p.nI), (p.fs, deq p.mF [])]
def PS.fr (p : PS) (kv wd top : Value) : Obj := passF p.hf p.tf p.src p.xT p.xS p.size kv wd top p.n p.sl
def topV : Option E → Value
  | none => .none
  | some e => ev e
structure WOut where
  top : Option E
  tvs : List Value
  tn : Nat
  qs : List E
  m : Int
def wRun (wd : E) : List E → Option E → List Value → Nat → Int → WOut
  | qs, none, tvs, tn, m => ⟨none, tvs, tn, qs, m⟩
  | [], some t, tvs, tn, m => if t.1 < wd.1 then ⟨none, tvs ++ [ev t], tn + 1, [], m⟩ else ⟨some t, tvs, tn, [], m⟩
  | q :: qs, some t, tvs, tn, m => if t.1 < wd.1 then wRun wd qs (some q) (tvs ++ [ev t]) (tn + 1) (m + 1) else ⟨some t, tvs, tn, q :: qs, m⟩
section
variable {w : World}
def whileS (kt : KT) : Stmt := nthS (bodyOf (nthS (fnStmts kt 789) 0)) 2
def cCmp (a b : Str) (t u : Tok) (σ : Int) : Ct := { code := .call (.ref 775) ⟨[.str a t, .str b u], []⟩, need := [], k := 0, res := fun _ τ _ => ret0 (.int σ (τ 0)), post := fun _ _ _ => [], new := fun _ _ _ => [], D := 800, U := 8500 }
theorem vCmp (i j : Nat) (t u : Tok) (hi : i < 6) (hj : j < 6) : Valid pw w (kt w.params) (cCmp (pl i) (pl j) t u (sg i j)) := by
  have run : ∀ (a b : Str) (σ : Int), (∀ B T, M ⟨pw, w.params, kt w.params, cCmp a b t u σ⟩ 100 (hl [1551, 1549, 0, 0, 0, 0, 0, 0, 0, 5, 0, 0, 0, 1, 0, 0, 0, 0, 1, 0, 0, 0, 0] (.fin (ofL []) (ofL [T + 2]) (ofV []) [])) (cCmp a b t u σ).code .base (den (cCmp a b t u σ).code) [] B 0 T 0 800 8500 true = M ⟨pw, w.params, kt w.params, cCmp a b t u σ⟩ 100 (hl [1551, 1549, 0, 0, 0, 0, 0, 0, 0, 5, 0, 0, 0, 1, 0, 0, 0, 0, 1, 0, 0, 0, 0] (.fin (ofL []) (ofL [T + 2]) (ofV []) [])) (cCmp a b t u σ).code .base (den (cCmp a b t u σ).code) [] B 0 T 0 800 8500 false) → Valid pw w (kt w.params) (cCmp a b t u σ) :=
    fun a b σ e => valid_of 100 (fun B T => hl [1551, 1549, 0, 0, 0, 0, 0, 0, 0, 5, 0, 0, 0, 1, 0, 0, 0, 0, 1, 0, 0, 0, 0] (.fin (ofL []) (ofL [T + 2]) (ofV []) [])) (fun _ _ => good_hl _ trivial) e
  match i, j, hi, hj with
  | 0, 0, _, _ => exact run (pl 0) (pl 0) (0) fun B T => by kernel_rfl
  | 0, 1, _, _ => exact run (pl 0) (pl 1) (-1) fun B T => by kernel_rfl
  | 0, 2, _, _ => exact run (pl 0) (pl 2) (-1) fun B T => by kernel_rfl
  | 0, 3, _, _ => exact run (pl 0) (pl 3) (-1) fun B T => by kernel_rfl
  | 0, 4, _, _ => exact run (pl 0) (pl 4) (-1) fun B T => by kernel_rfl
  | 0, 5, _, _ => exact run (pl 0) (pl 5) (-1) fun B T => by kernel_rfl
  | 1, 0, _, _ => exact run (pl 1) (pl 0) (1) fun B T => by kernel_rfl
  | 1, 1, _, _ => exact run (pl 1) (pl 1) (0) fun B T => by kernel_rfl
  | 1, 2, _, _ => exact run (pl 1) (pl 2) (-1) fun B T => by kernel_rfl
  | 1, 3, _, _ => exact run (pl 1) (pl 3) (-1) fun B T => by kernel_rfl
  | 1, 4, _, _ => exact run (pl 1) (pl 4) (-1) fun B T => by kernel_rfl
  | 1, 5, _, _ => exact run (pl 1) (pl 5) (-1) fun B T => by kernel_rfl
  | 2, 0, _, _ => exact run (pl 2) (pl 0) (1) fun B T => by kernel_rfl
  | 2, 1, _, _ => exact run (pl 2) (pl 1) (1) fun B T => by kernel_rfl
  | 2, 2, _, _ => exact run (pl 2) (pl 2) (0) fun B T => by kernel_rfl
  | 2, 3, _, _ => exact run (pl 2) (pl 3) (-1) fun B T => by kernel_rfl
  | 2, 4, _, _ => exact run (pl 2) (pl 4) (-1) fun B T => by kernel_rfl
  | 2, 5, _, _ => exact run (pl 2) (pl 5) (-1) fun B T => by kernel_rfl
  | 3, 0, _, _ => exact run (pl 3) (pl 0) (1) fun B T => by kernel_rfl
  | 3, 1, _, _ => exact run (pl 3) (pl 1) (1) fun B T => by kernel_rfl
  | 3, 2, _, _ => exact run (pl 3) (pl 2) (1) fun B T => by kernel_rfl
  | 3, 3, _, _ => exact run (pl 3) (pl 3) (0) fun B T => by kernel_rfl
  | 3, 4, _, _ => exact run (pl 3) (pl 4) (-1) fun B T => by kernel_rfl
  | 3, 5, _, _ => exact run (pl 3) (pl 5) (-1) fun B T => by kernel_rfl
  | 4, 0, _, _ => exact run (pl 4) (pl 0) (1) fun B T => by kernel_rfl
  | 4, 1, _, _ => exact run (pl 4) (pl 1) (1) fun B T => by kernel_rfl
  | 4, 2, _, _ => exact run (pl 4) (pl 2) (1) fun B T => by kernel_rfl
  | 4, 3, _, _ => exact run (pl 4) (pl 3) (1) fun B T => by kernel_rfl
  | 4, 4, _, _ => exact run (pl 4) (pl 4) (0) fun B T => by kernel_rfl
  | 4, 5, _, _ => exact run (pl 4) (pl 5) (-1) fun B T => by kernel_rfl
  | 5, 0, _, _ => exact run (pl 5) (pl 0) (1) fun B T => by kernel_rfl
  | 5, 1, _, _ => exact run (pl 5) (pl 1) (1) fun B T => by kernel_rfl
  | 5, 2, _, _ => exact run (pl 5) (pl 2) (1) fun B T => by kernel_rfl
  | 5, 3, _, _ => exact run (pl 5) (pl 3) (1) fun B T => by kernel_rfl
  | 5, 4, _, _ => exact run (pl 5) (pl 4) (1) fun B T => by kernel_rfl
  | 5, 5, _, _ => exact run (pl 5) (pl 5) (0) fun B T => by kernel_rfl
  | _ + 6, _, h, _ => exact absurd h (by omega)
  | _, _ + 6, _, h => exact absurd h (by omega)
def cW (kt : KT) (p : PS) (kv : Value) (wd : E) (top : Option E) (tvs : List Value) (tn : Nat) (qs : List E) (m : Int) (t0 : Tok) (out : WOut) : Ct :=
  { code := whileCode (whileS kt) (fnEnv kt 789 p.L [] passQ), need := (p.L, p.fr kv (ev wd) (topV top)) :: (p.tgt tvs tn ++ p.stk .none (kS [] t0) m (qs.map ev)), k := 0, res := fun _ _ _ => .ok .next,
    post := fun _ τ _ => p.fr kv (ev wd) (topV out.top) :: (objs (p.tgt out.tvs out.tn) ++ objs (p.stk .none (kS [] (τ 0)) out.m (out.qs.map ev))), new := fun _ _ _ => [], D := 700, U := 8000 }
abbrev Eqn (w : World) (n : Nat) (C : Ct) (h : Nat → Nat → HL) : Prop := ∀ B T, M ⟨pw, w.params, kt w.params, C⟩ n (h B T) C.code .base (den C.code) C.need B 0 T 0 C.D C.U true = M ⟨pw, w.params, kt w.params, C⟩ n (h B T) C.code .base (den C.code) C.need B 0 T 0 C.D C.U false
theorem vW0 (p : PS) (kv : Value) (wd : E) (tvs : List Value) (tn : Nat) (qs : List E) (m : Int) (t0 : Tok) : Valid pw w (kt w.params) (cW (kt w.params) p kv wd none tvs tn qs m t0 ⟨none, tvs, tn, qs, m⟩) := by
  refine valid_of 100 (fun B T => hl [0] (.fin (ofL []) (ofL [t0]) (ofV []) [])) (fun B T => good_hl _ trivial) fun B T => ?_
  kernel_rfl
theorem vWz (p : PS) (kv : Value) (wd t : E) (tvs : List Value) (tn : Nat) (qs : List E) (m : Int) (t0 : Tok) (hc : Valid pw w (kt w.params) (cCmp (pl t.1) (pl wd.1) t.2 wd.2 0)) : Valid pw w (kt w.params) (cW (kt w.params) p kv wd (some t) tvs tn qs m t0 ⟨some t, tvs, tn, qs, m⟩) := by
  refine valid_of 100 (fun B T => hl [0, 7, 0, 0, 1551] (.j (cCmp (pl t.1) (pl wd.1) t.2 wd.2 0) [] fun α0 τ0 ν0 B0 T0 => hl [1, 0, 0] (.fin (ofL []) (ofL [t0]) (ofV []) []))) (fun B T => good_hl _ ⟨hc, fun _ _ _ _ _ => good_hl _ trivial⟩) fun B T => ?_
  kernel_rfl
theorem vWp (p : PS) (kv : Value) (wd t : E) (tvs : List Value) (tn : Nat) (qs : List E) (m : Int) (t0 : Tok) (hc : Valid pw w (kt w.params) (cCmp (pl t.1) (pl wd.1) t.2 wd.2 1)) : Valid pw w (kt w.params) (cW (kt w.params) p kv wd (some t) tvs tn qs m t0 ⟨some t, tvs, tn, qs, m⟩) := by
  refine valid_of 100 (fun B T => hl [0, 7, 0, 0, 1551] (.j (cCmp (pl t.1) (pl wd.1) t.2 wd.2 1) [] fun α0 τ0 ν0 B0 T0 => hl [1, 0, 0] (.fin (ofL []) (ofL [t0]) (ofV []) []))) (fun B T => good_hl _ ⟨hc, fun _ _ _ _ _ => good_hl _ trivial⟩) fun B T => ?_
  kernel_rfl
theorem vW2 (p : PS) (kv : Value) (wd t : E) (tvs : List Value) (tn : Nat) (m : Int) (t0 : Tok) (hln : tvs.length ≤ 1000) (hc : Valid pw w (kt w.params) (cCmp (pl t.1) (pl wd.1) t.2 wd.2 (-1))) : Valid pw w (kt w.params) (cW (kt w.params) p kv wd (some t) tvs tn [] m t0 ⟨none, tvs ++ [ev t], tn + 1, [], m⟩) := by
  refine valid_of 300 (fun B T => hl [0, 7, 0, 0, 1551] (.j (cCmp (pl t.1) (pl wd.1) t.2 wd.2 (-1)) [] fun α0 τ0 ν0 B0 T0 => hl [1, 0, 0, 0, 2, 1529, 1529, 1527, 2, 1529, 1529, 1527, 2, 1529, 1529, 1527, 1523, 2, 4, 0, 1523] (.j (cNPush p.xT p.dT p.pT p.hT p.tT p.line p.insT p.wsT p.eT tn tvs (es t)) [1, 2, 3] fun α1 τ1 ν1 B1 T1 => hl [0, 8, 1445, 1445, 1443, 8, 1445, 1445, 1443, 8, 1445, 1445, 1443, 1367, 8, 10, 1367] (.j (cSNone p.xS p.dS p.q p.hS p.tS p.vS .none (kS [] t0) p.ins p.fs p.di p.eS p.nI m p.mF) [4, 5, 6, 7, 8, 9] fun α2 τ2 ν2 B2 T2 => hl [0, 0, 0, 0, 0] (.fin (ofL []) τ2 (ofV []) []))))) (fun B T => good_hl _ ⟨hc, fun _ _ _ _ _ => good_hl _ ⟨vNPush _ _ _ _ _ _ _ _ _ _ _ _ hln, fun _ _ _ _ _ => good_hl _ ⟨vSNone2 _ _ _ _ _ _ _ _ _ _ _ _ _ _, fun _ _ _ _ _ => good_hl _ trivial⟩⟩⟩) fun B T => ?_
  kernel_rfl
theorem vW3 (p : PS) (kv : Value) (wd t a : E) (tvs : List Value) (tn : Nat) (qs : List E) (m : Int) (t0 : Tok) (out : WOut) (hln : tvs.length ≤ 1000) (hq : qs.length ≤ 8) (hc : Valid pw w (kt w.params) (cCmp (pl t.1) (pl wd.1) t.2 wd.2 (-1)))
    (ih : Valid pw w (kt w.params) (cW (kt w.params) p kv wd (some a) (tvs ++ [ev t]) (tn + 1) qs (m + 1) t0 out)) : Valid pw w (kt w.params) (cW (kt w.params) p kv wd (some t) tvs tn (a :: qs) m t0 out) := by
  refine valid_of 300 (fun B T => hl [0, 7, 0, 0, 1551] (.j (cCmp (pl t.1) (pl wd.1) t.2 wd.2 (-1)) [] fun α0 τ0 ν0 B0 T0 => hl [1, 0, 0, 0, 2, 1529, 1529, 1527, 2, 1529, 1529, 1527, 2, 1529, 1529, 1527, 1523, 2, 4, 0, 1523] (.j (cNPush p.xT p.dT p.pT p.hT p.tT p.line p.insT p.wsT p.eT tn tvs (es t)) [1, 2, 3] fun α1 τ1 ν1 B1 T1 => hl [0, 8, 1445, 1445, 1443, 8, 1445, 1445, 1443, 8, 1445, 1445, 1443, 1367, 8, 10, 1367] (.j (cSGet p.xS p.dS p.q p.hS p.tS p.vS .none (kS [] t0) p.ins p.fs p.eS m (qs.map ev) (es a)) [4, 5, 6] fun α2 τ2 ν2 B2 T2 => hl [0, 0, 0] (.j (cW (kt w.params) p kv wd (some a) (tvs ++ [ev t]) (tn + 1) qs (m + 1) t0 out) [0, 1, 2, 3, 4, 5, 6, 7, 8, 9] fun α3 τ3 ν3 B3 T3 => hl [] (.fin (ofL []) τ3 (ofV []) [])))))) (fun B T => good_hl _ ⟨hc, fun _ _ _ _ _ => good_hl _ ⟨vNPush _ _ _ _ _ _ _ _ _ _ _ _ hln, fun _ _ _ _ _ => good_hl _ ⟨vSGet _ _ _ _ _ _ _ _ _ _ _ _ _ _ (by simpa using hq), fun _ _ _ _ _ => good_hl _ ⟨ih, fun _ _ _ _ _ => good_hl _ trivial⟩⟩⟩⟩) fun B T => ?_
  kernel_rfl
theorem vW (p : PS) (kv : Value) (wd : E) (hw : wd.1 < 6) : ∀ (qs : List E) (top : Option E) (tvs : List Value) (tn : Nat) (m : Int) (t0 : Tok), (∀ t ∈ top, t.1 < 6) → (∀ e ∈ qs, e.1 < 6) → qs.length ≤ 9 → tvs.length + qs.length ≤ 1000 →
    Valid pw w (kt w.params) (cW (kt w.params) p kv wd top tvs tn qs m t0 (wRun wd qs top tvs tn m))
  | qs, none, tvs, tn, m, t0, _, _, _, _ => by
    have : wRun wd qs none tvs tn m = ⟨none, tvs, tn, qs, m⟩ := by unfold wRun; rfl
    rw [this]; exact vW0 p kv wd tvs tn qs m t0
  | qs, some t, tvs, tn, m, t0, ht, hqs, hl, hs => by
    have ht := ht t rfl
    have hc := vCmp (w := w) t.1 wd.1 t.2 wd.2 ht hw
    by_cases h : t.1 < wd.1
    · have e : sg t.1 wd.1 = -1 := by simp [sg, h]
      rw [e] at hc
      match qs, hqs, hl, hs with
      | [], _, _, hs =>
        have : wRun wd [] (some t) tvs tn m = ⟨none, tvs ++ [ev t], tn + 1, [], m⟩ := by simp [wRun, h]
        rw [this]
        exact vW2 p kv wd t tvs tn m t0 (by simpa using hs) hc
      | a :: qs, hqs, hl, hs =>
        have : wRun wd (a :: qs) (some t) tvs tn m = wRun wd qs (some a) (tvs ++ [ev t]) (tn + 1) (m + 1) := by simp [wRun, h]
        rw [this]
        refine vW3 p kv wd t a tvs tn qs m t0 _ (by simp at hs; omega) (by simpa using hl) hc ?_
        exact vW p kv wd hw qs (some a) (tvs ++ [ev t]) (tn + 1) (m + 1) t0 (fun t' ht' => by cases ht'; exact hqs a (.head _)) (fun e he => hqs e (.tail _ he)) (by simp at hl; omega) (by simp at hs ⊢; omega)
    · have e : wRun wd qs (some t) tvs tn m = ⟨some t, tvs, tn, qs, m⟩ := by cases qs <;> simp [wRun, h]
      rw [e]
      by_cases h0 : t.1 = wd.1
      · have e : sg t.1 wd.1 = 0 := by simp [sg, h0]
        rw [e] at hc
        exact vWz p kv wd t tvs tn qs m t0 hc
      · have e : sg t.1 wd.1 = 1 := by simp [sg, h, h0]
        rw [e] at hc
        exact vWp p kv wd t tvs tn qs m t0 hc
  termination_by qs => qs.length
end
end Mine
/-! part C4a -/
set_option maxRecDepth 100000
set_option linter.unusedVariables false
namespace Mine
open PySem PySem.Spec PySem.Calls PyProof.Rows PySem.W PySem.W.X
section
variable {prog : Program} {w : World} {kt : KT}
def slc (i j : Int) (ti tj : Tok) : Obj := { cls := .type "slice", data := .fields ⟨[.int i ti, .int j tj, .none]⟩ }
def cSlice (s : Str) (t : Tok) (a : Addr) (i j : Int) (ti tj : Tok) (c : Nat) : Ct :=
  { code := .call (.builtin "str.__getitem__") ⟨[.str s t, .ref a], []⟩, need := [(a, slc i j ti tj)], k := 0, res := fun _ τ _ => ret0 (.str ⟨⟨[c]⟩⟩ (τ 0)), post := fun _ _ _ => [slc i j ti tj], new := fun _ _ _ => [], D := 900, U := 9000 }
theorem slice_one (x : Str) (i : Nat) (hi : i < x.length) : Builtin.Str.strSliceIndices (some (i : Int)) (some ((i : Int) + 1)) 1 x.length = [i] := by
  unfold Builtin.Str.strSliceIndices sliceRange
  have h1 : ¬ (i : Int) < 0 := by omega
  have h2 : ¬ (i : Int) + 1 < 0 := by omega
  have e1 : max 0 (min (i : Int) (x.length : Int)) = i := by omega
  have e2 : max 0 (min ((i : Int) + 1) (x.length : Int)) = i + 1 := by omega
  simp only [h1, h2, if_false, e1, e2]
  have : (i : Int) + 1 - (i : Int) = 1 := by omega
  simp [this]
  have hlt : (i : Int) < (i : Int) + 1 := by omega
  rw [if_pos hlt]
  exact ⟨0, rfl, by omega⟩
theorem vSlice (s : Str) (t : Tok) (a : Addr) (i : Nat) (j : Int) (ti tj : Tok) (c : Nat) (hj : j = (i : Int) + 1) (hc : s.cps[i]? = some c) (h2 : 2 ≤ s.cps.size) : Valid prog w kt (cSlice s t a (i : Int) j ti tj c) := by
  subst hj
  have hi : i < s.length := (Array.getElem?_eq_some_iff.mp hc).1
  have hp : slicePicked s (some ((i : Int), ti)) (some ((i : Int) + 1, tj)) none = [i] := slice_one s i hi
  have hm : sliceMade s t (some ((i : Int), ti)) (some ((i : Int) + 1, tj)) none = .str ⟨⟨[c]⟩⟩ := by
    unfold sliceMade
    rw [hp]
    have : ¬ 1 = s.length := by
      have : s.length = s.cps.size := rfl
      omega
    simp [this, hc]
  have g := meets_str_getitem_slice s t a (some ((i : Int), ti)) (some ((i : Int) + 1, tj)) none rfl
  rw [hm] at g
  refine valid_meets (C := cSlice s t a (i : Int) ((i : Int) + 1) ti tj c) F.slot_str_getitem F.entry_str_getitem (F.args_str_getitem_2 _ _) g rfl (fun s' _ => typeIs_str s' s t) fun A R s' hown hfin => ⟨⟨_, hown _ (.head _), rfl, rfl⟩, ?_⟩
  refine ⟨by show 1 ≤ sizeLine; decide, ?_⟩
  exact hfin (fun _ => 0) (fun _ => s'.toks) (fun _ => .none) s'.heap (s'.toks + 1) (after_same rfl rfl hown)
end
end Mine
/-! part C4 -/
set_option maxRecDepth 100000
set_option linter.unusedVariables false
namespace Mine
open PySem PySem.Spec PySem.Calls PyProof.Rows PySem.W PySem.W.X
def defName : Stmt → Str
  | .FunctionDef n _ _ _ _ _ _ _ _ _ => n
  | _ => default
def defArgs : Stmt → Arguments
  | .FunctionDef _ a _ _ _ _ _ _ _ _ => a
  | _ => default
def defBody : Stmt → List Stmt
  | .FunctionDef _ _ b _ _ _ _ _ _ _ => b
  | _ => []
def defScope : Stmt → Scope
  | .FunctionDef _ _ _ _ _ _ s _ _ _ => s
  | _ => default
def giveS (kt : KT) : Stmt := nthS (fnStmts kt 782) 2
/-- the function that hands out the text -/
def giveF (kt : KT) (co cT cP : Addr) (md ct : Value) : Obj := { cls := .type "function", data := .func { name := defName (giveS kt), qualname := ⟨⟨[95, 108, 97, 119, 95, 115, 116, 114, 101, 97, 109, 46, 60, 108, 111, 99, 97, 108, 115, 62, 46, 95, 108, 97, 119, 95, 103, 105, 118, 101]⟩⟩, params := defArgs (giveS kt), body := .stmts (defBody (giveS kt)), scope := defScope (giveS kt), globals := 3, closure := [(⟨⟨[116, 101, 120, 116]⟩⟩, cT), (⟨⟨[112, 108, 97, 99, 101]⟩⟩, cP)], defaults := .none, kwdefaults := .none, pyModule := md, code := .ref co, closureTuple := ct } }
def cellO (v : Value) : Obj := { cls := .type "cell", data := .cell (some v) }
def codeO (c0 : Value) (t : Tok) (cs : List Value) : Obj := { cls := .type "code", data := .fields ⟨c0 :: kS [95, 108, 97, 119, 95, 115, 116, 114, 101, 97, 109, 46, 60, 108, 111, 99, 97, 108, 115, 62, 46, 95, 108, 97, 119, 95, 103, 105, 118, 101] t :: cs⟩ }
/-- the dict of the stream -/
def strD (hs : Nat → Int) (ts : Nat → Tok) (v : Nat → Value) (fn : Addr) (n : Nat) : Obj := dic [
  ⟨hs 0, kS [108, 105, 110, 101, 110, 111] (ts 0), v 0⟩, ⟨hs 1, kS [105, 110, 115, 116, 114, 101, 97, 109] (ts 1), v 1⟩, ⟨hs 2, kS [119, 104, 105, 116, 101, 115, 112, 97, 99, 101] (ts 2), v 2⟩, ⟨hs 3, kS [112, 117, 115, 104, 98, 97, 99, 107] (ts 3), v 3⟩, ⟨hs 4, kS [114, 101, 97, 100] (ts 4), .ref fn⟩] n
/-- what reading does not turn -/
structure TS where
  xF : Addr
  dF : Addr
  pF : Addr
  st : Addr
  dS : Addr
  fn : Addr
  co : Addr
  cT : Addr
  cP : Addr
  pl : Addr
  hF : Nat → Int
  tF : Nat → Tok
  tw : Tok
  eF : Nat
  nP : Nat
  hS : Nat → Int
  tS : Nat → Tok
  vS : Nat → Value
  eS : Nat
  md : Value
  ct : Value
  c0 : Value
  tc : Tok
  cs : List Value
  tt : Tok
  nl : Nat
def wsV (t : Tok) : Value := kS [10, 9, 13, 32] t
def TS.slots (kt : KT) (s : TS) (txt : Str) (ln : Int) (tl : Tok) (p : Int) (tp : Tok) : St :=
  [(s.xF, inst 764 s.dF), (s.dF, netD s.hF s.tF (.int ln tl) (.ref s.st) (wsV s.tw) (.ref s.pF) s.eF), (s.pF, lst [] s.nP), (s.st, inst 764 s.dS), (s.dS, strD s.hS s.tS s.vS s.fn s.eS), (s.fn, giveF kt s.co s.cT s.cP s.md s.ct), (s.co, codeO s.c0 s.tc s.cs),
   (s.cT, cellO (.str txt s.tt)), (s.cP, cellO (.ref s.pl)), (s.pl, lst [.int p tp] s.nl)]
section
variable {w : World}
def cRead (kt : KT) (s : TS) (txt : Str) (ln : Int) (tl : Tok) (p : Int) (tp : Tok) (c : Nat) : Ct :=
  { code := .call (.ref 747) ⟨[.ref s.xF], []⟩, need := s.slots kt txt ln tl p tp, k := 0, res := fun _ τ _ => ret0 (.str ⟨⟨[c]⟩⟩ (τ 0)), post := fun _ τ _ => objs (s.slots kt txt ln tl (p + 1) (τ 1)), new := fun _ _ _ => [], D := 800, U := 8500 }
def cReadN (kt : KT) (s : TS) (txt : Str) (ln : Int) (tl : Tok) (p : Int) (tp : Tok) : Ct :=
  { code := .call (.ref 747) ⟨[.ref s.xF], []⟩, need := s.slots kt txt ln tl p tp, k := 0, res := fun _ τ _ => ret0 (.str ⟨⟨[10]⟩⟩ (τ 0)), post := fun _ τ _ => objs (s.slots kt txt (ln + 1) (τ 2) (p + 1) (τ 1)), new := fun _ _ _ => [], D := 800, U := 8500 }
theorem vRead' (s : TS) (txt : Str) (ln : Int) (tl : Tok) (p : Int) (tp : Tok) (c : Nat) (hs : ∀ a ti tj, Valid pw w (kt w.params) (cSlice txt s.tt a p (p + 1) ti tj c)) (hn : ∀ t u, Valid pw w (kt w.params) (cStrEq ⟨⟨[c]⟩⟩ ⟨⟨[10]⟩⟩ t u false)) :
    Valid pw w (kt w.params) (cRead (kt w.params) s txt ln tl p tp c) := by
  refine valid_of 500 (fun B T => hl [1495, 1493, 0, 0, 0, 0, 5, 0, 0, 2, 1529, 1529, 1527, 0, 2, 1529, 1529, 1527, 2, 2, 1529, 4, 8, 1529, 1529, 1527, 8, 1529, 1529, 1527, 8, 1529, 1529, 1527, 8, 1529, 1529, 1527, 0, 8, 1529, 1529, 1527, 8, 8, 1529, 10, 12, 0, 12, 14, 0, 0, 0, 0, 5, 0, 18, 20, 22, 22, 22, 0, 22, 0, 22, 20, 22, 22, 22, 0, 22, 0, 22, 0, 0, 0] (.j (cSlice txt s.tt (B + 2) p (p + 1) tp (T + 7) c) [0] fun α0 τ0 ν0 B0 T0 => hl [0, 2, 2, 22, 24, 24, 24, 0, 24, 0, 24, 7, 1, 2, 0, 0, 0, 0, 0, 0, 22, 24, 24, 0, 24, 0, 24, 24, 24, 2, 0, 4, 4, 4, 1] (.j (cStrEq ⟨⟨[c]⟩⟩ ⟨⟨[10]⟩⟩ (τ0 0) (T0 + 7) false) [] fun α1 τ1 ν1 B1 T1 => hl [4] (.fin (ofL []) (ofL [τ0 0, T0 + 4]) (ofV []) [])))) (fun B T => good_hl _ ⟨hs _ _ _, fun _ _ _ _ _ => good_hl _ ⟨hn _ _, fun _ _ _ _ _ => good_hl _ trivial⟩⟩) fun B T => ?_
  kernel_rfl
theorem vReadN' (s : TS) (txt : Str) (ln : Int) (tl : Tok) (p : Int) (tp : Tok) (c : Nat) (e : c = 10) (hs : ∀ a ti tj, Valid pw w (kt w.params) (cSlice txt s.tt a p (p + 1) ti tj c)) (hn : ∀ t u, Valid pw w (kt w.params) (cStrEq ⟨⟨[c]⟩⟩ ⟨⟨[10]⟩⟩ t u true)) :
    Valid pw w (kt w.params) (cReadN (kt w.params) s txt ln tl p tp) := by
  subst e
  refine valid_of 500 (fun B T => hl [1495, 1493, 0, 0, 0, 0, 5, 0, 0, 2, 1529, 1529, 1527, 0, 2, 1529, 1529, 1527, 2, 2, 1529, 4, 8, 1529, 1529, 1527, 8, 1529, 1529, 1527, 8, 1529, 1529, 1527, 8, 1529, 1529, 1527, 0, 8, 1529, 1529, 1527, 8, 8, 1529, 10, 12, 0, 12, 14, 0, 0, 0, 0, 5, 0, 18, 20, 22, 22, 22, 0, 22, 0, 22, 20, 22, 22, 22, 0, 22, 0, 22, 0, 0, 0] (.j (cSlice txt s.tt (B + 2) p (p + 1) tp (T + 7) 10) [0] fun α0 τ0 ν0 B0 T0 => hl [0, 2, 2, 22, 24, 24, 24, 0, 24, 0, 24, 7, 1, 2, 0, 0, 0, 0, 0, 0, 22, 24, 24, 0, 24, 0, 24, 24, 24, 2, 0, 4, 4, 4, 1] (.j (cStrEq ⟨⟨[10]⟩⟩ ⟨⟨[10]⟩⟩ (τ0 0) (T0 + 7) true) [] fun α1 τ1 ν1 B1 T1 => hl [4, 6, 1529, 1529, 1527, 0, 6, 1529, 1529, 1527, 6, 6, 1529, 8, 0, 0, 6, 1529, 1529, 1527, 0, 6, 1529, 0, 6, 1529, 6, 1529, 1529, 1527, 6, 1529, 0, 8, 8, 8, 4] (.fin (ofL []) (ofL [τ0 0, T0 + 4, T1 + 2]) (ofV []) [])))) (fun B T => good_hl _ ⟨hs _ _ _, fun _ _ _ _ _ => good_hl _ ⟨hn _ _, fun _ _ _ _ _ => good_hl _ trivial⟩⟩) fun B T => ?_
  kernel_rfl
end
end Mine
/-! part C5 -/
set_option maxRecDepth 100000
set_option linter.unusedVariables false
namespace Mine
open PySem PySem.Spec PySem.Calls PyProof.Rows PySem.W PySem.W.X
section
variable {w : World}
/-- a word is read off the text -/
def cTok (kt : KT) (s : TS) (txt : Str) (ln : Int) (tl : Tok) (p : Int) (tp : Tok) (ln' p' : Int) (r : Nat) : Ct :=
  { code := .call (.ref 754) ⟨[.ref s.xF], []⟩, need := s.slots kt txt ln tl p tp, k := 0, res := fun _ τ _ => ret0 (.str (pl r) (τ 0)), post := fun _ τ _ => objs (s.slots kt txt ln' (τ 2) p' (τ 1)), new := fun _ _ _ => [], D := 700, U := 8000 }
abbrev Rd (w : World) (s : TS) (txt : Str) (q : Int) (c : Nat) : Prop := ∀ ln tl tp, Valid pw w (kt w.params) (cRead (kt w.params) s txt ln tl q tp c)
abbrev RdN (w : World) (s : TS) (txt : Str) (q : Int) : Prop := ∀ ln tl tp, Valid pw w (kt w.params) (cReadN (kt w.params) s txt ln tl q tp)
theorem vTok0_0 (s : TS) (txt : Str) (ln : Int) (tl : Tok) (p : Int) (tp : Tok) (r0 : Rd w s txt (p) 34) (r1 : Rd w s txt (p + 1) 34) : Valid pw w (kt w.params) (cTok (kt w.params) s txt ln tl p tp (ln) (p + 1 + 1) 0) := by
  refine valid_of 1000 (fun B T => hl [1509, 1507, 0, 0, 0, 0, 5, 0, 0, 2, 1529, 1529, 1527, 0, 2, 1529, 1529, 1527, 2, 2, 1529, 4, 6, 6, 0, 6, 0, 6, 0, 6, 0, 0, 0, 7, 1, 0, 2, 1529, 1529, 1527, 0, 2, 1529, 1529, 1527, 1495, 1495, 1495, 2, 2, 1529, 4, 1529, 1529, 1527, 0, 1495, 0, 0, 0, 0, 0, 4, 4, 4, 0, 0, 1, 0, 0, 0, 0, 0, 0, 0, 0, 0, 0, 0, 2, 1495, 0, 2] (.j (cRead (kt w.params) s txt (ln) (tl) (p) (tp) 34) [3, 4, 5, 6, 7, 8, 9, 10, 11, 12] fun α0 τ0 ν0 B0 T0 => hl [0, 0, 1, 0, 0, 0, 4, 4, 4, 4, 6, 1529, 1529, 1527, 0, 6, 1529, 1529, 1527, 6, 6, 1529, 8, 0, 0, 4, 1, 0, 0, 4, 0, 0, 1, 0, 0, 0, 0, 0, 0, 0, 0, 0, 0, 0, 2, 1495, 0, 2] (.j (cRead (kt w.params) s txt (ln) (tl) (p + 1) (τ0 1) 34) [3, 4, 5, 6, 7, 8, 9, 10, 11, 12] fun α1 τ1 ν1 B1 T1 => hl [0, 0, 1, 0, 0, 0, 4, 4, 4, 1, 0, 0, 4] (.fin (ofL []) (ofL [T + 4, τ1 1, tl]) (ofV []) [])))) (fun B T => good_hl _ ⟨r0 _ _ _, fun _ _ _ _ _ => good_hl _ ⟨r1 _ _ _, fun _ _ _ _ _ => good_hl _ trivial⟩⟩) fun B T => ?_
  kernel_rfl
theorem vTok1_0 (s : TS) (txt : Str) (ln : Int) (tl : Tok) (p : Int) (tp : Tok) (r0 : RdN w s txt (p)) (r1 : Rd w s txt (p + 1) 34) (r2 : Rd w s txt (p + 1 + 1) 34) : Valid pw w (kt w.params) (cTok (kt w.params) s txt ln tl p tp (ln + 1) (p + 1 + 1 + 1) 0) := by
  refine valid_of 1000 (fun B T => hl [1509, 1507, 0, 0, 0, 0, 5, 0, 0, 2, 1529, 1529, 1527, 0, 2, 1529, 1529, 1527, 2, 2, 1529, 4, 6, 6, 0, 6, 0, 6, 0, 6, 0, 0, 0, 7, 1, 0, 2, 1529, 1529, 1527, 0, 2, 1529, 1529, 1527, 1495, 1495, 1495, 2, 2, 1529, 4, 1529, 1529, 1527, 0, 1495, 0, 0, 0, 0, 0, 4, 4, 4, 0, 0, 1, 0, 0, 0, 0, 0, 0, 0, 0, 0, 0, 0, 2, 1495, 0, 2] (.j (cReadN (kt w.params) s txt (ln) (tl) (p) (tp)) [3, 4, 5, 6, 7, 8, 9, 10, 11, 12] fun α0 τ0 ν0 B0 T0 => hl [0, 0, 1, 0, 0, 0, 4, 4, 4, 4, 6, 1529, 1529, 1527, 0, 6, 1529, 1529, 1527, 6, 6, 1529, 8, 0, 0, 0, 0, 0, 0, 0, 0, 0, 2, 1495, 0, 2] (.j (cRead (kt w.params) s txt (ln + 1) (τ0 2) (p + 1) (τ0 1) 34) [3, 4, 5, 6, 7, 8, 9, 10, 11, 12] fun α1 τ1 ν1 B1 T1 => hl [0, 0, 1, 0, 0, 0, 4, 4, 4, 4, 6, 1529, 1529, 1527, 0, 6, 1529, 1529, 1527, 6, 6, 1529, 8, 0, 0, 4, 1, 0, 0, 4, 0, 0, 1, 0, 0, 0, 0, 0, 0, 0, 0, 0, 0, 0, 2, 1495, 0, 2] (.j (cRead (kt w.params) s txt (ln + 1) (τ0 2) (p + 1 + 1) (τ1 1) 34) [3, 4, 5, 6, 7, 8, 9, 10, 11, 12] fun α2 τ2 ν2 B2 T2 => hl [0, 0, 1, 0, 0, 0, 4, 4, 4, 1, 0, 0, 4] (.fin (ofL []) (ofL [T + 4, τ2 1, τ0 2]) (ofV []) []))))) (fun B T => good_hl _ ⟨r0 _ _ _, fun _ _ _ _ _ => good_hl _ ⟨r1 _ _ _, fun _ _ _ _ _ => good_hl _ ⟨r2 _ _ _, fun _ _ _ _ _ => good_hl _ trivial⟩⟩⟩) fun B T => ?_
  kernel_rfl
theorem vTok0_1 (s : TS) (txt : Str) (ln : Int) (tl : Tok) (p : Int) (tp : Tok) (r0 : Rd w s txt (p) 92) (r1 : Rd w s txt (p + 1) 32) (r2 : Rd w s txt (p + 1 + 1) 98) (r3 : RdN w s txt (p + 1 + 1 + 1)) : Valid pw w (kt w.params) (cTok (kt w.params) s txt ln tl p tp (ln + 1) (p + 1 + 1 + 1 + 1) 1) := by
  refine valid_of 1000 (fun B T => hl [1509, 1507, 0, 0, 0, 0, 5, 0, 0, 2, 1529, 1529, 1527, 0, 2, 1529, 1529, 1527, 2, 2, 1529, 4, 6, 6, 0, 6, 0, 6, 0, 6, 0, 0, 0, 7, 1, 0, 2, 1529, 1529, 1527, 0, 2, 1529, 1529, 1527, 1495, 1495, 1495, 2, 2, 1529, 4, 1529, 1529, 1527, 0, 1495, 0, 0, 0, 0, 0, 4, 4, 4, 0, 0, 1, 0, 0, 0, 0, 0, 0, 0, 0, 0, 0, 0, 2, 1495, 0, 2] (.j (cRead (kt w.params) s txt (ln) (tl) (p) (tp) 92) [3, 4, 5, 6, 7, 8, 9, 10, 11, 12] fun α0 τ0 ν0 B0 T0 => hl [0, 0, 1, 0, 0, 0, 4, 4, 4, 4, 6, 1529, 1529, 1527, 0, 6, 1529, 1529, 1527, 6, 6, 1529, 8, 0, 0, 4, 1, 0, 0, 4, 1, 0, 0, 4, 6, 1529, 1529, 1527, 6, 1529, 1529, 1527, 6, 1529, 1529, 1527, 1495, 6, 8, 1495] (.j (cRead (kt w.params) s txt (ln) (tl) (p + 1) (τ0 1) 32) [3, 4, 5, 6, 7, 8, 9, 10, 11, 12] fun α1 τ1 ν1 B1 T1 => hl [0, 4, 4, 4, 4, 0, 0, 0, 4, 4, 4, 0, 0, 1, 0, 0, 0, 0, 0, 0, 0, 0, 0, 0, 0, 2, 1495, 0, 2] (.j (cRead (kt w.params) s txt (ln) (tl) (p + 1 + 1) (τ1 1) 98) [3, 4, 5, 6, 7, 8, 9, 10, 11, 12] fun α2 τ2 ν2 B2 T2 => hl [0, 0, 1, 0, 0, 0, 4, 4, 4, 4, 6, 1529, 1529, 1527, 0, 6, 1529, 1529, 1527, 6, 6, 1529, 8, 0, 0, 4, 1, 0, 0, 4, 4, 0, 0, 0, 4, 4, 0, 0, 0, 0, 0, 0, 0, 2, 1495, 0, 2] (.j (cReadN (kt w.params) s txt (ln) (tl) (p + 1 + 1 + 1) (τ2 1)) [3, 4, 5, 6, 7, 8, 9, 10, 11, 12] fun α3 τ3 ν3 B3 T3 => hl [0, 0, 1, 0, 0, 0, 4, 4, 4, 4, 6, 1529, 1529, 1527, 0, 6, 1529, 1529, 1527, 6, 6, 1529, 8, 0, 0, 4] (.fin (ofL []) (ofL [T2 + 3, τ3 1, τ3 2]) (ofV []) [])))))) (fun B T => good_hl _ ⟨r0 _ _ _, fun _ _ _ _ _ => good_hl _ ⟨r1 _ _ _, fun _ _ _ _ _ => good_hl _ ⟨r2 _ _ _, fun _ _ _ _ _ => good_hl _ ⟨r3 _ _ _, fun _ _ _ _ _ => good_hl _ trivial⟩⟩⟩⟩) fun B T => ?_
  kernel_rfl
theorem vTok1_1 (s : TS) (txt : Str) (ln : Int) (tl : Tok) (p : Int) (tp : Tok) (r0 : RdN w s txt (p)) (r1 : Rd w s txt (p + 1) 92) (r2 : Rd w s txt (p + 1 + 1) 32) (r3 : Rd w s txt (p + 1 + 1 + 1) 98) (r4 : RdN w s txt (p + 1 + 1 + 1 + 1)) : Valid pw w (kt w.params) (cTok (kt w.params) s txt ln tl p tp (ln + 1 + 1) (p + 1 + 1 + 1 + 1 + 1) 1) := by
  refine valid_of 1000 (fun B T => hl [1509, 1507, 0, 0, 0, 0, 5, 0, 0, 2, 1529, 1529, 1527, 0, 2, 1529, 1529, 1527, 2, 2, 1529, 4, 6, 6, 0, 6, 0, 6, 0, 6, 0, 0, 0, 7, 1, 0, 2, 1529, 1529, 1527, 0, 2, 1529, 1529, 1527, 1495, 1495, 1495, 2, 2, 1529, 4, 1529, 1529, 1527, 0, 1495, 0, 0, 0, 0, 0, 4, 4, 4, 0, 0, 1, 0, 0, 0, 0, 0, 0, 0, 0, 0, 0, 0, 2, 1495, 0, 2] (.j (cReadN (kt w.params) s txt (ln) (tl) (p) (tp)) [3, 4, 5, 6, 7, 8, 9, 10, 11, 12] fun α0 τ0 ν0 B0 T0 => hl [0, 0, 1, 0, 0, 0, 4, 4, 4, 4, 6, 1529, 1529, 1527, 0, 6, 1529, 1529, 1527, 6, 6, 1529, 8, 0, 0, 0, 0, 0, 0, 0, 0, 0, 2, 1495, 0, 2] (.j (cRead (kt w.params) s txt (ln + 1) (τ0 2) (p + 1) (τ0 1) 92) [3, 4, 5, 6, 7, 8, 9, 10, 11, 12] fun α1 τ1 ν1 B1 T1 => hl [0, 0, 1, 0, 0, 0, 4, 4, 4, 4, 6, 1529, 1529, 1527, 0, 6, 1529, 1529, 1527, 6, 6, 1529, 8, 0, 0, 4, 1, 0, 0, 4, 1, 0, 0, 4, 6, 1529, 1529, 1527, 6, 1529, 1529, 1527, 6, 1529, 1529, 1527, 1495, 6, 8, 1495] (.j (cRead (kt w.params) s txt (ln + 1) (τ0 2) (p + 1 + 1) (τ1 1) 32) [3, 4, 5, 6, 7, 8, 9, 10, 11, 12] fun α2 τ2 ν2 B2 T2 => hl [0, 4, 4, 4, 4, 0, 0, 0, 4, 4, 4, 0, 0, 1, 0, 0, 0, 0, 0, 0, 0, 0, 0, 0, 0, 2, 1495, 0, 2] (.j (cRead (kt w.params) s txt (ln + 1) (τ0 2) (p + 1 + 1 + 1) (τ2 1) 98) [3, 4, 5, 6, 7, 8, 9, 10, 11, 12] fun α3 τ3 ν3 B3 T3 => hl [0, 0, 1, 0, 0, 0, 4, 4, 4, 4, 6, 1529, 1529, 1527, 0, 6, 1529, 1529, 1527, 6, 6, 1529, 8, 0, 0, 4, 1, 0, 0, 4, 4, 0, 0, 0, 4, 4, 0, 0, 0, 0, 0, 0, 0, 2, 1495, 0, 2] (.j (cReadN (kt w.params) s txt (ln + 1) (τ0 2) (p + 1 + 1 + 1 + 1) (τ3 1)) [3, 4, 5, 6, 7, 8, 9, 10, 11, 12] fun α4 τ4 ν4 B4 T4 => hl [0, 0, 1, 0, 0, 0, 4, 4, 4, 4, 6, 1529, 1529, 1527, 0, 6, 1529, 1529, 1527, 6, 6, 1529, 8, 0, 0, 4] (.fin (ofL []) (ofL [T3 + 3, τ4 1, τ4 2]) (ofV []) []))))))) (fun B T => good_hl _ ⟨r0 _ _ _, fun _ _ _ _ _ => good_hl _ ⟨r1 _ _ _, fun _ _ _ _ _ => good_hl _ ⟨r2 _ _ _, fun _ _ _ _ _ => good_hl _ ⟨r3 _ _ _, fun _ _ _ _ _ => good_hl _ ⟨r4 _ _ _, fun _ _ _ _ _ => good_hl _ trivial⟩⟩⟩⟩⟩) fun B T => ?_
  kernel_rfl
theorem vTok0_2 (s : TS) (txt : Str) (ln : Int) (tl : Tok) (p : Int) (tp : Tok) (r0 : Rd w s txt (p) 92) (r1 : Rd w s txt (p + 1) 34) (r2 : RdN w s txt (p + 1 + 1)) : Valid pw w (kt w.params) (cTok (kt w.params) s txt ln tl p tp (ln + 1) (p + 1 + 1 + 1) 2) := by
  refine valid_of 1000 (fun B T => hl [1509, 1507, 0, 0, 0, 0, 5, 0, 0, 2, 1529, 1529, 1527, 0, 2, 1529, 1529, 1527, 2, 2, 1529, 4, 6, 6, 0, 6, 0, 6, 0, 6, 0, 0, 0, 7, 1, 0, 2, 1529, 1529, 1527, 0, 2, 1529, 1529, 1527, 1495, 1495, 1495, 2, 2, 1529, 4, 1529, 1529, 1527, 0, 1495, 0, 0, 0, 0, 0, 4, 4, 4, 0, 0, 1, 0, 0, 0, 0, 0, 0, 0, 0, 0, 0, 0, 2, 1495, 0, 2] (.j (cRead (kt w.params) s txt (ln) (tl) (p) (tp) 92) [3, 4, 5, 6, 7, 8, 9, 10, 11, 12] fun α0 τ0 ν0 B0 T0 => hl [0, 0, 1, 0, 0, 0, 4, 4, 4, 4, 6, 1529, 1529, 1527, 0, 6, 1529, 1529, 1527, 6, 6, 1529, 8, 0, 0, 4, 1, 0, 0, 4, 1, 0, 0, 4, 6, 1529, 1529, 1527, 6, 1529, 1529, 1527, 6, 1529, 1529, 1527, 1495, 6, 8, 1495] (.j (cRead (kt w.params) s txt (ln) (tl) (p + 1) (τ0 1) 34) [3, 4, 5, 6, 7, 8, 9, 10, 11, 12] fun α1 τ1 ν1 B1 T1 => hl [0, 4, 4, 4, 4, 0, 0, 0, 4, 4, 4, 0, 0, 1, 0, 0, 0, 0, 0, 0, 0, 0, 0, 0, 0, 2, 1495, 0, 2] (.j (cReadN (kt w.params) s txt (ln) (tl) (p + 1 + 1) (τ1 1)) [3, 4, 5, 6, 7, 8, 9, 10, 11, 12] fun α2 τ2 ν2 B2 T2 => hl [0, 0, 1, 0, 0, 0, 4, 4, 4, 4, 6, 1529, 1529, 1527, 0, 6, 1529, 1529, 1527, 6, 6, 1529, 8, 0, 0, 4] (.fin (ofL []) (ofL [τ1 0, τ2 1, τ2 2]) (ofV []) []))))) (fun B T => good_hl _ ⟨r0 _ _ _, fun _ _ _ _ _ => good_hl _ ⟨r1 _ _ _, fun _ _ _ _ _ => good_hl _ ⟨r2 _ _ _, fun _ _ _ _ _ => good_hl _ trivial⟩⟩⟩) fun B T => ?_
  kernel_rfl
theorem vTok1_2 (s : TS) (txt : Str) (ln : Int) (tl : Tok) (p : Int) (tp : Tok) (r0 : RdN w s txt (p)) (r1 : Rd w s txt (p + 1) 92) (r2 : Rd w s txt (p + 1 + 1) 34) (r3 : RdN w s txt (p + 1 + 1 + 1)) : Valid pw w (kt w.params) (cTok (kt w.params) s txt ln tl p tp (ln + 1 + 1) (p + 1 + 1 + 1 + 1) 2) := by
  refine valid_of 1000 (fun B T => hl [1509, 1507, 0, 0, 0, 0, 5, 0, 0, 2, 1529, 1529, 1527, 0, 2, 1529, 1529, 1527, 2, 2, 1529, 4, 6, 6, 0, 6, 0, 6, 0, 6, 0, 0, 0, 7, 1, 0, 2, 1529, 1529, 1527, 0, 2, 1529, 1529, 1527, 1495, 1495, 1495, 2, 2, 1529, 4, 1529, 1529, 1527, 0, 1495, 0, 0, 0, 0, 0, 4, 4, 4, 0, 0, 1, 0, 0, 0, 0, 0, 0, 0, 0, 0, 0, 0, 2, 1495, 0, 2] (.j (cReadN (kt w.params) s txt (ln) (tl) (p) (tp)) [3, 4, 5, 6, 7, 8, 9, 10, 11, 12] fun α0 τ0 ν0 B0 T0 => hl [0, 0, 1, 0, 0, 0, 4, 4, 4, 4, 6, 1529, 1529, 1527, 0, 6, 1529, 1529, 1527, 6, 6, 1529, 8, 0, 0, 0, 0, 0, 0, 0, 0, 0, 2, 1495, 0, 2] (.j (cRead (kt w.params) s txt (ln + 1) (τ0 2) (p + 1) (τ0 1) 92) [3, 4, 5, 6, 7, 8, 9, 10, 11, 12] fun α1 τ1 ν1 B1 T1 => hl [0, 0, 1, 0, 0, 0, 4, 4, 4, 4, 6, 1529, 1529, 1527, 0, 6, 1529, 1529, 1527, 6, 6, 1529, 8, 0, 0, 4, 1, 0, 0, 4, 1, 0, 0, 4, 6, 1529, 1529, 1527, 6, 1529, 1529, 1527, 6, 1529, 1529, 1527, 1495, 6, 8, 1495] (.j (cRead (kt w.params) s txt (ln + 1) (τ0 2) (p + 1 + 1) (τ1 1) 34) [3, 4, 5, 6, 7, 8, 9, 10, 11, 12] fun α2 τ2 ν2 B2 T2 => hl [0, 4, 4, 4, 4, 0, 0, 0, 4, 4, 4, 0, 0, 1, 0, 0, 0, 0, 0, 0, 0, 0, 0, 0, 0, 2, 1495, 0, 2] (.j (cReadN (kt w.params) s txt (ln + 1) (τ0 2) (p + 1 + 1 + 1) (τ2 1)) [3, 4, 5, 6, 7, 8, 9, 10, 11, 12] fun α3 τ3 ν3 B3 T3 => hl [0, 0, 1, 0, 0, 0, 4, 4, 4, 4, 6, 1529, 1529, 1527, 0, 6, 1529, 1529, 1527, 6, 6, 1529, 8, 0, 0, 4] (.fin (ofL []) (ofL [τ2 0, τ3 1, τ3 2]) (ofV []) [])))))) (fun B T => good_hl _ ⟨r0 _ _ _, fun _ _ _ _ _ => good_hl _ ⟨r1 _ _ _, fun _ _ _ _ _ => good_hl _ ⟨r2 _ _ _, fun _ _ _ _ _ => good_hl _ ⟨r3 _ _ _, fun _ _ _ _ _ => good_hl _ trivial⟩⟩⟩⟩) fun B T => ?_
  kernel_rfl
theorem vTok0_3 (s : TS) (txt : Str) (ln : Int) (tl : Tok) (p : Int) (tp : Tok) (r0 : Rd w s txt (p) 97) (r1 : RdN w s txt (p + 1)) : Valid pw w (kt w.params) (cTok (kt w.params) s txt ln tl p tp (ln + 1) (p + 1 + 1) 3) := by
  refine valid_of 1000 (fun B T => hl [1509, 1507, 0, 0, 0, 0, 5, 0, 0, 2, 1529, 1529, 1527, 0, 2, 1529, 1529, 1527, 2, 2, 1529, 4, 6, 6, 0, 6, 0, 6, 0, 6, 0, 0, 0, 7, 1, 0, 2, 1529, 1529, 1527, 0, 2, 1529, 1529, 1527, 1495, 1495, 1495, 2, 2, 1529, 4, 1529, 1529, 1527, 0, 1495, 0, 0, 0, 0, 0, 4, 4, 4, 0, 0, 1, 0, 0, 0, 0, 0, 0, 0, 0, 0, 0, 0, 2, 1495, 0, 2] (.j (cRead (kt w.params) s txt (ln) (tl) (p) (tp) 97) [3, 4, 5, 6, 7, 8, 9, 10, 11, 12] fun α0 τ0 ν0 B0 T0 => hl [0, 0, 1, 0, 0, 0, 4, 4, 4, 4, 6, 1529, 1529, 1527, 0, 6, 1529, 1529, 1527, 6, 6, 1529, 8, 0, 0, 4, 1, 0, 0, 4, 1, 0, 0, 4, 4, 0, 0, 0, 4, 4, 4, 0, 0, 1, 0, 0, 0, 0, 0, 0, 0, 0, 0, 0, 0, 2, 1495, 0, 2] (.j (cReadN (kt w.params) s txt (ln) (tl) (p + 1) (τ0 1)) [3, 4, 5, 6, 7, 8, 9, 10, 11, 12] fun α1 τ1 ν1 B1 T1 => hl [0, 0, 1, 0, 0, 0, 4, 4, 4, 4, 6, 1529, 1529, 1527, 0, 6, 1529, 1529, 1527, 6, 6, 1529, 8, 0, 0, 4] (.fin (ofL []) (ofL [τ0 0, τ1 1, τ1 2]) (ofV []) [])))) (fun B T => good_hl _ ⟨r0 _ _ _, fun _ _ _ _ _ => good_hl _ ⟨r1 _ _ _, fun _ _ _ _ _ => good_hl _ trivial⟩⟩) fun B T => ?_
  kernel_rfl
theorem vTok1_3 (s : TS) (txt : Str) (ln : Int) (tl : Tok) (p : Int) (tp : Tok) (r0 : RdN w s txt (p)) (r1 : Rd w s txt (p + 1) 97) (r2 : RdN w s txt (p + 1 + 1)) : Valid pw w (kt w.params) (cTok (kt w.params) s txt ln tl p tp (ln + 1 + 1) (p + 1 + 1 + 1) 3) := by
  refine valid_of 1000 (fun B T => hl [1509, 1507, 0, 0, 0, 0, 5, 0, 0, 2, 1529, 1529, 1527, 0, 2, 1529, 1529, 1527, 2, 2, 1529, 4, 6, 6, 0, 6, 0, 6, 0, 6, 0, 0, 0, 7, 1, 0, 2, 1529, 1529, 1527, 0, 2, 1529, 1529, 1527, 1495, 1495, 1495, 2, 2, 1529, 4, 1529, 1529, 1527, 0, 1495, 0, 0, 0, 0, 0, 4, 4, 4, 0, 0, 1, 0, 0, 0, 0, 0, 0, 0, 0, 0, 0, 0, 2, 1495, 0, 2] (.j (cReadN (kt w.params) s txt (ln) (tl) (p) (tp)) [3, 4, 5, 6, 7, 8, 9, 10, 11, 12] fun α0 τ0 ν0 B0 T0 => hl [0, 0, 1, 0, 0, 0, 4, 4, 4, 4, 6, 1529, 1529, 1527, 0, 6, 1529, 1529, 1527, 6, 6, 1529, 8, 0, 0, 0, 0, 0, 0, 0, 0, 0, 2, 1495, 0, 2] (.j (cRead (kt w.params) s txt (ln + 1) (τ0 2) (p + 1) (τ0 1) 97) [3, 4, 5, 6, 7, 8, 9, 10, 11, 12] fun α1 τ1 ν1 B1 T1 => hl [0, 0, 1, 0, 0, 0, 4, 4, 4, 4, 6, 1529, 1529, 1527, 0, 6, 1529, 1529, 1527, 6, 6, 1529, 8, 0, 0, 4, 1, 0, 0, 4, 1, 0, 0, 4, 4, 0, 0, 0, 4, 4, 4, 0, 0, 1, 0, 0, 0, 0, 0, 0, 0, 0, 0, 0, 0, 2, 1495, 0, 2] (.j (cReadN (kt w.params) s txt (ln + 1) (τ0 2) (p + 1 + 1) (τ1 1)) [3, 4, 5, 6, 7, 8, 9, 10, 11, 12] fun α2 τ2 ν2 B2 T2 => hl [0, 0, 1, 0, 0, 0, 4, 4, 4, 4, 6, 1529, 1529, 1527, 0, 6, 1529, 1529, 1527, 6, 6, 1529, 8, 0, 0, 4] (.fin (ofL []) (ofL [τ1 0, τ2 1, τ2 2]) (ofV []) []))))) (fun B T => good_hl _ ⟨r0 _ _ _, fun _ _ _ _ _ => good_hl _ ⟨r1 _ _ _, fun _ _ _ _ _ => good_hl _ ⟨r2 _ _ _, fun _ _ _ _ _ => good_hl _ trivial⟩⟩⟩) fun B T => ?_
  kernel_rfl
theorem vTok0_4 (s : TS) (txt : Str) (ln : Int) (tl : Tok) (p : Int) (tp : Tok) (r0 : Rd w s txt (p) 97) (r1 : Rd w s txt (p + 1) 92) (r2 : Rd w s txt (p + 1 + 1) 92) (r3 : RdN w s txt (p + 1 + 1 + 1)) : Valid pw w (kt w.params) (cTok (kt w.params) s txt ln tl p tp (ln + 1) (p + 1 + 1 + 1 + 1) 4) := by
  refine valid_of 1000 (fun B T => hl [1509, 1507, 0, 0, 0, 0, 5, 0, 0, 2, 1529, 1529, 1527, 0, 2, 1529, 1529, 1527, 2, 2, 1529, 4, 6, 6, 0, 6, 0, 6, 0, 6, 0, 0, 0, 7, 1, 0, 2, 1529, 1529, 1527, 0, 2, 1529, 1529, 1527, 1495, 1495, 1495, 2, 2, 1529, 4, 1529, 1529, 1527, 0, 1495, 0, 0, 0, 0, 0, 4, 4, 4, 0, 0, 1, 0, 0, 0, 0, 0, 0, 0, 0, 0, 0, 0, 2, 1495, 0, 2] (.j (cRead (kt w.params) s txt (ln) (tl) (p) (tp) 97) [3, 4, 5, 6, 7, 8, 9, 10, 11, 12] fun α0 τ0 ν0 B0 T0 => hl [0, 0, 1, 0, 0, 0, 4, 4, 4, 4, 6, 1529, 1529, 1527, 0, 6, 1529, 1529, 1527, 6, 6, 1529, 8, 0, 0, 4, 1, 0, 0, 4, 1, 0, 0, 4, 4, 0, 0, 0, 4, 4, 4, 0, 0, 1, 0, 0, 0, 0, 0, 0, 0, 0, 0, 0, 0, 2, 1495, 0, 2] (.j (cRead (kt w.params) s txt (ln) (tl) (p + 1) (τ0 1) 92) [3, 4, 5, 6, 7, 8, 9, 10, 11, 12] fun α1 τ1 ν1 B1 T1 => hl [0, 0, 1, 0, 0, 0, 4, 4, 4, 4, 6, 1529, 1529, 1527, 0, 6, 1529, 1529, 1527, 6, 6, 1529, 8, 0, 0, 4, 1, 0, 0, 4, 6, 1529, 1529, 1527, 6, 1529, 1529, 1527, 6, 1529, 1529, 1527, 1495, 6, 8, 1495] (.j (cRead (kt w.params) s txt (ln) (tl) (p + 1 + 1) (τ1 1) 92) [3, 4, 5, 6, 7, 8, 9, 10, 11, 12] fun α2 τ2 ν2 B2 T2 => hl [0, 4, 4, 4, 4, 0, 0, 0, 4, 4, 0, 0, 0, 0, 0, 0, 0, 2, 1495, 0, 2] (.j (cReadN (kt w.params) s txt (ln) (tl) (p + 1 + 1 + 1) (τ2 1)) [3, 4, 5, 6, 7, 8, 9, 10, 11, 12] fun α3 τ3 ν3 B3 T3 => hl [0, 0, 1, 0, 0, 0, 4, 4, 4, 4, 6, 1529, 1529, 1527, 0, 6, 1529, 1529, 1527, 6, 6, 1529, 8, 0, 0, 4] (.fin (ofL []) (ofL [T2 + 1, τ3 1, τ3 2]) (ofV []) [])))))) (fun B T => good_hl _ ⟨r0 _ _ _, fun _ _ _ _ _ => good_hl _ ⟨r1 _ _ _, fun _ _ _ _ _ => good_hl _ ⟨r2 _ _ _, fun _ _ _ _ _ => good_hl _ ⟨r3 _ _ _, fun _ _ _ _ _ => good_hl _ trivial⟩⟩⟩⟩) fun B T => ?_
  kernel_rfl
theorem vTok1_4 (s : TS) (txt : Str) (ln : Int) (tl : Tok) (p : Int) (tp : Tok) (r0 : RdN w s txt (p)) (r1 : Rd w s txt (p + 1) 97) (r2 : Rd w s txt (p + 1 + 1) 92) (r3 : Rd w s txt (p + 1 + 1 + 1) 92) (r4 : RdN w s txt (p + 1 + 1 + 1 + 1)) : Valid pw w (kt w.params) (cTok (kt w.params) s txt ln tl p tp (ln + 1 + 1) (p + 1 + 1 + 1 + 1 + 1) 4) := by
  refine valid_of 1000 (fun B T => hl [1509, 1507, 0, 0, 0, 0, 5, 0, 0, 2, 1529, 1529, 1527, 0, 2, 1529, 1529, 1527, 2, 2, 1529, 4, 6, 6, 0, 6, 0, 6, 0, 6, 0, 0, 0, 7, 1, 0, 2, 1529, 1529, 1527, 0, 2, 1529, 1529, 1527, 1495, 1495, 1495, 2, 2, 1529, 4, 1529, 1529, 1527, 0, 1495, 0, 0, 0, 0, 0, 4, 4, 4, 0, 0, 1, 0, 0, 0, 0, 0, 0, 0, 0, 0, 0, 0, 2, 1495, 0, 2] (.j (cReadN (kt w.params) s txt (ln) (tl) (p) (tp)) [3, 4, 5, 6, 7, 8, 9, 10, 11, 12] fun α0 τ0 ν0 B0 T0 => hl [0, 0, 1, 0, 0, 0, 4, 4, 4, 4, 6, 1529, 1529, 1527, 0, 6, 1529, 1529, 1527, 6, 6, 1529, 8, 0, 0, 0, 0, 0, 0, 0, 0, 0, 2, 1495, 0, 2] (.j (cRead (kt w.params) s txt (ln + 1) (τ0 2) (p + 1) (τ0 1) 97) [3, 4, 5, 6, 7, 8, 9, 10, 11, 12] fun α1 τ1 ν1 B1 T1 => hl [0, 0, 1, 0, 0, 0, 4, 4, 4, 4, 6, 1529, 1529, 1527, 0, 6, 1529, 1529, 1527, 6, 6, 1529, 8, 0, 0, 4, 1, 0, 0, 4, 1, 0, 0, 4, 4, 0, 0, 0, 4, 4, 4, 0, 0, 1, 0, 0, 0, 0, 0, 0, 0, 0, 0, 0, 0, 2, 1495, 0, 2] (.j (cRead (kt w.params) s txt (ln + 1) (τ0 2) (p + 1 + 1) (τ1 1) 92) [3, 4, 5, 6, 7, 8, 9, 10, 11, 12] fun α2 τ2 ν2 B2 T2 => hl [0, 0, 1, 0, 0, 0, 4, 4, 4, 4, 6, 1529, 1529, 1527, 0, 6, 1529, 1529, 1527, 6, 6, 1529, 8, 0, 0, 4, 1, 0, 0, 4, 6, 1529, 1529, 1527, 6, 1529, 1529, 1527, 6, 1529, 1529, 1527, 1495, 6, 8, 1495] (.j (cRead (kt w.params) s txt (ln + 1) (τ0 2) (p + 1 + 1 + 1) (τ2 1) 92) [3, 4, 5, 6, 7, 8, 9, 10, 11, 12] fun α3 τ3 ν3 B3 T3 => hl [0, 4, 4, 4, 4, 0, 0, 0, 4, 4, 0, 0, 0, 0, 0, 0, 0, 2, 1495, 0, 2] (.j (cReadN (kt w.params) s txt (ln + 1) (τ0 2) (p + 1 + 1 + 1 + 1) (τ3 1)) [3, 4, 5, 6, 7, 8, 9, 10, 11, 12] fun α4 τ4 ν4 B4 T4 => hl [0, 0, 1, 0, 0, 0, 4, 4, 4, 4, 6, 1529, 1529, 1527, 0, 6, 1529, 1529, 1527, 6, 6, 1529, 8, 0, 0, 4] (.fin (ofL []) (ofL [T3 + 1, τ4 1, τ4 2]) (ofV []) []))))))) (fun B T => good_hl _ ⟨r0 _ _ _, fun _ _ _ _ _ => good_hl _ ⟨r1 _ _ _, fun _ _ _ _ _ => good_hl _ ⟨r2 _ _ _, fun _ _ _ _ _ => good_hl _ ⟨r3 _ _ _, fun _ _ _ _ _ => good_hl _ ⟨r4 _ _ _, fun _ _ _ _ _ => good_hl _ trivial⟩⟩⟩⟩⟩) fun B T => ?_
  kernel_rfl
theorem vTok0_5 (s : TS) (txt : Str) (ln : Int) (tl : Tok) (p : Int) (tp : Tok) (r0 : Rd w s txt (p) 105) (r1 : Rd w s txt (p + 1) 116) (r2 : Rd w s txt (p + 1 + 1) 39) (r3 : Rd w s txt (p + 1 + 1 + 1) 115) (r4 : RdN w s txt (p + 1 + 1 + 1 + 1)) : Valid pw w (kt w.params) (cTok (kt w.params) s txt ln tl p tp (ln + 1) (p + 1 + 1 + 1 + 1 + 1) 5) := by
  refine valid_of 1000 (fun B T => hl [1509, 1507, 0, 0, 0, 0, 5, 0, 0, 2, 1529, 1529, 1527, 0, 2, 1529, 1529, 1527, 2, 2, 1529, 4, 6, 6, 0, 6, 0, 6, 0, 6, 0, 0, 0, 7, 1, 0, 2, 1529, 1529, 1527, 0, 2, 1529, 1529, 1527, 1495, 1495, 1495, 2, 2, 1529, 4, 1529, 1529, 1527, 0, 1495, 0, 0, 0, 0, 0, 4, 4, 4, 0, 0, 1, 0, 0, 0, 0, 0, 0, 0, 0, 0, 0, 0, 2, 1495, 0, 2] (.j (cRead (kt w.params) s txt (ln) (tl) (p) (tp) 105) [3, 4, 5, 6, 7, 8, 9, 10, 11, 12] fun α0 τ0 ν0 B0 T0 => hl [0, 0, 1, 0, 0, 0, 4, 4, 4, 4, 6, 1529, 1529, 1527, 0, 6, 1529, 1529, 1527, 6, 6, 1529, 8, 0, 0, 4, 1, 0, 0, 4, 1, 0, 0, 4, 4, 0, 0, 0, 4, 4, 4, 0, 0, 1, 0, 0, 0, 0, 0, 0, 0, 0, 0, 0, 0, 2, 1495, 0, 2] (.j (cRead (kt w.params) s txt (ln) (tl) (p + 1) (τ0 1) 116) [3, 4, 5, 6, 7, 8, 9, 10, 11, 12] fun α1 τ1 ν1 B1 T1 => hl [0, 0, 1, 0, 0, 0, 4, 4, 4, 4, 6, 1529, 1529, 1527, 0, 6, 1529, 1529, 1527, 6, 6, 1529, 8, 0, 0, 4, 1, 0, 0, 4, 4, 0, 0, 0, 4, 4, 0, 0, 0, 0, 0, 0, 0, 2, 1495, 0, 2] (.j (cRead (kt w.params) s txt (ln) (tl) (p + 1 + 1) (τ1 1) 39) [3, 4, 5, 6, 7, 8, 9, 10, 11, 12] fun α2 τ2 ν2 B2 T2 => hl [0, 0, 1, 0, 0, 0, 4, 4, 4, 4, 6, 1529, 1529, 1527, 0, 6, 1529, 1529, 1527, 6, 6, 1529, 8, 0, 0, 4, 1, 0, 0, 4, 4, 0, 0, 0, 4, 4, 0, 0, 0, 0, 0, 0, 0, 2, 1495, 0, 2] (.j (cRead (kt w.params) s txt (ln) (tl) (p + 1 + 1 + 1) (τ2 1) 115) [3, 4, 5, 6, 7, 8, 9, 10, 11, 12] fun α3 τ3 ν3 B3 T3 => hl [0, 0, 1, 0, 0, 0, 4, 4, 4, 4, 6, 1529, 1529, 1527, 0, 6, 1529, 1529, 1527, 6, 6, 1529, 8, 0, 0, 4, 1, 0, 0, 4, 4, 0, 0, 0, 4, 4, 0, 0, 0, 0, 0, 0, 0, 2, 1495, 0, 2] (.j (cReadN (kt w.params) s txt (ln) (tl) (p + 1 + 1 + 1 + 1) (τ3 1)) [3, 4, 5, 6, 7, 8, 9, 10, 11, 12] fun α4 τ4 ν4 B4 T4 => hl [0, 0, 1, 0, 0, 0, 4, 4, 4, 4, 6, 1529, 1529, 1527, 0, 6, 1529, 1529, 1527, 6, 6, 1529, 8, 0, 0, 4] (.fin (ofL []) (ofL [T3 + 3, τ4 1, τ4 2]) (ofV []) []))))))) (fun B T => good_hl _ ⟨r0 _ _ _, fun _ _ _ _ _ => good_hl _ ⟨r1 _ _ _, fun _ _ _ _ _ => good_hl _ ⟨r2 _ _ _, fun _ _ _ _ _ => good_hl _ ⟨r3 _ _ _, fun _ _ _ _ _ => good_hl _ ⟨r4 _ _ _, fun _ _ _ _ _ => good_hl _ trivial⟩⟩⟩⟩⟩) fun B T => ?_
  kernel_rfl
theorem vTok1_5 (s : TS) (txt : Str) (ln : Int) (tl : Tok) (p : Int) (tp : Tok) (r0 : RdN w s txt (p)) (r1 : Rd w s txt (p + 1) 105) (r2 : Rd w s txt (p + 1 + 1) 116) (r3 : Rd w s txt (p + 1 + 1 + 1) 39) (r4 : Rd w s txt (p + 1 + 1 + 1 + 1) 115) (r5 : RdN w s txt (p + 1 + 1 + 1 + 1 + 1)) : Valid pw w (kt w.params) (cTok (kt w.params) s txt ln tl p tp (ln + 1 + 1) (p + 1 + 1 + 1 + 1 + 1 + 1) 5) := by
  refine valid_of 1000 (fun B T => hl [1509, 1507, 0, 0, 0, 0, 5, 0, 0, 2, 1529, 1529, 1527, 0, 2, 1529, 1529, 1527, 2, 2, 1529, 4, 6, 6, 0, 6, 0, 6, 0, 6, 0, 0, 0, 7, 1, 0, 2, 1529, 1529, 1527, 0, 2, 1529, 1529, 1527, 1495, 1495, 1495, 2, 2, 1529, 4, 1529, 1529, 1527, 0, 1495, 0, 0, 0, 0, 0, 4, 4, 4, 0, 0, 1, 0, 0, 0, 0, 0, 0, 0, 0, 0, 0, 0, 2, 1495, 0, 2] (.j (cReadN (kt w.params) s txt (ln) (tl) (p) (tp)) [3, 4, 5, 6, 7, 8, 9, 10, 11, 12] fun α0 τ0 ν0 B0 T0 => hl [0, 0, 1, 0, 0, 0, 4, 4, 4, 4, 6, 1529, 1529, 1527, 0, 6, 1529, 1529, 1527, 6, 6, 1529, 8, 0, 0, 0, 0, 0, 0, 0, 0, 0, 2, 1495, 0, 2] (.j (cRead (kt w.params) s txt (ln + 1) (τ0 2) (p + 1) (τ0 1) 105) [3, 4, 5, 6, 7, 8, 9, 10, 11, 12] fun α1 τ1 ν1 B1 T1 => hl [0, 0, 1, 0, 0, 0, 4, 4, 4, 4, 6, 1529, 1529, 1527, 0, 6, 1529, 1529, 1527, 6, 6, 1529, 8, 0, 0, 4, 1, 0, 0, 4, 1, 0, 0, 4, 4, 0, 0, 0, 4, 4, 4, 0, 0, 1, 0, 0, 0, 0, 0, 0, 0, 0, 0, 0, 0, 2, 1495, 0, 2] (.j (cRead (kt w.params) s txt (ln + 1) (τ0 2) (p + 1 + 1) (τ1 1) 116) [3, 4, 5, 6, 7, 8, 9, 10, 11, 12] fun α2 τ2 ν2 B2 T2 => hl [0, 0, 1, 0, 0, 0, 4, 4, 4, 4, 6, 1529, 1529, 1527, 0, 6, 1529, 1529, 1527, 6, 6, 1529, 8, 0, 0, 4, 1, 0, 0, 4, 4, 0, 0, 0, 4, 4, 0, 0, 0, 0, 0, 0, 0, 2, 1495, 0, 2] (.j (cRead (kt w.params) s txt (ln + 1) (τ0 2) (p + 1 + 1 + 1) (τ2 1) 39) [3, 4, 5, 6, 7, 8, 9, 10, 11, 12] fun α3 τ3 ν3 B3 T3 => hl [0, 0, 1, 0, 0, 0, 4, 4, 4, 4, 6, 1529, 1529, 1527, 0, 6, 1529, 1529, 1527, 6, 6, 1529, 8, 0, 0, 4, 1, 0, 0, 4, 4, 0, 0, 0, 4, 4, 0, 0, 0, 0, 0, 0, 0, 2, 1495, 0, 2] (.j (cRead (kt w.params) s txt (ln + 1) (τ0 2) (p + 1 + 1 + 1 + 1) (τ3 1) 115) [3, 4, 5, 6, 7, 8, 9, 10, 11, 12] fun α4 τ4 ν4 B4 T4 => hl [0, 0, 1, 0, 0, 0, 4, 4, 4, 4, 6, 1529, 1529, 1527, 0, 6, 1529, 1529, 1527, 6, 6, 1529, 8, 0, 0, 4, 1, 0, 0, 4, 4, 0, 0, 0, 4, 4, 0, 0, 0, 0, 0, 0, 0, 2, 1495, 0, 2] (.j (cReadN (kt w.params) s txt (ln + 1) (τ0 2) (p + 1 + 1 + 1 + 1 + 1) (τ4 1)) [3, 4, 5, 6, 7, 8, 9, 10, 11, 12] fun α5 τ5 ν5 B5 T5 => hl [0, 0, 1, 0, 0, 0, 4, 4, 4, 4, 6, 1529, 1529, 1527, 0, 6, 1529, 1529, 1527, 6, 6, 1529, 8, 0, 0, 4] (.fin (ofL []) (ofL [T4 + 3, τ5 1, τ5 2]) (ofV []) [])))))))) (fun B T => good_hl _ ⟨r0 _ _ _, fun _ _ _ _ _ => good_hl _ ⟨r1 _ _ _, fun _ _ _ _ _ => good_hl _ ⟨r2 _ _ _, fun _ _ _ _ _ => good_hl _ ⟨r3 _ _ _, fun _ _ _ _ _ => good_hl _ ⟨r4 _ _ _, fun _ _ _ _ _ => good_hl _ ⟨r5 _ _ _, fun _ _ _ _ _ => good_hl _ trivial⟩⟩⟩⟩⟩⟩) fun B T => ?_
  kernel_rfl
theorem vTok0_7 (s : TS) (txt : Str) (ln : Int) (tl : Tok) (p : Int) (tp : Tok) (r0 : Rd w s txt (p) 34) (r1 : Rd w s txt (p + 1) 32) (r2 : Rd w s txt (p + 1 + 1) 98) (r3 : Rd w s txt (p + 1 + 1 + 1) 34) : Valid pw w (kt w.params) (cTok (kt w.params) s txt ln tl p tp (ln) (p + 1 + 1 + 1 + 1) 1) := by
  refine valid_of 1000 (fun B T => hl [1509, 1507, 0, 0, 0, 0, 5, 0, 0, 2, 1529, 1529, 1527, 0, 2, 1529, 1529, 1527, 2, 2, 1529, 4, 6, 6, 0, 6, 0, 6, 0, 6, 0, 0, 0, 7, 1, 0, 2, 1529, 1529, 1527, 0, 2, 1529, 1529, 1527, 1495, 1495, 1495, 2, 2, 1529, 4, 1529, 1529, 1527, 0, 1495, 0, 0, 0, 0, 0, 4, 4, 4, 0, 0, 1, 0, 0, 0, 0, 0, 0, 0, 0, 0, 0, 0, 2, 1495, 0, 2] (.j (cRead (kt w.params) s txt (ln) (tl) (p) (tp) 34) [3, 4, 5, 6, 7, 8, 9, 10, 11, 12] fun α0 τ0 ν0 B0 T0 => hl [0, 0, 1, 0, 0, 0, 4, 4, 4, 4, 6, 1529, 1529, 1527, 0, 6, 1529, 1529, 1527, 6, 6, 1529, 8, 0, 0, 4, 1, 0, 0, 4, 0, 0, 1, 0, 0, 0, 0, 0, 0, 0, 0, 0, 0, 0, 2, 1495, 0, 2] (.j (cRead (kt w.params) s txt (ln) (tl) (p + 1) (τ0 1) 32) [3, 4, 5, 6, 7, 8, 9, 10, 11, 12] fun α1 τ1 ν1 B1 T1 => hl [0, 0, 1, 0, 0, 0, 4, 4, 4, 1, 0, 0, 4, 1, 0, 0, 4, 4, 0, 0, 0, 4, 4, 0, 0, 0, 0, 0, 0, 0, 2, 1495, 0, 2] (.j (cRead (kt w.params) s txt (ln) (tl) (p + 1 + 1) (τ1 1) 98) [3, 4, 5, 6, 7, 8, 9, 10, 11, 12] fun α2 τ2 ν2 B2 T2 => hl [0, 0, 1, 0, 0, 0, 4, 4, 4, 1, 0, 0, 4, 1, 0, 0, 4, 4, 0, 0, 0, 4, 4, 0, 0, 0, 0, 0, 0, 0, 2, 1495, 0, 2] (.j (cRead (kt w.params) s txt (ln) (tl) (p + 1 + 1 + 1) (τ2 1) 34) [3, 4, 5, 6, 7, 8, 9, 10, 11, 12] fun α3 τ3 ν3 B3 T3 => hl [0, 0, 1, 0, 0, 0, 4, 4, 4, 1, 0, 0, 4] (.fin (ofL []) (ofL [T2 + 3, τ3 1, tl]) (ofV []) [])))))) (fun B T => good_hl _ ⟨r0 _ _ _, fun _ _ _ _ _ => good_hl _ ⟨r1 _ _ _, fun _ _ _ _ _ => good_hl _ ⟨r2 _ _ _, fun _ _ _ _ _ => good_hl _ ⟨r3 _ _ _, fun _ _ _ _ _ => good_hl _ trivial⟩⟩⟩⟩) fun B T => ?_
  kernel_rfl
theorem vTok1_7 (s : TS) (txt : Str) (ln : Int) (tl : Tok) (p : Int) (tp : Tok) (r0 : RdN w s txt (p)) (r1 : Rd w s txt (p + 1) 34) (r2 : Rd w s txt (p + 1 + 1) 32) (r3 : Rd w s txt (p + 1 + 1 + 1) 98) (r4 : Rd w s txt (p + 1 + 1 + 1 + 1) 34) : Valid pw w (kt w.params) (cTok (kt w.params) s txt ln tl p tp (ln + 1) (p + 1 + 1 + 1 + 1 + 1) 1) := by
  refine valid_of 1000 (fun B T => hl [1509, 1507, 0, 0, 0, 0, 5, 0, 0, 2, 1529, 1529, 1527, 0, 2, 1529, 1529, 1527, 2, 2, 1529, 4, 6, 6, 0, 6, 0, 6, 0, 6, 0, 0, 0, 7, 1, 0, 2, 1529, 1529, 1527, 0, 2, 1529, 1529, 1527, 1495, 1495, 1495, 2, 2, 1529, 4, 1529, 1529, 1527, 0, 1495, 0, 0, 0, 0, 0, 4, 4, 4, 0, 0, 1, 0, 0, 0, 0, 0, 0, 0, 0, 0, 0, 0, 2, 1495, 0, 2] (.j (cReadN (kt w.params) s txt (ln) (tl) (p) (tp)) [3, 4, 5, 6, 7, 8, 9, 10, 11, 12] fun α0 τ0 ν0 B0 T0 => hl [0, 0, 1, 0, 0, 0, 4, 4, 4, 4, 6, 1529, 1529, 1527, 0, 6, 1529, 1529, 1527, 6, 6, 1529, 8, 0, 0, 0, 0, 0, 0, 0, 0, 0, 2, 1495, 0, 2] (.j (cRead (kt w.params) s txt (ln + 1) (τ0 2) (p + 1) (τ0 1) 34) [3, 4, 5, 6, 7, 8, 9, 10, 11, 12] fun α1 τ1 ν1 B1 T1 => hl [0, 0, 1, 0, 0, 0, 4, 4, 4, 4, 6, 1529, 1529, 1527, 0, 6, 1529, 1529, 1527, 6, 6, 1529, 8, 0, 0, 4, 1, 0, 0, 4, 0, 0, 1, 0, 0, 0, 0, 0, 0, 0, 0, 0, 0, 0, 2, 1495, 0, 2] (.j (cRead (kt w.params) s txt (ln + 1) (τ0 2) (p + 1 + 1) (τ1 1) 32) [3, 4, 5, 6, 7, 8, 9, 10, 11, 12] fun α2 τ2 ν2 B2 T2 => hl [0, 0, 1, 0, 0, 0, 4, 4, 4, 1, 0, 0, 4, 1, 0, 0, 4, 4, 0, 0, 0, 4, 4, 0, 0, 0, 0, 0, 0, 0, 2, 1495, 0, 2] (.j (cRead (kt w.params) s txt (ln + 1) (τ0 2) (p + 1 + 1 + 1) (τ2 1) 98) [3, 4, 5, 6, 7, 8, 9, 10, 11, 12] fun α3 τ3 ν3 B3 T3 => hl [0, 0, 1, 0, 0, 0, 4, 4, 4, 1, 0, 0, 4, 1, 0, 0, 4, 4, 0, 0, 0, 4, 4, 0, 0, 0, 0, 0, 0, 0, 2, 1495, 0, 2] (.j (cRead (kt w.params) s txt (ln + 1) (τ0 2) (p + 1 + 1 + 1 + 1) (τ3 1) 34) [3, 4, 5, 6, 7, 8, 9, 10, 11, 12] fun α4 τ4 ν4 B4 T4 => hl [0, 0, 1, 0, 0, 0, 4, 4, 4, 1, 0, 0, 4] (.fin (ofL []) (ofL [T3 + 3, τ4 1, τ0 2]) (ofV []) []))))))) (fun B T => good_hl _ ⟨r0 _ _ _, fun _ _ _ _ _ => good_hl _ ⟨r1 _ _ _, fun _ _ _ _ _ => good_hl _ ⟨r2 _ _ _, fun _ _ _ _ _ => good_hl _ ⟨r3 _ _ _, fun _ _ _ _ _ => good_hl _ ⟨r4 _ _ _, fun _ _ _ _ _ => good_hl _ trivial⟩⟩⟩⟩⟩) fun B T => ?_
  kernel_rfl
theorem vTok0_8 (s : TS) (txt : Str) (ln : Int) (tl : Tok) (p : Int) (tp : Tok) (r0 : Rd w s txt (p) 34) (r1 : Rd w s txt (p + 1) 92) (r2 : Rd w s txt (p + 1 + 1) 34) (r3 : Rd w s txt (p + 1 + 1 + 1) 34) : Valid pw w (kt w.params) (cTok (kt w.params) s txt ln tl p tp (ln) (p + 1 + 1 + 1 + 1) 2) := by
  refine valid_of 1000 (fun B T => hl [1509, 1507, 0, 0, 0, 0, 5, 0, 0, 2, 1529, 1529, 1527, 0, 2, 1529, 1529, 1527, 2, 2, 1529, 4, 6, 6, 0, 6, 0, 6, 0, 6, 0, 0, 0, 7, 1, 0, 2, 1529, 1529, 1527, 0, 2, 1529, 1529, 1527, 1495, 1495, 1495, 2, 2, 1529, 4, 1529, 1529, 1527, 0, 1495, 0, 0, 0, 0, 0, 4, 4, 4, 0, 0, 1, 0, 0, 0, 0, 0, 0, 0, 0, 0, 0, 0, 2, 1495, 0, 2] (.j (cRead (kt w.params) s txt (ln) (tl) (p) (tp) 34) [3, 4, 5, 6, 7, 8, 9, 10, 11, 12] fun α0 τ0 ν0 B0 T0 => hl [0, 0, 1, 0, 0, 0, 4, 4, 4, 4, 6, 1529, 1529, 1527, 0, 6, 1529, 1529, 1527, 6, 6, 1529, 8, 0, 0, 4, 1, 0, 0, 4, 0, 0, 1, 0, 0, 0, 0, 0, 0, 0, 0, 0, 0, 0, 2, 1495, 0, 2] (.j (cRead (kt w.params) s txt (ln) (tl) (p + 1) (τ0 1) 92) [3, 4, 5, 6, 7, 8, 9, 10, 11, 12] fun α1 τ1 ν1 B1 T1 => hl [0, 0, 1, 0, 0, 0, 4, 4, 4, 1, 0, 0, 4, 1, 0, 0, 4, 6, 1529, 1529, 1527, 6, 1529, 1529, 1527, 6, 1529, 1529, 1527, 1495, 6, 8, 1495] (.j (cRead (kt w.params) s txt (ln) (tl) (p + 1 + 1) (τ1 1) 34) [3, 4, 5, 6, 7, 8, 9, 10, 11, 12] fun α2 τ2 ν2 B2 T2 => hl [0, 4, 4, 4, 4, 0, 0, 0, 4, 4, 0, 0, 0, 0, 0, 0, 0, 2, 1495, 0, 2] (.j (cRead (kt w.params) s txt (ln) (tl) (p + 1 + 1 + 1) (τ2 1) 34) [3, 4, 5, 6, 7, 8, 9, 10, 11, 12] fun α3 τ3 ν3 B3 T3 => hl [0, 0, 1, 0, 0, 0, 4, 4, 4, 1, 0, 0, 4] (.fin (ofL []) (ofL [τ2 0, τ3 1, tl]) (ofV []) [])))))) (fun B T => good_hl _ ⟨r0 _ _ _, fun _ _ _ _ _ => good_hl _ ⟨r1 _ _ _, fun _ _ _ _ _ => good_hl _ ⟨r2 _ _ _, fun _ _ _ _ _ => good_hl _ ⟨r3 _ _ _, fun _ _ _ _ _ => good_hl _ trivial⟩⟩⟩⟩) fun B T => ?_
  kernel_rfl
theorem vTok1_8 (s : TS) (txt : Str) (ln : Int) (tl : Tok) (p : Int) (tp : Tok) (r0 : RdN w s txt (p)) (r1 : Rd w s txt (p + 1) 34) (r2 : Rd w s txt (p + 1 + 1) 92) (r3 : Rd w s txt (p + 1 + 1 + 1) 34) (r4 : Rd w s txt (p + 1 + 1 + 1 + 1) 34) : Valid pw w (kt w.params) (cTok (kt w.params) s txt ln tl p tp (ln + 1) (p + 1 + 1 + 1 + 1 + 1) 2) := by
  refine valid_of 1000 (fun B T => hl [1509, 1507, 0, 0, 0, 0, 5, 0, 0, 2, 1529, 1529, 1527, 0, 2, 1529, 1529, 1527, 2, 2, 1529, 4, 6, 6, 0, 6, 0, 6, 0, 6, 0, 0, 0, 7, 1, 0, 2, 1529, 1529, 1527, 0, 2, 1529, 1529, 1527, 1495, 1495, 1495, 2, 2, 1529, 4, 1529, 1529, 1527, 0, 1495, 0, 0, 0, 0, 0, 4, 4, 4, 0, 0, 1, 0, 0, 0, 0, 0, 0, 0, 0, 0, 0, 0, 2, 1495, 0, 2] (.j (cReadN (kt w.params) s txt (ln) (tl) (p) (tp)) [3, 4, 5, 6, 7, 8, 9, 10, 11, 12] fun α0 τ0 ν0 B0 T0 => hl [0, 0, 1, 0, 0, 0, 4, 4, 4, 4, 6, 1529, 1529, 1527, 0, 6, 1529, 1529, 1527, 6, 6, 1529, 8, 0, 0, 0, 0, 0, 0, 0, 0, 0, 2, 1495, 0, 2] (.j (cRead (kt w.params) s txt (ln + 1) (τ0 2) (p + 1) (τ0 1) 34) [3, 4, 5, 6, 7, 8, 9, 10, 11, 12] fun α1 τ1 ν1 B1 T1 => hl [0, 0, 1, 0, 0, 0, 4, 4, 4, 4, 6, 1529, 1529, 1527, 0, 6, 1529, 1529, 1527, 6, 6, 1529, 8, 0, 0, 4, 1, 0, 0, 4, 0, 0, 1, 0, 0, 0, 0, 0, 0, 0, 0, 0, 0, 0, 2, 1495, 0, 2] (.j (cRead (kt w.params) s txt (ln + 1) (τ0 2) (p + 1 + 1) (τ1 1) 92) [3, 4, 5, 6, 7, 8, 9, 10, 11, 12] fun α2 τ2 ν2 B2 T2 => hl [0, 0, 1, 0, 0, 0, 4, 4, 4, 1, 0, 0, 4, 1, 0, 0, 4, 6, 1529, 1529, 1527, 6, 1529, 1529, 1527, 6, 1529, 1529, 1527, 1495, 6, 8, 1495] (.j (cRead (kt w.params) s txt (ln + 1) (τ0 2) (p + 1 + 1 + 1) (τ2 1) 34) [3, 4, 5, 6, 7, 8, 9, 10, 11, 12] fun α3 τ3 ν3 B3 T3 => hl [0, 4, 4, 4, 4, 0, 0, 0, 4, 4, 0, 0, 0, 0, 0, 0, 0, 2, 1495, 0, 2] (.j (cRead (kt w.params) s txt (ln + 1) (τ0 2) (p + 1 + 1 + 1 + 1) (τ3 1) 34) [3, 4, 5, 6, 7, 8, 9, 10, 11, 12] fun α4 τ4 ν4 B4 T4 => hl [0, 0, 1, 0, 0, 0, 4, 4, 4, 1, 0, 0, 4] (.fin (ofL []) (ofL [τ3 0, τ4 1, τ0 2]) (ofV []) []))))))) (fun B T => good_hl _ ⟨r0 _ _ _, fun _ _ _ _ _ => good_hl _ ⟨r1 _ _ _, fun _ _ _ _ _ => good_hl _ ⟨r2 _ _ _, fun _ _ _ _ _ => good_hl _ ⟨r3 _ _ _, fun _ _ _ _ _ => good_hl _ ⟨r4 _ _ _, fun _ _ _ _ _ => good_hl _ trivial⟩⟩⟩⟩⟩) fun B T => ?_
  kernel_rfl
theorem vTok0_9 (s : TS) (txt : Str) (ln : Int) (tl : Tok) (p : Int) (tp : Tok) (r0 : Rd w s txt (p) 34) (r1 : Rd w s txt (p + 1) 97) (r2 : Rd w s txt (p + 1 + 1) 34) : Valid pw w (kt w.params) (cTok (kt w.params) s txt ln tl p tp (ln) (p + 1 + 1 + 1) 3) := by
  refine valid_of 1000 (fun B T => hl [1509, 1507, 0, 0, 0, 0, 5, 0, 0, 2, 1529, 1529, 1527, 0, 2, 1529, 1529, 1527, 2, 2, 1529, 4, 6, 6, 0, 6, 0, 6, 0, 6, 0, 0, 0, 7, 1, 0, 2, 1529, 1529, 1527, 0, 2, 1529, 1529, 1527, 1495, 1495, 1495, 2, 2, 1529, 4, 1529, 1529, 1527, 0, 1495, 0, 0, 0, 0, 0, 4, 4, 4, 0, 0, 1, 0, 0, 0, 0, 0, 0, 0, 0, 0, 0, 0, 2, 1495, 0, 2] (.j (cRead (kt w.params) s txt (ln) (tl) (p) (tp) 34) [3, 4, 5, 6, 7, 8, 9, 10, 11, 12] fun α0 τ0 ν0 B0 T0 => hl [0, 0, 1, 0, 0, 0, 4, 4, 4, 4, 6, 1529, 1529, 1527, 0, 6, 1529, 1529, 1527, 6, 6, 1529, 8, 0, 0, 4, 1, 0, 0, 4, 0, 0, 1, 0, 0, 0, 0, 0, 0, 0, 0, 0, 0, 0, 2, 1495, 0, 2] (.j (cRead (kt w.params) s txt (ln) (tl) (p + 1) (τ0 1) 97) [3, 4, 5, 6, 7, 8, 9, 10, 11, 12] fun α1 τ1 ν1 B1 T1 => hl [0, 0, 1, 0, 0, 0, 4, 4, 4, 1, 0, 0, 4, 1, 0, 0, 4, 4, 0, 0, 0, 4, 4, 0, 0, 0, 0, 0, 0, 0, 2, 1495, 0, 2] (.j (cRead (kt w.params) s txt (ln) (tl) (p + 1 + 1) (τ1 1) 34) [3, 4, 5, 6, 7, 8, 9, 10, 11, 12] fun α2 τ2 ν2 B2 T2 => hl [0, 0, 1, 0, 0, 0, 4, 4, 4, 1, 0, 0, 4] (.fin (ofL []) (ofL [τ1 0, τ2 1, tl]) (ofV []) []))))) (fun B T => good_hl _ ⟨r0 _ _ _, fun _ _ _ _ _ => good_hl _ ⟨r1 _ _ _, fun _ _ _ _ _ => good_hl _ ⟨r2 _ _ _, fun _ _ _ _ _ => good_hl _ trivial⟩⟩⟩) fun B T => ?_
  kernel_rfl
theorem vTok1_9 (s : TS) (txt : Str) (ln : Int) (tl : Tok) (p : Int) (tp : Tok) (r0 : RdN w s txt (p)) (r1 : Rd w s txt (p + 1) 34) (r2 : Rd w s txt (p + 1 + 1) 97) (r3 : Rd w s txt (p + 1 + 1 + 1) 34) : Valid pw w (kt w.params) (cTok (kt w.params) s txt ln tl p tp (ln + 1) (p + 1 + 1 + 1 + 1) 3) := by
  refine valid_of 1000 (fun B T => hl [1509, 1507, 0, 0, 0, 0, 5, 0, 0, 2, 1529, 1529, 1527, 0, 2, 1529, 1529, 1527, 2, 2, 1529, 4, 6, 6, 0, 6, 0, 6, 0, 6, 0, 0, 0, 7, 1, 0, 2, 1529, 1529, 1527, 0, 2, 1529, 1529, 1527, 1495, 1495, 1495, 2, 2, 1529, 4, 1529, 1529, 1527, 0, 1495, 0, 0, 0, 0, 0, 4, 4, 4, 0, 0, 1, 0, 0, 0, 0, 0, 0, 0, 0, 0, 0, 0, 2, 1495, 0, 2] (.j (cReadN (kt w.params) s txt (ln) (tl) (p) (tp)) [3, 4, 5, 6, 7, 8, 9, 10, 11, 12] fun α0 τ0 ν0 B0 T0 => hl [0, 0, 1, 0, 0, 0, 4, 4, 4, 4, 6, 1529, 1529, 1527, 0, 6, 1529, 1529, 1527, 6, 6, 1529, 8, 0, 0, 0, 0, 0, 0, 0, 0, 0, 2, 1495, 0, 2] (.j (cRead (kt w.params) s txt (ln + 1) (τ0 2) (p + 1) (τ0 1) 34) [3, 4, 5, 6, 7, 8, 9, 10, 11, 12] fun α1 τ1 ν1 B1 T1 => hl [0, 0, 1, 0, 0, 0, 4, 4, 4, 4, 6, 1529, 1529, 1527, 0, 6, 1529, 1529, 1527, 6, 6, 1529, 8, 0, 0, 4, 1, 0, 0, 4, 0, 0, 1, 0, 0, 0, 0, 0, 0, 0, 0, 0, 0, 0, 2, 1495, 0, 2] (.j (cRead (kt w.params) s txt (ln + 1) (τ0 2) (p + 1 + 1) (τ1 1) 97) [3, 4, 5, 6, 7, 8, 9, 10, 11, 12] fun α2 τ2 ν2 B2 T2 => hl [0, 0, 1, 0, 0, 0, 4, 4, 4, 1, 0, 0, 4, 1, 0, 0, 4, 4, 0, 0, 0, 4, 4, 0, 0, 0, 0, 0, 0, 0, 2, 1495, 0, 2] (.j (cRead (kt w.params) s txt (ln + 1) (τ0 2) (p + 1 + 1 + 1) (τ2 1) 34) [3, 4, 5, 6, 7, 8, 9, 10, 11, 12] fun α3 τ3 ν3 B3 T3 => hl [0, 0, 1, 0, 0, 0, 4, 4, 4, 1, 0, 0, 4] (.fin (ofL []) (ofL [τ2 0, τ3 1, τ0 2]) (ofV []) [])))))) (fun B T => good_hl _ ⟨r0 _ _ _, fun _ _ _ _ _ => good_hl _ ⟨r1 _ _ _, fun _ _ _ _ _ => good_hl _ ⟨r2 _ _ _, fun _ _ _ _ _ => good_hl _ ⟨r3 _ _ _, fun _ _ _ _ _ => good_hl _ trivial⟩⟩⟩⟩) fun B T => ?_
  kernel_rfl
theorem vTok0_10 (s : TS) (txt : Str) (ln : Int) (tl : Tok) (p : Int) (tp : Tok) (r0 : Rd w s txt (p) 34) (r1 : Rd w s txt (p + 1) 97) (r2 : Rd w s txt (p + 1 + 1) 92) (r3 : Rd w s txt (p + 1 + 1 + 1) 92) (r4 : Rd w s txt (p + 1 + 1 + 1 + 1) 34) : Valid pw w (kt w.params) (cTok (kt w.params) s txt ln tl p tp (ln) (p + 1 + 1 + 1 + 1 + 1) 4) := by
  refine valid_of 1000 (fun B T => hl [1509, 1507, 0, 0, 0, 0, 5, 0, 0, 2, 1529, 1529, 1527, 0, 2, 1529, 1529, 1527, 2, 2, 1529, 4, 6, 6, 0, 6, 0, 6, 0, 6, 0, 0, 0, 7, 1, 0, 2, 1529, 1529, 1527, 0, 2, 1529, 1529, 1527, 1495, 1495, 1495, 2, 2, 1529, 4, 1529, 1529, 1527, 0, 1495, 0, 0, 0, 0, 0, 4, 4, 4, 0, 0, 1, 0, 0, 0, 0, 0, 0, 0, 0, 0, 0, 0, 2, 1495, 0, 2] (.j (cRead (kt w.params) s txt (ln) (tl) (p) (tp) 34) [3, 4, 5, 6, 7, 8, 9, 10, 11, 12] fun α0 τ0 ν0 B0 T0 => hl [0, 0, 1, 0, 0, 0, 4, 4, 4, 4, 6, 1529, 1529, 1527, 0, 6, 1529, 1529, 1527, 6, 6, 1529, 8, 0, 0, 4, 1, 0, 0, 4, 0, 0, 1, 0, 0, 0, 0, 0, 0, 0, 0, 0, 0, 0, 2, 1495, 0, 2] (.j (cRead (kt w.params) s txt (ln) (tl) (p + 1) (τ0 1) 97) [3, 4, 5, 6, 7, 8, 9, 10, 11, 12] fun α1 τ1 ν1 B1 T1 => hl [0, 0, 1, 0, 0, 0, 4, 4, 4, 1, 0, 0, 4, 1, 0, 0, 4, 4, 0, 0, 0, 4, 4, 0, 0, 0, 0, 0, 0, 0, 2, 1495, 0, 2] (.j (cRead (kt w.params) s txt (ln) (tl) (p + 1 + 1) (τ1 1) 92) [3, 4, 5, 6, 7, 8, 9, 10, 11, 12] fun α2 τ2 ν2 B2 T2 => hl [0, 0, 1, 0, 0, 0, 4, 4, 4, 1, 0, 0, 4, 1, 0, 0, 4, 6, 1529, 1529, 1527, 6, 1529, 1529, 1527, 6, 1529, 1529, 1527, 1495, 6, 8, 1495] (.j (cRead (kt w.params) s txt (ln) (tl) (p + 1 + 1 + 1) (τ2 1) 92) [3, 4, 5, 6, 7, 8, 9, 10, 11, 12] fun α3 τ3 ν3 B3 T3 => hl [0, 4, 4, 4, 4, 0, 0, 0, 4, 4, 0, 0, 0, 0, 0, 0, 0, 2, 1495, 0, 2] (.j (cRead (kt w.params) s txt (ln) (tl) (p + 1 + 1 + 1 + 1) (τ3 1) 34) [3, 4, 5, 6, 7, 8, 9, 10, 11, 12] fun α4 τ4 ν4 B4 T4 => hl [0, 0, 1, 0, 0, 0, 4, 4, 4, 1, 0, 0, 4] (.fin (ofL []) (ofL [T3 + 1, τ4 1, tl]) (ofV []) []))))))) (fun B T => good_hl _ ⟨r0 _ _ _, fun _ _ _ _ _ => good_hl _ ⟨r1 _ _ _, fun _ _ _ _ _ => good_hl _ ⟨r2 _ _ _, fun _ _ _ _ _ => good_hl _ ⟨r3 _ _ _, fun _ _ _ _ _ => good_hl _ ⟨r4 _ _ _, fun _ _ _ _ _ => good_hl _ trivial⟩⟩⟩⟩⟩) fun B T => ?_
  kernel_rfl
theorem vTok1_10 (s : TS) (txt : Str) (ln : Int) (tl : Tok) (p : Int) (tp : Tok) (r0 : RdN w s txt (p)) (r1 : Rd w s txt (p + 1) 34) (r2 : Rd w s txt (p + 1 + 1) 97) (r3 : Rd w s txt (p + 1 + 1 + 1) 92) (r4 : Rd w s txt (p + 1 + 1 + 1 + 1) 92) (r5 : Rd w s txt (p + 1 + 1 + 1 + 1 + 1) 34) : Valid pw w (kt w.params) (cTok (kt w.params) s txt ln tl p tp (ln + 1) (p + 1 + 1 + 1 + 1 + 1 + 1) 4) := by
  refine valid_of 1000 (fun B T => hl [1509, 1507, 0, 0, 0, 0, 5, 0, 0, 2, 1529, 1529, 1527, 0, 2, 1529, 1529, 1527, 2, 2, 1529, 4, 6, 6, 0, 6, 0, 6, 0, 6, 0, 0, 0, 7, 1, 0, 2, 1529, 1529, 1527, 0, 2, 1529, 1529, 1527, 1495, 1495, 1495, 2, 2, 1529, 4, 1529, 1529, 1527, 0, 1495, 0, 0, 0, 0, 0, 4, 4, 4, 0, 0, 1, 0, 0, 0, 0, 0, 0, 0, 0, 0, 0, 0, 2, 1495, 0, 2] (.j (cReadN (kt w.params) s txt (ln) (tl) (p) (tp)) [3, 4, 5, 6, 7, 8, 9, 10, 11, 12] fun α0 τ0 ν0 B0 T0 => hl [0, 0, 1, 0, 0, 0, 4, 4, 4, 4, 6, 1529, 1529, 1527, 0, 6, 1529, 1529, 1527, 6, 6, 1529, 8, 0, 0, 0, 0, 0, 0, 0, 0, 0, 2, 1495, 0, 2] (.j (cRead (kt w.params) s txt (ln + 1) (τ0 2) (p + 1) (τ0 1) 34) [3, 4, 5, 6, 7, 8, 9, 10, 11, 12] fun α1 τ1 ν1 B1 T1 => hl [0, 0, 1, 0, 0, 0, 4, 4, 4, 4, 6, 1529, 1529, 1527, 0, 6, 1529, 1529, 1527, 6, 6, 1529, 8, 0, 0, 4, 1, 0, 0, 4, 0, 0, 1, 0, 0, 0, 0, 0, 0, 0, 0, 0, 0, 0, 2, 1495, 0, 2] (.j (cRead (kt w.params) s txt (ln + 1) (τ0 2) (p + 1 + 1) (τ1 1) 97) [3, 4, 5, 6, 7, 8, 9, 10, 11, 12] fun α2 τ2 ν2 B2 T2 => hl [0, 0, 1, 0, 0, 0, 4, 4, 4, 1, 0, 0, 4, 1, 0, 0, 4, 4, 0, 0, 0, 4, 4, 0, 0, 0, 0, 0, 0, 0, 2, 1495, 0, 2] (.j (cRead (kt w.params) s txt (ln + 1) (τ0 2) (p + 1 + 1 + 1) (τ2 1) 92) [3, 4, 5, 6, 7, 8, 9, 10, 11, 12] fun α3 τ3 ν3 B3 T3 => hl [0, 0, 1, 0, 0, 0, 4, 4, 4, 1, 0, 0, 4, 1, 0, 0, 4, 6, 1529, 1529, 1527, 6, 1529, 1529, 1527, 6, 1529, 1529, 1527, 1495, 6, 8, 1495] (.j (cRead (kt w.params) s txt (ln + 1) (τ0 2) (p + 1 + 1 + 1 + 1) (τ3 1) 92) [3, 4, 5, 6, 7, 8, 9, 10, 11, 12] fun α4 τ4 ν4 B4 T4 => hl [0, 4, 4, 4, 4, 0, 0, 0, 4, 4, 0, 0, 0, 0, 0, 0, 0, 2, 1495, 0, 2] (.j (cRead (kt w.params) s txt (ln + 1) (τ0 2) (p + 1 + 1 + 1 + 1 + 1) (τ4 1) 34) [3, 4, 5, 6, 7, 8, 9, 10, 11, 12] fun α5 τ5 ν5 B5 T5 => hl [0, 0, 1, 0, 0, 0, 4, 4, 4, 1, 0, 0, 4] (.fin (ofL []) (ofL [T4 + 1, τ5 1, τ0 2]) (ofV []) [])))))))) (fun B T => good_hl _ ⟨r0 _ _ _, fun _ _ _ _ _ => good_hl _ ⟨r1 _ _ _, fun _ _ _ _ _ => good_hl _ ⟨r2 _ _ _, fun _ _ _ _ _ => good_hl _ ⟨r3 _ _ _, fun _ _ _ _ _ => good_hl _ ⟨r4 _ _ _, fun _ _ _ _ _ => good_hl _ ⟨r5 _ _ _, fun _ _ _ _ _ => good_hl _ trivial⟩⟩⟩⟩⟩⟩) fun B T => ?_
  kernel_rfl
theorem vTok0_11 (s : TS) (txt : Str) (ln : Int) (tl : Tok) (p : Int) (tp : Tok) (r0 : Rd w s txt (p) 34) (r1 : Rd w s txt (p + 1) 105) (r2 : Rd w s txt (p + 1 + 1) 116) (r3 : Rd w s txt (p + 1 + 1 + 1) 39) (r4 : Rd w s txt (p + 1 + 1 + 1 + 1) 115) (r5 : Rd w s txt (p + 1 + 1 + 1 + 1 + 1) 34) : Valid pw w (kt w.params) (cTok (kt w.params) s txt ln tl p tp (ln) (p + 1 + 1 + 1 + 1 + 1 + 1) 5) := by
  refine valid_of 1000 (fun B T => hl [1509, 1507, 0, 0, 0, 0, 5, 0, 0, 2, 1529, 1529, 1527, 0, 2, 1529, 1529, 1527, 2, 2, 1529, 4, 6, 6, 0, 6, 0, 6, 0, 6, 0, 0, 0, 7, 1, 0, 2, 1529, 1529, 1527, 0, 2, 1529, 1529, 1527, 1495, 1495, 1495, 2, 2, 1529, 4, 1529, 1529, 1527, 0, 1495, 0, 0, 0, 0, 0, 4, 4, 4, 0, 0, 1, 0, 0, 0, 0, 0, 0, 0, 0, 0, 0, 0, 2, 1495, 0, 2] (.j (cRead (kt w.params) s txt (ln) (tl) (p) (tp) 34) [3, 4, 5, 6, 7, 8, 9, 10, 11, 12] fun α0 τ0 ν0 B0 T0 => hl [0, 0, 1, 0, 0, 0, 4, 4, 4, 4, 6, 1529, 1529, 1527, 0, 6, 1529, 1529, 1527, 6, 6, 1529, 8, 0, 0, 4, 1, 0, 0, 4, 0, 0, 1, 0, 0, 0, 0, 0, 0, 0, 0, 0, 0, 0, 2, 1495, 0, 2] (.j (cRead (kt w.params) s txt (ln) (tl) (p + 1) (τ0 1) 105) [3, 4, 5, 6, 7, 8, 9, 10, 11, 12] fun α1 τ1 ν1 B1 T1 => hl [0, 0, 1, 0, 0, 0, 4, 4, 4, 1, 0, 0, 4, 1, 0, 0, 4, 4, 0, 0, 0, 4, 4, 0, 0, 0, 0, 0, 0, 0, 2, 1495, 0, 2] (.j (cRead (kt w.params) s txt (ln) (tl) (p + 1 + 1) (τ1 1) 116) [3, 4, 5, 6, 7, 8, 9, 10, 11, 12] fun α2 τ2 ν2 B2 T2 => hl [0, 0, 1, 0, 0, 0, 4, 4, 4, 1, 0, 0, 4, 1, 0, 0, 4, 4, 0, 0, 0, 4, 4, 0, 0, 0, 0, 0, 0, 0, 2, 1495, 0, 2] (.j (cRead (kt w.params) s txt (ln) (tl) (p + 1 + 1 + 1) (τ2 1) 39) [3, 4, 5, 6, 7, 8, 9, 10, 11, 12] fun α3 τ3 ν3 B3 T3 => hl [0, 0, 1, 0, 0, 0, 4, 4, 4, 1, 0, 0, 4, 1, 0, 0, 4, 4, 0, 0, 0, 4, 4, 0, 0, 0, 0, 0, 0, 0, 2, 1495, 0, 2] (.j (cRead (kt w.params) s txt (ln) (tl) (p + 1 + 1 + 1 + 1) (τ3 1) 115) [3, 4, 5, 6, 7, 8, 9, 10, 11, 12] fun α4 τ4 ν4 B4 T4 => hl [0, 0, 1, 0, 0, 0, 4, 4, 4, 1, 0, 0, 4, 1, 0, 0, 4, 4, 0, 0, 0, 4, 4, 0, 0, 0, 0, 0, 0, 0, 2, 1495, 0, 2] (.j (cRead (kt w.params) s txt (ln) (tl) (p + 1 + 1 + 1 + 1 + 1) (τ4 1) 34) [3, 4, 5, 6, 7, 8, 9, 10, 11, 12] fun α5 τ5 ν5 B5 T5 => hl [0, 0, 1, 0, 0, 0, 4, 4, 4, 1, 0, 0, 4] (.fin (ofL []) (ofL [T4 + 3, τ5 1, tl]) (ofV []) [])))))))) (fun B T => good_hl _ ⟨r0 _ _ _, fun _ _ _ _ _ => good_hl _ ⟨r1 _ _ _, fun _ _ _ _ _ => good_hl _ ⟨r2 _ _ _, fun _ _ _ _ _ => good_hl _ ⟨r3 _ _ _, fun _ _ _ _ _ => good_hl _ ⟨r4 _ _ _, fun _ _ _ _ _ => good_hl _ ⟨r5 _ _ _, fun _ _ _ _ _ => good_hl _ trivial⟩⟩⟩⟩⟩⟩) fun B T => ?_
  kernel_rfl
theorem vTok1_11 (s : TS) (txt : Str) (ln : Int) (tl : Tok) (p : Int) (tp : Tok) (r0 : RdN w s txt (p)) (r1 : Rd w s txt (p + 1) 34) (r2 : Rd w s txt (p + 1 + 1) 105) (r3 : Rd w s txt (p + 1 + 1 + 1) 116) (r4 : Rd w s txt (p + 1 + 1 + 1 + 1) 39) (r5 : Rd w s txt (p + 1 + 1 + 1 + 1 + 1) 115) (r6 : Rd w s txt (p + 1 + 1 + 1 + 1 + 1 + 1) 34) : Valid pw w (kt w.params) (cTok (kt w.params) s txt ln tl p tp (ln + 1) (p + 1 + 1 + 1 + 1 + 1 + 1 + 1) 5) := by
  refine valid_of 1000 (fun B T => hl [1509, 1507, 0, 0, 0, 0, 5, 0, 0, 2, 1529, 1529, 1527, 0, 2, 1529, 1529, 1527, 2, 2, 1529, 4, 6, 6, 0, 6, 0, 6, 0, 6, 0, 0, 0, 7, 1, 0, 2, 1529, 1529, 1527, 0, 2, 1529, 1529, 1527, 1495, 1495, 1495, 2, 2, 1529, 4, 1529, 1529, 1527, 0, 1495, 0, 0, 0, 0, 0, 4, 4, 4, 0, 0, 1, 0, 0, 0, 0, 0, 0, 0, 0, 0, 0, 0, 2, 1495, 0, 2] (.j (cReadN (kt w.params) s txt (ln) (tl) (p) (tp)) [3, 4, 5, 6, 7, 8, 9, 10, 11, 12] fun α0 τ0 ν0 B0 T0 => hl [0, 0, 1, 0, 0, 0, 4, 4, 4, 4, 6, 1529, 1529, 1527, 0, 6, 1529, 1529, 1527, 6, 6, 1529, 8, 0, 0, 0, 0, 0, 0, 0, 0, 0, 2, 1495, 0, 2] (.j (cRead (kt w.params) s txt (ln + 1) (τ0 2) (p + 1) (τ0 1) 34) [3, 4, 5, 6, 7, 8, 9, 10, 11, 12] fun α1 τ1 ν1 B1 T1 => hl [0, 0, 1, 0, 0, 0, 4, 4, 4, 4, 6, 1529, 1529, 1527, 0, 6, 1529, 1529, 1527, 6, 6, 1529, 8, 0, 0, 4, 1, 0, 0, 4, 0, 0, 1, 0, 0, 0, 0, 0, 0, 0, 0, 0, 0, 0, 2, 1495, 0, 2] (.j (cRead (kt w.params) s txt (ln + 1) (τ0 2) (p + 1 + 1) (τ1 1) 105) [3, 4, 5, 6, 7, 8, 9, 10, 11, 12] fun α2 τ2 ν2 B2 T2 => hl [0, 0, 1, 0, 0, 0, 4, 4, 4, 1, 0, 0, 4, 1, 0, 0, 4, 4, 0, 0, 0, 4, 4, 0, 0, 0, 0, 0, 0, 0, 2, 1495, 0, 2] (.j (cRead (kt w.params) s txt (ln + 1) (τ0 2) (p + 1 + 1 + 1) (τ2 1) 116) [3, 4, 5, 6, 7, 8, 9, 10, 11, 12] fun α3 τ3 ν3 B3 T3 => hl [0, 0, 1, 0, 0, 0, 4, 4, 4, 1, 0, 0, 4, 1, 0, 0, 4, 4, 0, 0, 0, 4, 4, 0, 0, 0, 0, 0, 0, 0, 2, 1495, 0, 2] (.j (cRead (kt w.params) s txt (ln + 1) (τ0 2) (p + 1 + 1 + 1 + 1) (τ3 1) 39) [3, 4, 5, 6, 7, 8, 9, 10, 11, 12] fun α4 τ4 ν4 B4 T4 => hl [0, 0, 1, 0, 0, 0, 4, 4, 4, 1, 0, 0, 4, 1, 0, 0, 4, 4, 0, 0, 0, 4, 4, 0, 0, 0, 0, 0, 0, 0, 2, 1495, 0, 2] (.j (cRead (kt w.params) s txt (ln + 1) (τ0 2) (p + 1 + 1 + 1 + 1 + 1) (τ4 1) 115) [3, 4, 5, 6, 7, 8, 9, 10, 11, 12] fun α5 τ5 ν5 B5 T5 => hl [0, 0, 1, 0, 0, 0, 4, 4, 4, 1, 0, 0, 4, 1, 0, 0, 4, 4, 0, 0, 0, 4, 4, 0, 0, 0, 0, 0, 0, 0, 2, 1495, 0, 2] (.j (cRead (kt w.params) s txt (ln + 1) (τ0 2) (p + 1 + 1 + 1 + 1 + 1 + 1) (τ5 1) 34) [3, 4, 5, 6, 7, 8, 9, 10, 11, 12] fun α6 τ6 ν6 B6 T6 => hl [0, 0, 1, 0, 0, 0, 4, 4, 4, 1, 0, 0, 4] (.fin (ofL []) (ofL [T5 + 3, τ6 1, τ0 2]) (ofV []) []))))))))) (fun B T => good_hl _ ⟨r0 _ _ _, fun _ _ _ _ _ => good_hl _ ⟨r1 _ _ _, fun _ _ _ _ _ => good_hl _ ⟨r2 _ _ _, fun _ _ _ _ _ => good_hl _ ⟨r3 _ _ _, fun _ _ _ _ _ => good_hl _ ⟨r4 _ _ _, fun _ _ _ _ _ => good_hl _ ⟨r5 _ _ _, fun _ _ _ _ _ => good_hl _ ⟨r6 _ _ _, fun _ _ _ _ _ => good_hl _ trivial⟩⟩⟩⟩⟩⟩⟩) fun B T => ?_
  kernel_rfl
end
end Mine
/-! part C6 -/
set_option maxRecDepth 100000
set_option linter.unusedVariables false
namespace Mine
open PySem PySem.Spec PySem.Calls PyProof.Rows PySem.W PySem.W.X
def rngO (c r : Int) : Obj := { cls := .type "range_iterator", data := .fields ⟨[.int c 0, .int r 0, .int 1 0]⟩ }
/-- a lexer of netrc as a source: what a pass does not turn -/
structure P2 where
  dU : Addr
  pU : Addr
  hU : Nat → Int
  tU : Nat → Tok
  lnU : Value
  inU : Value
  wsU : Value
  eU : Nat
def P2.slots (p : P2) (x : Addr) (us : List Value) (un : Nat) : St := [(x, inst 764 p.dU), (p.dU, netD p.hU p.tU p.lnU p.inU p.wsU (.ref p.pU) p.eU), (p.pU, lst us un)]
structure FOut where
  tvs : List Value
  tn : Nat
  qs : List E
  m : Int
section
variable {w : World}
def cRng (it : Addr) (c r : Nat) : Ct :=
  { code := .call (.builtin "range_iterator.__next__") ⟨[.ref it], []⟩, need := [(it, rngO (c : Int) ((r + 1 : Nat) : Int))], k := 0, res := fun _ τ _ => ret0 (.int (c : Int) (τ 0)), post := fun _ _ _ => [rngO ((c + 1 : Nat) : Int) (r : Int)], new := fun _ _ _ => [], D := 900, U := 9000 }
theorem vRng (it : Addr) (c r : Nat) (h : r ≤ 9) : Valid pw w (kt w.params) (cRng it c r) := by
  have run : ∀ r : Nat, (∀ B T, M ⟨pw, w.params, kt w.params, cRng it c r⟩ 50 (hl [0, 0, 0, 0, 0, 0, 0, 0, 0] (.fin (ofL []) (ofL [T]) (ofV []) [])) (cRng it c r).code .base (den (cRng it c r).code) (cRng it c r).need B 0 T 0 900 9000 true = M ⟨pw, w.params, kt w.params, cRng it c r⟩ 50 (hl [0, 0, 0, 0, 0, 0, 0, 0, 0] (.fin (ofL []) (ofL [T]) (ofV []) [])) (cRng it c r).code .base (den (cRng it c r).code) (cRng it c r).need B 0 T 0 900 9000 false) → Valid pw w (kt w.params) (cRng it c r) :=
    fun r e => valid_of 50 (fun _ T => hl [0, 0, 0, 0, 0, 0, 0, 0, 0] (.fin (ofL []) (ofL [T]) (ofV []) [])) (fun _ _ => good_hl _ trivial) e
  match r, h with
  | 0, _ => exact run 0 fun B T => by kernel_rfl
  | 1, _ => exact run 1 fun B T => by kernel_rfl
  | 2, _ => exact run 2 fun B T => by kernel_rfl
  | 3, _ => exact run 3 fun B T => by kernel_rfl
  | 4, _ => exact run 4 fun B T => by kernel_rfl
  | 5, _ => exact run 5 fun B T => by kernel_rfl
  | 6, _ => exact run 6 fun B T => by kernel_rfl
  | 7, _ => exact run 7 fun B T => by kernel_rfl
  | 8, _ => exact run 8 fun B T => by kernel_rfl
  | 9, _ => exact run 9 fun B T => by kernel_rfl
  | _ + 10, h => exact absurd h (by omega)
def forS (kt : KT) : Stmt := nthS (fnStmts kt 789) 0
/-- the first loop of a pass behind its first turn, its source a list -/
def cL2 (kt : KT) (p : PS) (p2 : P2) (it : Addr) (c r : Nat) (kv wdv topv : Value) (us : List E) (un : Nat) (tvs : List Value) (tn : Nat) (qs : List E) (m : Int) (t0 : Tok) (fo : FOut) : Ct :=
  { code := forCode (forS kt) it (fnEnv kt 789 p.L [] passQ), need := (it, rngO (c : Int) (r : Int)) :: (p.L, p.fr kv wdv topv) :: (p2.slots p.src (us.map ev) un ++ p.tgt tvs tn ++ p.stk .none (kS [] t0) m (qs.map ev)), k := 0, res := fun _ _ _ => .ok .next,
    post := fun _ τ ν => rngO ((c + r : Nat) : Int) 0 :: p.fr (ν 0) (ν 1) (ν 2) :: (objs (p2.slots p.src [] (un + r)) ++ objs (p.tgt fo.tvs fo.tn) ++ objs (p.stk .none (kS [] (τ 0)) fo.m (fo.qs.map ev))), new := fun _ _ _ => [], D := 600, U := 7500 }
theorem vL2e (p : PS) (p2 : P2) (it : Addr) (c : Nat) (kv wdv topv : Value) (un : Nat) (tvs : List Value) (tn : Nat) (qs : List E) (m : Int) (t0 : Tok) : Valid pw w (kt w.params) (cL2 (kt w.params) p p2 it c 0 kv wdv topv [] un tvs tn qs m t0 ⟨tvs, tn, qs, m⟩) := by
  refine valid_of 100 (fun B T => hl [0, 0, 0, 0, 0, 0, 0, 0, 0] (.fin (ofL []) (ofL [t0]) (ofV [kv, wdv, topv]) [])) (fun B T => good_hl _ trivial) fun B T => ?_
  kernel_rfl
theorem vL2a (p : PS) (p2 : P2) (it : Addr) (c r : Nat) (kv wdv topv : Value) (u q : E) (us : List E) (un : Nat) (tvs : List Value) (tn : Nat) (qs : List E) (m : Int) (t0 : Tok) (o : WOut) (fo : FOut) (ho : o.top = none) (hr : r ≤ 9) (hus : us.length ≤ 8) (hqs : qs.length ≤ 8) (hoq : o.qs.length ≤ 9)
    (hw : ∀ kv, Valid pw w (kt w.params) (cW (kt w.params) p kv u (some q) tvs tn qs (m + 1) t0 o))
    (ih : ∀ kv wdv topv t0, Valid pw w (kt w.params) (cL2 (kt w.params) p p2 it (c + 1) r kv wdv topv us (un + 1) o.tvs o.tn (u :: o.qs) (o.m + 1) t0 fo)) :
    Valid pw w (kt w.params) (cL2 (kt w.params) p p2 it c (r + 1) kv wdv topv (u :: us) un tvs tn (q :: qs) m t0 fo) := by
  obtain ⟨otop, otvs, otn, oqs, om⟩ := o
  cases ho
  have e1 : c + (r + 1) = c + 1 + r := by omega
  have e2 : un + (r + 1) = un + 1 + r := by omega
  unfold cL2
  rw [e1, e2]
  refine valid_of 600 (fun B T => let o : WOut := ⟨none, otvs, otn, oqs, om⟩; hl [0] (.j (cRng it c r) [0] fun α0 τ0 ν0 B0 T0 => hl [0, 2, 2, 2, 4, 1529, 1529, 1527, 4, 1529, 1529, 1527, 4, 1529, 1529, 1527, 1509, 4, 6, 1509] (.j (cNGet p.src p2.dU p2.pU p2.hU p2.tU p2.lnU p2.inU p2.wsU p2.eU un (us.map ev) (es u)) [2, 3, 4] fun α1 τ1 ν1 B1 T1 => hl [0, 2, 2, 2, 16, 1445, 1445, 1443, 16, 1445, 1445, 1443, 16, 1445, 1445, 1443, 1367, 16, 18, 1367] (.j (cSGet p.xS p.dS p.q p.hS p.tS p.vS .none (kS [] t0) p.ins p.fs p.eS m (qs.map ev) (es q)) [8, 9, 10] fun α2 τ2 ν2 B2 T2 => hl [0, 2, 2] (.j (cW (kt w.params) p (.int (c : Int) (τ0 0)) u (some q) tvs tn qs (m + 1) t0 o) [1, 5, 6, 7, 8, 9, 10, 11, 12, 13] fun α3 τ3 ν3 B3 T3 => hl [2, 2, 16, 1445, 1445, 1443, 16, 1445, 1445, 1443, 16, 1445, 1445, 1443, 1323, 16, 18, 2, 1323] (.j (cSPush p.xS p.dS p.q p.hS p.tS p.vS .none (kS [] (τ3 0)) p.ins p.fs p.eS (o.m) (o.qs.map ev) (es u)) [8, 9, 10] fun α4 τ4 ν4 B4 T4 => hl [] (.j (cL2 (kt w.params) p p2 it (c + 1) r (.int (c : Int) (τ0 0)) (ev u) .none us (un + 1) o.tvs o.tn (u :: o.qs) (o.m + 1) (τ3 0) fo) [0, 1, 2, 3, 4, 5, 6, 7, 8, 9, 10, 11, 12, 13] fun α5 τ5 ν5 B5 T5 => hl [] (.fin (ofL []) τ5 ν5 [])))))))) (fun B T => good_hl _ ⟨vRng _ _ _ hr, fun _ _ _ _ _ => good_hl _ ⟨vNGet _ _ _ _ _ _ _ _ _ _ _ _ (by simpa using hus), fun _ _ _ _ _ => good_hl _ ⟨vSGet _ _ _ _ _ _ _ _ _ _ _ _ _ _ (by simpa using hqs), fun _ _ _ _ _ => good_hl _ ⟨hw _, fun _ _ _ _ _ => good_hl _ ⟨vSPush _ _ _ _ _ _ _ _ _ _ _ _ _ _ (by simpa using hoq), fun _ _ _ _ _ => good_hl _ ⟨ih _ _ _ _, fun _ _ _ _ _ => good_hl _ trivial⟩⟩⟩⟩⟩⟩) fun B T => ?_
  kernel_rfl
theorem vL2b (p : PS) (p2 : P2) (it : Addr) (c r : Nat) (kv wdv topv : Value) (u q t : E) (us : List E) (un : Nat) (tvs : List Value) (tn : Nat) (qs : List E) (m : Int) (t0 : Tok) (o : WOut) (fo : FOut) (ho : o.top = some t) (hr : r ≤ 9) (hus : us.length ≤ 8) (hqs : qs.length ≤ 8) (hoq : o.qs.length ≤ 8)
    (hw : ∀ kv, Valid pw w (kt w.params) (cW (kt w.params) p kv u (some q) tvs tn qs (m + 1) t0 o))
    (ih : ∀ kv wdv topv t0, Valid pw w (kt w.params) (cL2 (kt w.params) p p2 it (c + 1) r kv wdv topv us (un + 1) o.tvs o.tn (u :: t :: o.qs) (o.m + 1 + 1) t0 fo)) :
    Valid pw w (kt w.params) (cL2 (kt w.params) p p2 it c (r + 1) kv wdv topv (u :: us) un tvs tn (q :: qs) m t0 fo) := by
  obtain ⟨otop, otvs, otn, oqs, om⟩ := o
  cases ho
  have hoq' : oqs.length ≤ 8 := hoq
  have e1 : c + (r + 1) = c + 1 + r := by omega
  have e2 : un + (r + 1) = un + 1 + r := by omega
  unfold cL2
  rw [e1, e2]
  refine valid_of 600 (fun B T => let o : WOut := ⟨some t, otvs, otn, oqs, om⟩; hl [0] (.j (cRng it c r) [0] fun α0 τ0 ν0 B0 T0 => hl [0, 2, 2, 2, 4, 1529, 1529, 1527, 4, 1529, 1529, 1527, 4, 1529, 1529, 1527, 1509, 4, 6, 1509] (.j (cNGet p.src p2.dU p2.pU p2.hU p2.tU p2.lnU p2.inU p2.wsU p2.eU un (us.map ev) (es u)) [2, 3, 4] fun α1 τ1 ν1 B1 T1 => hl [0, 2, 2, 2, 16, 1445, 1445, 1443, 16, 1445, 1445, 1443, 16, 1445, 1445, 1443, 1367, 16, 18, 1367] (.j (cSGet p.xS p.dS p.q p.hS p.tS p.vS .none (kS [] t0) p.ins p.fs p.eS m (qs.map ev) (es q)) [8, 9, 10] fun α2 τ2 ν2 B2 T2 => hl [0, 2, 2] (.j (cW (kt w.params) p (.int (c : Int) (τ0 0)) u (some q) tvs tn qs (m + 1) t0 o) [1, 5, 6, 7, 8, 9, 10, 11, 12, 13] fun α3 τ3 ν3 B3 T3 => hl [2, 2, 16, 1445, 1445, 1443, 16, 1445, 1445, 1443, 16, 1445, 1445, 1443, 1323, 16, 18, 2, 1323] (.j (cSPush p.xS p.dS p.q p.hS p.tS p.vS .none (kS [] (τ3 0)) p.ins p.fs p.eS (o.m) (o.qs.map ev) (es t)) [8, 9, 10] fun α4 τ4 ν4 B4 T4 => hl [2, 16, 1445, 1445, 1443, 16, 1445, 1445, 1443, 16, 1445, 1445, 1443, 1323, 16, 18, 2, 1323] (.j (cSPush p.xS p.dS p.q p.hS p.tS p.vS .none (kS [] (τ3 0)) p.ins p.fs p.eS (o.m + 1) (ev t :: o.qs.map ev) (es u)) [8, 9, 10] fun α5 τ5 ν5 B5 T5 => hl [] (.j (cL2 (kt w.params) p p2 it (c + 1) r (.int (c : Int) (τ0 0)) (ev u) (ev t) us (un + 1) o.tvs o.tn (u :: t :: o.qs) (o.m + 1 + 1) (τ3 0) fo) [0, 1, 2, 3, 4, 5, 6, 7, 8, 9, 10, 11, 12, 13] fun α6 τ6 ν6 B6 T6 => hl [] (.fin (ofL []) τ6 ν6 []))))))))) (fun B T => good_hl _ ⟨vRng _ _ _ hr, fun _ _ _ _ _ => good_hl _ ⟨vNGet _ _ _ _ _ _ _ _ _ _ _ _ (by simpa using hus), fun _ _ _ _ _ => good_hl _ ⟨vSGet _ _ _ _ _ _ _ _ _ _ _ _ _ _ (by simpa using hqs), fun _ _ _ _ _ => good_hl _ ⟨hw _, fun _ _ _ _ _ => good_hl _ ⟨vSPush _ _ _ _ _ _ _ _ _ _ _ _ _ _ (by simp; omega), fun _ _ _ _ _ => good_hl _ ⟨vSPush _ _ _ _ _ _ _ _ _ _ _ _ _ _ (by simp; omega), fun _ _ _ _ _ => good_hl _ ⟨ih _ _ _ _, fun _ _ _ _ _ => good_hl _ trivial⟩⟩⟩⟩⟩⟩⟩) fun B T => ?_
  kernel_rfl
end
end Mine
/-! part C7 -/
set_option maxRecDepth 100000
set_option linter.unusedVariables false
namespace Mine
open PySem PySem.Spec PySem.Calls PyProof.Rows PySem.W PySem.W.X
/-- the first loop of a pass, as a function -/
def passRun : List E → List Value → Nat → List E → Int → FOut
  | [], tvs, tn, qs, m => ⟨tvs, tn, qs, m⟩
  | u :: us, tvs, tn, [], m => passRun us tvs tn [u] (m + 1)
  | u :: us, tvs, tn, q :: qs, m => match wRun u qs (some q) tvs tn (m + 1) with
    | ⟨none, tvs', tn', qs', m'⟩ => passRun us tvs' tn' (u :: qs') (m' + 1)
    | ⟨some t, tvs', tn', qs', m'⟩ => passRun us tvs' tn' (u :: t :: qs') (m' + 1 + 1)
def topL : Option E → Nat
  | none => 0
  | some _ => 1
theorem wRun_len (wd : E) : ∀ (qs : List E) (top : Option E) (tvs : List Value) (tn : Nat) (m : Int),
    (wRun wd qs top tvs tn m).tvs.length + (wRun wd qs top tvs tn m).qs.length + topL (wRun wd qs top tvs tn m).top = tvs.length + qs.length + topL top
  | qs, none, tvs, tn, m => by unfold wRun; rfl
  | [], some t, tvs, tn, m => by
    unfold wRun
    split <;> simp [topL]
  | q :: qs, some t, tvs, tn, m => by
    unfold wRun
    split
    · rw [wRun_len wd qs]
      simp [topL]; omega
    · simp [topL]
theorem wRun_rank (wd : E) : ∀ (qs : List E) (top : Option E) (tvs : List Value) (tn : Nat) (m : Int), (∀ t ∈ top, t.1 < 6) → (∀ e ∈ qs, e.1 < 6) →
    (∀ t ∈ (wRun wd qs top tvs tn m).top, t.1 < 6) ∧ ∀ e ∈ (wRun wd qs top tvs tn m).qs, e.1 < 6
  | qs, none, tvs, tn, m, ht, hq => by unfold wRun; exact ⟨ht, hq⟩
  | [], some t, tvs, tn, m, ht, hq => by
    unfold wRun
    split
    · refine ⟨?_, ?_⟩
      · intro t h; cases h
      · intro e h; cases h
    · exact ⟨ht, hq⟩
  | q :: qs, some t, tvs, tn, m, ht, hq => by
    unfold wRun
    split
    · exact wRun_rank wd qs _ _ _ _ (fun t' h => by cases h; exact hq q (.head _)) fun e he => hq e (.tail _ he)
    · exact ⟨ht, hq⟩
section
variable {w : World}
theorem vL2 (p : PS) (p2 : P2) (it : Addr) : ∀ (us : List E) (c un : Nat) (kv wdv topv : Value) (tvs : List Value) (tn : Nat) (qs : List E) (m : Int) (t0 : Tok), qs ≠ [] → (∀ e ∈ us, e.1 < 6) → (∀ e ∈ qs, e.1 < 6) → us.length + tvs.length + qs.length ≤ 9 →
    Valid pw w (kt w.params) (cL2 (kt w.params) p p2 it c us.length kv wdv topv us un tvs tn qs m t0 (passRun us tvs tn qs m))
  | [], c, un, kv, wdv, topv, tvs, tn, qs, m, t0, _, _, _, _ => vL2e p p2 it c kv wdv topv un tvs tn qs m t0
  | u :: us, c, un, kv, wdv, topv, tvs, tn, [], m, t0, h, _, _, _ => absurd rfl h
  | u :: us, c, un, kv, wdv, topv, tvs, tn, q :: qs, m, t0, _, hu, hq, hl => by
    simp only [List.length_cons] at hl
    have hw : ∀ kv, Valid pw w (kt w.params) (cW (kt w.params) p kv u (some q) tvs tn qs (m + 1) t0 (wRun u qs (some q) tvs tn (m + 1))) := fun kv =>
      vW p kv u (hu u (.head _)) qs (some q) tvs tn (m + 1) t0 (fun t ht => by cases ht; exact hq q (.head _)) (fun e he => hq e (.tail _ he)) (by omega) (by omega)
    have len := wRun_len u qs (some q) tvs tn (m + 1)
    have rk := wRun_rank u qs (some q) tvs tn (m + 1) (fun t ht => by cases ht; exact hq q (.head _)) (fun e he => hq e (.tail _ he))
    have hu' : ∀ e ∈ us, e.1 < 6 := fun e he => hu e (.tail _ he)
    have hu0 := hu u (.head _)
    unfold passRun
    generalize wRun u qs (some q) tvs tn (m + 1) = o at *
    obtain ⟨otop, otvs, otn, oqs, om⟩ := o
    cases otop with
    | none =>
      simp only [topL] at len
      refine vL2a p p2 it c us.length kv wdv topv u q us un tvs tn qs m t0 ⟨none, otvs, otn, oqs, om⟩ _ rfl (by omega) (by omega) (by omega) (by show oqs.length ≤ 9; omega) hw ?_
      intro kv wdv topv t0
      refine vL2 p p2 it us (c + 1) (un + 1) kv wdv topv otvs otn (u :: oqs) (om + 1) t0 (by simp) hu' (fun e he => ?_) (by simp; omega)
      rcases List.mem_cons.mp he with z | z
      · rw [z]; exact hu0
      · exact rk.2 e z
    | some t =>
      simp only [topL] at len
      refine vL2b p p2 it c us.length kv wdv topv u q t us un tvs tn qs m t0 ⟨some t, otvs, otn, oqs, om⟩ _ rfl (by omega) (by omega) (by omega) (by show oqs.length ≤ 8; omega) hw ?_
      intro kv wdv topv t0
      refine vL2 p p2 it us (c + 1) (un + 1) kv wdv topv otvs otn (u :: t :: oqs) (om + 1 + 1) t0 (by simp) hu' (fun e he => ?_) (by simp; omega)
      rcases List.mem_cons.mp he with z | z
      · rw [z]; exact hu0
      · rcases List.mem_cons.mp z with z | z
        · rw [z]; exact rk.1 t rfl
        · exact rk.2 e z
end
end Mine
/-! part C8 -/
set_option maxRecDepth 100000
set_option linter.unusedVariables false
namespace Mine
open PySem PySem.Spec PySem.Calls PyProof.Rows PySem.W PySem.W.X
def consT (t : Nat) (a : Nat → Nat) : Nat → Nat := fun i => match i with | 0 => t | n + 1 => a n
def PS.withSrc (p : PS) (a : Addr) : PS := { p with src := a }
section
variable {w : World}
/-- the first loop of a pass behind its first turn, its source the text -/
def cL1 (kt : KT) (s : TS) (txt : Str) (p : PS) (it : Addr) (c r : Nat) (kv wdv topv : Value) (ln : Int) (tl : Tok) (ps : Int) (tp : Tok) (lnF psF : Int) (tvs : List Value) (tn : Nat) (qs : List E) (m : Int) (t0 : Tok) (fo : (Nat → Nat) → FOut) : Ct :=
  { code := forCode (forS kt) it (fnEnv kt 789 p.L [] passQ), need := (it, rngO (c : Int) (r : Int)) :: (p.L, p.fr kv wdv topv) :: (s.slots kt txt ln tl ps tp ++ p.tgt tvs tn ++ p.stk .none (kS [] t0) m (qs.map ev)), k := 0, res := fun _ _ _ => .ok .next,
    post := fun α τ ν => rngO ((c + r : Nat) : Int) 0 :: p.fr (ν 0) (ν 1) (ν 2) :: (objs (s.slots kt txt lnF (τ 1) psF (τ 2)) ++ objs (p.tgt (fo α).tvs (fo α).tn) ++ objs (p.stk .none (kS [] (τ 0)) (fo α).m ((fo α).qs.map ev))), new := fun _ _ _ => [], D := 600, U := 7500 }
theorem vL1e (s : TS) (txt : Str) (p0 : PS) (it : Addr) (c : Nat) (kv wdv topv : Value) (ln : Int) (tl : Tok) (ps : Int) (tp : Tok) (tvs : List Value) (tn : Nat) (qs : List E) (m : Int) (t0 : Tok) : Valid pw w (kt w.params) (cL1 (kt w.params) s txt (p0.withSrc s.xF) it c 0 kv wdv topv ln tl ps tp ln ps tvs tn qs m t0 (fun _ => ⟨tvs, tn, qs, m⟩)) := by
  refine valid_of 100 (fun B T => let p := p0.withSrc s.xF; hl [0, 0, 0, 0, 0, 0, 0, 0, 0] (.fin (ofL []) (ofL [t0, tl, tp]) (ofV [kv, wdv, topv]) [])) (fun B T => good_hl _ trivial) fun B T => ?_
  kernel_rfl
theorem vL1a (s : TS) (txt : Str) (p0 : PS) (it : Addr) (c r : Nat) (kv wdv topv : Value) (u : Nat) (q : E) (ln : Int) (tl : Tok) (ps : Int) (tp : Tok) (ln' ps' lnF psF : Int) (tvs : List Value) (tn : Nat) (qs : List E) (m : Int) (t0 : Tok) (o : WOut) (fo : (Nat → Nat) → FOut) (ho : o.top = none) (hr : r ≤ 9) (hqs : qs.length ≤ 8) (hoq : o.qs.length ≤ 9)
    (hs : ∀ tl tp, Valid pw w (kt w.params) (cTok (kt w.params) s txt ln tl ps tp ln' ps' u))
    (hw : ∀ kv t, Valid pw w (kt w.params) (cW (kt w.params) (p0.withSrc s.xF) kv (u, t) (some q) tvs tn qs (m + 1) t0 o))
    (ih : ∀ t1 kv wdv topv tl tp t0, Valid pw w (kt w.params) (cL1 (kt w.params) s txt (p0.withSrc s.xF) it (c + 1) r kv wdv topv ln' tl ps' tp lnF psF o.tvs o.tn ((u, t1) :: o.qs) (o.m + 1) t0 (fun a => fo (consT t1 a)))) :
    Valid pw w (kt w.params) (cL1 (kt w.params) s txt (p0.withSrc s.xF) it c (r + 1) kv wdv topv ln tl ps tp lnF psF tvs tn (q :: qs) m t0 fo) := by
  obtain ⟨otop, otvs, otn, oqs, om⟩ := o
  cases ho
  have e1 : c + (r + 1) = c + 1 + r := by omega
  have hoq' : oqs.length ≤ 9 := hoq
  unfold cL1
  rw [e1]
  refine valid_of 600 (fun B T => let p := p0.withSrc s.xF; let o : WOut := ⟨none, otvs, otn, oqs, om⟩; hl [0] (.j (cRng it c r) [0] fun α0 τ0 ν0 B0 T0 => hl [0, 2, 2, 2, 4, 1529, 1529, 1527, 4, 1529, 1529, 1527, 4, 1529, 1529, 1527, 1509, 4, 6, 1509] (.j (cTok (kt w.params) s txt ln tl ps tp ln' ps' u) [2, 3, 4, 5, 6, 7, 8, 9, 10, 11] fun α1 τ1 ν1 B1 T1 => hl [0, 2, 2, 2, 30, 1445, 1445, 1443, 30, 1445, 1445, 1443, 30, 1445, 1445, 1443, 1367, 30, 32, 1367] (.j (cSGet p.xS p.dS p.q p.hS p.tS p.vS .none (kS [] t0) p.ins p.fs p.eS m (qs.map ev) (es q)) [15, 16, 17] fun α2 τ2 ν2 B2 T2 => hl [0, 2, 2] (.j (cW (kt w.params) p (.int (c : Int) (τ0 0)) (u, τ1 0) (some q) tvs tn qs (m + 1) t0 o) [1, 12, 13, 14, 15, 16, 17, 18, 19, 20] fun α3 τ3 ν3 B3 T3 => hl [2, 2, 30, 1445, 1445, 1443, 30, 1445, 1445, 1443, 30, 1445, 1445, 1443, 1323, 30, 32, 2, 1323] (.j (cSPush p.xS p.dS p.q p.hS p.tS p.vS .none (kS [] (τ3 0)) p.ins p.fs p.eS (o.m) (o.qs.map ev) (es (u, τ1 0))) [15, 16, 17] fun α4 τ4 ν4 B4 T4 => hl [] (.j (cL1 (kt w.params) s txt p it (c + 1) r (.int (c : Int) (τ0 0)) (.str (pl u) (τ1 0)) .none ln' (τ1 2) ps' (τ1 1) lnF psF o.tvs o.tn ((u, τ1 0) :: o.qs) (o.m + 1) (τ3 0) (fun a => fo (consT (τ1 0) a))) [0, 1, 2, 3, 4, 5, 6, 7, 8, 9, 10, 11, 12, 13, 14, 15, 16, 17, 18, 19, 20] fun α5 τ5 ν5 B5 T5 => hl [] (.fin (consT (τ1 0) α5) τ5 ν5 [])))))))) (fun B T => good_hl _ ⟨vRng _ _ _ hr, fun _ _ _ _ _ => good_hl _ ⟨hs _ _, fun _ _ _ _ _ => good_hl _ ⟨vSGet _ _ _ _ _ _ _ _ _ _ _ _ _ _ (by simpa using hqs), fun _ _ _ _ _ => good_hl _ ⟨hw _ _, fun _ _ _ _ _ => good_hl _ ⟨vSPush _ _ _ _ _ _ _ _ _ _ _ _ _ _ (by simp; omega), fun _ _ _ _ _ => good_hl _ ⟨ih _ _ _ _ _ _ _, fun _ _ _ _ _ => good_hl _ trivial⟩⟩⟩⟩⟩⟩) fun B T => ?_
  kernel_rfl
theorem vL1b (s : TS) (txt : Str) (p0 : PS) (it : Addr) (c r : Nat) (kv wdv topv : Value) (u : Nat) (q : E) (ln : Int) (tl : Tok) (ps : Int) (tp : Tok) (ln' ps' lnF psF : Int) (tvs : List Value) (tn : Nat) (qs : List E) (m : Int) (t0 : Tok) (o : WOut) (fo : (Nat → Nat) → FOut) (t : E) (ho : o.top = some t) (hr : r ≤ 9) (hqs : qs.length ≤ 8) (hoq : o.qs.length ≤ 8)
    (hs : ∀ tl tp, Valid pw w (kt w.params) (cTok (kt w.params) s txt ln tl ps tp ln' ps' u))
    (hw : ∀ kv t, Valid pw w (kt w.params) (cW (kt w.params) (p0.withSrc s.xF) kv (u, t) (some q) tvs tn qs (m + 1) t0 o))
    (ih : ∀ t1 kv wdv topv tl tp t0, Valid pw w (kt w.params) (cL1 (kt w.params) s txt (p0.withSrc s.xF) it (c + 1) r kv wdv topv ln' tl ps' tp lnF psF o.tvs o.tn ((u, t1) :: t :: o.qs) (o.m + 1 + 1) t0 (fun a => fo (consT t1 a)))) :
    Valid pw w (kt w.params) (cL1 (kt w.params) s txt (p0.withSrc s.xF) it c (r + 1) kv wdv topv ln tl ps tp lnF psF tvs tn (q :: qs) m t0 fo) := by
  obtain ⟨otop, otvs, otn, oqs, om⟩ := o
  cases ho
  have e1 : c + (r + 1) = c + 1 + r := by omega
  have hoq' : oqs.length ≤ 8 := hoq
  unfold cL1
  rw [e1]
  refine valid_of 600 (fun B T => let p := p0.withSrc s.xF; let o : WOut := ⟨some t, otvs, otn, oqs, om⟩; hl [0] (.j (cRng it c r) [0] fun α0 τ0 ν0 B0 T0 => hl [0, 2, 2, 2, 4, 1529, 1529, 1527, 4, 1529, 1529, 1527, 4, 1529, 1529, 1527, 1509, 4, 6, 1509] (.j (cTok (kt w.params) s txt ln tl ps tp ln' ps' u) [2, 3, 4, 5, 6, 7, 8, 9, 10, 11] fun α1 τ1 ν1 B1 T1 => hl [0, 2, 2, 2, 30, 1445, 1445, 1443, 30, 1445, 1445, 1443, 30, 1445, 1445, 1443, 1367, 30, 32, 1367] (.j (cSGet p.xS p.dS p.q p.hS p.tS p.vS .none (kS [] t0) p.ins p.fs p.eS m (qs.map ev) (es q)) [15, 16, 17] fun α2 τ2 ν2 B2 T2 => hl [0, 2, 2] (.j (cW (kt w.params) p (.int (c : Int) (τ0 0)) (u, τ1 0) (some q) tvs tn qs (m + 1) t0 o) [1, 12, 13, 14, 15, 16, 17, 18, 19, 20] fun α3 τ3 ν3 B3 T3 => hl [2, 2, 30, 1445, 1445, 1443, 30, 1445, 1445, 1443, 30, 1445, 1445, 1443, 1323, 30, 32, 2, 1323] (.j (cSPush p.xS p.dS p.q p.hS p.tS p.vS .none (kS [] (τ3 0)) p.ins p.fs p.eS (o.m) (o.qs.map ev) (es t)) [15, 16, 17] fun α4 τ4 ν4 B4 T4 => hl [2, 30, 1445, 1445, 1443, 30, 1445, 1445, 1443, 30, 1445, 1445, 1443, 1323, 30, 32, 2, 1323] (.j (cSPush p.xS p.dS p.q p.hS p.tS p.vS .none (kS [] (τ3 0)) p.ins p.fs p.eS (o.m + 1) (ev t :: o.qs.map ev) (es (u, τ1 0))) [15, 16, 17] fun α5 τ5 ν5 B5 T5 => hl [] (.j (cL1 (kt w.params) s txt p it (c + 1) r (.int (c : Int) (τ0 0)) (.str (pl u) (τ1 0)) (ev t) ln' (τ1 2) ps' (τ1 1) lnF psF o.tvs o.tn ((u, τ1 0) :: t :: o.qs) (o.m + 1 + 1) (τ3 0) (fun a => fo (consT (τ1 0) a))) [0, 1, 2, 3, 4, 5, 6, 7, 8, 9, 10, 11, 12, 13, 14, 15, 16, 17, 18, 19, 20] fun α6 τ6 ν6 B6 T6 => hl [] (.fin (consT (τ1 0) α6) τ6 ν6 []))))))))) (fun B T => good_hl _ ⟨vRng _ _ _ hr, fun _ _ _ _ _ => good_hl _ ⟨hs _ _, fun _ _ _ _ _ => good_hl _ ⟨vSGet _ _ _ _ _ _ _ _ _ _ _ _ _ _ (by simpa using hqs), fun _ _ _ _ _ => good_hl _ ⟨hw _ _, fun _ _ _ _ _ => good_hl _ ⟨vSPush _ _ _ _ _ _ _ _ _ _ _ _ _ _ (by simp; omega), fun _ _ _ _ _ => good_hl _ ⟨vSPush _ _ _ _ _ _ _ _ _ _ _ _ _ _ (by simp; omega), fun _ _ _ _ _ => good_hl _ ⟨ih _ _ _ _ _ _ _, fun _ _ _ _ _ => good_hl _ trivial⟩⟩⟩⟩⟩⟩⟩) fun B T => ?_
  kernel_rfl
end
end Mine
/-! part C9 -/
set_option maxRecDepth 100000
set_option linter.unusedVariables false
namespace Mine
open PySem PySem.Spec PySem.Calls PyProof.Rows PySem.W PySem.W.X
def wds : List Nat → (Nat → Nat) → List E
  | [], _ => []
  | u :: us, a => (u, a 0) :: wds us fun i => a (i + 1)
theorem wRun_tok (u t t' : Nat) : ∀ (qs : List E) (top : Option E) (tvs : List Value) (tn : Nat) (m : Int), wRun (u, t) qs top tvs tn m = wRun (u, t') qs top tvs tn m
  | qs, none, tvs, tn, m => by unfold wRun; rfl
  | [], some t, tvs, tn, m => by unfold wRun; rfl
  | q :: qs, some t, tvs, tn, m => by
    unfold wRun
    split
    · first | (rename_i h; rw [if_pos h]; exact wRun_tok u _ _ qs _ _ _ _) | exact wRun_tok u _ _ qs _ _ _ _
    · first | rfl | (rename_i h; rw [if_neg h])
section
variable {w : World}
def Src (w : World) (s : TS) (txt : Str) : Int → Int → List Nat → Int → Int → Prop
  | ln, p, [], lnF, pF => ln = lnF ∧ p = pF
  | ln, p, u :: us, lnF, pF => ∃ ln' p', (∀ tl tp, Valid pw w (kt w.params) (cTok (kt w.params) s txt ln tl p tp ln' p' u)) ∧ Src w s txt ln' p' us lnF pF
theorem vL1 (s : TS) (txt : Str) (p0 : PS) (it : Addr) : ∀ (us : List Nat) (c : Nat) (kv wdv topv : Value) (ln : Int) (tl : Tok) (ps : Int) (tp : Tok) (lnF psF : Int) (tvs : List Value) (tn : Nat) (qs : List E) (m : Int) (t0 : Tok), Src w s txt ln ps us lnF psF → qs ≠ [] → (∀ u ∈ us, u < 6) → (∀ e ∈ qs, e.1 < 6) → us.length + tvs.length + qs.length ≤ 9 →
    Valid pw w (kt w.params) (cL1 (kt w.params) s txt (p0.withSrc s.xF) it c us.length kv wdv topv ln tl ps tp lnF psF tvs tn qs m t0 (fun a => passRun (wds us a) tvs tn qs m))
  | [], c, kv, wdv, topv, ln, tl, ps, tp, lnF, psF, tvs, tn, qs, m, t0, hS, _, _, _, _ => by
    obtain ⟨e1, e2⟩ := hS
    subst e1 e2
    exact vL1e s txt p0 it c kv wdv topv ln tl ps tp tvs tn qs m t0
  | u :: us, c, kv, wdv, topv, ln, tl, ps, tp, lnF, psF, tvs, tn, [], m, t0, _, h, _, _, _ => absurd rfl h
  | u :: us, c, kv, wdv, topv, ln, tl, ps, tp, lnF, psF, tvs, tn, q :: qs, m, t0, hS, _, hu, hq, hl => by
    obtain ⟨ln', p', hs, hS⟩ := hS
    simp only [List.length_cons] at hl
    have hu0 := hu u (.head _)
    have hw : ∀ kv t, Valid pw w (kt w.params) (cW (kt w.params) (p0.withSrc s.xF) kv (u, t) (some q) tvs tn qs (m + 1) t0 (wRun (u, 0) qs (some q) tvs tn (m + 1))) := fun kv t =>
      wRun_tok u t 0 qs (some q) tvs tn (m + 1) ▸ vW (p0.withSrc s.xF) kv (u, t) hu0 qs (some q) tvs tn (m + 1) t0 (fun t ht => by cases ht; exact hq q (.head _)) (fun e he => hq e (.tail _ he)) (by omega) (by omega)
    have len := wRun_len (u, 0) qs (some q) tvs tn (m + 1)
    have rk := wRun_rank (u, 0) qs (some q) tvs tn (m + 1) (fun t ht => by cases ht; exact hq q (.head _)) (fun e he => hq e (.tail _ he))
    have hu' : ∀ e ∈ us, e < 6 := fun e he => hu e (.tail _ he)
    have ef : (fun a => passRun (wds (u :: us) a) tvs tn (q :: qs) m) = fun a => passRun ((u, a 0) :: wds us fun i => a (i + 1)) tvs tn (q :: qs) m := rfl
    rw [ef]
    unfold passRun
    simp only [fun t => wRun_tok u t 0 qs (some q) tvs tn (m + 1)]
    generalize wRun (u, 0) qs (some q) tvs tn (m + 1) = o at *
    obtain ⟨otop, otvs, otn, oqs, om⟩ := o
    cases otop with
    | none =>
      simp only [topL] at len
      refine vL1a s txt p0 it c us.length kv wdv topv u q ln tl ps tp ln' p' lnF psF tvs tn qs m t0 ⟨none, otvs, otn, oqs, om⟩ _ rfl (by omega) (by omega) (by show oqs.length ≤ 9; omega) hs hw ?_
      intro t1 kv wdv topv tl tp t0
      refine vL1 s txt p0 it us (c + 1) kv wdv topv ln' tl p' tp lnF psF otvs otn ((u, t1) :: oqs) (om + 1) t0 hS (by simp) hu' (fun e he => ?_) (by simp; omega)
      rcases List.mem_cons.mp he with z | z
      · rw [z]; exact hu0
      · exact rk.2 e z
    | some t =>
      simp only [topL] at len
      refine vL1b s txt p0 it c us.length kv wdv topv u q ln tl ps tp ln' p' lnF psF tvs tn qs m t0 ⟨some t, otvs, otn, oqs, om⟩ _ t rfl (by omega) (by omega) (by show oqs.length ≤ 8; omega) hs hw ?_
      intro t1 kv wdv topv tl tp t0
      refine vL1 s txt p0 it us (c + 1) kv wdv topv ln' tl p' tp lnF psF otvs otn ((u, t1) :: t :: oqs) (om + 1 + 1) t0 hS (by simp) hu' (fun e he => ?_) (by simp; omega)
      rcases List.mem_cons.mp he with z | z
      · rw [z]; exact hu0
      · rcases List.mem_cons.mp z with z | z
        · rw [z]; exact rk.1 t rfl
        · exact rk.2 e z
end
end Mine
/-! part C10 -/
set_option maxRecDepth 100000
set_option linter.unusedVariables false
namespace Mine
open PySem PySem.Spec PySem.Calls PyProof.Rows PySem.W PySem.W.X
def lawQ : List Nat := [108, 97, 119, 46, 60, 108, 111, 99, 97, 108, 115, 62, 46]
/-- the frame of the law, as its environment tells it -/
structure LE where
  lL : Addr
  cp : Addr
  cw : Addr
def LE.env (kt : KT) (le : LE) : Env := fnEnv kt 813 le.lL [(⟨⟨[112, 111, 111, 108]⟩⟩, le.cp), (⟨⟨[119, 114, 105, 116, 105, 110, 103, 115]⟩⟩, le.cw)] lawQ
def passE (kt : KT) (L : Addr) : Env := fnEnv kt 789 L [] passQ
def frO (d : Data) (sl : Array (Option Value)) : Obj := ⟨.type "frame", none, d, sl⟩
def excO (a tb : Value) : Obj := { cls := .type "StopIteration", data := .fields ⟨[a, tb, .none, .none, .bool false, .none]⟩ }
section
variable {w : World}
def cNextS (p : PS) (st tk : Value) (m : Int) (vs : List Value) (a : Str × Tok) : Ct :=
  { code := .call (.ref 719) ⟨[.ref p.xS], []⟩, need := [(p.xS, inst 722 p.dS), (p.dS, shD p.hS p.tS p.vS st tk p.ins p.q p.fs p.eS), (p.q, deq m (.str a.1 a.2 :: vs))], k := 0, res := fun _ _ _ => ret0 (.str a.1 a.2),
    post := fun _ _ _ => [inst 722 p.dS, shD p.hS p.tS p.vS st tk p.ins p.q p.fs p.eS, deq (m + 1) vs], new := fun _ _ _ => [], D := 700, U := 8000 }
theorem vNextS (p : PS) (st tk : Value) (m : Int) (vs : List Value) (a : Str × Tok) (h : vs.length ≤ 8) : Valid pw w (kt w.params) (cNextS p st tk m vs a) := by
  refine valid_of 200 (fun B T => hl [1439, 1437, 0, 0, 0, 0, 5, 0, 0, 2, 1445, 1445, 1443, 2, 1445, 1445, 1443, 2, 1445, 1445, 1443, 1367, 2, 4, 1367] (.j (cSGet p.xS p.dS p.q p.hS p.tS p.vS st tk p.ins p.fs p.eS m vs a) [1, 2, 3] fun α0 τ0 ν0 B0 T0 => hl [0, 0, 0, 0, 0, 2, 1445, 1445, 1443, 0, 2, 1445, 1445, 1443, 2, 2, 1445, 4, 1, 0, 0, 1, 0, 0, 0] (.fin (ofL []) (ofL []) (ofV []) []))) (fun B T => good_hl _ ⟨vSGet _ _ _ _ _ _ _ _ _ _ _ _ _ _ h, fun _ _ _ _ _ => good_hl _ trivial⟩) fun B T => ?_
  kernel_rfl
def cNextE (kt : KT) (p : PS) (le : LE) (pf lf : Obj) (lfo : Value → Obj) (m : Int) (tk : Value) : Ct :=
  { code := .call (.ref 719) ⟨[.ref p.xS], []⟩, need := (p.L, pf) :: (le.lL, lf) :: p.stk .none tk m [], k := 1, res := fun α _ _ => .error (.ref (α 0)),
    post := fun _ τ ν => rdO (passE kt p.L) (.ref le.lL) pf :: lfo (ν 0) :: objs (p.stk .none (kS [] (τ 0)) m []), new := fun _ _ ν => [excO (ν 1) (ν 2)], D := 700, U := 8000,
    fr := some [passE kt p.L, le.env kt], raw := [true, true] }
/-- the law's frame hasn't been seen yet -/
theorem vNextE1 (p : PS) (le : LE) (dp dl : Data) (m : Int) (tk : Value) : Valid pw w (kt w.params) (cNextE (kt w.params) p le (frO dp #[]) (frO dl #[]) (fun bk => rdO (le.env (kt w.params)) bk (frO dl #[])) m tk) := by
  refine valid_of 300 (fun B T => hl [1439, 1437, 0, 0, 0, 0, 5, 0, 0, 6, 1445, 1445, 1443, 6, 1445, 1445, 1443, 6, 1445, 1445, 1443, 1367, 6, 8, 1367] (.j (cSNone p.xS p.dS p.q p.hS p.tS p.vS .none tk p.ins p.fs p.di p.eS p.nI m p.mF) [3, 4, 5, 6, 7, 8] fun α0 τ0 ν0 B0 T0 => hl [0, 0, 0, 0, 0, 6, 1445, 1445, 1443, 0, 6, 1445, 1445, 1443, 6, 6, 1445, 8, 1, 0, 0, 7, 1, 0, 0, 0, 0, 2, 0, 0, 0, 0, 0, 0, 0, 2, 2, 2, 2, 2, 2, 2, 2, 2, 2, 0, 0, 0, 2] (.lv 1 [3, 4, 5] fun bk tb => hl [] (.fin (ofL [B0 + 1]) τ0 (ofV [bk, .ref (B0 + 2), .ref (B0 + 3)]) [2])))) (fun B T => good_hl _ ⟨vSNone2 _ _ _ _ _ _ _ _ _ _ _ _ _ _, fun _ _ _ _ _ => good_hl _ fun bk tb => good_hl _ trivial⟩) fun B T => ?_
  kernel_rfl
/-- it has -/
theorem vNextE2 (p : PS) (le : LE) (dp dl : Data) (m : Int) (tk b0 : Value) : Valid pw w (kt w.params) (cNextE (kt w.params) p le (frO dp #[]) (rdO (le.env (kt w.params)) b0 (frO dl #[])) (fun _ => rdO (le.env (kt w.params)) b0 (frO dl #[])) m tk) := by
  refine valid_of 300 (fun B T => hl [1439, 1437, 0, 0, 0, 0, 5, 0, 0, 6, 1445, 1445, 1443, 6, 1445, 1445, 1443, 6, 1445, 1445, 1443, 1367, 6, 8, 1367] (.j (cSNone p.xS p.dS p.q p.hS p.tS p.vS .none tk p.ins p.fs p.di p.eS p.nI m p.mF) [3, 4, 5, 6, 7, 8] fun α0 τ0 ν0 B0 T0 => hl [0, 0, 0, 0, 0, 6, 1445, 1445, 1443, 0, 6, 1445, 1445, 1443, 6, 6, 1445, 8, 1, 0, 0, 7, 1, 0, 0, 0, 0, 2, 0, 0, 0, 0, 0, 0, 0, 2, 2, 2, 2, 2, 2, 2, 2, 2, 2, 0, 0, 0, 2] (.lv 1 [3, 4, 5] fun bk tb => hl [] (.fin (ofL [B0 + 1]) τ0 (ofV [bk, .ref (B0 + 2), .ref (B0 + 3)]) [2])))) (fun B T => good_hl _ ⟨vSNone2 _ _ _ _ _ _ _ _ _ _ _ _ _ _, fun _ _ _ _ _ => good_hl _ fun bk tb => good_hl _ trivial⟩) fun B T => ?_
  kernel_rfl
end
end Mine
/-! part C11 -/
set_option maxRecDepth 100000
set_option linter.unusedVariables false
namespace Mine
open PySem PySem.Spec PySem.Calls PyProof.Rows PySem.W PySem.W.X
section
variable {w : World}
/-- a list is filled from the lexer of shlex -/
def cExt (kt : KT) (p : PS) (le : LE) (pf lf : Obj) (lfo : Value → Obj) (l : Addr) (acc : List Value) (n : Nat) (m : Int) (tk : Value) (qs : List E) (oV : List Value) (oN : Nat) (oM : Int) : Ct :=
  { code := .builtin "list.extend.loop" ⟨[.ref l, .ref p.xS, .none], []⟩, need := (l, lst acc n) :: (p.L, pf) :: (le.lL, lf) :: p.stk .none tk m (qs.map ev), k := 0, res := fun _ _ _ => ret0 .none,
    post := fun _ τ ν => lst oV oN :: rdO (passE kt p.L) (.ref le.lL) pf :: lfo (ν 0) :: objs (p.stk .none (kS [] (τ 0)) oM []), new := fun _ _ _ => [], D := 680, U := 7900,
    fr := some [passE kt p.L, le.env kt], raw := [false, true, true] }
theorem vExtE (p : PS) (le : LE) (pf lf : Obj) (lfo : Value → Obj) (l : Addr) (acc : List Value) (n : Nat) (m : Int) (tk : Value) (hN : Valid pw w (kt w.params) (cNextE (kt w.params) p le pf lf lfo m tk)) : Valid pw w (kt w.params) (cExt (kt w.params) p le pf lf lfo l acc n m tk [] acc n m) := by
  refine valid_of 100 (fun B T => hl [6, 1445, 1445, 1443, 1439] (.j (cNextE (kt w.params) p le pf lf lfo m tk) [1, 2, 3, 4, 5, 6, 7, 8] fun α0 τ0 ν0 B0 T0 => hl [0] (.fin (ofL []) τ0 ν0 []))) (fun B T => good_hl _ ⟨hN, fun _ _ _ _ _ => good_hl _ trivial⟩) fun B T => ?_
  kernel_rfl
theorem vExtA (p : PS) (le : LE) (pf lf : Obj) (lfo : Value → Obj) (l : Addr) (acc : List Value) (n : Nat) (m : Int) (tk : Value) (a : E) (qs : List E) (oV : List Value) (oN : Nat) (oM : Int) (hq : qs.length ≤ 8) (ha : acc.length ≤ 8)
    (ih : Valid pw w (kt w.params) (cExt (kt w.params) p le pf lf lfo l (acc ++ [ev a]) (n + 1) (m + 1) tk qs oV oN oM)) : Valid pw w (kt w.params) (cExt (kt w.params) p le pf lf lfo l acc n m tk (a :: qs) oV oN oM) := by
  have run : ∀ acc : List Value, (Valid pw w (kt w.params) (cExt (kt w.params) p le pf lf lfo l (acc ++ [ev a]) (n + 1) (m + 1) tk qs oV oN oM)) → Eqn w 100 (cExt (kt w.params) p le pf lf lfo l acc n m tk (a :: qs) oV oN oM) (fun B T => hl [6, 1445, 1445, 1443, 1439] (.j (cNextS p .none tk m (qs.map ev) (es a)) [3, 4, 5] fun α0 τ0 ν0 B0 T0 => hl [0, 0, 0] (.j (cExt (kt w.params) p le pf lf lfo l (acc ++ [ev a]) (n + 1) (m + 1) tk qs oV oN oM) [0, 1, 2, 3, 4, 5, 6, 7, 8] fun α1 τ1 ν1 B1 T1 => hl [] (.fin (ofL []) τ1 ν1 [])))) → Valid pw w (kt w.params) (cExt (kt w.params) p le pf lf lfo l acc n m tk (a :: qs) oV oN oM) :=
    fun acc ih e => valid_of 100 (fun B T => hl [6, 1445, 1445, 1443, 1439] (.j (cNextS p .none tk m (qs.map ev) (es a)) [3, 4, 5] fun α0 τ0 ν0 B0 T0 => hl [0, 0, 0] (.j (cExt (kt w.params) p le pf lf lfo l (acc ++ [ev a]) (n + 1) (m + 1) tk qs oV oN oM) [0, 1, 2, 3, 4, 5, 6, 7, 8] fun α1 τ1 ν1 B1 T1 => hl [] (.fin (ofL []) τ1 ν1 [])))) (fun B T => good_hl _ ⟨vNextS _ _ _ _ _ _ (by simpa using hq), fun _ _ _ _ _ => good_hl _ ⟨ih, fun _ _ _ _ _ => good_hl _ trivial⟩⟩) e
  match acc, ha, ih with
  | [], _, ih => exact run _ ih fun B T => by kernel_rfl
  | [a0], _, ih => exact run _ ih fun B T => by kernel_rfl
  | [a0, a1], _, ih => exact run _ ih fun B T => by kernel_rfl
  | [a0, a1, a2], _, ih => exact run _ ih fun B T => by kernel_rfl
  | [a0, a1, a2, a3], _, ih => exact run _ ih fun B T => by kernel_rfl
  | [a0, a1, a2, a3, a4], _, ih => exact run _ ih fun B T => by kernel_rfl
  | [a0, a1, a2, a3, a4, a5], _, ih => exact run _ ih fun B T => by kernel_rfl
  | [a0, a1, a2, a3, a4, a5, a6], _, ih => exact run _ ih fun B T => by kernel_rfl
  | [a0, a1, a2, a3, a4, a5, a6, a7], _, ih => exact run _ ih fun B T => by kernel_rfl
  | _ :: _ :: _ :: _ :: _ :: _ :: _ :: _ :: _ :: r, h, _ => exact absurd h (by simp)
theorem vExt (p : PS) (le : LE) (pf lf : Obj) (lfo : Value → Obj) (l : Addr) (hN : ∀ m tk, Valid pw w (kt w.params) (cNextE (kt w.params) p le pf lf lfo m tk)) :
    ∀ (qs : List E) (acc : List Value) (n : Nat) (m : Int) (tk : Value), acc.length + qs.length ≤ 9 → Valid pw w (kt w.params) (cExt (kt w.params) p le pf lf lfo l acc n m tk qs (acc ++ qs.map ev) (n + qs.length) (m + qs.length))
  | [], acc, n, m, tk, _ => by
    have e1 : acc ++ ([] : List E).map ev = acc := by simp
    have e2 : m + (([] : List E).length : Int) = m := by simp
    rw [e1, e2]
    exact vExtE p le pf lf lfo l acc n m tk (hN m tk)
  | a :: qs, acc, n, m, tk, h => by
    simp only [List.length_cons] at h
    have e1 : acc ++ (a :: qs).map ev = (acc ++ [ev a]) ++ qs.map ev := by simp
    have e2 : m + ((a :: qs).length : Int) = (m + 1) + (qs.length : Int) := by simp only [List.length_cons]; omega
    have e3 : n + (a :: qs).length = (n + 1) + qs.length := by simp only [List.length_cons]; omega
    rw [e1, e2, e3]
    exact vExtA p le pf lf lfo l acc n m tk a qs _ _ _ (by omega) (by omega) (vExt p le pf lf lfo l hN qs (acc ++ [ev a]) (n + 1) (m + 1) tk (by simp; omega))
/-- a list of what waits at the lexer of shlex -/
def cListS (kt : KT) (p : PS) (le : LE) (pf lf : Obj) (lfo : Value → Obj) (m : Int) (tk : Value) (qs : List E) : Ct :=
  { code := .call (.type "list") ⟨[.ref p.xS], []⟩, need := (p.L, pf) :: (le.lL, lf) :: p.stk .none tk m (qs.map ev), k := 1, res := fun α _ _ => ret0 (.ref (α 0)),
    post := fun _ τ ν => rdO (passE kt p.L) (.ref le.lL) pf :: lfo (ν 0) :: objs (p.stk .none (kS [] (τ 0)) (m + qs.length) []), new := fun _ _ _ => [lst (qs.map ev) (2 + qs.length)], D := 650, U := 7800,
    fr := some [passE kt p.L, le.env kt], raw := [true, true] }
theorem vListS (p : PS) (le : LE) (pf lf : Obj) (lfo : Value → Obj) (m : Int) (tk : Value) (qs : List E) (h : qs.length ≤ 9) (hN : ∀ m tk, Valid pw w (kt w.params) (cNextE (kt w.params) p le pf lf lfo m tk)) : Valid pw w (kt w.params) (cListS (kt w.params) p le pf lf lfo m tk qs) := by
  refine valid_of 300 (fun B T => hl [0, 0, 0, 2, 0, 0, 0, 0, 0, 0, 0, 0, 0] (.eq 0 3 (fun a b => extF (.ref a) (.ref b) .none) (fun a b => (extNe (.ref a) (.ref b) .none).1) (hl [6, 6, 1445, 1445, 1443, 6, 1445, 1445, 1443] (.sg (hl [1425, 0, 1425, 1423, 0, 0, 0, 0, 5, 0, 0, 8, 1445, 1445, 1443, 8, 1445, 1445, 1443, 8, 1445, 1445, 1443, 2, 2, 2, 2, 2, 2] (.j (cExt (kt w.params) p le pf lf lfo (B + 0) [] 2 m tk qs (qs.map ev) (2 + qs.length) (m + qs.length)) [1, 2, 3, 4, 5, 6, 7, 8, 9] fun α0 τ0 ν0 B0 T0 => hl [] (.fin (ofL [B + 0]) τ0 ν0 [1]))) (hl [1425, 0, 1425, 1423, 0, 0, 0, 0, 5, 0, 0, 8, 1445, 1445, 1443, 8, 1445, 1445, 1443, 8, 1445, 1445, 1443, 2, 2, 2, 2, 2, 2] (.j (cExt (kt w.params) p le pf lf lfo (B + 0) [] 2 m tk qs (qs.map ev) (2 + qs.length) (m + qs.length)) [1, 2, 3, 4, 5, 6, 7, 8, 9] fun α0 τ0 ν0 B0 T0 => hl [] (.fin (ofL [B + 0]) τ0 ν0 [1]))))))) (fun B T => good_hl _ ⟨fun a b h => extNe_is a b .none h, good_hl _ ⟨good_hl _ ⟨vExt p le pf lf lfo _ hN qs [] 2 m tk (by simpa using h), fun _ _ _ _ _ => good_hl _ trivial⟩, good_hl _ ⟨vExt p le pf lf lfo _ hN qs [] 2 m tk (by simpa using h), fun _ _ _ _ _ => good_hl _ trivial⟩⟩⟩) fun B T => ?_
  kernel_rfl
end
end Mine
/-! part C12 -/
set_option maxRecDepth 100000
set_option linter.unusedVariables false
namespace Mine
open PySem PySem.Spec PySem.Calls PyProof.Rows PySem.W PySem.W.X
def rgO (lo hi : Int) (t1 t2 t3 : Tok) : Obj := { cls := .type "range", data := .fields ⟨[.int lo t1, .int hi t2, .int 1 t3]⟩ }
def ep1 (vs : List Value) : Nat := match vs with | [] => 0 | _ :: _ => 1
section
variable {w : World}
def cRIter (a : Addr) (lo n : Nat) (t1 t2 t3 : Tok) : Ct :=
  { code := .call (.builtin "range.__iter__") ⟨[.ref a], []⟩, need := [(a, rgO (lo : Int) ((n + lo : Nat) : Int) t1 t2 t3)], k := 1, res := fun α _ _ => ret0 (.ref (α 0)), post := fun _ _ _ => [rgO (lo : Int) ((n + lo : Nat) : Int) t1 t2 t3], new := fun _ _ _ => [rngO (lo : Int) (n : Int)], D := 900, U := 9000 }
theorem vRIter (a : Addr) (lo n : Nat) (t1 t2 t3 : Tok) (h1 : lo ≤ 9) (h2 : n ≤ 9) : Valid pw w (kt w.params) (cRIter a lo n t1 t2 t3) := by
  have run : ∀ lo n : Nat, Eqn w 30 (cRIter a lo n t1 t2 t3) (fun B T => hl [0, 0, 0, 0, 0] (.fin (ofL [B + 0]) (ofL []) (ofV []) [0])) → Valid pw w (kt w.params) (cRIter a lo n t1 t2 t3) :=
    fun lo n e => valid_of 30 (fun B T => hl [0, 0, 0, 0, 0] (.fin (ofL [B + 0]) (ofL []) (ofV []) [0])) (fun _ _ => good_hl _ trivial) e
  match lo, n, h1, h2 with
  | 0, 0, _, _ => exact run 0 0 fun B T => by kernel_rfl
  | 0, 1, _, _ => exact run 0 1 fun B T => by kernel_rfl
  | 0, 2, _, _ => exact run 0 2 fun B T => by kernel_rfl
  | 0, 3, _, _ => exact run 0 3 fun B T => by kernel_rfl
  | 0, 4, _, _ => exact run 0 4 fun B T => by kernel_rfl
  | 0, 5, _, _ => exact run 0 5 fun B T => by kernel_rfl
  | 0, 6, _, _ => exact run 0 6 fun B T => by kernel_rfl
  | 0, 7, _, _ => exact run 0 7 fun B T => by kernel_rfl
  | 0, 8, _, _ => exact run 0 8 fun B T => by kernel_rfl
  | 0, 9, _, _ => exact run 0 9 fun B T => by kernel_rfl
  | 1, 0, _, _ => exact run 1 0 fun B T => by kernel_rfl
  | 1, 1, _, _ => exact run 1 1 fun B T => by kernel_rfl
  | 1, 2, _, _ => exact run 1 2 fun B T => by kernel_rfl
  | 1, 3, _, _ => exact run 1 3 fun B T => by kernel_rfl
  | 1, 4, _, _ => exact run 1 4 fun B T => by kernel_rfl
  | 1, 5, _, _ => exact run 1 5 fun B T => by kernel_rfl
  | 1, 6, _, _ => exact run 1 6 fun B T => by kernel_rfl
  | 1, 7, _, _ => exact run 1 7 fun B T => by kernel_rfl
  | 1, 8, _, _ => exact run 1 8 fun B T => by kernel_rfl
  | 1, 9, _, _ => exact run 1 9 fun B T => by kernel_rfl
  | 2, 0, _, _ => exact run 2 0 fun B T => by kernel_rfl
  | 2, 1, _, _ => exact run 2 1 fun B T => by kernel_rfl
  | 2, 2, _, _ => exact run 2 2 fun B T => by kernel_rfl
  | 2, 3, _, _ => exact run 2 3 fun B T => by kernel_rfl
  | 2, 4, _, _ => exact run 2 4 fun B T => by kernel_rfl
  | 2, 5, _, _ => exact run 2 5 fun B T => by kernel_rfl
  | 2, 6, _, _ => exact run 2 6 fun B T => by kernel_rfl
  | 2, 7, _, _ => exact run 2 7 fun B T => by kernel_rfl
  | 2, 8, _, _ => exact run 2 8 fun B T => by kernel_rfl
  | 2, 9, _, _ => exact run 2 9 fun B T => by kernel_rfl
  | 3, 0, _, _ => exact run 3 0 fun B T => by kernel_rfl
  | 3, 1, _, _ => exact run 3 1 fun B T => by kernel_rfl
  | 3, 2, _, _ => exact run 3 2 fun B T => by kernel_rfl
  | 3, 3, _, _ => exact run 3 3 fun B T => by kernel_rfl
  | 3, 4, _, _ => exact run 3 4 fun B T => by kernel_rfl
  | 3, 5, _, _ => exact run 3 5 fun B T => by kernel_rfl
  | 3, 6, _, _ => exact run 3 6 fun B T => by kernel_rfl
  | 3, 7, _, _ => exact run 3 7 fun B T => by kernel_rfl
  | 3, 8, _, _ => exact run 3 8 fun B T => by kernel_rfl
  | 3, 9, _, _ => exact run 3 9 fun B T => by kernel_rfl
  | 4, 0, _, _ => exact run 4 0 fun B T => by kernel_rfl
  | 4, 1, _, _ => exact run 4 1 fun B T => by kernel_rfl
  | 4, 2, _, _ => exact run 4 2 fun B T => by kernel_rfl
  | 4, 3, _, _ => exact run 4 3 fun B T => by kernel_rfl
  | 4, 4, _, _ => exact run 4 4 fun B T => by kernel_rfl
  | 4, 5, _, _ => exact run 4 5 fun B T => by kernel_rfl
  | 4, 6, _, _ => exact run 4 6 fun B T => by kernel_rfl
  | 4, 7, _, _ => exact run 4 7 fun B T => by kernel_rfl
  | 4, 8, _, _ => exact run 4 8 fun B T => by kernel_rfl
  | 4, 9, _, _ => exact run 4 9 fun B T => by kernel_rfl
  | 5, 0, _, _ => exact run 5 0 fun B T => by kernel_rfl
  | 5, 1, _, _ => exact run 5 1 fun B T => by kernel_rfl
  | 5, 2, _, _ => exact run 5 2 fun B T => by kernel_rfl
  | 5, 3, _, _ => exact run 5 3 fun B T => by kernel_rfl
  | 5, 4, _, _ => exact run 5 4 fun B T => by kernel_rfl
  | 5, 5, _, _ => exact run 5 5 fun B T => by kernel_rfl
  | 5, 6, _, _ => exact run 5 6 fun B T => by kernel_rfl
  | 5, 7, _, _ => exact run 5 7 fun B T => by kernel_rfl
  | 5, 8, _, _ => exact run 5 8 fun B T => by kernel_rfl
  | 5, 9, _, _ => exact run 5 9 fun B T => by kernel_rfl
  | 6, 0, _, _ => exact run 6 0 fun B T => by kernel_rfl
  | 6, 1, _, _ => exact run 6 1 fun B T => by kernel_rfl
  | 6, 2, _, _ => exact run 6 2 fun B T => by kernel_rfl
  | 6, 3, _, _ => exact run 6 3 fun B T => by kernel_rfl
  | 6, 4, _, _ => exact run 6 4 fun B T => by kernel_rfl
  | 6, 5, _, _ => exact run 6 5 fun B T => by kernel_rfl
  | 6, 6, _, _ => exact run 6 6 fun B T => by kernel_rfl
  | 6, 7, _, _ => exact run 6 7 fun B T => by kernel_rfl
  | 6, 8, _, _ => exact run 6 8 fun B T => by kernel_rfl
  | 6, 9, _, _ => exact run 6 9 fun B T => by kernel_rfl
  | 7, 0, _, _ => exact run 7 0 fun B T => by kernel_rfl
  | 7, 1, _, _ => exact run 7 1 fun B T => by kernel_rfl
  | 7, 2, _, _ => exact run 7 2 fun B T => by kernel_rfl
  | 7, 3, _, _ => exact run 7 3 fun B T => by kernel_rfl
  | 7, 4, _, _ => exact run 7 4 fun B T => by kernel_rfl
  | 7, 5, _, _ => exact run 7 5 fun B T => by kernel_rfl
  | 7, 6, _, _ => exact run 7 6 fun B T => by kernel_rfl
  | 7, 7, _, _ => exact run 7 7 fun B T => by kernel_rfl
  | 7, 8, _, _ => exact run 7 8 fun B T => by kernel_rfl
  | 7, 9, _, _ => exact run 7 9 fun B T => by kernel_rfl
  | 8, 0, _, _ => exact run 8 0 fun B T => by kernel_rfl
  | 8, 1, _, _ => exact run 8 1 fun B T => by kernel_rfl
  | 8, 2, _, _ => exact run 8 2 fun B T => by kernel_rfl
  | 8, 3, _, _ => exact run 8 3 fun B T => by kernel_rfl
  | 8, 4, _, _ => exact run 8 4 fun B T => by kernel_rfl
  | 8, 5, _, _ => exact run 8 5 fun B T => by kernel_rfl
  | 8, 6, _, _ => exact run 8 6 fun B T => by kernel_rfl
  | 8, 7, _, _ => exact run 8 7 fun B T => by kernel_rfl
  | 8, 8, _, _ => exact run 8 8 fun B T => by kernel_rfl
  | 8, 9, _, _ => exact run 8 9 fun B T => by kernel_rfl
  | 9, 0, _, _ => exact run 9 0 fun B T => by kernel_rfl
  | 9, 1, _, _ => exact run 9 1 fun B T => by kernel_rfl
  | 9, 2, _, _ => exact run 9 2 fun B T => by kernel_rfl
  | 9, 3, _, _ => exact run 9 3 fun B T => by kernel_rfl
  | 9, 4, _, _ => exact run 9 4 fun B T => by kernel_rfl
  | 9, 5, _, _ => exact run 9 5 fun B T => by kernel_rfl
  | 9, 6, _, _ => exact run 9 6 fun B T => by kernel_rfl
  | 9, 7, _, _ => exact run 9 7 fun B T => by kernel_rfl
  | 9, 8, _, _ => exact run 9 8 fun B T => by kernel_rfl
  | 9, 9, _, _ => exact run 9 9 fun B T => by kernel_rfl
  | _ + 10, _, h, _ => exact absurd h (by omega)
  | _, _ + 10, _, h => exact absurd h (by omega)
def cListL (a : Addr) (vs : List Value) (n : Nat) : Ct :=
  { code := .call (.type "list") ⟨[.ref a], []⟩, need := [(a, lst vs n)], k := 1, res := fun α _ _ => ret0 (.ref (α 0)), post := fun _ _ _ => [lst vs n], new := fun _ _ _ => [lst vs (ep1 vs)], D := 880, U := 8900 }
theorem vListL (a : Addr) (vs : List Value) (n : Nat) (h : vs.length ≤ 9) : Valid pw w (kt w.params) (cListL a vs n) := by
  have run : ∀ vs : List Value, Eqn w 60 (cListL a vs n) (fun B T => hl [0, 0, 0, 2, 0, 0, 0, 0, 0, 0, 0, 0, 0] (.eq 0 1 (fun a b => extF (.ref a) (.ref b) .none) (fun a b => (extNe (.ref a) (.ref b) .none).1) (hl [2, 2, 0, 0, 0, 0] (.fin (ofL [B + 0]) (ofL []) (ofV []) [0])))) → Valid pw w (kt w.params) (cListL a vs n) :=
    fun vs e => valid_of 60 (fun B T => hl [0, 0, 0, 2, 0, 0, 0, 0, 0, 0, 0, 0, 0] (.eq 0 1 (fun a b => extF (.ref a) (.ref b) .none) (fun a b => (extNe (.ref a) (.ref b) .none).1) (hl [2, 2, 0, 0, 0, 0] (.fin (ofL [B + 0]) (ofL []) (ofV []) [0])))) (fun B T => good_hl _ ⟨fun a b h => extNe_is a b .none h, good_hl _ trivial⟩) e
  match vs, h with
  | [], _ => exact run _ fun B T => by kernel_rfl
  | [a0], _ => exact run _ fun B T => by kernel_rfl
  | [a0, a1], _ => exact run _ fun B T => by kernel_rfl
  | [a0, a1, a2], _ => exact run _ fun B T => by kernel_rfl
  | [a0, a1, a2, a3], _ => exact run _ fun B T => by kernel_rfl
  | [a0, a1, a2, a3, a4], _ => exact run _ fun B T => by kernel_rfl
  | [a0, a1, a2, a3, a4, a5], _ => exact run _ fun B T => by kernel_rfl
  | [a0, a1, a2, a3, a4, a5, a6], _ => exact run _ fun B T => by kernel_rfl
  | [a0, a1, a2, a3, a4, a5, a6, a7], _ => exact run _ fun B T => by kernel_rfl
  | [a0, a1, a2, a3, a4, a5, a6, a7, a8], _ => exact run _ fun B T => by kernel_rfl
  | _ :: _ :: _ :: _ :: _ :: _ :: _ :: _ :: _ :: _ :: r, h => exact absurd h (by simp)
def forS2 (kt : KT) : Stmt := nthS (fnStmts kt 789) 1
/-- the second loop of a pass: what the list holds goes to the target -/
def cF2 (kt : KT) (p : PS) (it l : Addr) (ws : List E) (n i : Nat) (kv wdv topv : Value) (tvs : List Value) (tn : Nat) (oV : List Value) (oN : Nat) : Ct :=
  { code := forCode (forS2 kt) it (fnEnv kt 789 p.L [] passQ), need := (it, itO (.ref l) (i : Int)) :: (l, lst (ws.map ev) n) :: (p.L, p.fr kv wdv topv) :: p.tgt tvs tn, k := 0, res := fun _ _ _ => .ok .next,
    post := fun _ _ ν => itO .none (ws.length : Int) :: lst (ws.map ev) n :: p.fr kv (ν 0) topv :: objs (p.tgt oV oN), new := fun _ _ _ => [], D := 600, U := 7500 }
theorem vF2e (p : PS) (it l : Addr) (ws : List E) (n : Nat) (kv wdv topv : Value) (tvs : List Value) (tn : Nat) : Valid pw w (kt w.params) (cF2 (kt w.params) p it l ws n ws.length kv wdv topv tvs tn tvs tn) := by
  refine valid_of 100 (fun B T => hl [0] (.j (cLEnd it l (ws.map ev) n ws.length) [0, 1] fun α0 τ0 ν0 B0 T0 => hl [0, 0] (.fin (ofL []) (ofL []) (ofV [wdv]) []))) (fun B T => good_hl _ ⟨vLEnd _ _ _ _ _ (by simp), fun _ _ _ _ _ => good_hl _ trivial⟩) fun B T => ?_
  kernel_rfl
theorem vF2a (p : PS) (it l : Addr) (ws : List E) (n i : Nat) (kv wdv topv : Value) (tvs : List Value) (tn : Nat) (oV : List Value) (oN : Nat) (a : E) (ha : ws[i]? = some a) (hln : tvs.length ≤ 1000)
    (ih : Valid pw w (kt w.params) (cF2 (kt w.params) p it l ws n (i + 1) kv (ev a) topv (tvs ++ [ev a]) (tn + 1) oV oN)) : Valid pw w (kt w.params) (cF2 (kt w.params) p it l ws n i kv wdv topv tvs tn oV oN) := by
  refine valid_of 300 (fun B T => hl [0] (.j (cLNext it l (ws.map ev) n i (ev a)) [0, 1] fun α0 τ0 ν0 B0 T0 => hl [0, 4, 4, 4, 6, 1529, 1529, 1527, 6, 1529, 1529, 1527, 6, 1529, 1529, 1527, 1523, 6, 8, 4, 1523] (.j (cNPush p.xT p.dT p.pT p.hT p.tT p.line p.insT p.wsT p.eT tn tvs (es a)) [3, 4, 5] fun α1 τ1 ν1 B1 T1 => hl [] (.j (cF2 (kt w.params) p it l ws n (i + 1) kv (ev a) topv (tvs ++ [ev a]) (tn + 1) oV oN) [0, 1, 2, 3, 4, 5] fun α2 τ2 ν2 B2 T2 => hl [] (.fin (ofL []) (ofL []) ν2 []))))) (fun B T => good_hl _ ⟨vLNext _ _ _ _ _ _ (by simp [ha]), fun _ _ _ _ _ => good_hl _ ⟨vNPush _ _ _ _ _ _ _ _ _ _ _ _ hln, fun _ _ _ _ _ => good_hl _ ⟨ih, fun _ _ _ _ _ => good_hl _ trivial⟩⟩⟩) fun B T => ?_
  kernel_rfl
theorem vF2 (p : PS) (it l : Addr) (n : Nat) (kv topv : Value) : ∀ (r pre : List E) (wdv : Value) (tvs : List Value) (tn : Nat), tvs.length + r.length ≤ 1000 →
    Valid pw w (kt w.params) (cF2 (kt w.params) p it l (pre ++ r) n pre.length kv wdv topv tvs tn (tvs ++ r.map ev) (tn + r.length))
  | [], pre, wdv, tvs, tn, _ => by
    have e1 : tvs ++ ([] : List E).map ev = tvs := by simp
    have e2 : pre ++ [] = pre := by simp
    rw [e1, e2]
    exact vF2e p it l pre n kv wdv topv tvs tn
  | a :: r, pre, wdv, tvs, tn, h => by
    simp only [List.length_cons] at h
    have e1 : tvs ++ (a :: r).map ev = (tvs ++ [ev a]) ++ r.map ev := by simp
    have e3 : tn + (a :: r).length = (tn + 1) + r.length := by simp only [List.length_cons]; omega
    have e4 : pre ++ a :: r = (pre ++ [a]) ++ r := by simp
    have e5 : pre.length + 1 = (pre ++ [a]).length := by simp
    rw [e1, e3]
    refine vF2a p it l _ n _ kv wdv topv tvs tn _ _ a (by simp) (by omega) ?_
    rw [e4, e5]
    exact vF2 p it l n kv topv r (pre ++ [a]) (ev a) (tvs ++ [ev a]) (tn + 1) (by simp; omega)
end
end Mine
/-! part C13 -/
set_option maxRecDepth 100000
set_option linter.unusedVariables false
namespace Mine
open PySem PySem.Spec PySem.Calls PyProof.Rows PySem.W PySem.W.X
def hfP (P : Params) (ns : List (List Nat)) : Nat → Int := fun i => PyData.keyHash P ⟨⟨ns.getD i []⟩⟩
def passN : List (List Nat) := [[115, 111, 117, 114, 99, 101], [116, 97, 114, 103, 101, 116], [115, 116, 97, 99, 107], [115, 105, 122, 101], [107], [119, 111, 114, 100], [116, 111, 112]]
def szV (r : Nat) (tz : Tok) : Value := .int ((r + 1 : Nat) : Int) tz
def PS.at (p : PS) (L : Addr) (hf : Nat → Int) (tf : Nat → Tok) (size : Value) : PS := { p with L := L, hf := hf, tf := tf, size := size, n := 7, sl := #[] }
def PS.ready (kt : KT) (p : PS) (le : LE) : PS := { p with sl := (rdO (passE kt p.L) (.ref le.lL) (frO .plain #[])).slots }
def fullV (f : FOut) : List Value := f.tvs ++ f.qs.map ev
def fullN (f : FOut) : Nat := f.tn + f.qs.length
section
variable {w : World}
/-- a pass from the text -/
def cPass1 (kt : KT) (s : TS) (txt : Str) (p0 : PS) (le : LE) (lf : Obj) (lfo : Value → Obj) (r : Nat) (tz : Tok) (ln : Int) (tl : Tok) (ps : Int) (tp : Tok) (lnF psF : Int) (tn : Nat) (m : Int) (t1 t2 : Tok) (fo : (Nat → Nat) → FOut) : Ct :=
  { code := .call (.ref 789) ⟨[.ref s.xF, .ref p0.xT, .ref p0.xS, szV r tz], []⟩, need := (le.lL, lf) :: (s.slots kt txt ln tl ps tp ++ p0.tgt [] tn ++ p0.stk (kS [32] t1) (kS [] t2) m []), k := 1, res := fun α _ _ => ret0 (.ref (α 0)),
    post := fun α τ ν => let f := fo fun i => α (i + 1); lfo (ν 0) :: (objs (s.slots kt txt lnF (τ 1) psF (τ 2)) ++ objs (p0.tgt (fullV f) (fullN f)) ++ objs (p0.stk .none (kS [] (τ 0)) (f.m + f.qs.length) [])),
    new := fun α _ _ => let f := fo fun i => α (i + 1); [lst (fullV f) (ep1 (fullV f))], D := 560, U := 7300, fr := some [le.env kt], raw := [true] }
theorem vPass1 (s : TS) (txt : Str) (p0 : PS) (le : LE) (lf : Obj) (lfo : Value → Obj) (r : Nat) (tz : Tok) (u : Nat) (ln : Int) (tl : Tok) (ps : Int) (tp : Tok) (ln' ps' lnF psF : Int) (tn : Nat) (m : Int) (t1 t2 : Tok) (fo : (Nat → Nat) → FOut) (hr : r ≤ 8)
    (hfo : ∀ a, (fullV (fo a)).length ≤ 9)
    (hN : ∀ (p : PS) (dp : Data) m tk, Valid pw w (kt w.params) (cNextE (kt w.params) p le (frO dp #[]) lf lfo m tk))
    (hs : ∀ tl tp, Valid pw w (kt w.params) (cTok (kt w.params) s txt ln tl ps tp ln' ps' u))
    (hL : ∀ L hf tf it t1 kv wdv topv tl tp t0, Valid pw w (kt w.params) (cL1 (kt w.params) s txt ((p0.at L hf tf (szV r tz)).withSrc s.xF) it 1 r kv wdv topv ln' tl ps' tp lnF psF [] tn [(u, t1)] (m + 1) t0 (fun a => fo (consT t1 a)))) :
    Valid pw w (kt w.params) (cPass1 (kt w.params) s txt p0 le lf lfo r tz ln tl ps tp lnF psF tn m t1 t2 fo) := by
  have hq : ∀ a, (fo a).qs.length ≤ 9 := fun a => by
    have := hfo a
    simp only [fullV, List.length_append, List.length_map] at this
    omega
  have ht : ∀ a, (fo a).tvs.length + (fo a).qs.length ≤ 1000 := fun a => by
    have := hfo a
    simp only [fullV, List.length_append, List.length_map] at this
    omega
  refine valid_of 600 (fun B T => hl [1579, 1577, 0, 0, 0, 0, 0, 0, 0, 0, 0, 0, 0, 0, 0, 5, 0, 7, 1, 0, 0, 0, 0, 0, 0, 0, 0, 0, 0, 0, 0, 0, 1] (.j (cRIter (B + 1) 0 (r + 1) (T + 4) tz (T + 5)) [0] fun α0 τ0 ν0 B0 T0 => hl [0, 0, 0] (.j (cRng (α0 0) 0 r) [0] fun α1 τ1 ν1 B1 T1 => hl [0, 4, 4, 4, 8, 1529, 1529, 1527, 8, 1529, 1529, 1527, 8, 1529, 1529, 1527, 1509, 8, 10, 1509] (.j (cTok (kt w.params) s txt ln tl ps tp ln' ps' u) [4, 5, 6, 7, 8, 9, 10, 11, 12, 13] fun α2 τ2 ν2 B2 T2 => hl [0, 4, 4, 4, 34, 1445, 1445, 1443, 34, 1445, 1445, 1443, 34, 1445, 1445, 1443, 1367, 34, 36, 1367] (.j (cSNone p0.xS p0.dS p0.q p0.hS p0.tS p0.vS (kS [32] t1) (kS [] t2) p0.ins p0.fs p0.di p0.eS p0.nI m p0.mF) [17, 18, 19, 20, 21, 22] fun α3 τ3 ν3 B3 T3 => hl [0, 4, 4, 0, 4, 4, 4, 34, 1445, 1445, 1443, 34, 1445, 1445, 1443, 34, 1445, 1445, 1443, 1323, 34, 36, 4, 1323] (.j (cSPush p0.xS p0.dS p0.q p0.hS p0.tS p0.vS .none (kS [] (τ3 0)) p0.ins p0.fs p0.eS m [] (es (u, τ2 0))) [17, 18, 19] fun α4 τ4 ν4 B4 T4 => hl [] (.j (cL1 (kt w.params) s txt ((p0.at (B + 0) (hfP w.params passN) (ofL [T + 0, T + 1, T + 2, T + 3, T1 + 0, T2 + 0, T3 + 0]) (szV r tz)).withSrc s.xF) (α0 0) 1 r (.int ((0 : Nat) : Int) (τ1 0)) (.str (pl u) (τ2 0)) .none ln' (τ2 2) ps' (τ2 1) lnF psF [] tn [(u, τ2 0)] (m + 1) (τ3 0) (fun a => fo (consT (τ2 0) a))) [0, 2, 4, 5, 6, 7, 8, 9, 10, 11, 12, 13, 14, 15, 16, 17, 18, 19, 20, 21, 22] fun α5 τ5 ν5 B5 T5 => hl [7, 1, 4] (.j (cListS (kt w.params) ((p0.at (B + 0) (hfP w.params passN) (ofL [T + 0, T + 1, T + 2, T + 3, T1 + 0, T2 + 0, T3 + 0]) (szV r tz)).withSrc s.xF) le (((p0.at (B + 0) (hfP w.params passN) (ofL [T + 0, T + 1, T + 2, T + 3, T1 + 0, T2 + 0, T3 + 0]) (szV r tz)).withSrc s.xF).fr (ν5 0) (ν5 1) (ν5 2)) lf lfo (fo (consT (τ2 0) α5)).m (kS [] (τ5 0)) (fo (consT (τ2 0) α5)).qs) [2, 3, 17, 18, 19, 20, 21, 22] fun α6 τ6 ν6 B6 T6 => hl [0, 0, 1, 0, 0, 0, 0] (.j (cF2 (kt w.params) (((p0.at (B + 0) (hfP w.params passN) (ofL [T + 0, T + 1, T + 2, T + 3, T1 + 0, T2 + 0, T3 + 0]) (szV r tz)).withSrc s.xF).ready (kt w.params) le) (B6 + 0) (α6 0) (fo (consT (τ2 0) α5)).qs (2 + (fo (consT (τ2 0) α5)).qs.length) 0 (ν5 0) (ν5 1) (ν5 2) (fo (consT (τ2 0) α5)).tvs (fo (consT (τ2 0) α5)).tn (fullV (fo (consT (τ2 0) α5))) (fullN (fo (consT (τ2 0) α5)))) [0, 1, 4, 16, 17, 18] fun α7 τ7 ν7 B7 T7 => hl [7, 1, 8, 32, 1529, 1529, 1527, 0, 32, 1529, 1529, 1527, 32, 32, 1529, 34] (.j (cListL p0.pT (fullV (fo (consT (τ2 0) α5))) (fullN (fo (consT (τ2 0) α5)))) [18] fun α8 τ8 ν8 B8 T8 => hl [] (.fin (consT (α8 0) (consT (τ2 0) α5)) (ofL [τ6 0, τ5 1, τ5 2]) ν6 [0]))))))))))) (fun B T => good_hl _ ⟨vRIter _ _ _ _ _ _ (by omega) (by omega), fun _ _ _ _ _ => good_hl _ ⟨vRng _ _ _ (by omega), fun _ _ _ _ _ => good_hl _ ⟨hs _ _, fun _ _ _ _ _ => good_hl _ ⟨vSNone1 _ _ _ _ _ _ _ _ _ _ _ _ _ _ _, fun _ _ _ _ _ => good_hl _ ⟨vSPush _ _ _ _ _ _ _ _ _ _ _ _ _ _ (by simp), fun _ _ _ _ _ => good_hl _ ⟨hL _ _ _ _ _ _ _ _ _ _ _, fun _ _ _ _ _ => good_hl _ ⟨vListS _ _ _ _ _ _ _ _ (hq _) (fun m tk => hN _ _ m tk), fun _ _ _ _ _ => good_hl _ ⟨vF2 _ _ _ _ _ _ _ [] _ _ _ (ht _), fun _ _ _ _ _ => good_hl _ ⟨vListL _ _ _ (hfo _), fun _ _ _ _ _ => good_hl _ trivial⟩⟩⟩⟩⟩⟩⟩⟩⟩) fun B T => ?_
  kernel_rfl
/-- a pass from a lexer of netrc to another -/
def cPass2 (kt : KT) (p2 : P2) (x : Addr) (p0 : PS) (le : LE) (lf : Obj) (lfo : Value → Obj) (r : Nat) (tz : Tok) (us : List E) (un tn : Nat) (m : Int) (tk : Value) (fo : FOut) : Ct :=
  { code := .call (.ref 789) ⟨[.ref x, .ref p0.xT, .ref p0.xS, szV r tz], []⟩, need := (le.lL, lf) :: (p2.slots x (us.map ev) un ++ p0.tgt [] tn ++ p0.stk .none tk m []), k := 1, res := fun α _ _ => ret0 (.ref (α 0)),
    post := fun α τ ν => lfo (ν 0) :: (objs (p2.slots x [] (un + us.length)) ++ objs (p0.tgt (fullV fo) (fullN fo)) ++ objs (p0.stk .none (kS [] (τ 0)) (fo.m + fo.qs.length) [])),
    new := fun α _ _ => [lst (fullV fo) (ep1 (fullV fo))], D := 560, U := 7300, fr := some [le.env kt], raw := [true] }
theorem vPass2 (p2 : P2) (x : Addr) (p0 : PS) (le : LE) (lf : Obj) (lfo : Value → Obj) (r : Nat) (tz : Tok) (u : E) (us : List E) (un tn : Nat) (m : Int) (tk : Value) (fo : FOut) (hr : r ≤ 8) (hus : us.length = r)
    (hfo : (fullV fo).length ≤ 9)
    (hN : ∀ (p : PS) (dp : Data) m tk, Valid pw w (kt w.params) (cNextE (kt w.params) p le (frO dp #[]) lf lfo m tk))
    (hL : ∀ L hf tf it kv wdv topv t0, Valid pw w (kt w.params) (cL2 (kt w.params) ((p0.at L hf tf (szV r tz)).withSrc x) p2 it 1 r kv wdv topv us (un + 1) [] tn [u] (m + 1) t0 fo)) :
    Valid pw w (kt w.params) (cPass2 (kt w.params) p2 x p0 le lf lfo r tz (u :: us) un tn m tk fo) := by
  have hq : fo.qs.length ≤ 9 := by
    simp only [fullV, List.length_append, List.length_map] at hfo
    omega
  have ht : fo.tvs.length + fo.qs.length ≤ 1000 := by
    simp only [fullV, List.length_append, List.length_map] at hfo
    omega
  have e : un + (u :: us).length = un + 1 + r := by simp only [List.length_cons]; omega
  unfold cPass2
  rw [e]
  refine valid_of 600 (fun B T => hl [1579, 1577, 0, 0, 0, 0, 0, 0, 0, 0, 0, 0, 0, 0, 0, 5, 0, 7, 1, 0, 0, 0, 0, 0, 0, 0, 0, 0, 0, 0, 0, 0, 1] (.j (cRIter (B + 1) 0 (r + 1) (T + 4) tz (T + 5)) [0] fun α0 τ0 ν0 B0 T0 => hl [0, 0, 0] (.j (cRng (α0 0) 0 r) [0] fun α1 τ1 ν1 B1 T1 => hl [0, 4, 4, 4, 8, 1529, 1529, 1527, 8, 1529, 1529, 1527, 8, 1529, 1529, 1527, 1509, 8, 10, 1509] (.j (cNGet x p2.dU p2.pU p2.hU p2.tU p2.lnU p2.inU p2.wsU p2.eU un (us.map ev) (es u)) [4, 5, 6] fun α2 τ2 ν2 B2 T2 => hl [0, 4, 4, 4, 20, 1445, 1445, 1443, 20, 1445, 1445, 1443, 20, 1445, 1445, 1443, 1367, 20, 22, 1367] (.j (cSNone p0.xS p0.dS p0.q p0.hS p0.tS p0.vS .none tk p0.ins p0.fs p0.di p0.eS p0.nI m p0.mF) [10, 11, 12, 13, 14, 15] fun α3 τ3 ν3 B3 T3 => hl [0, 4, 4, 0, 4, 4, 4, 20, 1445, 1445, 1443, 20, 1445, 1445, 1443, 20, 1445, 1445, 1443, 1323, 20, 22, 4, 1323] (.j (cSPush p0.xS p0.dS p0.q p0.hS p0.tS p0.vS .none (kS [] (τ3 0)) p0.ins p0.fs p0.eS m [] (es u)) [10, 11, 12] fun α4 τ4 ν4 B4 T4 => hl [] (.j (cL2 (kt w.params) ((p0.at (B + 0) (hfP w.params passN) (ofL [T + 0, T + 1, T + 2, T + 3, T1 + 0, T2 + 0, T3 + 0]) (szV r tz)).withSrc x) p2 (α0 0) 1 r (.int ((0 : Nat) : Int) (τ1 0)) (ev u) .none us (un + 1) [] tn [u] (m + 1) (τ3 0) fo) [0, 2, 4, 5, 6, 7, 8, 9, 10, 11, 12, 13, 14, 15] fun α5 τ5 ν5 B5 T5 => hl [7, 1, 4] (.j (cListS (kt w.params) ((p0.at (B + 0) (hfP w.params passN) (ofL [T + 0, T + 1, T + 2, T + 3, T1 + 0, T2 + 0, T3 + 0]) (szV r tz)).withSrc x) le (((p0.at (B + 0) (hfP w.params passN) (ofL [T + 0, T + 1, T + 2, T + 3, T1 + 0, T2 + 0, T3 + 0]) (szV r tz)).withSrc x).fr (ν5 0) (ν5 1) (ν5 2)) lf lfo fo.m (kS [] (τ5 0)) fo.qs) [2, 3, 10, 11, 12, 13, 14, 15] fun α6 τ6 ν6 B6 T6 => hl [0, 0, 1, 0, 0, 0, 0] (.j (cF2 (kt w.params) (((p0.at (B + 0) (hfP w.params passN) (ofL [T + 0, T + 1, T + 2, T + 3, T1 + 0, T2 + 0, T3 + 0]) (szV r tz)).withSrc x).ready (kt w.params) le) (B6 + 0) (α6 0) fo.qs (2 + fo.qs.length) 0 (ν5 0) (ν5 1) (ν5 2) fo.tvs fo.tn (fullV fo) (fullN fo)) [0, 1, 4, 9, 10, 11] fun α7 τ7 ν7 B7 T7 => hl [7, 1, 8, 18, 1529, 1529, 1527, 0, 18, 1529, 1529, 1527, 18, 18, 1529, 20] (.j (cListL p0.pT (fullV fo) (fullN fo)) [11] fun α8 τ8 ν8 B8 T8 => hl [] (.fin (ofL [α8 0]) (ofL [τ6 0]) ν6 [0]))))))))))) (fun B T => good_hl _ ⟨vRIter _ _ _ _ _ _ (by omega) (by omega), fun _ _ _ _ _ => good_hl _ ⟨vRng _ _ _ (by omega), fun _ _ _ _ _ => good_hl _ ⟨vNGet _ _ _ _ _ _ _ _ _ _ _ _ (by simp; omega), fun _ _ _ _ _ => good_hl _ ⟨vSNone2 _ _ _ _ _ _ _ _ _ _ _ _ _ _, fun _ _ _ _ _ => good_hl _ ⟨vSPush _ _ _ _ _ _ _ _ _ _ _ _ _ _ (by simp), fun _ _ _ _ _ => good_hl _ ⟨hL _ _ _ _ _ _ _ _, fun _ _ _ _ _ => good_hl _ ⟨vListS _ _ _ _ _ _ _ _ hq (fun m tk => hN _ _ m tk), fun _ _ _ _ _ => good_hl _ ⟨vF2 _ _ _ _ _ _ _ [] _ _ _ ht, fun _ _ _ _ _ => good_hl _ ⟨vListL _ _ _ hfo, fun _ _ _ _ _ => good_hl _ trivial⟩⟩⟩⟩⟩⟩⟩⟩⟩) fun B T => ?_
  kernel_rfl
end
end Mine
/-! part C14 -/
set_option maxRecDepth 100000
set_option linter.unusedVariables false
namespace Mine
open PySem PySem.Spec PySem.Calls PyProof.Rows PySem.W PySem.W.X
def netN : List (List Nat) := [[108, 105, 110, 101, 110, 111], [105, 110, 115, 116, 114, 101, 97, 109], [119, 104, 105, 116, 101, 115, 112, 97, 99, 101], [112, 117, 115, 104, 98, 97, 99, 107]]
def strN : List (List Nat) := [[108, 105, 110, 101, 110, 111], [105, 110, 115, 116, 114, 101, 97, 109], [119, 104, 105, 116, 101, 115, 112, 97, 99, 101], [112, 117, 115, 104, 98, 97, 99, 107], [114, 101, 97, 100]]
def shN : List (List Nat) := [[105, 110, 115, 116, 114, 101, 97, 109], [105, 110, 102, 105, 108, 101], [112, 111, 115, 105, 120], [101, 111, 102], [99, 111, 109, 109, 101, 110, 116, 101, 114, 115], [119, 111, 114, 100, 99, 104, 97, 114, 115], [119, 104, 105, 116, 101, 115, 112, 97, 99, 101], [119, 104, 105, 116, 101, 115, 112, 97, 99, 101, 95, 115, 112, 108, 105, 116], [113, 117, 111, 116, 101, 115], [101, 115, 99, 97, 112, 101], [101, 115, 99, 97, 112, 101, 100, 113, 117, 111, 116, 101, 115], [115, 116, 97, 116, 101], [112, 117, 115, 104, 98, 97, 99, 107], [108, 105, 110, 101, 110, 111], [100, 101, 98, 117, 103], [116, 111, 107, 101, 110], [102, 105, 108, 101, 115, 116, 97, 99, 107], [115, 111, 117, 114, 99, 101], [95, 112, 117, 110, 99, 116, 117, 97, 116, 105, 111, 110, 95, 99, 104, 97, 114, 115], [], [], [], [], [], [], [], [], [], [], [], [95, 83, 116, 114, 105, 110, 103, 73, 79, 95, 95, 110, 101, 119, 108, 105, 110, 101], [95, 83, 116, 114, 105, 110, 103, 73, 79, 95, 95, 98, 117, 102], [95, 83, 116, 114, 105, 110, 103, 73, 79, 95, 95, 112, 111, 115]]
section
variable {w : World}
/-- a lexer of netrc is made -/
def cNet (P : Params) (v : Value) : Ct :=
  { code := .call (.ref 764) ⟨[v], []⟩, need := [], k := 3, res := fun α _ _ => ret0 (.ref (α 0)), post := fun _ _ _ => [], new := fun α τ _ => [inst 764 (α 1), netD (hfP P netN) τ (.int 1 (τ 4)) v (wsV (τ 5)) (.ref (α 2)) 4, lst [] 0], D := 800, U := 8500 }
theorem vNet0 : Valid pw w (kt w.params) (cNet w.params .none) := by
  refine valid_of 600 (fun B T => hl [1529, 1529, 0, 1529, 0, 1529, 1529, 1529, 0, 1529, 1529, 1529, 1529, 1529, 1529, 1529, 0, 1529, 1529, 1529, 1529, 1529, 1529, 1529, 1529, 1529, 1529, 1527, 1529, 1529, 0, 1529, 0, 1529, 1529, 1527, 1481, 0, 1481, 1479, 0, 0, 0, 0, 0, 0, 0, 5, 0, 0, 2, 1529, 1529, 1527, 0, 2, 1529, 0, 2, 1529, 2, 1529, 1529, 1527, 2, 1529, 0, 4, 4, 4, 0, 0, 2, 1529, 1529, 1527, 0, 2, 1529, 0, 2, 1529, 2, 1529, 1529, 1527, 2, 1529, 0, 4, 4, 4, 0, 2, 1529, 1529, 1527, 0, 2, 1529, 0, 2, 1529, 2, 1529, 1529, 1527, 2, 1529, 0, 4, 4, 4, 2, 4, 1529, 1529, 1527, 0, 4, 1529, 0, 4, 1529, 4, 1529, 1529, 1527, 4, 1529, 0, 6, 6, 6] (.fin (ofL [B + 1, B + 0, B + 3]) (ofL [(T + 4), (T + 6), (T + 9), (T + 11), (T + 2), (T + 7)]) (ofV []) [2, 3, 0])) (fun B T => good_hl _ trivial) fun B T => ?_
  kernel_rfl
theorem vNet1 (a : Addr) : Valid pw w (kt w.params) (cNet w.params (.ref a)) := by
  refine valid_of 600 (fun B T => hl [1529, 1529, 0, 1529, 0, 1529, 1529, 1529, 0, 1529, 1529, 1529, 1529, 1529, 1529, 1529, 0, 1529, 1529, 1529, 1529, 1529, 1529, 1529, 1529, 1529, 1529, 1527, 1529, 1529, 0, 1529, 0, 1529, 1529, 1527, 1481, 0, 1481, 1479, 0, 0, 0, 0, 0, 0, 0, 5, 0, 0, 2, 1529, 1529, 1527, 0, 2, 1529, 0, 2, 1529, 2, 1529, 1529, 1527, 2, 1529, 0, 4, 4, 4, 0, 0, 2, 1529, 1529, 1527, 0, 2, 1529, 0, 2, 1529, 2, 1529, 1529, 1527, 2, 1529, 0, 4, 4, 4, 0, 2, 1529, 1529, 1527, 0, 2, 1529, 0, 2, 1529, 2, 1529, 1529, 1527, 2, 1529, 0, 4, 4, 4, 2, 4, 1529, 1529, 1527, 0, 4, 1529, 0, 4, 1529, 4, 1529, 1529, 1527, 4, 1529, 0, 6, 6, 6] (.fin (ofL [B + 1, B + 0, B + 3]) (ofL [(T + 4), (T + 6), (T + 9), (T + 11), (T + 2), (T + 7)]) (ofV []) [2, 3, 0])) (fun B T => good_hl _ trivial) fun B T => ?_
  kernel_rfl
def tab0 (vs : List Value) : Obj := { cls := .none, data := .fields ⟨vs⟩ }
/-- the stream that hands out a text -/
def cStream (P : Params) (kt : KT) (txt : Str) (tt : Tok) : Ct :=
  { code := .call (.ref 782) ⟨[.str txt tt], []⟩, need := [(777, tab0 [])], k := 7, res := fun α _ _ => ret0 (.ref (α 0)), post := fun _ _ ν => [tab0 [ν 24, ν 25, ν 26]],
    new := fun α τ ν => [inst 764 (α 1), strD (hfP P strN) τ ν (α 2) 5, giveF kt (α 3) (α 4) (α 5) (ν 4) (ν 5), codeO (ν 6) (τ 5) [ν 7, ν 8, ν 9, ν 10, ν 11, ν 12, ν 13, ν 14, ν 15, ν 16, ν 17, ν 18, ν 19, ν 20, ν 21, ν 22, ν 23], cellO (.str txt tt), cellO (.ref (α 6)), lst [.int 0 (τ 6)] 0], D := 780, U := 8400 }
theorem vStream (txt : Str) (tt : Tok) : Valid pw w (kt w.params) (cStream w.params (kt w.params) txt tt) := by
  refine valid_of 600 (fun B T => hl [1565, 1563, 2, 2, 0, 5, 0, 2, 2, 7, 1529, 1529, 0, 1529, 1529, 0, 1529, 0, 1529, 1529, 1529, 0, 1529, 1529, 1529, 1529, 1529, 1529, 1529, 0, 1529, 1529, 1529, 1529, 1529, 1529, 1529, 1529, 1529, 1529, 1527, 1529, 1529, 0, 1529, 0, 1529, 1529, 1527, 1481, 0, 1481, 1479, 0, 0, 0, 0, 0, 0, 0, 5, 0, 0, 2, 1529, 1529, 1527, 0, 2, 1529, 0, 2, 1529, 2, 1529, 1529, 1527, 2, 1529, 0, 4, 4, 4, 0, 0, 2, 1529, 1529, 1527, 0, 2, 1529, 0, 2, 1529, 2, 1529, 1529, 1527, 2, 1529, 0, 4, 4, 4, 0, 2, 1529, 1529, 1527, 0, 2, 1529, 0, 2, 1529, 2, 1529, 1529, 1527, 2, 1529, 0, 4, 4, 4, 2, 4, 1529, 1529, 1527, 0, 4, 1529, 0, 4, 1529, 4, 1529, 1529, 1527, 4, 1529, 0, 6, 6, 6, 0, 14, 14, 1563, 18, 30, 30, 30, 7, 9, 7, 0, 30, 30, 30, 30, 20, 1529, 1529, 1527, 0, 20, 1529, 0, 20, 1529, 20, 1529, 1529, 1527, 20, 1529, 0, 22, 22, 22, 30] (.fin (ofL [B + 5, B + 4, B + 15, B + 14, B + 1, B + 2, B + 3]) (ofL [(T + 5), (T + 7), (T + 10), (T + 12), (T + 25), (T + 15), (T + 0)]) (ofV [(.int (1) (T + 3)), Value.none, (.str ⟨⟨[10, 9, 13, 32]⟩⟩ (T + 8)), (.ref (B + 7)), (.str ⟨⟨[108, 97, 119, 95, 105, 110, 48, 49, 51, 56, 95, 48, 49]⟩⟩ 1212), (.ref (B + 8)), (.str ⟨⟨[95, 108, 97, 119, 95, 103, 105, 118, 101]⟩⟩ (T + 14)), (.str ⟨⟨[47, 99, 108, 97, 105, 109, 47, 99, 117, 116, 46, 112, 121]⟩⟩ (T + 16)), (.int (776) 0), (.int (1) 0), (.int (0) 0), (.int (0) 0), (.int (19) 0), (.ref (B + 9)), (.bool true), (.int (273) 0), (.ref (B + 10)), Value.none, (.ref (B + 11)), (.ref (B + 12)), (.ref (B + 13)), (.int ((T + 21 : Nat) : Int) 0), (.int (776) 0), (.str ⟨⟨[47, 99, 108, 97, 105, 109, 47, 99, 117, 116, 46, 112, 121]⟩⟩ (T + 22)), (.int (776) 0), (.int (4) 0), (.ref (B + 14))]) [10, 11, 0, 1, 14, 13, 12])) (fun B T => good_hl _ trivial) fun B T => ?_
  kernel_rfl
/-- a posix lexer of shlex of the empty text is made -/
def cShl (P : Params) (ta : Tok) : Ct :=
  { code := .call (.ref 722) ⟨[.str ⟨⟨[]⟩⟩ ta, .none, .bool true], []⟩, need := [], k := 6, res := fun α _ _ => ret0 (.ref (α 0)), post := fun _ _ _ => [],
    new := fun α τ ν => [inst 722 (α 1), shD (hfP P shN) τ ν (kS [32] (τ 36)) (kS [] (τ 37)) (α 3) (α 2) (α 5) 19, deq 0 [], inst 587 (α 4), ioD (hfP P shN) τ ν 3, deq 0 []], D := 780, U := 8400 }
theorem vShl (ta : Tok) : Valid pw w (kt w.params) (cShl w.params ta) := by
  refine valid_of 2000 (fun B T => hl [1445, 1445, 0, 1445, 0, 1445, 1445, 1445, 0, 1445, 1445, 1445, 1445, 1445, 1445, 1445, 0, 1445, 1445, 1445, 1445, 1445, 1445, 1445, 1445, 1445, 1445, 1443, 1445, 1445, 0, 1445, 0, 1445, 1445, 1443, 1293, 0, 1293, 1291, 1279, 0, 0, 0, 0, 0, 0, 0, 0, 0, 0, 0, 0, 0, 0, 0, 0, 5, 0, 7, 1, 0, 7, 1, 0, 0, 0, 7, 0, 1175, 1175, 0, 1175, 1175, 0, 1175, 0, 1175, 1175, 1175, 1175, 0, 1175, 0, 5, 1175, 1175, 1175, 1173, 221, 219, 167, 165, 169, 169, 0, 169, 0, 169, 0, 161, 159, 0, 0, 0, 0, 0, 0, 0, 0, 0, 0, 5, 0, 0, 7, 1175, 681, 0, 7, 7, 1, 0, 0, 0, 0, 1175, 1175, 1175, 1175, 1175, 1175, 221, 221, 167, 167, 221, 221, 221, 167, 167, 167, 167, 167, 0, 1175, 1175, 1175, 1175, 1175, 221, 221, 167, 167, 221, 221, 221, 167, 167, 167, 167, 167, 1175, 1175, 0, 1175, 0, 1175, 1175, 1173, 715, 0, 715, 713, 701, 0, 0, 0, 0, 0, 0, 0, 0, 0, 0, 5, 0, 0, 7, 1, 0, 0, 0, 7, 1, 0, 0, 1, 0, 0, 0, 1, 0, 0, 0, 7, 1, 0, 0, 0, 7, 1, 0, 0, 2, 1175, 1175, 1173, 221, 219, 167, 165, 0, 2, 1175, 0, 2, 1175, 2, 1175, 1175, 1173, 221, 219, 167, 165, 2, 1175, 0, 4, 4, 4, 0, 2, 1175, 1175, 1173, 221, 219, 167, 165, 0, 2, 1175, 0, 2, 1175, 2, 1175, 1175, 1173, 221, 219, 167, 165, 2, 1175, 0, 4, 4, 4, 0, 2, 1175, 1175, 1173, 221, 219, 167, 165, 0, 2, 1175, 0, 2, 1175, 2, 1175, 1175, 1173, 221, 219, 167, 165, 2, 1175, 0, 4, 4, 4, 0, 0, 2, 1175, 1175, 1173, 221, 219, 167, 165, 2, 1175, 1175, 1173, 221, 219, 167, 165, 2, 1175, 1175, 1173, 729, 2, 4, 0, 729, 0, 729, 727, 0, 0, 0, 0, 0, 0, 0, 5, 0, 0, 4, 1175, 1175, 1173, 221, 219, 167, 165, 0, 4, 1175, 1175, 1173, 221, 219, 167, 165, 4, 4, 1175, 6, 0, 0, 0, 0, 0, 1, 0, 0, 0, 1, 0, 0, 0, 2, 4, 1175, 1175, 1173, 221, 219, 167, 165, 0, 4, 1175, 0, 4, 1175, 4, 1175, 1175, 1173, 221, 219, 167, 165, 4, 1175, 0, 6, 6, 6, 0, 14, 14, 14, 14, 14, 16, 1445, 1445, 1443, 0, 16, 1445, 0, 16, 1445, 16, 1445, 1445, 1443, 16, 1445, 0, 18, 18, 18, 14, 14, 16, 1445, 1445, 1443, 0, 16, 1445, 0, 16, 1445, 16, 1445, 1445, 1443, 16, 1445, 0, 18, 18, 18, 14, 14, 16, 1445, 1445, 1443, 0, 16, 1445, 0, 16, 1445, 16, 1445, 1445, 1443, 16, 1445, 0, 18, 18, 18, 14, 14, 16, 1445, 1445, 1443, 0, 16, 1445, 0, 16, 1445, 16, 1445, 1445, 1443, 16, 1445, 0, 18, 18, 18, 14, 16, 1445, 1445, 1443, 0, 16, 1445, 0, 16, 1445, 16, 1445, 1445, 1443, 16, 1445, 0, 18, 18, 18, 14, 16, 1445, 1445, 1443, 0, 16, 1445, 0, 16, 1445, 16, 1445, 1445, 1443, 16, 1445, 0, 18, 18, 18, 14, 16, 1445, 1445, 1443, 0, 16, 1445, 1445, 1443, 16, 16, 1445, 18, 14, 16, 1445, 1445, 1443, 0, 16, 1445, 1445, 1443, 16, 16, 1445, 18, 0, 0, 16, 1445, 1445, 1443, 0, 16, 1445, 0, 16, 1445, 16, 1445, 1445, 1443, 16, 1445, 0, 18, 18, 18, 14, 16, 1445, 1445, 1443, 0, 16, 1445, 0, 16, 1445, 16, 1445, 1445, 1443, 16, 1445, 0, 18, 18, 18, 14, 16, 1445, 1445, 1443, 0, 16, 1445, 0, 16, 1445, 16, 1445, 1445, 1443, 16, 1445, 0, 18, 18, 18, 14, 16, 1445, 1445, 1443, 0, 16, 1445, 0, 16, 1445, 16, 1445, 1445, 1443, 16, 1445, 0, 18, 18, 18, 14, 16, 1445, 1445, 1443, 0, 16, 1445, 0, 16, 1445, 16, 1445, 1445, 1443, 16, 1445, 0, 18, 18, 18, 14, 16, 1445, 1445, 1443, 0, 16, 1445, 0, 16, 1445, 16, 1445, 1445, 1443, 16, 1445, 0, 18, 18, 18, 14, 16, 1445, 1445, 1443, 0, 16, 1445, 0, 16, 1445, 16, 1445, 1445, 1443, 16, 1445, 0, 18, 18, 18, 7, 0, 0, 0, 0, 0, 0, 0, 0, 0, 0, 0, 0, 16, 18, 1445, 1445, 1443, 0, 18, 1445, 0, 18, 1445, 18, 1445, 1445, 1443, 18, 1445, 0, 20, 20, 20, 16, 18, 1445, 1445, 1443, 0, 18, 1445, 0, 18, 1445, 18, 1445, 1445, 1443, 18, 1445, 0, 20, 20, 20, 16, 18, 1445, 1445, 1443, 0, 18, 1445, 0, 18, 1445, 18, 1445, 1445, 1443, 18, 1445, 0, 20, 20, 20, 16, 18, 1445, 1445, 1443, 0, 18, 1445, 0, 18, 1445, 18, 1445, 1445, 1443, 18, 1445, 0, 20, 20, 20, 7, 0, 0, 0, 0, 0, 0, 0, 0, 0, 0, 0, 0, 18, 20, 1445, 1445, 1443, 0, 20, 1445, 0, 20, 1445, 20, 1445, 1445, 1443, 20, 1445, 0, 22, 22, 22, 18, 20, 1445, 1445, 1443, 0, 20, 1445, 0, 20, 1445, 20, 1445, 1445, 1443, 20, 1445, 0, 22, 22, 22, 18, 0, 18, 18, 18, 18, 20, 1445, 1445, 1443, 0, 20, 1445, 0, 20, 1445, 20, 1445, 1445, 1443, 20, 1445, 0, 22, 22, 22, 18, 0, 0, 0] (.fin (ofL [B + 1, B + 0, B + 10, B + 7, B + 6, B + 11]) (ofL [(T + 33), (T + 35), (T + 37), (T + 39), (T + 42), (T + 45), (T + 54), (T + 56), (T + 59), (T + 62), (T + 65), (T + 68), (T + 70), (T + 73), (T + 76), (T + 79), (T + 81), (T + 83), (T + 87), (T + 74), (T + 84), 0, 0, 0, 0, 0, 0, 0, 0, 0, (T + 16), (T + 19), (T + 22), 0, ta, (T + 20), (T + 66), (T + 77)]) (ofV [(.ref (B + 7)), Value.none, (.bool true), Value.none, (.str ⟨⟨[35]⟩⟩ (T + 40)), (.str ⟨⟨[97, 98, 99, 100, 102, 101, 103, 104, 105, 106, 107, 108, 109, 110, 111, 112, 113, 114, 115, 116, 117, 118, 119, 120, 121, 122, 65, 66, 67, 68, 69, 70, 71, 72, 73, 74, 75, 76, 77, 78, 79, 80, 81, 82, 83, 84, 85, 86, 87, 88, 89, 90, 48, 49, 50, 51, 52, 53, 54, 55, 56, 57, 95, 223, 224, 225, 226, 227, 228, 229, 230, 231, 232, 233, 234, 235, 236, 237, 238, 239, 240, 241, 242, 243, 244, 245, 246, 248, 249, 250, 251, 252, 253, 254, 255, 192, 193, 194, 195, 196, 197, 198, 199, 200, 201, 202, 203, 204, 205, 206, 207, 208, 209, 210, 211, 212, 213, 214, 216, 217, 218, 219, 220, 221, 222]⟩⟩ (T + 49)), (.str ⟨⟨[32, 9, 13, 10]⟩⟩ (T + 52)), (.bool false), (.str ⟨⟨[39, 34]⟩⟩ (T + 57)), (.str ⟨⟨[92]⟩⟩ (T + 60)), (.str ⟨⟨[34]⟩⟩ (T + 63)), (.str ⟨⟨[32]⟩⟩ (T + 66)), (.ref (B + 10)), (.int (1) (T + 71)), (.int (0) (T + 74)), (.str ⟨⟨[]⟩⟩ (T + 77)), (.ref (B + 11)), Value.none, (.str ⟨⟨[]⟩⟩ (T + 84)), Value.none, Value.none, Value.none, Value.none, Value.none, Value.none, Value.none, Value.none, Value.none, Value.none, Value.none, (.str ⟨⟨[10]⟩⟩ 671)]) [10, 11, 1, 4, 5, 0])) (fun B T => good_hl _ trivial) fun B T => ?_
  kernel_rfl
end
end Mine
/-! part Bi3 -/
set_option maxRecDepth 100000
set_option linter.unusedVariables false
namespace Mine
open PySem PySem.Spec PySem.Calls PyProof.Rows PySem.W PySem.W.X
section
variable {prog : Program} {w : World} {kt : KT}
/-- an item of a list -/
def cGet (a : Addr) (vs : List Value) (n : Nat) (k : Nat) (i : Int) (t : Tok) (v : Value) : Ct :=
  { code := .call (.builtin "list.__getitem__") ⟨[.ref a, .int i t], []⟩, need := [(a, lst vs n)], k := 0, res := fun _ _ _ => ret0 v, post := fun _ _ _ => [lst vs n], new := fun _ _ _ => [], D := 900, U := 9000 }
theorem vGet (a : Addr) (vs : List Value) (n k : Nat) (i : Int) (t : Tok) (v : Value) (hi : i = (k : Int)) (hk : k < 1000) (hv : vs[k]? = some v) : Valid prog w kt (cGet a vs n k i t v) := by
  intro A s R hA hD hU hF hB hown hnd hoff hfin
  have hl := hown (a, lst vs n) (.head _)
  refine codeAny_call_builtin slot_list_getitem.plain entry_list_getitem (slot_list_getitem.check _ _ _ _ _ _ _ _ ⟨_, hl, rfl⟩ (args_list_getitem _ _) ?_)
  show wpAny _ _ (Builtin.List.listSubscript? (.int i t) >>= _) _ _ s
  refine wpAny_bind (wpAny_listSubscript_int (fitsIndex_of (by omega) (by omega)) ?_)
  subst hi
  have hx' : (⟨vs⟩ : Array Value)[k]? = some v := by simpa using hv
  show wpAny _ _ ((seqItemAt a k >>= fun r => pure (r.map (k, ·))) >>= _) _ _ s
  refine wpAny_bind (wpAny_bind (wpAny_seqItemAt hl rfl (wpAny_pure ?_)))
  rw [hx']
  have done : R (.ok (.ret v)) s := hfin (fun _ => 0) (fun _ => 0) (fun _ => .none) s.heap s.toks (after_same rfl rfl hown)
  first
    | exact wpAny_bind (wpAny_pure (wpAny_pure done))
    | exact wpAny_pure (wpAny_pure done)
    | exact wpAny_pure done
def slO (vl vu : Value) : Obj := { cls := .type "slice", data := .fields ⟨[vl, vu, .none]⟩ }
/-- a slice of a list -/
def cSl (a sl : Addr) (vs : List Value) (n : Nat) (vl vu : Value) (out : List Value) : Ct :=
  { code := .call (.builtin "list.__getitem__") ⟨[.ref a, .ref sl], []⟩, need := [(a, lst vs n), (sl, slO vl vu)], k := 1, res := fun α _ _ => ret0 (.ref (α 0)), post := fun _ _ _ => [lst vs n, slO vl vu], new := fun _ _ _ => [lst out 0], D := 900, U := 9000 }
/-- nothing is turned, one object is new -/
theorem after_new {C : Ct} {h : Heap} {α : Nat → Addr} {τ : Nat → Tok} {ν : Nat → Value} {o : Obj} (hp : C.post α τ ν = objs C.need) (hn : C.new α τ ν = [o]) (hk : C.k = 1) (hα : α 0 = h.objs.size) (hown : ∀ p ∈ C.need, h.get? p.1 = some p.2) (ho : o.isFreed = false) : After C h (h.push o) α τ ν := by
  refine ⟨fun b o' e _ => Heap.get?_push_of_some _ e, by rw [Heap.size_push]; omega, by rw [hp, objs_eq, List.length_map]; exact Nat.le_refl _, fun p hpp => ?_, fun p hpp => ?_, ?_⟩
  · rw [hp, zip_objs] at hpp
    exact Heap.get?_push_of_some _ (hown p hpp)
  · rw [hn, hk] at hpp
    have z : p = (α 0, o) := by simpa [adrs, zipO] using hpp
    rw [z, hα]
    exact ⟨Heap.get?_push_size _ ho, Nat.le_refl _⟩
  · rw [hn, hk]; simp [adrs, zipO]
theorem vSl (a sl : Addr) (vs : List Value) (n : Nat) (vl vu : Value) (lo hi : Option Int) (out : List Value) (pl : IsPart vl lo) (pu : IsPart vu hi) (ho : slicePick ⟨vs⟩ lo hi none = ⟨out⟩) (hsz : vs.length ≤ 1000) : Valid prog w kt (cSl a sl vs n vl vu out) := by
  intro A s R hA hD hU hF hB hown hnd hoff hfin
  have hl := hown (a, lst vs n) (.head _)
  refine codeAny_call_builtin slot_list_getitem.plain entry_list_getitem (slot_list_getitem.check _ _ _ _ _ _ _ _ ⟨_, hl, rfl⟩ (args_list_getitem _ _) ?_)
  have hos := hown (sl, slO vl vu) (.tail _ (.head _))
  have hTs : s.TypeIs (.ref sl) "slice" := ⟨_, hos, rfl⟩
  show wpAny _ _ (Builtin.List.listSubscript? (.ref sl) >>= _) _ _ s
  refine wpAny_bind ?_
  unfold Builtin.List.listSubscript?
  refine wpAny_bind (wpAny_specialOf hTs slice_no_index ?_)
  simp only [Option.isNone_none, if_true]
  refine wpAny_pure ?_
  show wpAny _ _ (typeOf (.ref sl) >>= _) _ _ s
  refine wpAny_bind (wpAny_typeOf hTs ?_)
  rw [if_neg (by decide)]
  rw [listSliceParts_eq]
  have hstep : ¬ ((rawPart none == rawInt 0) = true) := Bool.false_ne_true
  refine wpAny_bind (wpAny_bind (wpAny_field hos rfl (x := .none) rfl (wpAny_bind (wpAny_listPart .none ?_))))
  rw [if_neg hstep]
  refine wpAny_bind (wpAny_field hos rfl (x := vl) rfl (wpAny_bind (wpAny_listPart pl ?_)))
  refine wpAny_bind (wpAny_field hos rfl (x := vu) rfl (wpAny_bind (wpAny_listPart pu (wpAny_pure ?_))))
  refine wpAny_bind (m := Builtin.List.listItems (.ref a)) ?_
  unfold Builtin.List.listItems
  refine wpAny_bind (wpAny_seqItems hl rfl (wpAny_pure ?_))
  refine wpAny_bind (wpAny_of_eq (sliceIndices_raw lo hi none (⟨vs⟩ : Array Value).size (by simp)) ?_)
  have hle : (⟨vs⟩ : Array Value).size ≤ sizeLine := Nat.le_trans hsz (by decide)
  refine wpAny_bind (wpAny_newObj_type (wpAny_pure ?_) (Nat.le_trans (slicePick_size_le ⟨vs⟩ lo hi none) hle))
  show R (.ok (.ret (.ref s.heap.objs.size))) { s with heap := s.heap.push { cls := .type "list", data := .seq (slicePick ⟨vs⟩ lo hi none) } }
  rw [ho]
  exact hfin (fun _ => s.heap.objs.size) (fun _ => 0) (fun _ => .none) _ _ (after_new (o := lst out 0) rfl rfl rfl rfl hown rfl)
end
end Mine
/-! part Bi4 -/
set_option maxRecDepth 100000
set_option linter.unusedVariables false
namespace Mine
open PySem PySem.Spec PySem.Calls PyProof.Rows PySem.W PySem.W.X
section
variable {prog : Program} {w : World} {kt : KT}
theorem foldl_cps : ∀ (r : List Str) (a : Array Nat), r.foldl (fun acc p => acc ++ (⟨⟨[]⟩⟩ : Str).cps ++ p.cps) a = ⟨a.toList ++ r.flatMap fun p => p.cps.toList⟩
  | [], a => by simp
  | x :: r, a => by
    rw [List.foldl_cons, foldl_cps r]
    apply Array.ext'
    simp
theorem glued_nil (l : List Str) : Builtin.Str.glued ⟨⟨[]⟩⟩ l = ⟨⟨l.flatMap fun p => p.cps.toList⟩⟩ := by
  unfold Builtin.Str.glued
  cases l with
  | nil => simp [Str.empty]
  | cons x r =>
    simp only [List.drop_succ_cons, List.drop_zero, List.headD_cons]
    rw [foldl_cps]
    simp
theorem foldl_len : ∀ (l : List Str) (k : Nat), l.foldl (fun n p => n + p.length + (⟨⟨[]⟩⟩ : Str).length) k = k + (l.flatMap fun p => p.cps.toList).length
  | [], k => by simp
  | x :: r, k => by
    rw [List.foldl_cons, foldl_len r]
    have e : x.length = x.cps.toList.length := by simp [Str.length]
    have z : (⟨⟨[]⟩⟩ : Str).length = 0 := rfl
    simp only [List.flatMap_cons, List.length_append]
    omega
def cJoin (a : Addr) (t : Tok) (xs : List (Str × Tok)) (n : Nat) : Ct :=
  { code := .call (.builtin "str.join") ⟨[.str ⟨⟨[]⟩⟩ t, .ref a], []⟩, need := [(a, lst (strValues xs) n)], k := 0, res := fun _ τ _ => ret0 (.str ⟨⟨(xs.map (·.1)).flatMap fun p => p.cps.toList⟩⟩ (τ 0)), post := fun _ _ _ => [lst (strValues xs) n], new := fun _ _ _ => [], D := 900, U := 9000 }
theorem vJoin (a : Addr) (t : Tok) (xs : List (Str × Tok)) (n : Nat) (hl : ((xs.map (·.1)).flatMap fun p => p.cps.toList).length ≤ 1000) : Valid prog w kt (cJoin a t xs n) := by
  have hfit : Builtin.Str.tooLong (((xs.map (·.1)).toArray).foldl (· + ·.length + (⟨⟨[]⟩⟩ : Str).length) 0) = false := by
    unfold Builtin.Str.tooLong
    have e : ((xs.map (·.1)).toArray).foldl (fun n p => n + p.length + (⟨⟨[]⟩⟩ : Str).length) 0 = ((xs.map (·.1)).flatMap fun p => p.cps.toList).length := by
      rw [List.foldl_toArray, foldl_len]; omega
    rw [e]
    have : sizeLine ≥ 1000 := by decide
    simp only [decide_eq_false_iff_not]
    omega
  have g := meets_str_join_list ⟨⟨[]⟩⟩ t a xs hfit
  refine valid_meets (C := cJoin a t xs n) F.slot_str_join F.entry_str_join (F.args_str_join_2 _ _) g rfl (fun s' _ => typeIs_str s' _ t) fun A R s hown hfin => ?_
  have hl' := hown (a, lst (strValues xs) n) (.head _)
  refine ⟨⟨_, hl', rfl, n, rfl⟩, ?_⟩
  match xs, hl, hfin, hown with
  | [p], hl, hfin, hown =>
    show R (.ok (.ret (.str p.1 p.2))) s
    have e : (⟨⟨([p].map (·.1)).flatMap fun p => p.cps.toList⟩⟩ : Str) = p.1 := by
      obtain ⟨⟨⟨l⟩⟩, tk⟩ := p
      simp
    have := hfin (fun _ => 0) (fun _ => p.2) (fun _ => .none) s.heap s.toks (after_same rfl rfl hown)
    simp only [cJoin] at this
    rw [e] at this
    exact this
  | [], hl, hfin, hown =>
    refine ⟨by rw [glued_nil]; exact Nat.zero_le _, ?_⟩
    rw [glued_nil]
    exact hfin (fun _ => 0) (fun _ => s.toks) (fun _ => .none) s.heap (s.toks + 1) (after_same rfl rfl hown)
  | p :: q :: r, hl, hfin, hown =>
    refine ⟨?_, ?_⟩
    · rw [glued_nil]
      exact Nat.le_trans hl (by decide)
    · rw [glued_nil]
      exact hfin (fun _ => 0) (fun _ => s.toks) (fun _ => .none) s.heap (s.toks + 1) (after_same rfl rfl hown)

/-! lists of words compared -/
theorem pl_inj {i j : Nat} (hi : i < 6) (hj : j < 6) (h : pl i = pl j) : i = j := by
  match i, j, hi, hj with
  | 0, 0, _, _ => rfl
  | 1, 1, _, _ => rfl
  | 2, 2, _, _ => rfl
  | 3, 3, _, _ => rfl
  | 4, 4, _, _ => rfl
  | 5, 5, _, _ => rfl
  | 0, 1, _, _ | 0, 2, _, _ | 0, 3, _, _ | 0, 4, _, _ | 0, 5, _, _ => exact absurd h (by decide)
  | 1, 0, _, _ | 1, 2, _, _ | 1, 3, _, _ | 1, 4, _, _ | 1, 5, _, _ => exact absurd h (by decide)
  | 2, 0, _, _ | 2, 1, _, _ | 2, 3, _, _ | 2, 4, _, _ | 2, 5, _, _ => exact absurd h (by decide)
  | 3, 0, _, _ | 3, 1, _, _ | 3, 2, _, _ | 3, 4, _, _ | 3, 5, _, _ => exact absurd h (by decide)
  | 4, 0, _, _ | 4, 1, _, _ | 4, 2, _, _ | 4, 3, _, _ | 4, 5, _, _ => exact absurd h (by decide)
  | 5, 0, _, _ | 5, 1, _, _ | 5, 2, _, _ | 5, 3, _, _ | 5, 4, _, _ => exact absurd h (by decide)
  | _ + 6, _, h, _ => exact absurd h (by omega)
  | _, _ + 6, _, h => exact absurd h (by omega)
theorem pl_beq {i j : Nat} (hi : i < 6) (hj : j < 6) : (pl i == pl j) = (i == j) := by
  by_cases h : i = j
  · subst h
    rw [beq_self_eq_true, beq_self_eq_true]
  · have : pl i ≠ pl j := fun e => h (pl_inj hi hj e)
    rw [beq_false_of_ne h, beq_false_of_ne this]
def rk (xs : List E) : List Nat := xs.map (·.1)
theorem eqAt_words {A : Around} {s : Shared} {xs ys : List E} (hx : ∀ e ∈ xs, e.1 < 6) (hy : ∀ e ∈ ys, e.1 < 6) (hl : xs.length = ys.length) :
    ∀ j (h1 : j < (⟨xs.map ev⟩ : Array Value).size) (h2 : j < (⟨ys.map ev⟩ : Array Value).size), SeqAt.EqAt A s (⟨xs.map ev⟩ : Array Value)[j] (⟨ys.map ev⟩ : Array Value)[j] ((rk xs).getD j 0 == (rk ys).getD j 0) := by
  intro j h1 h2
  have g1 : j < xs.length := by simpa using h1
  have g2 : j < ys.length := by simpa using h2
  have e1 : (⟨xs.map ev⟩ : Array Value)[j] = ev xs[j] := by simp
  have e2 : (⟨ys.map ev⟩ : Array Value)[j] = ev ys[j] := by simp
  rw [e1, e2]
  have r1 : (rk xs).getD j 0 = xs[j].1 := by simp [rk, g1]
  have r2 : (rk ys).getD j 0 = ys[j].1 := by simp [rk, g2]
  rw [r1, r2, ← pl_beq (hx _ (List.getElem_mem g1)) (hy _ (List.getElem_mem g2))]
  exact (eqGives_str _ _ _ _).at A s
theorem all_range_eq : ∀ (xs ys : List Nat), xs.length = ys.length → ((List.range xs.length).all fun j => xs.getD j 0 == ys.getD j 0) = (xs == ys)
  | [], [], _ => rfl
  | [], _ :: _, h => by simp at h
  | _ :: _, [], h => by simp at h
  | x :: xs, y :: ys, h => by
    have ih := all_range_eq xs ys (by simpa using h)
    rw [List.length_cons, List.range_succ_eq_map, List.all_cons, List.all_map]
    have : ((List.range xs.length).all ((fun j => (x :: xs).getD j 0 == (y :: ys).getD j 0) ∘ Nat.succ)) = (xs == ys) := by
      rw [← ih]; rfl
    rw [this]
    rfl
def cNeW (a b : Addr) (xs ys : List E) (n n2 : Nat) (β : Bool) : Ct :=
  { code := .call (.builtin "list.__ne__") ⟨[.ref a, .ref b], []⟩, need := [(a, lst (xs.map ev) n), (b, lst (ys.map ev) n2)], k := 0, res := fun _ _ _ => ret0 (.bool β), post := fun _ _ _ => [lst (xs.map ev) n, lst (ys.map ev) n2], new := fun _ _ _ => [], D := 900, U := 9000 }
theorem vNeW (a b : Addr) (xs ys : List E) (n n2 : Nat) (β : Bool) (hx : ∀ e ∈ xs, e.1 < 6) (hy : ∀ e ∈ ys, e.1 < 6) (hl : xs.length = ys.length) (hβ : (!(rk xs == rk ys)) = β) : Valid prog w kt (cNeW a b xs ys n n2 β) := by
  have hsz : (⟨xs.map ev⟩ : Array Value).size = (⟨ys.map ev⟩ : Array Value).size := by simpa using hl
  refine valid_meets (C := cNeW a b xs ys n n2 β) F.slot_list_ne F.entry_list_ne (F.args_list_ne_2 _ _) (SeqAt.list_neAt a b ⟨xs.map ev⟩ ⟨ys.map ev⟩ n n2 none none #[] #[] hsz fun j => (rk xs).getD j 0 == (rk ys).getD j 0) rfl (fun s h => lst_type (h _ (.head _))) fun A R s hown hfin => ?_
  refine ⟨hown _ (.head _), hown _ (.tail _ (.head _)), eqAt_words hx hy hl, ?_⟩
  have e : (List.range (⟨xs.map ev⟩ : Array Value).size).all (fun j => (rk xs).getD j 0 == (rk ys).getD j 0) = (rk xs == rk ys) := by
    rw [← all_range_eq _ _ (by simpa [rk] using hl)]
    simp [rk]
  rw [e, hβ]
  exact hfin (fun _ => 0) (fun _ => 0) (fun _ => .none) s.heap s.toks (after_same rfl rfl hown)
def cEqW (a b : Addr) (xs ys : List E) (n n2 : Nat) (β : Bool) : Ct :=
  { code := .call (.builtin "list.__eq__") ⟨[.ref a, .ref b], []⟩, need := [(a, lst (xs.map ev) n), (b, lst (ys.map ev) n2)], k := 0, res := fun _ _ _ => ret0 (.bool β), post := fun _ _ _ => [lst (xs.map ev) n, lst (ys.map ev) n2], new := fun _ _ _ => [], D := 900, U := 9000 }
theorem vEqW (a b : Addr) (xs ys : List E) (n n2 : Nat) (β : Bool) (hx : ∀ e ∈ xs, e.1 < 6) (hy : ∀ e ∈ ys, e.1 < 6) (hl : xs.length = ys.length) (hβ : (rk xs == rk ys) = β) : Valid prog w kt (cEqW a b xs ys n n2 β) := by
  have hsz : (⟨xs.map ev⟩ : Array Value).size = (⟨ys.map ev⟩ : Array Value).size := by simpa using hl
  refine valid_meets (C := cEqW a b xs ys n n2 β) F.slot_list_eq F.entry_list_eq (F.args_list_eq_2 _ _) (SeqAt.list_eqAt a b ⟨xs.map ev⟩ ⟨ys.map ev⟩ n n2 none none #[] #[] hsz fun j => (rk xs).getD j 0 == (rk ys).getD j 0) rfl (fun s h => lst_type (h _ (.head _))) fun A R s hown hfin => ?_
  refine ⟨hown _ (.head _), hown _ (.tail _ (.head _)), eqAt_words hx hy hl, ?_⟩
  have e : (List.range (⟨xs.map ev⟩ : Array Value).size).all (fun j => (rk xs).getD j 0 == (rk ys).getD j 0) = (rk xs == rk ys) := by
    rw [← all_range_eq _ _ (by simpa [rk] using hl)]
    simp [rk]
  rw [e, hβ]
  exact hfin (fun _ => 0) (fun _ => 0) (fun _ => .none) s.heap s.toks (after_same rfl rfl hown)
end
end Mine
/-! part Bi5 -/
set_option maxRecDepth 100000
set_option linter.unusedVariables false
namespace Mine
open PySem PySem.Spec PySem.Calls PyProof.Rows PySem.W PySem.W.X
open AutoSeq1 (wpAny_loadPart')
open MeetsSeq MeetsSeq2 MeetsSeq3 PySem.SeqAt
def lexLt : List Nat → List Nat → Bool
  | x :: xs, y :: ys => if x = y then lexLt xs ys else decide (x < y)
  | _, _ => false
theorem pl_lt {i j : Nat} (hi : i < 6) (hj : j < 6) : decide ((pl i).cps.toList < (pl j).cps.toList) = decide (i < j) := by
  match i, j, hi, hj with
  | 0, 0, _, _ | 0, 1, _, _ | 0, 2, _, _ | 0, 3, _, _ | 0, 4, _, _ | 0, 5, _, _ => decide +kernel
  | 1, 0, _, _ | 1, 1, _, _ | 1, 2, _, _ | 1, 3, _, _ | 1, 4, _, _ | 1, 5, _, _ => decide +kernel
  | 2, 0, _, _ | 2, 1, _, _ | 2, 2, _, _ | 2, 3, _, _ | 2, 4, _, _ | 2, 5, _, _ => decide +kernel
  | 3, 0, _, _ | 3, 1, _, _ | 3, 2, _, _ | 3, 3, _, _ | 3, 4, _, _ | 3, 5, _, _ => decide +kernel
  | 4, 0, _, _ | 4, 1, _, _ | 4, 2, _, _ | 4, 3, _, _ | 4, 4, _, _ | 4, 5, _, _ => decide +kernel
  | 5, 0, _, _ | 5, 1, _, _ | 5, 2, _, _ | 5, 3, _, _ | 5, 4, _, _ | 5, 5, _, _ => decide +kernel
  | _ + 6, _, h, _ => exact absurd h (by omega)
  | _, _ + 6, _, h => exact absurd h (by omega)
theorem drop_cons {α : Type} {l : List α} {i : Nat} (h : i < l.length) : l.drop i = l[i] :: l.drop (i + 1) := List.drop_eq_getElem_cons h
section
variable {prog : Program} {w : World} {kt : KT}
theorem lt_loop (l b : Addr) (xs ys : List E) (n n2 : Nat) (hx : ∀ e ∈ xs, e.1 < 6) (hy : ∀ e ∈ ys, e.1 < 6) (hlen : xs.length = ys.length) (k : Nat) :
    ∀ i : Nat, xs.length - i = k → Meets (Builtin.«list.__eq__.loop» ⟨[.ref l, .ref b, rawInt i, rawInt 0], []⟩)
      (fun A R s => s.heap.get? l = some (lst (xs.map ev) n) ∧ s.heap.get? b = some (lst (ys.map ev) n2) ∧ R (.ok (.ret (.bool (lexLt ((rk xs).drop i) ((rk ys).drop i))))) s) := by
  induction k with
  | zero =>
    intro i hk prog w A R s h
    obtain ⟨hp, g, d, tk, os⟩ := s; obtain ⟨hl, hb, h⟩ := h
    wp_walk using wpAny_loadPart' hl, wpAny_loadPart' hb
    have hi1 : (⟨xs.map ev⟩ : Array Value)[((i : Nat) : Int).toNat]? = none := by simp; omega
    have hi2 : (⟨ys.map ev⟩ : Array Value)[((i : Nat) : Int).toNat]? = none := by simp; omega
    have hd : (rk xs).drop i = [] := by simp [rk]; omega
    rw [hd] at h
    rw [hi1, hi2]
    wp_walk using wpAny_loadPart' hl, wpAny_loadPart' hb
    show R (.ok (.ret (.bool (decide ((⟨xs.map ev⟩ : Array Value).size < (⟨ys.map ev⟩ : Array Value).size))))) _
    have : decide ((⟨xs.map ev⟩ : Array Value).size < (⟨ys.map ev⟩ : Array Value).size) = false := by simp; omega
    rw [this]
    exact h
  | succ k ih =>
    intro i hk prog w A R s h
    obtain ⟨hp, g, d, tk, os⟩ := s; obtain ⟨hl, hb, h⟩ := h
    wp_walk using wpAny_loadPart' hl, wpAny_loadPart' hb
    have hlt : i < xs.length := by omega
    have hlt2 : i < ys.length := by omega
    have hi1 : (⟨xs.map ev⟩ : Array Value)[((i : Nat) : Int).toNat]? = some (ev xs[i]) := by simp [hlt]
    have hi2 : (⟨ys.map ev⟩ : Array Value)[((i : Nat) : Int).toNat]? = some (ev ys[i]) := by simp [hlt2]
    have hd1 : (rk xs).drop i = xs[i].1 :: (rk xs).drop (i + 1) := by
      rw [drop_cons (by simpa [rk] using hlt)]; simp [rk]
    have hd2 : (rk ys).drop i = ys[i].1 :: (rk ys).drop (i + 1) := by
      rw [drop_cons (by simpa [rk] using hlt2)]; simp [rk]
    have hc : ((i : Int) + 1) = ((i + 1 : Nat) : Int) := by push_cast; rfl
    have b1 := hx _ (List.getElem_mem hlt)
    have b2 := hy _ (List.getElem_mem hlt2)
    rw [hd1, hd2] at h
    rw [hi1, hi2]
    refine wpAny_bind (((eqGives_str (pl xs[i].1) (pl ys[i].1) xs[i].2 ys[i].2).at _ _) prog w _ _ ?_)
    rw [pl_beq b1 b2]
    by_cases e : xs[i].1 = ys[i].1
    · have h' : R (.ok (.ret (.bool (lexLt ((rk xs).drop (i + 1)) ((rk ys).drop (i + 1)))))) ⟨hp, g, d, tk, os⟩ := by simpa [lexLt, e] using h
      rw [beq_iff_eq.mpr e]
      wp_walk
      rw [hc]
      exact ⟨plainId_quiet plain_eq_loop _, codeAny_builtin entry_eq_loop (by
        rw [Around.under_plainId plain_eq_loop _]
        exact ih (i + 1) (by omega) prog w A R _ ⟨hl, hb, h'⟩)⟩
    · have h' : R (.ok (.ret (.bool (decide (xs[i].1 < ys[i].1))))) ⟨hp, g, d, tk, os⟩ := by simpa [lexLt, e] using h
      rw [beq_false_of_ne e]
      wp_walk using wpAny_loadPart' hl, wpAny_loadPart' hb
      rw [hi1, hi2]
      refine wpAny_bind (show wpAny _ _ (compareOp .Lt (ev xs[i]) (ev ys[i])) _ _ _ from lt_str ?_)
      rw [pl_lt b1 b2]
      wp_walk
      exact h'
theorem gt_loop (l b : Addr) (xs ys : List E) (n n2 : Nat) (hx : ∀ e ∈ xs, e.1 < 6) (hy : ∀ e ∈ ys, e.1 < 6) (hlen : xs.length = ys.length) (k : Nat) :
    ∀ i : Nat, xs.length - i = k → Meets (Builtin.«list.__eq__.loop» ⟨[.ref l, .ref b, rawInt i, rawInt 4], []⟩)
      (fun A R s => s.heap.get? l = some (lst (xs.map ev) n) ∧ s.heap.get? b = some (lst (ys.map ev) n2) ∧ R (.ok (.ret (.bool (lexLt ((rk ys).drop i) ((rk xs).drop i))))) s) := by
  induction k with
  | zero =>
    intro i hk prog w A R s h
    obtain ⟨hp, g, d, tk, os⟩ := s; obtain ⟨hl, hb, h⟩ := h
    wp_walk using wpAny_loadPart' hl, wpAny_loadPart' hb
    have hi1 : (⟨xs.map ev⟩ : Array Value)[((i : Nat) : Int).toNat]? = none := by simp; omega
    have hi2 : (⟨ys.map ev⟩ : Array Value)[((i : Nat) : Int).toNat]? = none := by simp; omega
    have hd : (rk ys).drop i = [] := by simp [rk]; omega
    rw [hd] at h
    rw [hi1, hi2]
    wp_walk using wpAny_loadPart' hl, wpAny_loadPart' hb
    show R (.ok (.ret (.bool (decide ((⟨xs.map ev⟩ : Array Value).size > (⟨ys.map ev⟩ : Array Value).size))))) _
    have : decide ((⟨xs.map ev⟩ : Array Value).size > (⟨ys.map ev⟩ : Array Value).size) = false := by simp; omega
    rw [this]
    exact h
  | succ k ih =>
    intro i hk prog w A R s h
    obtain ⟨hp, g, d, tk, os⟩ := s; obtain ⟨hl, hb, h⟩ := h
    wp_walk using wpAny_loadPart' hl, wpAny_loadPart' hb
    have hlt : i < xs.length := by omega
    have hlt2 : i < ys.length := by omega
    have hi1 : (⟨xs.map ev⟩ : Array Value)[((i : Nat) : Int).toNat]? = some (ev xs[i]) := by simp [hlt]
    have hi2 : (⟨ys.map ev⟩ : Array Value)[((i : Nat) : Int).toNat]? = some (ev ys[i]) := by simp [hlt2]
    have hd1 : (rk xs).drop i = xs[i].1 :: (rk xs).drop (i + 1) := by
      rw [drop_cons (by simpa [rk] using hlt)]; simp [rk]
    have hd2 : (rk ys).drop i = ys[i].1 :: (rk ys).drop (i + 1) := by
      rw [drop_cons (by simpa [rk] using hlt2)]; simp [rk]
    have hc : ((i : Int) + 1) = ((i + 1 : Nat) : Int) := by push_cast; rfl
    have b1 := hx _ (List.getElem_mem hlt)
    have b2 := hy _ (List.getElem_mem hlt2)
    rw [hd1, hd2] at h
    rw [hi1, hi2]
    refine wpAny_bind (((eqGives_str (pl xs[i].1) (pl ys[i].1) xs[i].2 ys[i].2).at _ _) prog w _ _ ?_)
    rw [pl_beq b1 b2]
    by_cases e : xs[i].1 = ys[i].1
    · have h' : R (.ok (.ret (.bool (lexLt ((rk ys).drop (i + 1)) ((rk xs).drop (i + 1)))))) ⟨hp, g, d, tk, os⟩ := by simpa [lexLt, e] using h
      rw [beq_iff_eq.mpr e]
      wp_walk
      rw [hc]
      exact ⟨plainId_quiet plain_eq_loop _, codeAny_builtin entry_eq_loop (by
        rw [Around.under_plainId plain_eq_loop _]
        exact ih (i + 1) (by omega) prog w A R _ ⟨hl, hb, h'⟩)⟩
    · have h' : R (.ok (.ret (.bool (decide (ys[i].1 < xs[i].1))))) ⟨hp, g, d, tk, os⟩ := by simpa [lexLt, Ne.symm e] using h
      rw [beq_false_of_ne e]
      wp_walk using wpAny_loadPart' hl, wpAny_loadPart' hb
      rw [hi1, hi2]
      refine wpAny_bind (show wpAny _ _ (compareOp .Gt (ev xs[i]) (ev ys[i])) _ _ _ from P.gt_str ?_)
      rw [pl_lt b2 b1]
      wp_walk
      exact h'
end
end Mine
/-! part Bi6 -/
set_option maxRecDepth 100000
set_option linter.unusedVariables false
namespace Mine
open PySem PySem.Spec PySem.Calls PyProof.Rows PySem.W PySem.W.X
open AutoSeq1 (wpAny_loadPart')
open MeetsSeq MeetsSeq2 MeetsSeq3 PySem.SeqAt
section
variable {prog : Program} {w : World} {kt : KT}
theorem list_lt_words (l b : Addr) (xs ys : List E) (n n2 : Nat) (hx : ∀ e ∈ xs, e.1 < 6) (hy : ∀ e ∈ ys, e.1 < 6) (hlen : xs.length = ys.length) :
    Meets (Builtin.«list.__lt__» ⟨[.ref l, .ref b], []⟩) (fun A R s => s.heap.get? l = some (lst (xs.map ev) n) ∧ s.heap.get? b = some (lst (ys.map ev) n2) ∧ R (.ok (.ret (.bool (lexLt (rk xs) (rk ys))))) s) := by
  intro prog w A R s h
  obtain ⟨hp, g, d, tk, os⟩ := s; obtain ⟨hl, hb, h⟩ := h
  have f3 := AutoSeq1.sub_list_list
  have hl' : hp.get? l = some { cls := .type "list", dict := none, data := .seq ⟨xs.map ev⟩ n, slots := #[] } := hl
  have hb' : hp.get? b = some { cls := .type "list", dict := none, data := .seq ⟨ys.map ev⟩ n2, slots := #[] } := hb
  wp_walk using wpAny_loadPart' hl', wpAny_loadPart' hb'
  exact ⟨plainId_quiet plain_eq_loop _, codeAny_builtin entry_eq_loop (by
    rw [Around.under_plainId plain_eq_loop _]
    exact lt_loop l b xs ys n n2 hx hy hlen _ 0 rfl prog w A R _ ⟨hl, hb, by simpa using h⟩)⟩
theorem list_gt_words (l b : Addr) (xs ys : List E) (n n2 : Nat) (hx : ∀ e ∈ xs, e.1 < 6) (hy : ∀ e ∈ ys, e.1 < 6) (hlen : xs.length = ys.length) :
    Meets (Builtin.«list.__gt__» ⟨[.ref l, .ref b], []⟩) (fun A R s => s.heap.get? l = some (lst (xs.map ev) n) ∧ s.heap.get? b = some (lst (ys.map ev) n2) ∧ R (.ok (.ret (.bool (lexLt (rk ys) (rk xs))))) s) := by
  intro prog w A R s h
  obtain ⟨hp, g, d, tk, os⟩ := s; obtain ⟨hl, hb, h⟩ := h
  have f3 := AutoSeq1.sub_list_list
  have hl' : hp.get? l = some { cls := .type "list", dict := none, data := .seq ⟨xs.map ev⟩ n, slots := #[] } := hl
  have hb' : hp.get? b = some { cls := .type "list", dict := none, data := .seq ⟨ys.map ev⟩ n2, slots := #[] } := hb
  wp_walk using wpAny_loadPart' hl', wpAny_loadPart' hb'
  exact ⟨plainId_quiet plain_eq_loop _, codeAny_builtin entry_eq_loop (by
    rw [Around.under_plainId plain_eq_loop _]
    exact gt_loop l b xs ys n n2 hx hy hlen _ 0 rfl prog w A R _ ⟨hl, hb, by simpa using h⟩)⟩
def cLtW (a b : Addr) (xs ys : List E) (n n2 : Nat) (β : Bool) : Ct :=
  { code := .call (.builtin "list.__lt__") ⟨[.ref a, .ref b], []⟩, need := [(a, lst (xs.map ev) n), (b, lst (ys.map ev) n2)], k := 0, res := fun _ _ _ => ret0 (.bool β), post := fun _ _ _ => [lst (xs.map ev) n, lst (ys.map ev) n2], new := fun _ _ _ => [], D := 800, U := 8500 }
theorem vLtW (a b : Addr) (xs ys : List E) (n n2 : Nat) (β : Bool) (hx : ∀ e ∈ xs, e.1 < 6) (hy : ∀ e ∈ ys, e.1 < 6) (hl : xs.length = ys.length) (hβ : lexLt (rk xs) (rk ys) = β) : Valid prog w kt (cLtW a b xs ys n n2 β) := by
  refine valid_meets (C := cLtW a b xs ys n n2 β) F.slot_list_lt F.entry_list_lt (F.args_list_lt_2 _ _) (list_lt_words a b xs ys n n2 hx hy hl) rfl (fun s h => lst_type (h _ (.head _))) fun A R s hown hfin => ?_
  refine ⟨hown _ (.head _), hown _ (.tail _ (.head _)), ?_⟩
  rw [hβ]
  exact hfin (fun _ => 0) (fun _ => 0) (fun _ => .none) s.heap s.toks (after_same rfl rfl hown)
def cGtW (a b : Addr) (xs ys : List E) (n n2 : Nat) (β : Bool) : Ct :=
  { code := .call (.builtin "list.__gt__") ⟨[.ref a, .ref b], []⟩, need := [(a, lst (xs.map ev) n), (b, lst (ys.map ev) n2)], k := 0, res := fun _ _ _ => ret0 (.bool β), post := fun _ _ _ => [lst (xs.map ev) n, lst (ys.map ev) n2], new := fun _ _ _ => [], D := 800, U := 8500 }
theorem vGtW (a b : Addr) (xs ys : List E) (n n2 : Nat) (β : Bool) (hx : ∀ e ∈ xs, e.1 < 6) (hy : ∀ e ∈ ys, e.1 < 6) (hl : xs.length = ys.length) (hβ : lexLt (rk ys) (rk xs) = β) : Valid prog w kt (cGtW a b xs ys n n2 β) := by
  refine valid_meets (C := cGtW a b xs ys n n2 β) F.slot_list_gt F.entry_list_gt (F.args_list_gt_2 _ _) (list_gt_words a b xs ys n n2 hx hy hl) rfl (fun s h => lst_type (h _ (.head _))) fun A R s hown hfin => ?_
  refine ⟨hown _ (.head _), hown _ (.tail _ (.head _)), ?_⟩
  rw [hβ]
  exact hfin (fun _ => 0) (fun _ => 0) (fun _ => .none) s.heap s.toks (after_same rfl rfl hown)
end

/-! sorted -/
def ins (x : Nat) : List Nat → List Nat
  | [] => [x]
  | y :: r => if x ≤ y then x :: y :: r else y :: ins x r
def srt : List Nat → List Nat
  | [] => []
  | x :: r => ins x (srt r)
theorem ins_perm (x : Nat) : ∀ l, (ins x l).Perm (x :: l)
  | [] => List.Perm.refl _
  | y :: r => by
    unfold ins
    split
    · exact List.Perm.refl _
    · exact ((ins_perm x r).cons y).trans (List.Perm.swap x y r)
theorem srt_perm : ∀ l, (srt l).Perm l
  | [] => List.Perm.refl _
  | x :: r => (ins_perm x (srt r)).trans ((srt_perm r).cons x)
theorem ins_sorted (x : Nat) : ∀ l : List Nat, l.Pairwise (· ≤ ·) → (ins x l).Pairwise (· ≤ ·)
  | [], _ => List.pairwise_singleton ..
  | y :: r, h => by
    have h' := List.pairwise_cons.mp h
    unfold ins
    split
    · rename_i hxy
      refine List.pairwise_cons.mpr ⟨fun z hz => ?_, h⟩
      rcases List.mem_cons.mp hz with rfl | hz
      · exact hxy
      · exact Nat.le_trans hxy (h'.1 z hz)
    · refine List.pairwise_cons.mpr ⟨fun z hz => ?_, ins_sorted x r h'.2⟩
      have := (ins_perm x r).mem_iff.mp hz
      rcases List.mem_cons.mp this with rfl | hz
      · omega
      · exact h'.1 z hz
theorem srt_sorted : ∀ l, (srt l).Pairwise (· ≤ ·)
  | [] => List.Pairwise.nil
  | x :: r => ins_sorted x _ (srt_sorted r)
theorem sorted_uniq : ∀ (a b : List Nat), a.Perm b → a.Pairwise (· ≤ ·) → b.Pairwise (· ≤ ·) → a = b
  | [], b, p, _, _ => p.symm.eq_nil.symm
  | x :: a, [], p, _, _ => absurd p.eq_nil (by simp)
  | x :: a, y :: b, p, ha, hb => by
    have ha' := List.pairwise_cons.mp ha
    have hb' := List.pairwise_cons.mp hb
    have h1 : x ≤ y := by
      rcases List.mem_cons.mp (p.mem_iff.mpr (List.mem_cons_self (a := y) (l := b))) with e | e
      · omega
      · exact ha'.1 y e
    have h2 : y ≤ x := by
      rcases List.mem_cons.mp (p.mem_iff.mp (List.mem_cons_self (a := x) (l := a))) with e | e
      · omega
      · exact hb'.1 x e
    have e : x = y := by omega
    subst e
    rw [sorted_uniq a b (List.Perm.cons_inv p) ha'.2 hb'.2]
def unpl (s : Str) : Nat := if s = pl 0 then 0 else if s = pl 1 then 1 else if s = pl 2 then 2 else if s = pl 3 then 3 else if s = pl 4 then 4 else 5
theorem unpl_pl {i : Nat} (h : i < 6) : unpl (pl i) = i := by
  match i, h with
  | 0, _ | 1, _ | 2, _ | 3, _ | 4, _ | 5, _ => decide +kernel
theorem strs_out {ss : List Str} {rs : List Nat} (hr : ∀ r ∈ rs, r < 6) (hp : ss.Perm (rs.map pl)) (hs : sortedS ss = true) : ss = (srt rs).map pl := by
  have e1 : ∀ s ∈ ss, pl (unpl s) = s := fun s hm => by
    obtain ⟨r, h1, h2⟩ := List.mem_map.mp (hp.mem_iff.mp hm)
    rw [← h2, unpl_pl (hr r h1)]
  have e2 : ss = (ss.map unpl).map pl := by
    rw [List.map_map]
    conv => lhs; rw [← List.map_id ss]
    exact List.map_congr_left fun s hm => (e1 s hm).symm
  have p2 : (ss.map unpl).Perm rs := by
    have := hp.map unpl
    rw [List.map_map] at this
    have e : rs.map (unpl ∘ pl) = rs := by
      conv => rhs; rw [← List.map_id rs]
      exact List.map_congr_left fun r hm => unpl_pl (hr r hm)
    rw [e] at this
    exact this
  have lt6 : ∀ r ∈ ss.map unpl, r < 6 := fun r hm => hr r (p2.mem_iff.mp hm)
  have srtd : (ss.map unpl).Pairwise (· ≤ ·) := by
    generalize ss.map unpl = qs at *
    rw [e2] at hs
    clear e1 e2 p2 hp
    have rise : ∀ (qs : List Nat) (q : Nat), q < 6 → (∀ r ∈ qs, r < 6) → risingS (pl q) (qs.map pl) = true → (q :: qs).Pairwise (· ≤ ·) := by
      intro qs
      induction qs with
      | nil => intro q _ _ _; exact List.pairwise_singleton ..
      | cons x r ih =>
        intro q hq h6 h
        have h' : (!ltCps (pl x).cps.toList (pl q).cps.toList && risingS (pl x) (r.map pl)) = true := h
        simp only [Bool.and_eq_true, Bool.not_eq_true'] at h'
        have hx := h6 x (.head _)
        have hqx : q ≤ x := by
          have := h'.1
          rw [ltCps_eq, pl_lt hx hq] at this
          have := of_decide_eq_false this
          omega
        have tl := ih x hx (fun r hr => h6 r (.tail _ hr)) h'.2
        refine List.pairwise_cons.mpr ⟨fun z hz => ?_, tl⟩
        rcases List.mem_cons.mp hz with rfl | hz
        · exact hqx
        · exact Nat.le_trans hqx ((List.pairwise_cons.mp tl).1 z hz)
    cases qs with
    | nil => exact List.Pairwise.nil
    | cons q qs => exact rise qs q (lt6 q (.head _)) (fun r hr => lt6 r (.tail _ hr)) hs
  rw [e2, sorted_uniq _ _ (p2.trans (srt_perm rs).symm) srtd (srt_sorted rs)]
theorem strs_wds : ∀ (rs : List Nat) (vs : List Value), StrsAre vs (rs.map pl) → ∃ τ : Nat → Nat, vs = (wds rs τ).map ev
  | [], vs, h => by
    cases h
    exact ⟨fun _ => 0, rfl⟩
  | r :: rs, vs, h => by
    cases h with
    | cons y t h =>
      obtain ⟨τ, e⟩ := strs_wds rs _ h
      exact ⟨consT t τ, by rw [e]; rfl⟩
theorem strs_of : ∀ xs : List E, StrsAre (xs.map ev) ((rk xs).map pl)
  | [] => .nil
  | x :: xs => .cons _ _ (strs_of xs)
section
variable {prog : Program} {w : World} {kt : KT}
def cSort (a : Addr) (xs : List E) (n : Nat) : Ct :=
  { code := .call (.builtin "sorted") ⟨[.ref a], []⟩, need := [(a, lst (xs.map ev) n)], k := 1, res := fun α _ _ => ret0 (.ref (α 0)), post := fun _ _ _ => [lst (xs.map ev) n], new := fun α τ _ => [lst ((wds (srt (rk xs)) τ).map ev) (α 1)], D := 800, U := 8500 }
theorem vSort (a : Addr) (xs : List E) (n : Nat) (hx : ∀ e ∈ xs, e.1 < 6) (hl : xs.length ≤ 9) : Valid prog w kt (cSort a xs n) := by
  intro A s R hA hD hU hF hB hown hnd hoff hfin
  have hown' := hown (a, lst (xs.map ev) n) (.head _)
  have hS := strs_of xs
  have hlist : s.heap.IsList a (xs.map ev).toArray := ⟨_, hown', rfl, n, rfl⟩
  refine codeAny_call_builtin plain_sorted entry_sorted ?_
  refine (show wpAny _ A.in1 (checkBuiltinCall "sorted" ⟨[.ref a], []⟩) _ _ s from ?_)
  have hbody : wpAny (model prog w) A.in1 (Builtin.«sorted» ⟨[.ref a], []⟩) (fun fin s' => match fin with | .done f => R (.ok f) s' | .again c' => c'.quiet = true ∧ codeAny (model prog w) A c' R s') (fun e s' => R (.error e) s') s := by
    unfold Builtin.«sorted»
    refine wpAny_bind (m := checkCount "sorted" 1 1 _) (wpAny_pure ?_)
    refine wpAny_bind (collect_list hlist ?_ (Nat.le_trans (by simpa using hl) (by decide)))
    refine wpAny_bind (wpAny_newList ?_)
    have hsz : ((s.heap.push (seqObj "list" #[] 0)).update s.heap.objs.size (Obj.mapSeq (· ++ (xs.map ev).toArray))).objs.size = s.heap.objs.size + 1 := by
      rw [Heap.size_update, size_push']
    have hoL : (((s.heap.push (seqObj "list" #[] 0)).update s.heap.objs.size (Obj.mapSeq (· ++ (xs.map ev).toArray))).push (seqObj "list" (xs.map ev).toArray 0)).get? (s.heap.objs.size + 1) = some (seqObj "list" (xs.map ev).toArray 0) := by
      rw [← hsz]; exact Heap.get?_push_size _ rfl
    show wpAny _ _ _ _ _ { s with heap := ((s.heap.push (seqObj "list" #[] 0)).update s.heap.objs.size (Obj.mapSeq (· ++ (xs.map ev).toArray))).push (seqObj "list" (xs.map ev).toArray 0) }
    rw [hsz]
    refine wpAny_bind (wpAny_holding (wpAny_call_entry slot_list_sort ⟨_, hoL, rfl⟩ entry_list_sort (list_sort_treeK strKind_oneLt hoL hS.keysOf (fun v₁ v₂ rest e => keyKind_strs (by rw [← e]; exact hS)) (by simp; omega) fun st' hp hs => ⟨_, rfl, ?_⟩) (args_list_sort _)))
    refine wpAny_pure ?_
    obtain ⟨ss', h1, h2, h3⟩ := sorted_out_str hS hp hs
    have e := strs_out (fun r hr => by obtain ⟨x, hx1, hx2⟩ := List.mem_map.mp hr; rw [← hx2]; exact hx x hx1) h2 h3
    rw [e] at h1
    obtain ⟨τ, e2⟩ := strs_wds _ _ h1
    obtain ⟨ep, hat⟩ := sortedAll_at s.heap (xs.map ev) ((arrOf st').map (·.2))
    show R (.ok (.ret (.ref (s.heap.objs.size + 1)))) { s with heap := sortedAll s.heap (xs.map ev) ((arrOf st').map (·.2)) }
    refine hfin (fun i => match i with | 0 => s.heap.objs.size + 1 | _ => ep) τ (fun _ => .none) _ s.toks ⟨fun b o e _ => sortedAll_old e, ?_, Nat.le_refl _, fun p hpp => ?_, fun p hpp => ?_, ?_⟩
    · show s.heap.objs.size ≤ (sortedAll s.heap (xs.map ev) ((arrOf st').map (·.2))).objs.size
      unfold sortedAll sortedHeap
      simp only [Heap.size_update, size_push']
      omega
    · have z : p = (a, lst (xs.map ev) n) := by simpa [cSort, zipO] using hpp
      rw [z]
      exact sortedAll_old hown'
    · have z : p = (s.heap.objs.size + 1, lst ((wds (srt (rk xs)) τ).map ev) ep) := by simpa [cSort, zipO, adrs] using hpp
      rw [z]
      refine ⟨?_, Nat.le_succ _⟩
      rw [← e2]
      exact hat
    · simp [cSort, zipO, adrs]
  simp only [checkBuiltinCall, kind_sorted]
  have ha := args_sorted1 (.ref a)
  cases hsig : Manifest.signature? "sorted" with
  | none => exact wpAny_pure hbody
  | some sig =>
    simp only [argsOk, hsig] at ha
    have h2 : Bind.checkArgs "sorted" sig ⟨[.ref a], []⟩ = pure () := ha
    show wpAny _ A.in1 (Bind.checkArgs "sorted" sig ⟨[.ref a], []⟩) _ _ s
    rw [h2]; exact wpAny_pure hbody
end
end Mine
/-! part C15 -/
set_option maxRecDepth 100000
set_option linter.unusedVariables false
namespace Mine
open PySem PySem.Spec PySem.Calls PyProof.Rows PySem.W PySem.W.X
/-- a rank as a whole number -/
def iv (e : E) : Value := .int (e.1 : Int) e.2
section
variable {w : World}
def cIc (nm : String) (a b : Int) (t u : Tok) (β : Bool) : Ct :=
  { code := .call (.builtin nm) ⟨[.int a t, .int b u], []⟩, need := [], k := 0, res := fun _ _ _ => ret0 (.bool β), post := fun _ _ _ => [], new := fun _ _ _ => [], D := 900, U := 9000 }
theorem vILt (a b : Int) (t u : Tok) (β : Bool) (h : decide (a < b) = β) : Valid pw w (kt w.params) (cIc "int.__lt__" a b t u β) := by
  subst h
  refine valid_of 10 (fun B T => hl [0] (.fin (ofL []) (ofL []) (ofV []) [])) (fun B T => good_hl _ trivial) fun B T => ?_
  kernel_rfl
theorem vILe (a b : Int) (t u : Tok) (β : Bool) (h : decide (a ≤ b) = β) : Valid pw w (kt w.params) (cIc "int.__le__" a b t u β) := by
  subst h
  refine valid_of 10 (fun B T => hl [0] (.fin (ofL []) (ofL []) (ofV []) [])) (fun B T => good_hl _ trivial) fun B T => ?_
  kernel_rfl
theorem vIGt (a b : Int) (t u : Tok) (β : Bool) (h : decide (b < a) = β) : Valid pw w (kt w.params) (cIc "int.__gt__" a b t u β) := by
  subst h
  refine valid_of 10 (fun B T => hl [0] (.fin (ofL []) (ofL []) (ofV []) [])) (fun B T => good_hl _ trivial) fun B T => ?_
  kernel_rfl
theorem vIEq (a b : Int) (t u : Tok) (β : Bool) (h : (a == b) = β) : Valid pw w (kt w.params) (cIc "int.__eq__" a b t u β) := by
  subst h
  refine valid_of 10 (fun B T => hl [0] (.fin (ofL []) (ofL []) (ofV []) [])) (fun B T => good_hl _ trivial) fun B T => ?_
  kernel_rfl
def cMod (x d : Int) (t u : Tok) (r : Nat) : Ct :=
  { code := .call (.builtin "int.__mod__") ⟨[.int x t, .int d u], []⟩, need := [], k := 0, res := fun _ τ _ => ret0 (.int (r : Int) (τ 0)), post := fun _ _ _ => [], new := fun _ _ _ => [], D := 900, U := 9000 }
theorem vMod12 (x : Int) (t u : Tok) (r : Nat) (h : x.fmod 12 = (r : Int)) : Valid pw w (kt w.params) (cMod x 12 t u r) := by
  unfold cMod
  rw [← h]
  refine valid_of 10 (fun B T => hl [0] (.fin (ofL []) (ofL [T + 0]) (ofV []) [])) (fun B T => good_hl _ trivial) fun B T => ?_
  kernel_rfl
theorem vMod6 (x : Int) (t u : Tok) (r : Nat) (h : x.fmod 6 = (r : Int)) : Valid pw w (kt w.params) (cMod x 6 t u r) := by
  unfold cMod
  rw [← h]
  refine valid_of 10 (fun B T => hl [0] (.fin (ofL []) (ofL [T + 0]) (ofV []) [])) (fun B T => good_hl _ trivial) fun B T => ?_
  kernel_rfl
/-- the greatest, the first of those -/
def maxE : E → List E → E
  | e, [] => e
  | e, x :: r => if e.1 < x.1 then maxE x r else maxE e r
def cMxL (it l b : Addr) (xs : List E) (n i : Nat) (e : E) (bn : Nat) (r : E) : Ct :=
  { code := .builtin "max.loop" ⟨[.ref it, .none, .ref b], []⟩, need := [(it, itO (.ref l) (i : Int)), (l, lst (xs.map iv) n), (b, lst [iv e, iv e] bn)], k := 0, res := fun _ _ _ => ret0 (iv r),
    post := fun _ _ _ => [itO .none (xs.length : Int), lst (xs.map iv) n, lst [] (bn + 1)], new := fun _ _ _ => [], D := 760, U := 8100 }
def cMx1 (it l b : Addr) (xs : List E) (n : Nat) (r : E) : Ct :=
  { code := .builtin "max.loop" ⟨[.ref it, .none, .ref b], []⟩, need := [(it, itO (.ref l) 0), (l, lst (xs.map iv) n), (b, lst [] 0)], k := 0, res := fun _ _ _ => ret0 (iv r),
    post := fun _ _ _ => [itO .none (xs.length : Int), lst (xs.map iv) n, lst [] 2], new := fun _ _ _ => [], D := 755, U := 8050 }
theorem vMxE (it l b : Addr) (xs : List E) (n : Nat) (e : E) (bn : Nat) : Valid pw w (kt w.params) (cMxL it l b xs n xs.length e bn e) := by
  refine valid_of 60 (fun B T => hl [4, 0] (.j (cLEnd it l (xs.map iv) n xs.length) [0, 1] fun α0 τ0 ν0 B0 T0 => hl [0, 6, 6, 6] (.fin (ofL []) (ofL []) (ofV []) []))) (fun B T => good_hl _ ⟨vLEnd _ _ _ _ _ (by simp), fun _ _ _ _ _ => good_hl _ trivial⟩) fun B T => ?_
  kernel_rfl
theorem vMxG (it l b : Addr) (xs : List E) (n i : Nat) (e x : E) (bn : Nat) (r : E) (hx : xs[i]? = some x) (h : e.1 < x.1) (ih : Valid pw w (kt w.params) (cMxL it l b xs n (i + 1) x bn r)) : Valid pw w (kt w.params) (cMxL it l b xs n i e bn r) := by
  refine valid_of 60 (fun B T => hl [4, 0] (.j (cLNext it l (xs.map iv) n i (iv x)) [0, 1] fun α0 τ0 ν0 B0 T0 => hl [1] (.j (cIc "int.__gt__" (x.1 : Int) (e.1 : Int) x.2 e.2 true) [] fun α1 τ1 ν1 B1 T1 => hl [4, 4, 4] (.j (cMxL it l b xs n (i + 1) x bn r) [0, 1, 2] fun α2 τ2 ν2 B2 T2 => hl [] (.fin (ofL []) (ofL []) (ofV []) []))))) (fun B T => good_hl _ ⟨vLNext _ _ _ _ _ _ (by simp [hx]), fun _ _ _ _ _ => good_hl _ ⟨vIGt _ _ _ _ _ (by simp; omega), fun _ _ _ _ _ => good_hl _ ⟨ih, fun _ _ _ _ _ => good_hl _ trivial⟩⟩⟩) fun B T => ?_
  kernel_rfl
theorem vMxN (it l b : Addr) (xs : List E) (n i : Nat) (e x : E) (bn : Nat) (r : E) (hx : xs[i]? = some x) (h : ¬ e.1 < x.1) (ih : Valid pw w (kt w.params) (cMxL it l b xs n (i + 1) e bn r)) : Valid pw w (kt w.params) (cMxL it l b xs n i e bn r) := by
  refine valid_of 60 (fun B T => hl [4, 0] (.j (cLNext it l (xs.map iv) n i (iv x)) [0, 1] fun α0 τ0 ν0 B0 T0 => hl [1] (.j (cIc "int.__gt__" (x.1 : Int) (e.1 : Int) x.2 e.2 false) [] fun α1 τ1 ν1 B1 T1 => hl [] (.j (cMxL it l b xs n (i + 1) e bn r) [0, 1, 2] fun α2 τ2 ν2 B2 T2 => hl [] (.fin (ofL []) (ofL []) (ofV []) []))))) (fun B T => good_hl _ ⟨vLNext _ _ _ _ _ _ (by simp [hx]), fun _ _ _ _ _ => good_hl _ ⟨vIGt _ _ _ _ _ (by simp; omega), fun _ _ _ _ _ => good_hl _ ⟨ih, fun _ _ _ _ _ => good_hl _ trivial⟩⟩⟩) fun B T => ?_
  kernel_rfl
theorem vMxL (it l b : Addr) (n bn : Nat) : ∀ (r pre : List E) (e : E), Valid pw w (kt w.params) (cMxL it l b (pre ++ r) n pre.length e bn (maxE e r))
  | [], pre, e => by
    have e2 : pre ++ [] = pre := by simp
    rw [e2]
    exact vMxE it l b pre n e bn
  | x :: r, pre, e => by
    have e4 : pre ++ x :: r = (pre ++ [x]) ++ r := by simp
    have e5 : pre.length + 1 = (pre ++ [x]).length := by simp
    unfold maxE
    by_cases h : e.1 < x.1
    · rw [if_pos h]
      refine vMxG it l b _ n _ e x bn _ (by simp) h ?_
      rw [e4, e5]
      exact vMxL it l b n bn r (pre ++ [x]) x
    · rw [if_neg h]
      refine vMxN it l b _ n _ e x bn _ (by simp) h ?_
      rw [e4, e5]
      exact vMxL it l b n bn r (pre ++ [x]) e
theorem vMx1 (it l b : Addr) (n : Nat) (x : E) (r : List E) : Valid pw w (kt w.params) (cMx1 it l b (x :: r) n (maxE x r)) := by
  have ih : Valid pw w (kt w.params) (cMxL it l b (x :: r) n (0 + 1) x 1 (maxE x r)) := vMxL it l b n 1 r [x] x
  generalize maxE x r = r' at *
  generalize hx : (x :: r) = xs at *
  have hx0 : xs[0]? = some x := by rw [← hx]; rfl
  have run : ∀ i : Nat, i = 0 → Valid pw w (kt w.params) (cMxL it l b xs n (i + 1) x 1 r') → Valid pw w (kt w.params) (cMx1 it l b xs n r') := by
    intro i hi ih
    subst hi
    let i := 0
    let r := r'
    refine valid_of 60 (fun B T => hl [4, 0] (.j (cLNext it l (xs.map iv) n i (iv x)) [0, 1] fun α0 τ0 ν0 B0 T0 => hl [4, 4, 4] (.j (cMxL it l b xs n (i + 1) x 1 r) [0, 1, 2] fun α1 τ1 ν1 B1 T1 => hl [] (.fin (ofL []) (ofL []) (ofV []) [])))) (fun B T => good_hl _ ⟨vLNext _ _ _ _ _ _ (by show (xs.map iv)[0]? = some (iv x); rw [List.getElem?_map, hx0]; rfl), fun _ _ _ _ _ => good_hl _ ⟨ih, fun _ _ _ _ _ => good_hl _ trivial⟩⟩) fun B T => ?_
    kernel_rfl
  exact run 0 rfl ih
def cMax (l : Addr) (xs : List E) (n : Nat) (r : E) : Ct :=
  { code := .call (.builtin "max") ⟨[.ref l], []⟩, need := [(l, lst (xs.map iv) n)], k := 0, res := fun _ _ _ => ret0 (iv r), post := fun _ _ _ => [lst (xs.map iv) n], new := fun _ _ _ => [], D := 740, U := 7900 }
theorem vMax (l : Addr) (x : E) (rs : List E) (n : Nat) : Valid pw w (kt w.params) (cMax l (x :: rs) n (maxE x rs)) := by
  have run : ∀ xs r, (∀ it b, Valid pw w (kt w.params) (cMx1 it l b xs n r)) → Valid pw w (kt w.params) (cMax l xs n r) := by
    intro xs r h
    refine valid_of 60 (fun B T => hl [0, 0, 0, 1, 0, 0, 0, 0] (.j (cMx1 (B + 0) l (B + 1) xs n r) [1, 2, 0] fun α0 τ0 ν0 B0 T0 => hl [] (.fin (ofL []) (ofL []) (ofV []) []))) (fun B T => good_hl _ ⟨h _ _, fun _ _ _ _ _ => good_hl _ trivial⟩) fun B T => ?_
    kernel_rfl
  exact run _ _ fun it b => vMx1 it l b n x rs
end
end Mine
/-! part C16 -/
set_option maxRecDepth 100000
set_option linter.unusedVariables false
namespace Mine
open PySem PySem.Spec PySem.Calls PyProof.Rows PySem.W PySem.W.X
/-- the greatest, over ranks -/
def mxN : Nat → List Nat → Nat
  | m, [] => m
  | m, x :: r => if m < x then mxN x r else mxN m r
theorem maxE_rk : ∀ (r : List E) (e : E), (maxE e r).1 = mxN e.1 (rk r)
  | [], e => rfl
  | x :: r, e => by
    unfold maxE mxN
    show _ = if e.1 < x.1 then mxN x.1 (rk r) else mxN e.1 (rk r)
    split
    · exact maxE_rk r x
    · exact maxE_rk r e
def seg {α : Type} (l : List α) (a b : Nat) : List α := (l.drop a).take (b - a)
def segMax (l : List Nat) (a b : Nat) : Nat := match seg l a b with
  | [] => 0
  | x :: r => mxN x r
theorem seg_rk (xs : List E) (a b : Nat) : rk (seg xs a b) = seg (rk xs) a b := by simp [seg, rk, List.map_take, List.map_drop]
theorem seg_cons {α : Type} (l : List α) (a b : Nat) (x : α) (hx : l[a]? = some x) (h : a < b) : seg l a b = x :: seg l (a + 1) b := by
  have hl : a < l.length := (List.getElem?_eq_some_iff.mp hx).1
  have e : l[a] = x := (List.getElem?_eq_some_iff.mp hx).2
  unfold seg
  rw [List.drop_eq_getElem_cons hl, show b - a = (b - (a + 1)) + 1 by omega, List.take_succ_cons, e]
theorem pick_seg (xs : List E) (a b : Nat) (h : a ≤ b) (hb : b ≤ xs.length) : slicePick ⟨xs.map iv⟩ (some (a : Int)) (some (b : Int)) none = ⟨(seg xs a b).map iv⟩ := by
  rw [slicePick_run ⟨xs.map iv⟩ a b (by simpa using hb) h]
  simp [seg, List.map_take, List.map_drop]
/-! frames -/
def fze (hf : Nat → Int) (tf : Nat → Tok) : Nat → List (List Nat) → List Value → List DictEntry
  | _, [], _ => []
  | i, nm :: ns, vs => match vs with
    | [] => []
    | v :: vs => ⟨hf i, kS nm (tf i), v⟩ :: fze hf tf (i + 1) ns vs
def frD (hf : Nat → Int) (tf : Nat → Tok) (ns : List (List Nat)) (vs : List Value) (n : Nat) (sl : Array (Option Value)) : Obj := ⟨.type "frame", none, .dict ⟨fze hf tf 0 ns vs⟩ n, sl⟩
def setT (tf : Nat → Nat) (k t : Nat) : Nat → Nat := fun i => match Nat.beq i k with | true => t | false => tf i
section
variable {w : World}
def cStay (f : Nat) (rl : Addr) (xs : List E) (n i j : Nat) (ti tj : Tok) (β : Bool) : Ct :=
  { code := .call (.ref f) ⟨[.ref rl, .int (i : Int) ti, .int (j : Int) tj], []⟩, need := [(rl, lst (xs.map iv) n)], k := 0, res := fun _ _ _ => ret0 (.bool β), post := fun _ _ _ => [lst (xs.map iv) n], new := fun _ _ _ => [], D := 660, U := 7450 }
theorem vOnceA (rl : Addr) (xs : List E) (n i j : Nat) (ti tj : Tok) (a b : E) (ha : xs[i]? = some a) (hb : xs[j]? = some b) (hln : xs.length ≤ 9) (h : a.1 ≤ b.1) : Valid pw w (kt w.params) (cStay 796 rl xs n i j ti tj true) := by
  have hi : i < xs.length := (List.getElem?_eq_some_iff.mp ha).1
  have hj : j < xs.length := (List.getElem?_eq_some_iff.mp hb).1
  refine valid_of 200 (fun B T => hl [1593, 1591, 0, 0, 0, 0, 0, 0, 0, 0, 0, 0, 5, 0, 0, 0, 2, 2, 2] (.j (cGet rl (xs.map iv) n i (i : Int) ti (iv a)) [1] fun α0 τ0 ν0 B0 T0 => hl [0, 0, 2, 2, 2] (.j (cGet rl (xs.map iv) n j (j : Int) tj (iv b)) [1] fun α1 τ1 ν1 B1 T1 => hl [1] (.j (cIc "int.__le__" (a.1 : Int) (b.1 : Int) a.2 b.2 true) [] fun α2 τ2 ν2 B2 T2 => hl [] (.fin (ofL []) (ofL []) (ofV []) []))))) (fun B T => good_hl _ ⟨vGet _ _ _ _ _ _ _ rfl (by omega) (by simp [ha]), fun _ _ _ _ _ => good_hl _ ⟨vGet _ _ _ _ _ _ _ rfl (by omega) (by simp [hb]), fun _ _ _ _ _ => good_hl _ ⟨vILe _ _ _ _ _ (by simp; omega), fun _ _ _ _ _ => good_hl _ trivial⟩⟩⟩) fun B T => ?_
  kernel_rfl
theorem vOnceB (rl : Addr) (xs : List E) (n i j : Nat) (ti tj : Tok) (a b : E) (β : Bool) (ha : xs[i]? = some a) (hb : xs[j]? = some b) (hln : xs.length ≤ 9) (hij : i < j) (h : ¬ a.1 ≤ b.1) (hβ : decide (a.1 < segMax (rk xs) i j) = β) : Valid pw w (kt w.params) (cStay 796 rl xs n i j ti tj β) := by
  have hi : i < xs.length := (List.getElem?_eq_some_iff.mp ha).1
  have hj : j < xs.length := (List.getElem?_eq_some_iff.mp hb).1
  have hs := seg_cons xs i j a ha hij
  have hm : (maxE a (seg xs (i + 1) j)).1 = segMax (rk xs) i j := by
    rw [maxE_rk]
    unfold segMax
    rw [← seg_rk, hs]; rfl
  have hp := pick_seg xs i j (by omega) (by omega)
  rw [← hm] at hβ
  rw [hs] at hp
  have hmax := fun l n => vMax (w := w) l a (seg xs (i + 1) j) n
  generalize maxE a (seg xs (i + 1) j) = mx at *
  generalize a :: seg xs (i + 1) j = ys at *
  refine valid_of 200 (fun B T => hl [1593, 1591, 0, 0, 0, 0, 0, 0, 0, 0, 0, 0, 5, 0, 0, 0, 2, 2, 2] (.j (cGet rl (xs.map iv) n i (i : Int) ti (iv a)) [1] fun α0 τ0 ν0 B0 T0 => hl [0, 0, 2, 2, 2] (.j (cGet rl (xs.map iv) n j (j : Int) tj (iv b)) [1] fun α1 τ1 ν1 B1 T1 => hl [1] (.j (cIc "int.__le__" (a.1 : Int) (b.1 : Int) a.2 b.2 false) [] fun α2 τ2 ν2 B2 T2 => hl [7, 1, 0, 0, 0, 4, 4, 4] (.j (cSl rl (B2 + 0) (xs.map iv) n (.int (i : Int) ti) (.int (j : Int) tj) (ys.map iv)) [2, 0] fun α3 τ3 ν3 B3 T3 => hl [] (.j (cMax (α3 0) ys 0 mx) [0] fun α4 τ4 ν4 B4 T4 => hl [4, 4, 6, 6, 6] (.j (cGet rl (xs.map iv) n i (i : Int) ti (iv a)) [3] fun α5 τ5 ν5 B5 T5 => hl [1] (.j (cIc "int.__gt__" (mx.1 : Int) (a.1 : Int) mx.2 a.2 β) [] fun α6 τ6 ν6 B6 T6 => hl [] (.fin (ofL []) (ofL []) (ofV []) []))))))))) (fun B T => good_hl _ ⟨vGet _ _ _ _ _ _ _ rfl (by omega) (by simp [ha]), fun _ _ _ _ _ => good_hl _ ⟨vGet _ _ _ _ _ _ _ rfl (by omega) (by simp [hb]), fun _ _ _ _ _ => good_hl _ ⟨vILe _ _ _ _ _ (by simp; omega), fun _ _ _ _ _ => good_hl _ ⟨vSl _ _ _ _ _ _ _ _ _ (.int _ _) (.int _ _) hp (by simp; omega), fun _ _ _ _ _ => good_hl _ ⟨hmax _ _, fun _ _ _ _ _ => good_hl _ ⟨vGet _ _ _ _ _ _ _ rfl (by omega) (by simp [ha]), fun _ _ _ _ _ => good_hl _ ⟨vIGt _ _ _ _ _ (by rw [← hβ]; simp), fun _ _ _ _ _ => good_hl _ trivial⟩⟩⟩⟩⟩⟩⟩) fun B T => ?_
  kernel_rfl
/-! _law_twice -/
def twN : List (List Nat) := [[114, 111, 119], [105], [106], [122], [99]]
def twQ : List Nat := [95, 108, 97, 119, 95, 116, 119, 105, 99, 101, 46, 60, 108, 111, 99, 97, 108, 115, 62, 46]
def twZ (kt : KT) : Stmt := nthS (fnStmts kt 803) 1
def twC (kt : KT) : Stmt := nthS (bodyOf (twZ kt)) 0
def iI (i : Nat) (t : Tok) : Value := .int (i : Int) t
def cTc (P : Params) (kt : KT) (L rl : Addr) (tf : Nat → Nat) (xs : List E) (n i j z : Nat) (ti tj tz : Tok) (cvs : List Value) (it : Addr) (c r : Nat) (out : Result) : Ct :=
  { code := forCode (twC kt) it (fnEnv kt 803 L [] twQ), need := [(it, rngO (c : Int) (r : Int)), (L, frD (hfP P twN) tf twN ([.ref rl, iI i ti, iI j tj, iI z tz] ++ cvs) (4 + cvs.length) #[]), (rl, lst (xs.map iv) n)], k := 0, res := fun _ _ _ => out,
    post := fun α _ ν => [rngO ((α 0 : Nat) : Int) ((α 1 : Nat) : Int), frD (hfP P twN) (fun k => α (k + 2)) twN [.ref rl, iI i ti, iI j tj, iI z tz, ν 0] 5 #[], lst (xs.map iv) n], new := fun _ _ _ => [], D := 700, U := 7600 }
theorem vTc0 (L rl : Addr) (tf : Nat → Nat) (xs : List E) (n i j z : Nat) (ti tj tz : Tok) (cv : Value) (it : Addr) (c : Nat) : Valid pw w (kt w.params) (cTc w.params (kt w.params) L rl tf xs n i j z ti tj tz [cv] it c 0 (.ok .next)) := by
  refine valid_of 60 (fun B T => hl [0, 0, 0, 0, 0, 0, 0, 0, 0] (.fin (consT c (consT 0 tf)) (ofL []) (ofV [cv]) [])) (fun B T => good_hl _ trivial) fun B T => ?_
  kernel_rfl
theorem vTc1a (L rl : Addr) (tf : Nat → Nat) (xs : List E) (n i j z : Nat) (ti tj tz : Tok) (cv : Value) (it : Addr) (c r : Nat) (out : Result) (a b d : E) (ha : xs[i]? = some a) (hb : xs[c]? = some b) (hd : xs[z]? = some d) (hln : xs.length ≤ 9) (hr : r ≤ 9) (h1 : ¬ a.1 < b.1)
    (ih : ∀ tf cv, Valid pw w (kt w.params) (cTc w.params (kt w.params) L rl tf xs n i j z ti tj tz [cv] it (c + 1) r out)) : Valid pw w (kt w.params) (cTc w.params (kt w.params) L rl tf xs n i j z ti tj tz [] it c (r + 1) out) := by
  have hi : i < xs.length := (List.getElem?_eq_some_iff.mp ha).1
  have hc : c < xs.length := (List.getElem?_eq_some_iff.mp hb).1
  have hz : z < xs.length := (List.getElem?_eq_some_iff.mp hd).1
  refine valid_of 300 (fun B T => hl [0] (.j (cRng it c r) [0] fun α0 τ0 ν0 B0 T0 => hl [0, 2, 2, 2, 2, 4, 4, 4] (.j (cGet rl (xs.map iv) n i (i : Int) (ti) (iv a)) [2] fun α1 τ1 ν1 B1 T1 => hl [2, 2, 4, 4, 4] (.j (cGet rl (xs.map iv) n c (c : Int) (τ0 0) (iv b)) [2] fun α2 τ2 ν2 B2 T2 => hl [1] (.j (cIc "int.__lt__" (a.1 : Int) (b.1 : Int) a.2 b.2 false) [] fun α3 τ3 ν3 B3 T3 => hl [] (.j (cTc w.params (kt w.params) L rl (setT tf 4 (T0 + 0)) xs n i j z ti tj tz [.int (c : Int) (τ0 0)] it (c + 1) r out) [0, 1, 2] fun α4 τ4 ν4 B4 T4 => hl [] (.fin α4 τ4 ν4 []))))))) (fun B T => good_hl _ ⟨vRng _ _ _ hr, fun _ _ _ _ _ => good_hl _ ⟨vGet _ _ _ _ _ _ _ rfl (by omega) (by simp [ha]), fun _ _ _ _ _ => good_hl _ ⟨vGet _ _ _ _ _ _ _ rfl (by omega) (by simp [hb]), fun _ _ _ _ _ => good_hl _ ⟨vILt _ _ _ _ _ (by simp; omega), fun _ _ _ _ _ => good_hl _ ⟨ih _ _, fun _ _ _ _ _ => good_hl _ trivial⟩⟩⟩⟩⟩) fun B T => ?_
  kernel_rfl
theorem vTc2a (L rl : Addr) (tf : Nat → Nat) (xs : List E) (n i j z : Nat) (ti tj tz : Tok) (cv : Value) (it : Addr) (c r : Nat) (out : Result) (a b d : E) (ha : xs[i]? = some a) (hb : xs[c]? = some b) (hd : xs[z]? = some d) (hln : xs.length ≤ 9) (hr : r ≤ 9) (h1 : a.1 < b.1) (h2 : ¬ b.1 < d.1)
    (ih : ∀ tf cv, Valid pw w (kt w.params) (cTc w.params (kt w.params) L rl tf xs n i j z ti tj tz [cv] it (c + 1) r out)) : Valid pw w (kt w.params) (cTc w.params (kt w.params) L rl tf xs n i j z ti tj tz [] it c (r + 1) out) := by
  have hi : i < xs.length := (List.getElem?_eq_some_iff.mp ha).1
  have hc : c < xs.length := (List.getElem?_eq_some_iff.mp hb).1
  have hz : z < xs.length := (List.getElem?_eq_some_iff.mp hd).1
  refine valid_of 300 (fun B T => hl [0] (.j (cRng it c r) [0] fun α0 τ0 ν0 B0 T0 => hl [0, 2, 2, 2, 2, 4, 4, 4] (.j (cGet rl (xs.map iv) n i (i : Int) (ti) (iv a)) [2] fun α1 τ1 ν1 B1 T1 => hl [2, 2, 4, 4, 4] (.j (cGet rl (xs.map iv) n c (c : Int) (τ0 0) (iv b)) [2] fun α2 τ2 ν2 B2 T2 => hl [1] (.j (cIc "int.__lt__" (a.1 : Int) (b.1 : Int) a.2 b.2 true) [] fun α3 τ3 ν3 B3 T3 => hl [2, 2, 4, 4, 4] (.j (cGet rl (xs.map iv) n z (z : Int) (tz) (iv d)) [2] fun α4 τ4 ν4 B4 T4 => hl [1] (.j (cIc "int.__lt__" (b.1 : Int) (d.1 : Int) b.2 d.2 false) [] fun α5 τ5 ν5 B5 T5 => hl [] (.j (cTc w.params (kt w.params) L rl (setT tf 4 (T0 + 0)) xs n i j z ti tj tz [.int (c : Int) (τ0 0)] it (c + 1) r out) [0, 1, 2] fun α6 τ6 ν6 B6 T6 => hl [] (.fin α6 τ6 ν6 []))))))))) (fun B T => good_hl _ ⟨vRng _ _ _ hr, fun _ _ _ _ _ => good_hl _ ⟨vGet _ _ _ _ _ _ _ rfl (by omega) (by simp [ha]), fun _ _ _ _ _ => good_hl _ ⟨vGet _ _ _ _ _ _ _ rfl (by omega) (by simp [hb]), fun _ _ _ _ _ => good_hl _ ⟨vILt _ _ _ _ _ (by simp; omega), fun _ _ _ _ _ => good_hl _ ⟨vGet _ _ _ _ _ _ _ rfl (by omega) (by simp [hd]), fun _ _ _ _ _ => good_hl _ ⟨vILt _ _ _ _ _ (by simp; omega), fun _ _ _ _ _ => good_hl _ ⟨ih _ _, fun _ _ _ _ _ => good_hl _ trivial⟩⟩⟩⟩⟩⟩⟩) fun B T => ?_
  kernel_rfl
theorem vTc4a (L rl : Addr) (tf : Nat → Nat) (xs : List E) (n i j z : Nat) (ti tj tz : Tok) (cv : Value) (it : Addr) (c r : Nat) (out : Result) (a b d : E) (ha : xs[i]? = some a) (hb : xs[c]? = some b) (hd : xs[z]? = some d) (hln : xs.length ≤ 9) (hr : r ≤ 9) (h1 : a.1 < b.1) (h2 : b.1 < d.1) (h3 : c < i) (h4 : segMax (rk xs) c i = b.1)
     : Valid pw w (kt w.params) (cTc w.params (kt w.params) L rl tf xs n i j z ti tj tz [] it c (r + 1) (.ok (.ret (.bool true)))) := by
  have hi : i < xs.length := (List.getElem?_eq_some_iff.mp ha).1
  have hc : c < xs.length := (List.getElem?_eq_some_iff.mp hb).1
  have hz : z < xs.length := (List.getElem?_eq_some_iff.mp hd).1
  have hs := seg_cons xs c i b hb h3
  have hm : (maxE b (seg xs (c + 1) i)).1 = segMax (rk xs) c i := by
    rw [maxE_rk]
    unfold segMax
    rw [← seg_rk, hs]; rfl
  have hp := pick_seg xs c i (by omega) (by omega)
  rw [← hm] at h4
  rw [hs] at hp
  have hmax := fun l n => vMax (w := w) l b (seg xs (c + 1) i) n
  generalize maxE b (seg xs (c + 1) i) = mx at *
  generalize b :: seg xs (c + 1) i = ys at *
  refine valid_of 300 (fun B T => hl [0] (.j (cRng it c r) [0] fun α0 τ0 ν0 B0 T0 => hl [0, 2, 2, 2, 2, 4, 4, 4] (.j (cGet rl (xs.map iv) n i (i : Int) (ti) (iv a)) [2] fun α1 τ1 ν1 B1 T1 => hl [2, 2, 4, 4, 4] (.j (cGet rl (xs.map iv) n c (c : Int) (τ0 0) (iv b)) [2] fun α2 τ2 ν2 B2 T2 => hl [1] (.j (cIc "int.__lt__" (a.1 : Int) (b.1 : Int) a.2 b.2 true) [] fun α3 τ3 ν3 B3 T3 => hl [2, 2, 4, 4, 4] (.j (cGet rl (xs.map iv) n z (z : Int) (tz) (iv d)) [2] fun α4 τ4 ν4 B4 T4 => hl [1] (.j (cIc "int.__lt__" (b.1 : Int) (d.1 : Int) b.2 d.2 true) [] fun α5 τ5 ν5 B5 T5 => hl [2, 2, 1] (.j (cIc "int.__gt__" (c : Int) (i : Int) (τ0 0) ti false) [] fun α6 τ6 ν6 B6 T6 => hl [7, 1, 2, 2, 2, 6, 6, 6] (.j (cSl rl (B6 + 0) (xs.map iv) n (.int (c : Int) (τ0 0)) (.int (i : Int) ti) (ys.map iv)) [3, 0] fun α7 τ7 ν7 B7 T7 => hl [] (.j (cMax (α7 0) ys 0 mx) [0] fun α8 τ8 ν8 B8 T8 => hl [6, 6, 8, 8, 8] (.j (cGet rl (xs.map iv) n c (c : Int) (τ0 0) (iv b)) [4] fun α9 τ9 ν9 B9 T9 => hl [1] (.j (cIc "int.__eq__" (mx.1 : Int) (b.1 : Int) mx.2 b.2 true) [] fun α10 τ10 ν10 B10 T10 => hl [] (.fin (consT (c + 1) (consT r (setT tf 4 (T0 + 0)))) (ofL []) (ofV [.int (c : Int) (τ0 0)]) []))))))))))))) (fun B T => good_hl _ ⟨vRng _ _ _ hr, fun _ _ _ _ _ => good_hl _ ⟨vGet _ _ _ _ _ _ _ rfl (by omega) (by simp [ha]), fun _ _ _ _ _ => good_hl _ ⟨vGet _ _ _ _ _ _ _ rfl (by omega) (by simp [hb]), fun _ _ _ _ _ => good_hl _ ⟨vILt _ _ _ _ _ (by simp; omega), fun _ _ _ _ _ => good_hl _ ⟨vGet _ _ _ _ _ _ _ rfl (by omega) (by simp [hd]), fun _ _ _ _ _ => good_hl _ ⟨vILt _ _ _ _ _ (by simp; omega), fun _ _ _ _ _ => good_hl _ ⟨vIGt _ _ _ _ _ (by simp; omega), fun _ _ _ _ _ => good_hl _ ⟨vSl _ _ _ _ _ _ _ _ _ (.int _ _) (.int _ _) hp (by simp; omega), fun _ _ _ _ _ => good_hl _ ⟨hmax _ _, fun _ _ _ _ _ => good_hl _ ⟨vGet _ _ _ _ _ _ _ rfl (by omega) (by simp [hb]), fun _ _ _ _ _ => good_hl _ ⟨vIEq _ _ _ _ _ (by simp; omega), fun _ _ _ _ _ => good_hl _ trivial⟩⟩⟩⟩⟩⟩⟩⟩⟩⟩⟩) fun B T => ?_
  kernel_rfl
theorem vTc5a (L rl : Addr) (tf : Nat → Nat) (xs : List E) (n i j z : Nat) (ti tj tz : Tok) (cv : Value) (it : Addr) (c r : Nat) (out : Result) (a b d : E) (ha : xs[i]? = some a) (hb : xs[c]? = some b) (hd : xs[z]? = some d) (hln : xs.length ≤ 9) (hr : r ≤ 9) (h1 : a.1 < b.1) (h2 : b.1 < d.1) (h3 : c < i) (h4 : segMax (rk xs) c i ≠ b.1)
    (ih : ∀ tf cv, Valid pw w (kt w.params) (cTc w.params (kt w.params) L rl tf xs n i j z ti tj tz [cv] it (c + 1) r out)) : Valid pw w (kt w.params) (cTc w.params (kt w.params) L rl tf xs n i j z ti tj tz [] it c (r + 1) out) := by
  have hi : i < xs.length := (List.getElem?_eq_some_iff.mp ha).1
  have hc : c < xs.length := (List.getElem?_eq_some_iff.mp hb).1
  have hz : z < xs.length := (List.getElem?_eq_some_iff.mp hd).1
  have hs := seg_cons xs c i b hb h3
  have hm : (maxE b (seg xs (c + 1) i)).1 = segMax (rk xs) c i := by
    rw [maxE_rk]
    unfold segMax
    rw [← seg_rk, hs]; rfl
  have hp := pick_seg xs c i (by omega) (by omega)
  rw [← hm] at h4
  rw [hs] at hp
  have hmax := fun l n => vMax (w := w) l b (seg xs (c + 1) i) n
  generalize maxE b (seg xs (c + 1) i) = mx at *
  generalize b :: seg xs (c + 1) i = ys at *
  refine valid_of 300 (fun B T => hl [0] (.j (cRng it c r) [0] fun α0 τ0 ν0 B0 T0 => hl [0, 2, 2, 2, 2, 4, 4, 4] (.j (cGet rl (xs.map iv) n i (i : Int) (ti) (iv a)) [2] fun α1 τ1 ν1 B1 T1 => hl [2, 2, 4, 4, 4] (.j (cGet rl (xs.map iv) n c (c : Int) (τ0 0) (iv b)) [2] fun α2 τ2 ν2 B2 T2 => hl [1] (.j (cIc "int.__lt__" (a.1 : Int) (b.1 : Int) a.2 b.2 true) [] fun α3 τ3 ν3 B3 T3 => hl [2, 2, 4, 4, 4] (.j (cGet rl (xs.map iv) n z (z : Int) (tz) (iv d)) [2] fun α4 τ4 ν4 B4 T4 => hl [1] (.j (cIc "int.__lt__" (b.1 : Int) (d.1 : Int) b.2 d.2 true) [] fun α5 τ5 ν5 B5 T5 => hl [2, 2, 1] (.j (cIc "int.__gt__" (c : Int) (i : Int) (τ0 0) ti false) [] fun α6 τ6 ν6 B6 T6 => hl [7, 1, 2, 2, 2, 6, 6, 6] (.j (cSl rl (B6 + 0) (xs.map iv) n (.int (c : Int) (τ0 0)) (.int (i : Int) ti) (ys.map iv)) [3, 0] fun α7 τ7 ν7 B7 T7 => hl [] (.j (cMax (α7 0) ys 0 mx) [0] fun α8 τ8 ν8 B8 T8 => hl [6, 6, 8, 8, 8] (.j (cGet rl (xs.map iv) n c (c : Int) (τ0 0) (iv b)) [4] fun α9 τ9 ν9 B9 T9 => hl [1] (.j (cIc "int.__eq__" (mx.1 : Int) (b.1 : Int) mx.2 b.2 false) [] fun α10 τ10 ν10 B10 T10 => hl [] (.j (cTc w.params (kt w.params) L rl (setT tf 4 (T0 + 0)) xs n i j z ti tj tz [.int (c : Int) (τ0 0)] it (c + 1) r out) [2, 3, 4] fun α11 τ11 ν11 B11 T11 => hl [] (.fin α11 τ11 ν11 [])))))))))))))) (fun B T => good_hl _ ⟨vRng _ _ _ hr, fun _ _ _ _ _ => good_hl _ ⟨vGet _ _ _ _ _ _ _ rfl (by omega) (by simp [ha]), fun _ _ _ _ _ => good_hl _ ⟨vGet _ _ _ _ _ _ _ rfl (by omega) (by simp [hb]), fun _ _ _ _ _ => good_hl _ ⟨vILt _ _ _ _ _ (by simp; omega), fun _ _ _ _ _ => good_hl _ ⟨vGet _ _ _ _ _ _ _ rfl (by omega) (by simp [hd]), fun _ _ _ _ _ => good_hl _ ⟨vILt _ _ _ _ _ (by simp; omega), fun _ _ _ _ _ => good_hl _ ⟨vIGt _ _ _ _ _ (by simp; omega), fun _ _ _ _ _ => good_hl _ ⟨vSl _ _ _ _ _ _ _ _ _ (.int _ _) (.int _ _) hp (by simp; omega), fun _ _ _ _ _ => good_hl _ ⟨hmax _ _, fun _ _ _ _ _ => good_hl _ ⟨vGet _ _ _ _ _ _ _ rfl (by omega) (by simp [hb]), fun _ _ _ _ _ => good_hl _ ⟨vIEq _ _ _ _ _ (by simp; omega), fun _ _ _ _ _ => good_hl _ ⟨ih _ _, fun _ _ _ _ _ => good_hl _ trivial⟩⟩⟩⟩⟩⟩⟩⟩⟩⟩⟩⟩) fun B T => ?_
  kernel_rfl
theorem vTc1b (L rl : Addr) (tf : Nat → Nat) (xs : List E) (n i j z : Nat) (ti tj tz : Tok) (cv : Value) (it : Addr) (c r : Nat) (out : Result) (a b d : E) (ha : xs[i]? = some a) (hb : xs[c]? = some b) (hd : xs[z]? = some d) (hln : xs.length ≤ 9) (hr : r ≤ 9) (h1 : ¬ a.1 < b.1)
    (ih : ∀ tf cv, Valid pw w (kt w.params) (cTc w.params (kt w.params) L rl tf xs n i j z ti tj tz [cv] it (c + 1) r out)) : Valid pw w (kt w.params) (cTc w.params (kt w.params) L rl tf xs n i j z ti tj tz [cv] it c (r + 1) out) := by
  have hi : i < xs.length := (List.getElem?_eq_some_iff.mp ha).1
  have hc : c < xs.length := (List.getElem?_eq_some_iff.mp hb).1
  have hz : z < xs.length := (List.getElem?_eq_some_iff.mp hd).1
  refine valid_of 300 (fun B T => hl [0] (.j (cRng it c r) [0] fun α0 τ0 ν0 B0 T0 => hl [0, 2, 2, 2, 2, 4, 4, 4] (.j (cGet rl (xs.map iv) n i (i : Int) (ti) (iv a)) [2] fun α1 τ1 ν1 B1 T1 => hl [2, 2, 4, 4, 4] (.j (cGet rl (xs.map iv) n c (c : Int) (τ0 0) (iv b)) [2] fun α2 τ2 ν2 B2 T2 => hl [1] (.j (cIc "int.__lt__" (a.1 : Int) (b.1 : Int) a.2 b.2 false) [] fun α3 τ3 ν3 B3 T3 => hl [] (.j (cTc w.params (kt w.params) L rl (setT tf 4 (tf 4)) xs n i j z ti tj tz [.int (c : Int) (τ0 0)] it (c + 1) r out) [0, 1, 2] fun α4 τ4 ν4 B4 T4 => hl [] (.fin α4 τ4 ν4 []))))))) (fun B T => good_hl _ ⟨vRng _ _ _ hr, fun _ _ _ _ _ => good_hl _ ⟨vGet _ _ _ _ _ _ _ rfl (by omega) (by simp [ha]), fun _ _ _ _ _ => good_hl _ ⟨vGet _ _ _ _ _ _ _ rfl (by omega) (by simp [hb]), fun _ _ _ _ _ => good_hl _ ⟨vILt _ _ _ _ _ (by simp; omega), fun _ _ _ _ _ => good_hl _ ⟨ih _ _, fun _ _ _ _ _ => good_hl _ trivial⟩⟩⟩⟩⟩) fun B T => ?_
  kernel_rfl
theorem vTc2b (L rl : Addr) (tf : Nat → Nat) (xs : List E) (n i j z : Nat) (ti tj tz : Tok) (cv : Value) (it : Addr) (c r : Nat) (out : Result) (a b d : E) (ha : xs[i]? = some a) (hb : xs[c]? = some b) (hd : xs[z]? = some d) (hln : xs.length ≤ 9) (hr : r ≤ 9) (h1 : a.1 < b.1) (h2 : ¬ b.1 < d.1)
    (ih : ∀ tf cv, Valid pw w (kt w.params) (cTc w.params (kt w.params) L rl tf xs n i j z ti tj tz [cv] it (c + 1) r out)) : Valid pw w (kt w.params) (cTc w.params (kt w.params) L rl tf xs n i j z ti tj tz [cv] it c (r + 1) out) := by
  have hi : i < xs.length := (List.getElem?_eq_some_iff.mp ha).1
  have hc : c < xs.length := (List.getElem?_eq_some_iff.mp hb).1
  have hz : z < xs.length := (List.getElem?_eq_some_iff.mp hd).1
  refine valid_of 300 (fun B T => hl [0] (.j (cRng it c r) [0] fun α0 τ0 ν0 B0 T0 => hl [0, 2, 2, 2, 2, 4, 4, 4] (.j (cGet rl (xs.map iv) n i (i : Int) (ti) (iv a)) [2] fun α1 τ1 ν1 B1 T1 => hl [2, 2, 4, 4, 4] (.j (cGet rl (xs.map iv) n c (c : Int) (τ0 0) (iv b)) [2] fun α2 τ2 ν2 B2 T2 => hl [1] (.j (cIc "int.__lt__" (a.1 : Int) (b.1 : Int) a.2 b.2 true) [] fun α3 τ3 ν3 B3 T3 => hl [2, 2, 4, 4, 4] (.j (cGet rl (xs.map iv) n z (z : Int) (tz) (iv d)) [2] fun α4 τ4 ν4 B4 T4 => hl [1] (.j (cIc "int.__lt__" (b.1 : Int) (d.1 : Int) b.2 d.2 false) [] fun α5 τ5 ν5 B5 T5 => hl [] (.j (cTc w.params (kt w.params) L rl (setT tf 4 (tf 4)) xs n i j z ti tj tz [.int (c : Int) (τ0 0)] it (c + 1) r out) [0, 1, 2] fun α6 τ6 ν6 B6 T6 => hl [] (.fin α6 τ6 ν6 []))))))))) (fun B T => good_hl _ ⟨vRng _ _ _ hr, fun _ _ _ _ _ => good_hl _ ⟨vGet _ _ _ _ _ _ _ rfl (by omega) (by simp [ha]), fun _ _ _ _ _ => good_hl _ ⟨vGet _ _ _ _ _ _ _ rfl (by omega) (by simp [hb]), fun _ _ _ _ _ => good_hl _ ⟨vILt _ _ _ _ _ (by simp; omega), fun _ _ _ _ _ => good_hl _ ⟨vGet _ _ _ _ _ _ _ rfl (by omega) (by simp [hd]), fun _ _ _ _ _ => good_hl _ ⟨vILt _ _ _ _ _ (by simp; omega), fun _ _ _ _ _ => good_hl _ ⟨ih _ _, fun _ _ _ _ _ => good_hl _ trivial⟩⟩⟩⟩⟩⟩⟩) fun B T => ?_
  kernel_rfl
theorem vTc3b (L rl : Addr) (tf : Nat → Nat) (xs : List E) (n i j z : Nat) (ti tj tz : Tok) (cv : Value) (it : Addr) (c r : Nat) (out : Result) (a b d : E) (ha : xs[i]? = some a) (hb : xs[c]? = some b) (hd : xs[z]? = some d) (hln : xs.length ≤ 9) (hr : r ≤ 9) (h1 : a.1 < b.1) (h2 : b.1 < d.1) (h3 : i < c)
     : Valid pw w (kt w.params) (cTc w.params (kt w.params) L rl tf xs n i j z ti tj tz [cv] it c (r + 1) (.ok (.ret (.bool true)))) := by
  have hi : i < xs.length := (List.getElem?_eq_some_iff.mp ha).1
  have hc : c < xs.length := (List.getElem?_eq_some_iff.mp hb).1
  have hz : z < xs.length := (List.getElem?_eq_some_iff.mp hd).1
  refine valid_of 300 (fun B T => hl [0] (.j (cRng it c r) [0] fun α0 τ0 ν0 B0 T0 => hl [0, 2, 2, 2, 2, 4, 4, 4] (.j (cGet rl (xs.map iv) n i (i : Int) (ti) (iv a)) [2] fun α1 τ1 ν1 B1 T1 => hl [2, 2, 4, 4, 4] (.j (cGet rl (xs.map iv) n c (c : Int) (τ0 0) (iv b)) [2] fun α2 τ2 ν2 B2 T2 => hl [1] (.j (cIc "int.__lt__" (a.1 : Int) (b.1 : Int) a.2 b.2 true) [] fun α3 τ3 ν3 B3 T3 => hl [2, 2, 4, 4, 4] (.j (cGet rl (xs.map iv) n z (z : Int) (tz) (iv d)) [2] fun α4 τ4 ν4 B4 T4 => hl [1] (.j (cIc "int.__lt__" (b.1 : Int) (d.1 : Int) b.2 d.2 true) [] fun α5 τ5 ν5 B5 T5 => hl [2, 2, 1] (.j (cIc "int.__gt__" (c : Int) (i : Int) (τ0 0) ti true) [] fun α6 τ6 ν6 B6 T6 => hl [] (.fin (consT (c + 1) (consT r tf)) (ofL []) (ofV [.int (c : Int) (τ0 0)]) []))))))))) (fun B T => good_hl _ ⟨vRng _ _ _ hr, fun _ _ _ _ _ => good_hl _ ⟨vGet _ _ _ _ _ _ _ rfl (by omega) (by simp [ha]), fun _ _ _ _ _ => good_hl _ ⟨vGet _ _ _ _ _ _ _ rfl (by omega) (by simp [hb]), fun _ _ _ _ _ => good_hl _ ⟨vILt _ _ _ _ _ (by simp; omega), fun _ _ _ _ _ => good_hl _ ⟨vGet _ _ _ _ _ _ _ rfl (by omega) (by simp [hd]), fun _ _ _ _ _ => good_hl _ ⟨vILt _ _ _ _ _ (by simp; omega), fun _ _ _ _ _ => good_hl _ ⟨vIGt _ _ _ _ _ (by simp; omega), fun _ _ _ _ _ => good_hl _ trivial⟩⟩⟩⟩⟩⟩⟩) fun B T => ?_
  kernel_rfl
theorem vTc4b (L rl : Addr) (tf : Nat → Nat) (xs : List E) (n i j z : Nat) (ti tj tz : Tok) (cv : Value) (it : Addr) (c r : Nat) (out : Result) (a b d : E) (ha : xs[i]? = some a) (hb : xs[c]? = some b) (hd : xs[z]? = some d) (hln : xs.length ≤ 9) (hr : r ≤ 9) (h1 : a.1 < b.1) (h2 : b.1 < d.1) (h3 : c < i) (h4 : segMax (rk xs) c i = b.1)
     : Valid pw w (kt w.params) (cTc w.params (kt w.params) L rl tf xs n i j z ti tj tz [cv] it c (r + 1) (.ok (.ret (.bool true)))) := by
  have hi : i < xs.length := (List.getElem?_eq_some_iff.mp ha).1
  have hc : c < xs.length := (List.getElem?_eq_some_iff.mp hb).1
  have hz : z < xs.length := (List.getElem?_eq_some_iff.mp hd).1
  have hs := seg_cons xs c i b hb h3
  have hm : (maxE b (seg xs (c + 1) i)).1 = segMax (rk xs) c i := by
    rw [maxE_rk]
    unfold segMax
    rw [← seg_rk, hs]; rfl
  have hp := pick_seg xs c i (by omega) (by omega)
  rw [← hm] at h4
  rw [hs] at hp
  have hmax := fun l n => vMax (w := w) l b (seg xs (c + 1) i) n
  generalize maxE b (seg xs (c + 1) i) = mx at *
  generalize b :: seg xs (c + 1) i = ys at *
  refine valid_of 300 (fun B T => hl [0] (.j (cRng it c r) [0] fun α0 τ0 ν0 B0 T0 => hl [0, 2, 2, 2, 2, 4, 4, 4] (.j (cGet rl (xs.map iv) n i (i : Int) (ti) (iv a)) [2] fun α1 τ1 ν1 B1 T1 => hl [2, 2, 4, 4, 4] (.j (cGet rl (xs.map iv) n c (c : Int) (τ0 0) (iv b)) [2] fun α2 τ2 ν2 B2 T2 => hl [1] (.j (cIc "int.__lt__" (a.1 : Int) (b.1 : Int) a.2 b.2 true) [] fun α3 τ3 ν3 B3 T3 => hl [2, 2, 4, 4, 4] (.j (cGet rl (xs.map iv) n z (z : Int) (tz) (iv d)) [2] fun α4 τ4 ν4 B4 T4 => hl [1] (.j (cIc "int.__lt__" (b.1 : Int) (d.1 : Int) b.2 d.2 true) [] fun α5 τ5 ν5 B5 T5 => hl [2, 2, 1] (.j (cIc "int.__gt__" (c : Int) (i : Int) (τ0 0) ti false) [] fun α6 τ6 ν6 B6 T6 => hl [7, 1, 2, 2, 2, 6, 6, 6] (.j (cSl rl (B6 + 0) (xs.map iv) n (.int (c : Int) (τ0 0)) (.int (i : Int) ti) (ys.map iv)) [3, 0] fun α7 τ7 ν7 B7 T7 => hl [] (.j (cMax (α7 0) ys 0 mx) [0] fun α8 τ8 ν8 B8 T8 => hl [6, 6, 8, 8, 8] (.j (cGet rl (xs.map iv) n c (c : Int) (τ0 0) (iv b)) [4] fun α9 τ9 ν9 B9 T9 => hl [1] (.j (cIc "int.__eq__" (mx.1 : Int) (b.1 : Int) mx.2 b.2 true) [] fun α10 τ10 ν10 B10 T10 => hl [] (.fin (consT (c + 1) (consT r tf)) (ofL []) (ofV [.int (c : Int) (τ0 0)]) []))))))))))))) (fun B T => good_hl _ ⟨vRng _ _ _ hr, fun _ _ _ _ _ => good_hl _ ⟨vGet _ _ _ _ _ _ _ rfl (by omega) (by simp [ha]), fun _ _ _ _ _ => good_hl _ ⟨vGet _ _ _ _ _ _ _ rfl (by omega) (by simp [hb]), fun _ _ _ _ _ => good_hl _ ⟨vILt _ _ _ _ _ (by simp; omega), fun _ _ _ _ _ => good_hl _ ⟨vGet _ _ _ _ _ _ _ rfl (by omega) (by simp [hd]), fun _ _ _ _ _ => good_hl _ ⟨vILt _ _ _ _ _ (by simp; omega), fun _ _ _ _ _ => good_hl _ ⟨vIGt _ _ _ _ _ (by simp; omega), fun _ _ _ _ _ => good_hl _ ⟨vSl _ _ _ _ _ _ _ _ _ (.int _ _) (.int _ _) hp (by simp; omega), fun _ _ _ _ _ => good_hl _ ⟨hmax _ _, fun _ _ _ _ _ => good_hl _ ⟨vGet _ _ _ _ _ _ _ rfl (by omega) (by simp [hb]), fun _ _ _ _ _ => good_hl _ ⟨vIEq _ _ _ _ _ (by simp; omega), fun _ _ _ _ _ => good_hl _ trivial⟩⟩⟩⟩⟩⟩⟩⟩⟩⟩⟩) fun B T => ?_
  kernel_rfl
theorem vTc5b (L rl : Addr) (tf : Nat → Nat) (xs : List E) (n i j z : Nat) (ti tj tz : Tok) (cv : Value) (it : Addr) (c r : Nat) (out : Result) (a b d : E) (ha : xs[i]? = some a) (hb : xs[c]? = some b) (hd : xs[z]? = some d) (hln : xs.length ≤ 9) (hr : r ≤ 9) (h1 : a.1 < b.1) (h2 : b.1 < d.1) (h3 : c < i) (h4 : segMax (rk xs) c i ≠ b.1)
    (ih : ∀ tf cv, Valid pw w (kt w.params) (cTc w.params (kt w.params) L rl tf xs n i j z ti tj tz [cv] it (c + 1) r out)) : Valid pw w (kt w.params) (cTc w.params (kt w.params) L rl tf xs n i j z ti tj tz [cv] it c (r + 1) out) := by
  have hi : i < xs.length := (List.getElem?_eq_some_iff.mp ha).1
  have hc : c < xs.length := (List.getElem?_eq_some_iff.mp hb).1
  have hz : z < xs.length := (List.getElem?_eq_some_iff.mp hd).1
  have hs := seg_cons xs c i b hb h3
  have hm : (maxE b (seg xs (c + 1) i)).1 = segMax (rk xs) c i := by
    rw [maxE_rk]
    unfold segMax
    rw [← seg_rk, hs]; rfl
  have hp := pick_seg xs c i (by omega) (by omega)
  rw [← hm] at h4
  rw [hs] at hp
  have hmax := fun l n => vMax (w := w) l b (seg xs (c + 1) i) n
  generalize maxE b (seg xs (c + 1) i) = mx at *
  generalize b :: seg xs (c + 1) i = ys at *
  refine valid_of 300 (fun B T => hl [0] (.j (cRng it c r) [0] fun α0 τ0 ν0 B0 T0 => hl [0, 2, 2, 2, 2, 4, 4, 4] (.j (cGet rl (xs.map iv) n i (i : Int) (ti) (iv a)) [2] fun α1 τ1 ν1 B1 T1 => hl [2, 2, 4, 4, 4] (.j (cGet rl (xs.map iv) n c (c : Int) (τ0 0) (iv b)) [2] fun α2 τ2 ν2 B2 T2 => hl [1] (.j (cIc "int.__lt__" (a.1 : Int) (b.1 : Int) a.2 b.2 true) [] fun α3 τ3 ν3 B3 T3 => hl [2, 2, 4, 4, 4] (.j (cGet rl (xs.map iv) n z (z : Int) (tz) (iv d)) [2] fun α4 τ4 ν4 B4 T4 => hl [1] (.j (cIc "int.__lt__" (b.1 : Int) (d.1 : Int) b.2 d.2 true) [] fun α5 τ5 ν5 B5 T5 => hl [2, 2, 1] (.j (cIc "int.__gt__" (c : Int) (i : Int) (τ0 0) ti false) [] fun α6 τ6 ν6 B6 T6 => hl [7, 1, 2, 2, 2, 6, 6, 6] (.j (cSl rl (B6 + 0) (xs.map iv) n (.int (c : Int) (τ0 0)) (.int (i : Int) ti) (ys.map iv)) [3, 0] fun α7 τ7 ν7 B7 T7 => hl [] (.j (cMax (α7 0) ys 0 mx) [0] fun α8 τ8 ν8 B8 T8 => hl [6, 6, 8, 8, 8] (.j (cGet rl (xs.map iv) n c (c : Int) (τ0 0) (iv b)) [4] fun α9 τ9 ν9 B9 T9 => hl [1] (.j (cIc "int.__eq__" (mx.1 : Int) (b.1 : Int) mx.2 b.2 false) [] fun α10 τ10 ν10 B10 T10 => hl [] (.j (cTc w.params (kt w.params) L rl (setT tf 4 (tf 4)) xs n i j z ti tj tz [.int (c : Int) (τ0 0)] it (c + 1) r out) [2, 3, 4] fun α11 τ11 ν11 B11 T11 => hl [] (.fin α11 τ11 ν11 [])))))))))))))) (fun B T => good_hl _ ⟨vRng _ _ _ hr, fun _ _ _ _ _ => good_hl _ ⟨vGet _ _ _ _ _ _ _ rfl (by omega) (by simp [ha]), fun _ _ _ _ _ => good_hl _ ⟨vGet _ _ _ _ _ _ _ rfl (by omega) (by simp [hb]), fun _ _ _ _ _ => good_hl _ ⟨vILt _ _ _ _ _ (by simp; omega), fun _ _ _ _ _ => good_hl _ ⟨vGet _ _ _ _ _ _ _ rfl (by omega) (by simp [hd]), fun _ _ _ _ _ => good_hl _ ⟨vILt _ _ _ _ _ (by simp; omega), fun _ _ _ _ _ => good_hl _ ⟨vIGt _ _ _ _ _ (by simp; omega), fun _ _ _ _ _ => good_hl _ ⟨vSl _ _ _ _ _ _ _ _ _ (.int _ _) (.int _ _) hp (by simp; omega), fun _ _ _ _ _ => good_hl _ ⟨hmax _ _, fun _ _ _ _ _ => good_hl _ ⟨vGet _ _ _ _ _ _ _ rfl (by omega) (by simp [hb]), fun _ _ _ _ _ => good_hl _ ⟨vIEq _ _ _ _ _ (by simp; omega), fun _ _ _ _ _ => good_hl _ ⟨ih _ _, fun _ _ _ _ _ => good_hl _ trivial⟩⟩⟩⟩⟩⟩⟩⟩⟩⟩⟩⟩) fun B T => ?_
  kernel_rfl
/-- what is asked of c -/
def inT (rs : List Nat) (i z c : Nat) : Bool := decide (rs.getD i 0 < rs.getD c 0) && (decide (rs.getD c 0 < rs.getD z 0) && (decide (i < c) || segMax rs c i == rs.getD c 0))
def twIn (rs : List Nat) (i z : Nat) : Nat → Nat → Bool
  | _, 0 => false
  | c, r + 1 => if inT rs i z c then true else twIn rs i z (c + 1) r
def outB (β : Bool) : Result := if β then .ok (.ret (.bool true)) else .ok .next
theorem getD_rk {xs : List E} {i : Nat} {a : E} (h : xs[i]? = some a) : (rk xs).getD i 0 = a.1 := by
  simp [rk, List.getD, h]
theorem vTc (L rl : Addr) (xs : List E) (n i j z : Nat) (ti tj tz : Tok) (it : Addr) (hln : xs.length ≤ 9) (hi : i < xs.length) (hz : z < xs.length) : ∀ (r c : Nat) (tf : Nat → Nat) (cv : Value), c + r ≤ xs.length →
    Valid pw w (kt w.params) (cTc w.params (kt w.params) L rl tf xs n i j z ti tj tz [cv] it c r (outB (twIn (rk xs) i z c r)))
  | 0, c, tf, cv, _ => vTc0 L rl tf xs n i j z ti tj tz cv it c
  | r + 1, c, tf, cv, h => by
    have ih := fun tf cv => vTc L rl xs n i j z ti tj tz it hln hi hz r (c + 1) tf cv (by omega)
    have hc : c < xs.length := by omega
    have ha : xs[i]? = some xs[i] := by simp [hi]
    have hb : xs[c]? = some xs[c] := by simp [hc]
    have hd : xs[z]? = some xs[z] := by simp [hz]
    have ea := getD_rk ha
    have eb := getD_rk hb
    have ed := getD_rk hd
    generalize xs[i] = a at *
    generalize xs[c] = b at *
    generalize xs[z] = d at *
    unfold twIn
    by_cases h1 : a.1 < b.1
    · by_cases h2 : b.1 < d.1
      · by_cases h3 : i < c
        · have e : inT (rk xs) i z c = true := by simp only [inT, ea, eb, ed]; simp [h1, h2, h3]
          rw [e]
          exact vTc3b L rl tf xs n i j z ti tj tz cv it c r (.ok .next) a b d ha hb hd hln (by omega) h1 h2 h3
        · have h3' : c < i := by
            rcases Nat.lt_trichotomy i c with q | q | q
            · exact absurd q h3
            · subst q
              rw [ha] at hb; cases hb
              omega
            · exact q
          by_cases h4 : segMax (rk xs) c i = b.1
          · have e : inT (rk xs) i z c = true := by simp only [inT, ea, eb, ed]; simp [h1, h2, h4]
            rw [e]
            exact vTc4b L rl tf xs n i j z ti tj tz cv it c r (.ok .next) a b d ha hb hd hln (by omega) h1 h2 h3' h4
          · have e : inT (rk xs) i z c = false := by simp only [inT, ea, eb, ed]; simp [h1, h2, h4]; omega
            rw [e]
            exact vTc5b L rl tf xs n i j z ti tj tz cv it c r _ a b d ha hb hd hln (by omega) h1 h2 h3' h4 ih
      · have e : inT (rk xs) i z c = false := by simp only [inT, ea, eb, ed]; simp [h2]
        rw [e]
        exact vTc2b L rl tf xs n i j z ti tj tz cv it c r _ a b d ha hb hd hln (by omega) h1 h2 ih
    · have e : inT (rk xs) i z c = false := by simp only [inT, ea, eb, ed]; simp [h1]
      rw [e]
      exact vTc1b L rl tf xs n i j z ti tj tz cv it c r _ a b d ha hb hd hln (by omega) h1 ih
/-- the first turn, over the first name -/
theorem vTcA (L rl : Addr) (xs : List E) (n i j z : Nat) (ti tj tz : Tok) (it : Addr) (hln : xs.length ≤ 9) (hi : i < xs.length) (hz : z < xs.length) (r : Nat) (tf : Nat → Nat) (h : r + 1 ≤ xs.length) :
    Valid pw w (kt w.params) (cTc w.params (kt w.params) L rl tf xs n i j z ti tj tz [] it 0 (r + 1) (outB (twIn (rk xs) i z 0 (r + 1)))) := by
  have ih := fun tf cv => vTc (w := w) L rl xs n i j z ti tj tz it hln hi hz r (0 + 1) tf cv (by omega)
  have hc : 0 < xs.length := by omega
  have ha : xs[i]? = some xs[i] := by simp [hi]
  have hb : xs[0]? = some xs[0] := by simp
  have hd : xs[z]? = some xs[z] := by simp [hz]
  have ea := getD_rk ha
  have eb := getD_rk hb
  have ed := getD_rk hd
  generalize xs[i] = a at *
  generalize xs[0] = b at *
  generalize xs[z] = d at *
  unfold twIn
  by_cases h1 : a.1 < b.1
  · by_cases h2 : b.1 < d.1
    · have h3' : 0 < i := by
        rcases Nat.eq_zero_or_pos i with q | q
        · subst q
          rw [ha] at hb; cases hb
          omega
        · exact q
      by_cases h4 : segMax (rk xs) 0 i = b.1
      · have e : inT (rk xs) i z 0 = true := by simp only [inT, ea, eb, ed, h1, h2, h4]; simp
        rw [e]
        exact vTc4a L rl tf xs n i j z ti tj tz .none it 0 r (.ok .next) a b d ha hb hd hln (by omega) h1 h2 h3' h4
      · have e : inT (rk xs) i z 0 = false := by simp only [inT, ea, eb, ed, h1, h2]; simp [h4]
        rw [e]
        exact vTc5a L rl tf xs n i j z ti tj tz .none it 0 r _ a b d ha hb hd hln (by omega) h1 h2 h3' h4 ih
    · have e : inT (rk xs) i z 0 = false := by simp only [inT, ea, eb, ed]; simp [h2]
      rw [e]
      exact vTc2a L rl tf xs n i j z ti tj tz .none it 0 r _ a b d ha hb hd hln (by omega) h1 h2 ih
  · have e : inT (rk xs) i z 0 = false := by simp only [inT, ea, eb]; simp [h1]
    rw [e]
    exact vTc1a L rl tf xs n i j z ti tj tz .none it 0 r _ a b d ha hb hd hln (by omega) h1 ih
end
end Mine
/-! part C17 -/
set_option maxRecDepth 100000
set_option linter.unusedVariables false
namespace Mine
open PySem PySem.Spec PySem.Calls PyProof.Rows PySem.W PySem.W.X
section
variable {w : World}
def cTz (P : Params) (kt : KT) (L rl : Addr) (tf : Nat → Nat) (xs : List E) (n i j : Nat) (ti tj : Tok) (zvs : List Value) (it : Addr) (z r : Nat) (out : Result) : Ct :=
  { code := forCode (twZ kt) it (fnEnv kt 803 L [] twQ), need := [(it, rngO (z : Int) (r : Int)), (L, frD (hfP P twN) tf twN ([.ref rl, iI i ti, iI j tj] ++ zvs) (3 + zvs.length) #[]), (rl, lst (xs.map iv) n)], k := 0, res := fun _ _ _ => out,
    post := fun α _ ν => [rngO ((α 0 : Nat) : Int) ((α 1 : Nat) : Int), frD (hfP P twN) (fun k => α (k + 2)) twN [.ref rl, iI i ti, iI j tj, ν 0, ν 1] 5 #[], lst (xs.map iv) n], new := fun _ _ _ => [], D := 680, U := 7500 }
theorem vTz0 (L rl : Addr) (tf : Nat → Nat) (xs : List E) (n i j : Nat) (ti tj : Tok) (zv cv : Value) (it : Addr) (z : Nat) : Valid pw w (kt w.params) (cTz w.params (kt w.params) L rl tf xs n i j ti tj [zv, cv] it z 0 (.ok .next)) := by
  refine valid_of 60 (fun B T => hl [0, 0, 0, 0, 0, 0, 0, 0, 0] (.fin (consT z (consT 0 tf)) (ofL []) (ofV [zv, cv]) [])) (fun B T => good_hl _ trivial) fun B T => ?_
  kernel_rfl
theorem vTz1a (L rl : Addr) (tf : Nat → Nat) (xs : List E) (n i j : Nat) (ti tj : Tok) (zv cv : Value) (it : Addr) (z r : Nat) (out : Result) (hz : z ≤ 9) (hr : r ≤ 9)
    (hT : ∀ tf tz it, Valid pw w (kt w.params) (cTc w.params (kt w.params) L rl tf xs n i j z ti tj tz [] it 0 z (.ok .next))) (ih : ∀ tf zv cv, Valid pw w (kt w.params) (cTz w.params (kt w.params) L rl tf xs n i j ti tj [zv, cv] it (z + 1) r out)) : Valid pw w (kt w.params) (cTz w.params (kt w.params) L rl tf xs n i j ti tj [] it z (r + 1) out) := by
  let out1 : Result := (.ok .next)
  refine valid_of 300 (fun B T => hl [0] (.j (cRng it z r) [0] fun α0 τ0 ν0 B0 T0 => hl [0, 2, 2, 7, 1, 2, 0, 0, 0, 0, 0, 0, 0, 0, 0, 0, 0, 0, 1] (.j (cRIter (B0 + 0) 0 z (T0 + 1) (τ0 0) (T0 + 2)) [0] fun α1 τ1 ν1 B1 T1 => hl [0] (.j (cTc w.params (kt w.params) L rl (setT tf 3 (T0 + 0)) xs n i j z ti tj (τ0 0) [] (α1 0) 0 z out1) [0, 3, 4] fun α2 τ2 ν2 B2 T2 => hl [] (.j (cTz w.params (kt w.params) L rl (fun k => α2 (k + 2)) xs n i j ti tj [.int (z : Int) (τ0 0), ν2 0] it (z + 1) r out) [2, 3, 4] fun α3 τ3 ν3 B3 T3 => hl [] (.fin α3 τ3 ν3 [])))))) (fun B T => good_hl _ ⟨vRng _ _ _ hr, fun _ _ _ _ _ => good_hl _ ⟨vRIter _ _ _ _ _ _ (by omega) hz, fun _ _ _ _ _ => good_hl _ ⟨hT _ _ _, fun _ _ _ _ _ => good_hl _ ⟨ih _ _ _, fun _ _ _ _ _ => good_hl _ trivial⟩⟩⟩⟩) fun B T => ?_
  kernel_rfl
theorem vTz2a (L rl : Addr) (tf : Nat → Nat) (xs : List E) (n i j : Nat) (ti tj : Tok) (zv cv : Value) (it : Addr) (z r : Nat) (out : Result) (hz : z ≤ 9) (hr : r ≤ 9)
    (hT : ∀ tf tz it, Valid pw w (kt w.params) (cTc w.params (kt w.params) L rl tf xs n i j z ti tj tz [] it 0 z (.ok (.ret (.bool true)))))  : Valid pw w (kt w.params) (cTz w.params (kt w.params) L rl tf xs n i j ti tj [] it z (r + 1) (.ok (.ret (.bool true)))) := by
  let out1 : Result := (.ok (.ret (.bool true)))
  refine valid_of 300 (fun B T => hl [0] (.j (cRng it z r) [0] fun α0 τ0 ν0 B0 T0 => hl [0, 2, 2, 7, 1, 2, 0, 0, 0, 0, 0, 0, 0, 0, 0, 0, 0, 0, 1] (.j (cRIter (B0 + 0) 0 z (T0 + 1) (τ0 0) (T0 + 2)) [0] fun α1 τ1 ν1 B1 T1 => hl [0] (.j (cTc w.params (kt w.params) L rl (setT tf 3 (T0 + 0)) xs n i j z ti tj (τ0 0) [] (α1 0) 0 z out1) [0, 3, 4] fun α2 τ2 ν2 B2 T2 => hl [] (.fin (consT (z + 1) (consT r (fun k => α2 (k + 2)))) (ofL []) (ofV [.int (z : Int) (τ0 0), ν2 0]) []))))) (fun B T => good_hl _ ⟨vRng _ _ _ hr, fun _ _ _ _ _ => good_hl _ ⟨vRIter _ _ _ _ _ _ (by omega) hz, fun _ _ _ _ _ => good_hl _ ⟨hT _ _ _, fun _ _ _ _ _ => good_hl _ trivial⟩⟩⟩) fun B T => ?_
  kernel_rfl
theorem vTz1b (L rl : Addr) (tf : Nat → Nat) (xs : List E) (n i j : Nat) (ti tj : Tok) (zv cv : Value) (it : Addr) (z r : Nat) (out : Result) (hz : z ≤ 9) (hr : r ≤ 9)
    (hT : ∀ tf tz it, Valid pw w (kt w.params) (cTc w.params (kt w.params) L rl tf xs n i j z ti tj tz [cv] it 0 z (.ok .next))) (ih : ∀ tf zv cv, Valid pw w (kt w.params) (cTz w.params (kt w.params) L rl tf xs n i j ti tj [zv, cv] it (z + 1) r out)) : Valid pw w (kt w.params) (cTz w.params (kt w.params) L rl tf xs n i j ti tj [zv, cv] it z (r + 1) out) := by
  let out1 : Result := (.ok .next)
  refine valid_of 300 (fun B T => hl [0] (.j (cRng it z r) [0] fun α0 τ0 ν0 B0 T0 => hl [0, 2, 2, 7, 1, 2, 0, 0, 0, 0, 0, 0, 0, 0, 0, 0, 0, 0, 1] (.j (cRIter (B0 + 0) 0 z (T0 + 1) (τ0 0) (T0 + 2)) [0] fun α1 τ1 ν1 B1 T1 => hl [0] (.j (cTc w.params (kt w.params) L rl (setT tf 3 (tf 3)) xs n i j z ti tj (τ0 0) [cv] (α1 0) 0 z out1) [0, 3, 4] fun α2 τ2 ν2 B2 T2 => hl [] (.j (cTz w.params (kt w.params) L rl (fun k => α2 (k + 2)) xs n i j ti tj [.int (z : Int) (τ0 0), ν2 0] it (z + 1) r out) [2, 3, 4] fun α3 τ3 ν3 B3 T3 => hl [] (.fin α3 τ3 ν3 [])))))) (fun B T => good_hl _ ⟨vRng _ _ _ hr, fun _ _ _ _ _ => good_hl _ ⟨vRIter _ _ _ _ _ _ (by omega) hz, fun _ _ _ _ _ => good_hl _ ⟨hT _ _ _, fun _ _ _ _ _ => good_hl _ ⟨ih _ _ _, fun _ _ _ _ _ => good_hl _ trivial⟩⟩⟩⟩) fun B T => ?_
  kernel_rfl
theorem vTz2b (L rl : Addr) (tf : Nat → Nat) (xs : List E) (n i j : Nat) (ti tj : Tok) (zv cv : Value) (it : Addr) (z r : Nat) (out : Result) (hz : z ≤ 9) (hr : r ≤ 9)
    (hT : ∀ tf tz it, Valid pw w (kt w.params) (cTc w.params (kt w.params) L rl tf xs n i j z ti tj tz [cv] it 0 z (.ok (.ret (.bool true)))))  : Valid pw w (kt w.params) (cTz w.params (kt w.params) L rl tf xs n i j ti tj [zv, cv] it z (r + 1) (.ok (.ret (.bool true)))) := by
  let out1 : Result := (.ok (.ret (.bool true)))
  refine valid_of 300 (fun B T => hl [0] (.j (cRng it z r) [0] fun α0 τ0 ν0 B0 T0 => hl [0, 2, 2, 7, 1, 2, 0, 0, 0, 0, 0, 0, 0, 0, 0, 0, 0, 0, 1] (.j (cRIter (B0 + 0) 0 z (T0 + 1) (τ0 0) (T0 + 2)) [0] fun α1 τ1 ν1 B1 T1 => hl [0] (.j (cTc w.params (kt w.params) L rl (setT tf 3 (tf 3)) xs n i j z ti tj (τ0 0) [cv] (α1 0) 0 z out1) [0, 3, 4] fun α2 τ2 ν2 B2 T2 => hl [] (.fin (consT (z + 1) (consT r (fun k => α2 (k + 2)))) (ofL []) (ofV [.int (z : Int) (τ0 0), ν2 0]) []))))) (fun B T => good_hl _ ⟨vRng _ _ _ hr, fun _ _ _ _ _ => good_hl _ ⟨vRIter _ _ _ _ _ _ (by omega) hz, fun _ _ _ _ _ => good_hl _ ⟨hT _ _ _, fun _ _ _ _ _ => good_hl _ trivial⟩⟩⟩) fun B T => ?_
  kernel_rfl
def twZB (rs : List Nat) (i : Nat) : Nat → Nat → Bool
  | _, 0 => false
  | z, r + 1 => if twIn rs i z 0 z then true else twZB rs i (z + 1) r
theorem vTz (L rl : Addr) (xs : List E) (n i j : Nat) (ti tj : Tok) (it : Addr) (hln : xs.length ≤ 9) (hi : i < xs.length) : ∀ (r z : Nat) (tf : Nat → Nat) (zv cv : Value), z + r ≤ xs.length →
    Valid pw w (kt w.params) (cTz w.params (kt w.params) L rl tf xs n i j ti tj [zv, cv] it z r (outB (twZB (rk xs) i z r)))
  | 0, z, tf, zv, cv, _ => vTz0 L rl tf xs n i j ti tj zv cv it z
  | r + 1, z, tf, zv, cv, h => by
    have hT := fun tf tz it => vTc (w := w) L rl xs n i j z ti tj tz it hln hi (by omega) z 0 tf cv (by omega)
    unfold twZB
    cases e : twIn (rk xs) i z 0 z with
    | true =>
      rw [e] at hT
      exact vTz2b L rl tf xs n i j ti tj zv cv it z r (.ok .next) (by omega) (by omega) hT
    | false =>
      rw [e] at hT
      exact vTz1b L rl tf xs n i j ti tj zv cv it z r _ (by omega) (by omega) hT fun tf zv cv => vTz L rl xs n i j ti tj it hln hi r (z + 1) tf zv cv (by omega)
theorem vTzA (L rl : Addr) (xs : List E) (n i j : Nat) (ti tj : Tok) (it : Addr) (hln : xs.length ≤ 9) (hi : i < xs.length) (r z : Nat) (tf : Nat → Nat) (hz : 0 < z) (h : z + (r + 1) ≤ xs.length) :
    Valid pw w (kt w.params) (cTz w.params (kt w.params) L rl tf xs n i j ti tj [] it z (r + 1) (outB (twZB (rk xs) i z (r + 1)))) := by
  obtain ⟨y, rfl⟩ : ∃ y, z = y + 1 := ⟨z - 1, by omega⟩
  have hT := fun tf tz it => vTcA (w := w) L rl xs n i j (y + 1) ti tj tz it hln hi (by omega) y tf (by omega)
  unfold twZB
  cases e : twIn (rk xs) i (y + 1) 0 (y + 1) with
  | true =>
    rw [e] at hT
    exact vTz2a L rl tf xs n i j ti tj .none .none it (y + 1) r (.ok .next) (by omega) (by omega) hT
  | false =>
    rw [e] at hT
    exact vTz1a L rl tf xs n i j ti tj .none .none it (y + 1) r _ (by omega) (by omega) hT fun tf zv cv => vTz L rl xs n i j ti tj it hln hi r (y + 1 + 1) tf zv cv (by omega)
theorem vTw1 (rl : Addr) (xs : List E) (n i j : Nat) (ti tj : Tok) (a b : E) (ha : xs[i]? = some a) (hb : xs[j]? = some b) (hln : xs.length ≤ 9) (h : a.1 ≤ b.1) : Valid pw w (kt w.params) (cStay 803 rl xs n i j ti tj true) := by
  have hi : i < xs.length := (List.getElem?_eq_some_iff.mp ha).1
  have hj : j < xs.length := (List.getElem?_eq_some_iff.mp hb).1
  refine valid_of 200 (fun B T => hl [1607, 1605, 0, 0, 0, 0, 0, 0, 0, 0, 0, 0, 5, 0, 0, 0, 2, 2, 2] (.j (cGet rl (xs.map iv) n i (i : Int) (ti) (iv a)) [1] fun α0 τ0 ν0 B0 T0 => hl [0, 0, 2, 2, 2] (.j (cGet rl (xs.map iv) n j (j : Int) (tj) (iv b)) [1] fun α1 τ1 ν1 B1 T1 => hl [1] (.j (cIc "int.__le__" (a.1 : Int) (b.1 : Int) a.2 b.2 true) [] fun α2 τ2 ν2 B2 T2 => hl [] (.fin (ofL []) (ofL []) (ofV []) []))))) (fun B T => good_hl _ ⟨vGet _ _ _ _ _ _ _ rfl (by omega) (by simp [ha]), fun _ _ _ _ _ => good_hl _ ⟨vGet _ _ _ _ _ _ _ rfl (by omega) (by simp [hb]), fun _ _ _ _ _ => good_hl _ ⟨vILe _ _ _ _ _ (by simp; omega), fun _ _ _ _ _ => good_hl _ trivial⟩⟩⟩) fun B T => ?_
  kernel_rfl
theorem vTw2 (rl : Addr) (xs : List E) (n i j : Nat) (ti tj : Tok) (a b : E) (ha : xs[i]? = some a) (hb : xs[j]? = some b) (hln : xs.length ≤ 9) (h : ¬ a.1 ≤ b.1) (hj : j = 0 + (i + 1)) : Valid pw w (kt w.params) (cStay 803 rl xs n i j ti tj false) := by
  have hi' : i < xs.length := (List.getElem?_eq_some_iff.mp ha).1
  have hj' : j < xs.length := (List.getElem?_eq_some_iff.mp hb).1
  subst hj
  let j := 0 + (i + 1)
  refine valid_of 300 (fun B T => hl [1607, 1605, 0, 0, 0, 0, 0, 0, 0, 0, 0, 0, 5, 0, 0, 0, 2, 2, 2] (.j (cGet rl (xs.map iv) n i (i : Int) (ti) (iv a)) [1] fun α0 τ0 ν0 B0 T0 => hl [0, 0, 2, 2, 2] (.j (cGet rl (xs.map iv) n j (j : Int) (tj) (iv b)) [1] fun α1 τ1 ν1 B1 T1 => hl [1] (.j (cIc "int.__le__" (a.1 : Int) (b.1 : Int) a.2 b.2 false) [] fun α2 τ2 ν2 B2 T2 => hl [7, 1, 0, 0, 0, 0, 0, 0, 0, 0, 0, 0, 0, 0, 0, 0, 0, 0, 1] (.j (cRIter (B2 + 0) (i + 1) 0 (T2 + 1) tj (T2 + 2)) [0] fun α3 τ3 ν3 B3 T3 => hl [0, 0, 0, 0, 0, 0, 0, 0, 0, 0, 0] (.fin (ofL []) (ofL []) (ofV []) [])))))) (fun B T => good_hl _ ⟨vGet _ _ _ _ _ _ _ rfl (by omega) (by simp [ha]), fun _ _ _ _ _ => good_hl _ ⟨vGet _ _ _ _ _ _ _ rfl (by omega) (by rw [List.getElem?_map, hb]; rfl), fun _ _ _ _ _ => good_hl _ ⟨vILe _ _ _ _ _ (by simp; omega), fun _ _ _ _ _ => good_hl _ ⟨vRIter _ _ _ _ _ _ (by omega) (by omega), fun _ _ _ _ _ => good_hl _ trivial⟩⟩⟩⟩) fun B T => ?_
  kernel_rfl
theorem vTw3 (rl : Addr) (xs : List E) (n i j m : Nat) (ti tj : Tok) (a b : E) (β : Bool) (ha : xs[i]? = some a) (hb : xs[j]? = some b) (hln : xs.length ≤ 9) (h : ¬ a.1 ≤ b.1) (hj : j = (m + 1) + (i + 1))
    (hz : ∀ L it tf, Valid pw w (kt w.params) (cTz w.params (kt w.params) L rl tf xs n i j ti tj [] it (i + 1) (m + 1) (outB β))) : Valid pw w (kt w.params) (cStay 803 rl xs n i j ti tj β) := by
  have hi' : i < xs.length := (List.getElem?_eq_some_iff.mp ha).1
  have hj' : j < xs.length := (List.getElem?_eq_some_iff.mp hb).1
  subst hj
  let j := (m + 1) + (i + 1)
  cases β with
  | true =>
    let out := outB true
    refine valid_of 300 (fun B T => hl [1607, 1605, 0, 0, 0, 0, 0, 0, 0, 0, 0, 0, 5, 0, 0, 0, 2, 2, 2] (.j (cGet rl (xs.map iv) n i (i : Int) (ti) (iv a)) [1] fun α0 τ0 ν0 B0 T0 => hl [0, 0, 2, 2, 2] (.j (cGet rl (xs.map iv) n j (j : Int) (tj) (iv b)) [1] fun α1 τ1 ν1 B1 T1 => hl [1] (.j (cIc "int.__le__" (a.1 : Int) (b.1 : Int) a.2 b.2 false) [] fun α2 τ2 ν2 B2 T2 => hl [7, 1, 0, 0, 0, 0, 0, 0, 0, 0, 0, 0, 0, 0, 0, 0, 0, 0, 1] (.j (cRIter (B2 + 0) (i + 1) (m + 1) (T2 + 1) tj (T2 + 2)) [0] fun α3 τ3 ν3 B3 T3 => hl [0] (.j (cTz w.params (kt w.params) (B + 0) rl (ofL [T + 0, T + 1, T + 2]) xs n i j ti tj [] (α3 0) (i + 1) (m + 1) out) [0, 2, 3] fun α4 τ4 ν4 B4 T4 => hl [] (.fin (ofL []) (ofL []) (ofV []) []))))))) (fun B T => good_hl _ ⟨vGet _ _ _ _ _ _ _ rfl (by omega) (by simp [ha]), fun _ _ _ _ _ => good_hl _ ⟨vGet _ _ _ _ _ _ _ rfl (by omega) (by rw [List.getElem?_map, hb]; rfl), fun _ _ _ _ _ => good_hl _ ⟨vILe _ _ _ _ _ (by simp; omega), fun _ _ _ _ _ => good_hl _ ⟨vRIter _ _ _ _ _ _ (by omega) (by omega), fun _ _ _ _ _ => good_hl _ ⟨hz _ _ _, fun _ _ _ _ _ => good_hl _ trivial⟩⟩⟩⟩⟩) fun B T => ?_
    kernel_rfl
  | false =>
    let out := outB false
    refine valid_of 300 (fun B T => hl [1607, 1605, 0, 0, 0, 0, 0, 0, 0, 0, 0, 0, 5, 0, 0, 0, 2, 2, 2] (.j (cGet rl (xs.map iv) n i (i : Int) (ti) (iv a)) [1] fun α0 τ0 ν0 B0 T0 => hl [0, 0, 2, 2, 2] (.j (cGet rl (xs.map iv) n j (j : Int) (tj) (iv b)) [1] fun α1 τ1 ν1 B1 T1 => hl [1] (.j (cIc "int.__le__" (a.1 : Int) (b.1 : Int) a.2 b.2 false) [] fun α2 τ2 ν2 B2 T2 => hl [7, 1, 0, 0, 0, 0, 0, 0, 0, 0, 0, 0, 0, 0, 0, 0, 0, 0, 1] (.j (cRIter (B2 + 0) (i + 1) (m + 1) (T2 + 1) tj (T2 + 2)) [0] fun α3 τ3 ν3 B3 T3 => hl [0] (.j (cTz w.params (kt w.params) (B + 0) rl (ofL [T + 0, T + 1, T + 2]) xs n i j ti tj [] (α3 0) (i + 1) (m + 1) out) [0, 2, 3] fun α4 τ4 ν4 B4 T4 => hl [] (.fin (ofL []) (ofL []) (ofV []) []))))))) (fun B T => good_hl _ ⟨vGet _ _ _ _ _ _ _ rfl (by omega) (by simp [ha]), fun _ _ _ _ _ => good_hl _ ⟨vGet _ _ _ _ _ _ _ rfl (by omega) (by rw [List.getElem?_map, hb]; rfl), fun _ _ _ _ _ => good_hl _ ⟨vILe _ _ _ _ _ (by simp; omega), fun _ _ _ _ _ => good_hl _ ⟨vRIter _ _ _ _ _ _ (by omega) (by omega), fun _ _ _ _ _ => good_hl _ ⟨hz _ _ _, fun _ _ _ _ _ => good_hl _ trivial⟩⟩⟩⟩⟩) fun B T => ?_
    kernel_rfl
/-- what the law asks, over ranks -/
def onceR (rs : List Nat) (i j : Nat) : Bool := decide (rs.getD i 0 ≤ rs.getD j 0) || decide (rs.getD i 0 < segMax rs i j)
def twiceR (rs : List Nat) (i j : Nat) : Bool := decide (rs.getD i 0 ≤ rs.getD j 0) || twZB rs i (i + 1) (j - (i + 1))
theorem vOnce (rl : Addr) (xs : List E) (n i j : Nat) (ti tj : Tok) (hln : xs.length ≤ 9) (hij : i < j) (hj : j < xs.length) : Valid pw w (kt w.params) (cStay 796 rl xs n i j ti tj (onceR (rk xs) i j)) := by
  have ha : xs[i]? = some xs[i] := by simp
  have hb : xs[j]? = some xs[j] := by simp [hj]
  have ea := getD_rk ha
  have eb := getD_rk hb
  generalize xs[i] = a at *
  generalize xs[j] = b at *
  unfold onceR
  rw [ea, eb]
  by_cases h : a.1 ≤ b.1
  · have e : (decide (a.1 ≤ b.1) || decide (a.1 < segMax (rk xs) i j)) = true := by simp [h]
    rw [e]
    exact vOnceA rl xs n i j ti tj a b ha hb hln h
  · have e : (decide (a.1 ≤ b.1) || decide (a.1 < segMax (rk xs) i j)) = decide (a.1 < segMax (rk xs) i j) := by simp [h]
    rw [e]
    exact vOnceB rl xs n i j ti tj a b _ ha hb hln hij h rfl
theorem vTwice (rl : Addr) (xs : List E) (n i j : Nat) (ti tj : Tok) (hln : xs.length ≤ 9) (hij : i < j) (hj : j < xs.length) : Valid pw w (kt w.params) (cStay 803 rl xs n i j ti tj (twiceR (rk xs) i j)) := by
  have ha : xs[i]? = some xs[i] := by simp
  have hb : xs[j]? = some xs[j] := by simp [hj]
  have ea := getD_rk ha
  have eb := getD_rk hb
  generalize xs[i] = a at *
  generalize xs[j] = b at *
  unfold twiceR
  rw [ea, eb]
  by_cases h : a.1 ≤ b.1
  · have e : (decide (a.1 ≤ b.1) || twZB (rk xs) i (i + 1) (j - (i + 1))) = true := by simp [h]
    rw [e]
    exact vTw1 rl xs n i j ti tj a b ha hb hln h
  · have e : (decide (a.1 ≤ b.1) || twZB (rk xs) i (i + 1) (j - (i + 1))) = twZB (rk xs) i (i + 1) (j - (i + 1)) := by simp [h]
    rw [e]
    rcases Nat.eq_zero_or_pos (j - (i + 1)) with q | q
    · rw [q]
      exact vTw2 rl xs n i j ti tj a b ha hb hln h (by omega)
    · obtain ⟨m, hm⟩ : ∃ m, j - (i + 1) = m + 1 := ⟨j - (i + 1) - 1, by omega⟩
      rw [hm]
      exact vTw3 rl xs n i j m ti tj a b _ ha hb hln h (by omega) fun L it tf => vTzA L rl xs n i j ti tj it hln (by omega) m (i + 1) tf (by omega) (by omega)
end
end Mine
/-! part C18 -/
set_option maxRecDepth 100000
set_option linter.unusedVariables false
namespace Mine
open PySem PySem.Spec PySem.Calls PyProof.Rows PySem.W PySem.W.X
def exprOf : Stmt → PySem.Expr
  | .Expr v _ => v
  | .Assign _ v _ => v
  | .If v _ _ _ => v
  | .Return (some v) _ => v
  | _ => .Constant .none 0 default
def nthE : List PySem.Expr → Nat → PySem.Expr
  | [], _ => .Constant .none 0 default
  | x :: _, 0 => x
  | _ :: r, n + 1 => nthE r n
def callA : PySem.Expr → Nat → PySem.Expr
  | .Call _ as _ _, n => nthE as n
  | .Compare l _ rs _, n => match n with | 0 => l | n + 1 => nthE rs n
  | _, _ => .Constant .none 0 default
def freeCell : List (Str × NameKind) → List (Str × NameKind)
  | [] => []
  | (x, k) :: r => (x, match k with | .free => .cell | k => k) :: freeCell r
def compSc : PySem.Expr → Scope
  | .ListComp _ _ s _ => { s with names := freeCell s.names }
  | _ => default
/-- the environment of a comprehension -/
def cEnv (o : Env) (e : PySem.Expr) (loc : Addr) (cells : List (Str × Addr)) : Env := { o with scope := compSc e, locals := loc, cells := cells, func := none }
def rngV (a b : Value) : Obj := { cls := .type "range_iterator", data := .fields ⟨[a, b, .int 1 0]⟩ }
/-- the names of a comprehension -/
def locD (P : Params) (nm : List Nat) (tk : Tok) (vs : List Value) : Obj := dic (fze (hfP P [nm]) (fun _ => tk) 0 [nm] vs) vs.length
structure OE where
  L : Addr
  cR : Addr
  cS : Addr
  cJ : Addr
  ol : Addr
  rl : Addr
  tk : Tok
  loc : Addr
def OE.at' (o : OE) (a : Addr) : OE := { o with loc := a }
def ordQ : List Nat := [95, 108, 97, 119, 95, 111, 114, 100, 101, 114, 46, 60, 108, 111, 99, 97, 108, 115, 62, 46]
def ordN : List (List Nat) := [[111, 114, 100, 101, 114]]
def ordFor (kt : KT) : Stmt := nthS (fnStmts kt 808) 1
def ordE (kt : KT) : PySem.Expr := callA (callA (exprOf (nthS (bodyOf (ordFor kt)) 0)) 0) 0
def rowK : Str := ⟨⟨[114, 111, 119]⟩⟩
def staysK : Str := ⟨⟨[115, 116, 97, 121, 115]⟩⟩
def jK : Str := ⟨⟨[106]⟩⟩
def OE.env (kt : KT) (o : OE) : Env := fnEnv kt 808 o.L [(jK, o.cJ), (staysK, o.cS), (rowK, o.cR)] ordQ
def OE.cenv (kt : KT) (o : OE) : Env := cEnv (o.env kt) (ordE kt) o.loc [(staysK, o.cS), (rowK, o.cR), (jK, o.cJ)]
def orN (b : Bool) (v : Value) : List Value := match b with | true => [v] | false => []
section
variable {w : World}
def cLen (a : Addr) (vs : List Value) (n k : Nat) : Ct :=
  { code := .call (.builtin "len") ⟨[.ref a], []⟩, need := [(a, lst vs n)], k := 0, res := fun _ τ _ => ret0 (.int (k : Int) (τ 0)), post := fun _ _ _ => [lst vs n], new := fun _ _ _ => [], D := 800, U := 8500 }
theorem vLen (a : Addr) (vs : List Value) (n k : Nat) (h : vs.length = k) (h9 : vs.length ≤ 9) : Valid pw w (kt w.params) (cLen a vs n k) := by
  subst h
  have run : ∀ vs : List Value, Eqn w 60 (cLen a vs n vs.length) (fun B T => hl [0, 0, 0, 0, 0, 0] (.fin (ofL []) (ofL [T + 1]) (ofV []) [])) → Valid pw w (kt w.params) (cLen a vs n vs.length) :=
    fun vs e => valid_of 60 (fun B T => hl [0, 0, 0, 0, 0, 0] (.fin (ofL []) (ofL [T + 1]) (ofV []) [])) (fun B T => good_hl _ trivial) e
  match vs, h9 with
  | [], _ => exact run _ fun B T => by kernel_rfl
  | [a0], _ => exact run _ fun B T => by kernel_rfl
  | [a0, a1], _ => exact run _ fun B T => by kernel_rfl
  | [a0, a1, a2], _ => exact run _ fun B T => by kernel_rfl
  | [a0, a1, a2, a3], _ => exact run _ fun B T => by kernel_rfl
  | [a0, a1, a2, a3, a4], _ => exact run _ fun B T => by kernel_rfl
  | [a0, a1, a2, a3, a4, a5], _ => exact run _ fun B T => by kernel_rfl
  | [a0, a1, a2, a3, a4, a5, a6], _ => exact run _ fun B T => by kernel_rfl
  | [a0, a1, a2, a3, a4, a5, a6, a7], _ => exact run _ fun B T => by kernel_rfl
  | [a0, a1, a2, a3, a4, a5, a6, a7, a8], _ => exact run _ fun B T => by kernel_rfl
  | _ :: _ :: _ :: _ :: _ :: _ :: _ :: _ :: _ :: _ :: r, h => exact absurd h (by simp)
/-- which of the ranks ahead stay there -/
def cOC (P : Params) (kt : KT) (f : Nat) (o : OE) (it ac : Addr) (tk : Tok) (xs : List E) (n j : Nat) (tj : Tok) (av : List Value) (an : Nat) (ivs : List Value) (b : Bool) (c r : Nat) (fo : (Nat → Nat) → List Value) (oN : Nat) : Ct :=
  { code := .compLoop (ordE kt) 0 (.ref it) (.ref ac) (o.cenv kt), need := [(it, rngO (c : Int) (r : Int)), (ac, lst av an), (o.loc, locD P [105] tk ivs), (o.cR, cellO (.ref o.rl)), (o.cS, cellO (.ref f)), (o.cJ, cellO (iI j tj)), (o.rl, lst (xs.map iv) n)], k := 0, res := fun _ _ _ => .ok .next,
    post := fun α τ ν => [rngV (ν 1) (ν 2), lst (fo α) oN, locD P [105] (τ 0) (orN b (ν 0)), cellO (.ref o.rl), cellO (.ref f), cellO (iI j tj), lst (xs.map iv) n], new := fun _ _ _ => [], D := 640, U := 7400 }
def stI (st : Nat → Nat → Bool) (j : Nat) : Nat → Nat → List Nat
  | _, 0 => []
  | c, r + 1 => if st c j then c :: stI st j (c + 1) r else stI st j (c + 1) r
/-- the loop over the row -/
def cOL (P : Params) (kt : KT) (f : Nat) (o : OE) (it : Addr) (xs : List E) (n : Nat) (ov : List Value) (on : Nat) (jo : Option Value) (c r : Nat) (oV : List Value) (oN : Nat) : Ct :=
  { code := forCode (ordFor kt) it (o.env kt), need := [(it, rngO (c : Int) (r : Int)), (o.L, frD (hfP P ordN) (fun _ => o.tk) ordN [.ref o.ol] 1 #[]), (o.cR, cellO (.ref o.rl)), (o.cS, cellO (.ref f)), (o.cJ, { cls := .type "cell", data := .cell jo }), (o.rl, lst (xs.map iv) n), (o.ol, lst ov on)], k := 0, res := fun _ _ _ => .ok .next,
    post := fun _ _ ν => [rngV (ν 1) (ν 2), frD (hfP P ordN) (fun _ => o.tk) ordN [.ref o.ol] 1 #[], cellO (.ref o.rl), cellO (.ref f), cellO (ν 0), lst (xs.map iv) n, lst oV oN], new := fun _ _ _ => [], D := 610, U := 7250 }
def cOrd (f : Nat) (rl : Addr) (xs : List E) (n : Nat) (oV : List Value) (oN : Nat) : Ct :=
  { code := .call (.ref 808) ⟨[.ref rl, .ref f], []⟩, need := [(rl, lst (xs.map iv) n)], k := 1, res := fun α _ _ => ret0 (.ref (α 0)), post := fun _ _ _ => [lst (xs.map iv) n], new := fun _ _ _ => [lst oV oN], D := 580, U := 7150 }
theorem vO796_0e (o : OE) (it ac : Addr) (tk : Tok) (xs : List E) (n j : Nat) (tj : Tok) (av : List Value) (an c : Nat) : Valid pw w (kt w.params) (cOC w.params (kt w.params) 796 o it ac tk xs n j tj av an [] false c 0 (fun _ => av) an) := by
  refine valid_of 60 (fun B T => hl [0, 0, 0, 0, 0, 0, 0, 0] (.fin (ofL []) (ofL []) (ofV [.none, .int (c : Int) 0, .int ((0 : Nat) : Int) 0]) [])) (fun B T => good_hl _ trivial) fun B T => ?_
  kernel_rfl
theorem vO796_0 (o : OE) (it ac : Addr) (tk : Tok) (xs : List E) (n j : Nat) (tj : Tok) (av : List Value) (an c : Nat) (iv0 : Value) : Valid pw w (kt w.params) (cOC w.params (kt w.params) 796 o it ac tk xs n j tj av an [iv0] true c 0 (fun _ => av) an) := by
  refine valid_of 60 (fun B T => hl [0, 0, 0, 0, 0, 0, 0, 0] (.fin (ofL []) (ofL [tk]) (ofV [iv0, .int (c : Int) 0, .int ((0 : Nat) : Int) 0]) [])) (fun B T => good_hl _ trivial) fun B T => ?_
  kernel_rfl
theorem vO796_1a (oe : OE) (it ac : Addr) (tk : Tok) (xs : List E) (n j : Nat) (tj : Tok) (av : List Value) (an c r : Nat) (iv0 : Value) (fo : (Nat → Nat) → List Value) (oN : Nat) (hr : r ≤ 9) (ha : av.length ≤ 9) (hs : ∀ ti, Valid pw w (kt w.params) (cStay 796 oe.rl xs n c j ti tj true))
    (ih : ∀ tk t1 v, Valid pw w (kt w.params) (cOC w.params (kt w.params) 796 oe it ac tk xs n j tj (av ++ [iI c t1]) (an + 1) [v] true (c + 1) r (fun a => fo (consT t1 a)) oN)) : Valid pw w (kt w.params) (cOC w.params (kt w.params) 796 oe it ac tk xs n j tj av an [] true c (r + 1) fo oN) := by
  let rl := oe.rl
  refine valid_of 200 (fun B T => hl [0] (.j (cRng it c r) [0] fun α0 τ0 ν0 B0 T0 => hl [0, 4, 4, 8, 6, 4, 10, 1593] (.j (cStay 796 rl xs n c j (τ0 0) tj true) [6] fun α1 τ1 ν1 B1 T1 => hl [4] (.j (cAppend ac av an (.int (c : Int) (τ0 0))) [1] fun α2 τ2 ν2 B2 T2 => hl [] (.j (cOC w.params (kt w.params) 796 oe it ac (T0 + 0) xs n j tj (av ++ [iI c (τ0 0)]) (an + 1) [iI c (τ0 0)] true (c + 1) r (fun a => fo (consT (τ0 0) a)) oN) [0, 1, 2, 3, 4, 5, 6] fun α3 τ3 ν3 B3 T3 => hl [] (.fin (consT (τ0 0) α3) τ3 ν3 [])))))) (fun B T => good_hl _ ⟨vRng _ _ _ hr, fun _ _ _ _ _ => good_hl _ ⟨hs _, fun _ _ _ _ _ => good_hl _ ⟨vAppend _ _ _ _ (by omega), fun _ _ _ _ _ => good_hl _ ⟨ih _ _ _, fun _ _ _ _ _ => good_hl _ trivial⟩⟩⟩⟩) fun B T => ?_
  kernel_rfl
theorem vO796_2a (oe : OE) (it ac : Addr) (tk : Tok) (xs : List E) (n j : Nat) (tj : Tok) (av : List Value) (an c r : Nat) (iv0 : Value) (fo : (Nat → Nat) → List Value) (oN : Nat) (hr : r ≤ 9) (ha : av.length ≤ 9) (hs : ∀ ti, Valid pw w (kt w.params) (cStay 796 oe.rl xs n c j ti tj false))
    (ih : ∀ tk v, Valid pw w (kt w.params) (cOC w.params (kt w.params) 796 oe it ac tk xs n j tj av an [v] true (c + 1) r fo oN)) : Valid pw w (kt w.params) (cOC w.params (kt w.params) 796 oe it ac tk xs n j tj av an [] true c (r + 1) fo oN) := by
  let rl := oe.rl
  refine valid_of 200 (fun B T => hl [0] (.j (cRng it c r) [0] fun α0 τ0 ν0 B0 T0 => hl [0, 4, 4, 8, 6, 4, 10, 1593] (.j (cStay 796 rl xs n c j (τ0 0) tj false) [6] fun α1 τ1 ν1 B1 T1 => hl [] (.j (cOC w.params (kt w.params) 796 oe it ac (T0 + 0) xs n j tj av an [iI c (τ0 0)] true (c + 1) r fo oN) [0, 1, 2, 3, 4, 5, 6] fun α2 τ2 ν2 B2 T2 => hl [] (.fin α2 τ2 ν2 []))))) (fun B T => good_hl _ ⟨vRng _ _ _ hr, fun _ _ _ _ _ => good_hl _ ⟨hs _, fun _ _ _ _ _ => good_hl _ ⟨ih _ _, fun _ _ _ _ _ => good_hl _ trivial⟩⟩⟩) fun B T => ?_
  kernel_rfl
theorem vO796_1b (oe : OE) (it ac : Addr) (tk : Tok) (xs : List E) (n j : Nat) (tj : Tok) (av : List Value) (an c r : Nat) (iv0 : Value) (fo : (Nat → Nat) → List Value) (oN : Nat) (hr : r ≤ 9) (ha : av.length ≤ 9) (hs : ∀ ti, Valid pw w (kt w.params) (cStay 796 oe.rl xs n c j ti tj true))
    (ih : ∀ tk t1 v, Valid pw w (kt w.params) (cOC w.params (kt w.params) 796 oe it ac tk xs n j tj (av ++ [iI c t1]) (an + 1) [v] true (c + 1) r (fun a => fo (consT t1 a)) oN)) : Valid pw w (kt w.params) (cOC w.params (kt w.params) 796 oe it ac tk xs n j tj av an [iv0] true c (r + 1) fo oN) := by
  let rl := oe.rl
  refine valid_of 200 (fun B T => hl [0] (.j (cRng it c r) [0] fun α0 τ0 ν0 B0 T0 => hl [0, 4, 4, 8, 6, 4, 10, 1593] (.j (cStay 796 rl xs n c j (τ0 0) tj true) [6] fun α1 τ1 ν1 B1 T1 => hl [4] (.j (cAppend ac av an (.int (c : Int) (τ0 0))) [1] fun α2 τ2 ν2 B2 T2 => hl [] (.j (cOC w.params (kt w.params) 796 oe it ac (tk) xs n j tj (av ++ [iI c (τ0 0)]) (an + 1) [iI c (τ0 0)] true (c + 1) r (fun a => fo (consT (τ0 0) a)) oN) [0, 1, 2, 3, 4, 5, 6] fun α3 τ3 ν3 B3 T3 => hl [] (.fin (consT (τ0 0) α3) τ3 ν3 [])))))) (fun B T => good_hl _ ⟨vRng _ _ _ hr, fun _ _ _ _ _ => good_hl _ ⟨hs _, fun _ _ _ _ _ => good_hl _ ⟨vAppend _ _ _ _ (by omega), fun _ _ _ _ _ => good_hl _ ⟨ih _ _ _, fun _ _ _ _ _ => good_hl _ trivial⟩⟩⟩⟩) fun B T => ?_
  kernel_rfl
theorem vO796_2b (oe : OE) (it ac : Addr) (tk : Tok) (xs : List E) (n j : Nat) (tj : Tok) (av : List Value) (an c r : Nat) (iv0 : Value) (fo : (Nat → Nat) → List Value) (oN : Nat) (hr : r ≤ 9) (ha : av.length ≤ 9) (hs : ∀ ti, Valid pw w (kt w.params) (cStay 796 oe.rl xs n c j ti tj false))
    (ih : ∀ tk v, Valid pw w (kt w.params) (cOC w.params (kt w.params) 796 oe it ac tk xs n j tj av an [v] true (c + 1) r fo oN)) : Valid pw w (kt w.params) (cOC w.params (kt w.params) 796 oe it ac tk xs n j tj av an [iv0] true c (r + 1) fo oN) := by
  let rl := oe.rl
  refine valid_of 200 (fun B T => hl [0] (.j (cRng it c r) [0] fun α0 τ0 ν0 B0 T0 => hl [0, 4, 4, 8, 6, 4, 10, 1593] (.j (cStay 796 rl xs n c j (τ0 0) tj false) [6] fun α1 τ1 ν1 B1 T1 => hl [] (.j (cOC w.params (kt w.params) 796 oe it ac (tk) xs n j tj av an [iI c (τ0 0)] true (c + 1) r fo oN) [0, 1, 2, 3, 4, 5, 6] fun α2 τ2 ν2 B2 T2 => hl [] (.fin α2 τ2 ν2 []))))) (fun B T => good_hl _ ⟨vRng _ _ _ hr, fun _ _ _ _ _ => good_hl _ ⟨hs _, fun _ _ _ _ _ => good_hl _ ⟨ih _ _, fun _ _ _ _ _ => good_hl _ trivial⟩⟩⟩) fun B T => ?_
  kernel_rfl
theorem vO796 (oe : OE) (it ac : Addr) (xs : List E) (n j : Nat) (tj : Tok) (hln : xs.length ≤ 9) (hj : j < xs.length) : ∀ (r c : Nat) (tk : Tok) (av : List Value) (an : Nat) (iv0 : Value), c + r = j → av.length + r ≤ 9 →
    Valid pw w (kt w.params) (cOC w.params (kt w.params) 796 oe it ac tk xs n j tj av an [iv0] true c r (fun a => av ++ (wds (stI (onceR (rk xs)) j c r) a).map iv) (an + (stI (onceR (rk xs)) j c r).length))
  | 0, c, tk, av, an, iv0, _, _ => by
    have e : (fun a : Nat → Nat => av ++ (wds (stI (onceR (rk xs)) j c 0) a).map iv) = fun _ => av := by
      funext a; simp [stI, wds]
    rw [e]
    exact vO796_0 oe it ac tk xs n j tj av an c iv0
  | r + 1, c, tk, av, an, iv0, hc, ha => by
    have hs := fun ti => vOnce (w := w) oe.rl xs n c j ti tj hln (by omega) hj
    unfold stI
    cases h : onceR (rk xs) c j with
    | true =>
      rw [h] at hs
      rw [if_pos rfl]
      refine vO796_1b oe it ac tk xs n j tj av an c r iv0 _ _ (by omega) (by omega) hs fun tk t1 v => ?_
      have ih := vO796 oe it ac xs n j tj hln hj r (c + 1) tk (av ++ [iI c t1]) (an + 1) v (by omega) (by simp; omega)
      have e1 : (fun a : Nat → Nat => (av ++ [iI c t1]) ++ (wds (stI (onceR (rk xs)) j (c + 1) r) a).map iv) = fun a => av ++ (wds (c :: stI (onceR (rk xs)) j (c + 1) r) (consT t1 a)).map iv := by
        funext a; simp [wds, iv, iI, consT]
      have e2 : an + 1 + (stI (onceR (rk xs)) j (c + 1) r).length = an + (c :: stI (onceR (rk xs)) j (c + 1) r).length := by simp only [List.length_cons]; omega
      rw [e1, e2] at ih
      exact ih
    | false =>
      rw [h] at hs
      rw [if_neg (by simp)]
      exact vO796_2b oe it ac tk xs n j tj av an c r iv0 _ _ (by omega) (by omega) hs fun tk v => vO796 oe it ac xs n j tj hln hj r (c + 1) tk av an v (by omega) (by omega)
theorem vO796A (oe : OE) (it ac : Addr) (xs : List E) (n j : Nat) (tj : Tok) (hln : xs.length ≤ 9) (hj : j < xs.length) (r : Nat) (hr : r + 1 = j) (tk : Tok) :
    Valid pw w (kt w.params) (cOC w.params (kt w.params) 796 oe it ac tk xs n j tj [] 0 [] true 0 (r + 1) (fun a => (wds (stI (onceR (rk xs)) j 0 (r + 1)) a).map iv) (stI (onceR (rk xs)) j 0 (r + 1)).length) := by
  have hs := fun ti => vOnce (w := w) oe.rl xs n 0 j ti tj hln (by omega) hj
  unfold stI
  cases h : onceR (rk xs) 0 j with
  | true =>
    rw [h] at hs
    rw [if_pos rfl]
    refine vO796_1a oe it ac tk xs n j tj [] 0 0 r .none _ _ (by omega) (by simp) hs fun tk t1 v => ?_
    have ih := vO796 (w := w) oe it ac xs n j tj hln hj r (0 + 1) tk ([] ++ [iI 0 t1]) (0 + 1) v (by omega) (by simp; omega)
    have e1 : (fun a : Nat → Nat => ([] ++ [iI 0 t1]) ++ (wds (stI (onceR (rk xs)) j (0 + 1) r) a).map iv) = fun a => (wds (0 :: stI (onceR (rk xs)) j (0 + 1) r) (consT t1 a)).map iv := by
      funext a; simp [wds, iv, iI, consT]
    have e2 : 0 + 1 + (stI (onceR (rk xs)) j (0 + 1) r).length = (0 :: stI (onceR (rk xs)) j (0 + 1) r).length := by simp only [List.length_cons]; omega
    rw [e1, e2] at ih
    exact ih
  | false =>
    rw [h] at hs
    rw [if_neg (by simp)]
    have ih := fun tk v => vO796 (w := w) oe it ac xs n j tj hln hj r (0 + 1) tk [] 0 v (by omega) (by simp; omega)
    simp only [List.nil_append, Nat.zero_add] at ih
    exact vO796_2a oe it ac tk xs n j tj [] 0 0 r .none _ _ (by omega) (by simp) hs ih
theorem vL796_0 (oe : OE) (it : Addr) (xs : List E) (n : Nat) (ov : List Value) (on : Nat) (jv : Value) (c : Nat) : Valid pw w (kt w.params) (cOL w.params (kt w.params) 796 oe it xs n ov on (some jv) c 0 ov on) := by
  refine valid_of 60 (fun B T => hl [0, 0, 0, 0, 0, 0, 0, 0, 0] (.fin (ofL []) (ofL []) (ofV [jv, .int (c : Int) 0, .int ((0 : Nat) : Int) 0]) [])) (fun B T => good_hl _ trivial) fun B T => ?_
  kernel_rfl
theorem vL796_1 (oe : OE) (it : Addr) (xs : List E) (n : Nat) (ov : List Value) (on : Nat) (jo : Option Value) (r : Nat) (oV : List Value) (oN' : Nat) (x : E) (hx : xs[0]? = some x) (hr : r ≤ 9) (ho : ov.length ≤ 9)
    (ih : ∀ jv, Valid pw w (kt w.params) (cOL w.params (kt w.params) 796 oe it xs n (ov.take 0 ++ iv x :: ov.drop 0) (on + 1) (some jv) (0 + 1) r oV oN')) : Valid pw w (kt w.params) (cOL w.params (kt w.params) 796 oe it xs n ov on jo 0 (r + 1) oV oN') := by
  have run : ∀ k c : Nat, k = 0 → c = 0 → (∀ jv, Valid pw w (kt w.params) (cOL w.params (kt w.params) 796 oe it xs n (ov.take k ++ iv x :: ov.drop k) (on + 1) (some jv) (c + 1) r oV oN')) → Valid pw w (kt w.params) (cOL w.params (kt w.params) 796 oe it xs n ov on jo c (r + 1) oV oN') := by
    intro k c hk hc ih
    subst hk hc
    let rl := oe.rl
    let fo : (Nat → Nat) → List Value := fun _ => []
    let oN := 0
    let k := 0
    let c := 0
    refine valid_of 500 (fun B T => hl [0] (.j (cRng it c r) [0] fun α0 τ0 ν0 B0 T0 => hl [8, 8, 2, 12, 12, 12, 12, 7, 1, 7, 1, 8, 0, 0, 0, 0, 0, 0, 0, 0, 0, 0, 0, 0, 1] (.j (cRIter (B0 + 0) 0 c (T0 + 0) (τ0 0) (T0 + 1)) [0] fun α1 τ1 ν1 B1 T1 => hl [0, 0] (.sp (hl [] (.j (cOC w.params (kt w.params) 796 (oe.at' (B1 + 1)) (α1 0) (B1 + 0) 0 xs n c (τ0 0) [] 0 [] false 0 c fo oN) [2, 1, 0, 6, 7, 8, 9] fun α2 τ2 ν2 B2 T2 => hl [0] (.j (cLen (B1 + 0) (fo α2) oN k) [1] fun α3 τ3 ν3 B3 T3 => hl [12, 16, 18, 18, 18] (.j (cGet rl (xs.map iv) n c (c : Int) (τ0 0) (iv x)) [9] fun α4 τ4 ν4 B4 T4 => hl [] (.j (cInsert oe.ol ov on (k : Int) (τ3 0) (iv x)) [10] fun α5 τ5 ν5 B5 T5 => hl [] (.j (cOL w.params (kt w.params) 796 oe it xs n (ov.take k ++ iv x :: ov.drop k) (on + 1) (some (iI c (τ0 0))) (c + 1) r oV oN') [4, 5, 6, 7, 8, 9, 10] fun α6 τ6 ν6 B6 T6 => hl [] (.fin (ofL []) (ofL []) ν6 []))))))) (hl [4, 4, 1, 0, 4, 0, 4] (.j (cOC w.params (kt w.params) 796 (oe.at' (B1 + 1)) (α1 0) (B1 + 0) 0 xs n c (τ0 0) [] 0 [] false 0 c fo oN) [2, 1, 0, 6, 7, 8, 9] fun α2 τ2 ν2 B2 T2 => hl [0] (.j (cLen (B1 + 0) (fo α2) oN k) [1] fun α3 τ3 ν3 B3 T3 => hl [12, 16, 18, 18, 18] (.j (cGet rl (xs.map iv) n c (c : Int) (τ0 0) (iv x)) [9] fun α4 τ4 ν4 B4 T4 => hl [] (.j (cInsert oe.ol ov on (k : Int) (τ3 0) (iv x)) [10] fun α5 τ5 ν5 B5 T5 => hl [] (.j (cOL w.params (kt w.params) 796 oe it xs n (ov.take k ++ iv x :: ov.drop k) (on + 1) (some (iI c (τ0 0))) (c + 1) r oV oN') [4, 5, 6, 7, 8, 9, 10] fun α6 τ6 ν6 B6 T6 => hl [] (.fin (ofL []) (ofL []) ν6 []))))))))))) (fun B T => good_hl _ ⟨vRng _ _ _ hr, fun _ _ _ _ _ => good_hl _ ⟨vRIter _ _ _ _ _ _ (by omega) (by omega), fun _ _ _ _ _ => good_hl _ ⟨good_hl _ ⟨vO796_0e _ _ _ _ _ _ _ _ _ _ _, fun _ _ _ _ _ => good_hl _ ⟨vLen _ _ _ _ rfl (by show (0 : Nat) ≤ 9; omega), fun _ _ _ _ _ => good_hl _ ⟨vGet _ _ _ _ _ _ _ rfl (by omega) (by rw [List.getElem?_map, hx]; rfl), fun _ _ _ _ _ => good_hl _ ⟨vInsert _ _ _ _ _ _ (by omega) (by decide) (by show (0 : Int) ≤ _; omega), fun _ _ _ _ _ => good_hl _ ⟨ih _, fun _ _ _ _ _ => good_hl _ trivial⟩⟩⟩⟩⟩, good_hl _ ⟨vO796_0e _ _ _ _ _ _ _ _ _ _ _, fun _ _ _ _ _ => good_hl _ ⟨vLen _ _ _ _ rfl (by show (0 : Nat) ≤ 9; omega), fun _ _ _ _ _ => good_hl _ ⟨vGet _ _ _ _ _ _ _ rfl (by omega) (by rw [List.getElem?_map, hx]; rfl), fun _ _ _ _ _ => good_hl _ ⟨vInsert _ _ _ _ _ _ (by omega) (by decide) (by show (0 : Int) ≤ _; omega), fun _ _ _ _ _ => good_hl _ ⟨ih _, fun _ _ _ _ _ => good_hl _ trivial⟩⟩⟩⟩⟩⟩⟩⟩) fun B T => ?_
    kernel_rfl
  exact run 0 0 rfl rfl ih
theorem vL796_2 (oe : OE) (it : Addr) (xs : List E) (n : Nat) (ov : List Value) (on : Nat) (jo : Option Value) (c r : Nat) (oV : List Value) (oN' : Nat) (x : E) (fo : (Nat → Nat) → List Value) (oN k : Nat) (hx : xs[c]? = some x) (hc9 : c ≤ 9) (hr : r ≤ 9) (ho : ov.length ≤ 9) (hk : ∀ a, (fo a).length = k) (hkc : k ≤ ov.length)
    (hO : ∀ oe' it ac tj, oe'.rl = oe.rl → Valid pw w (kt w.params) (cOC w.params (kt w.params) 796 oe' it ac 0 xs n c tj [] 0 [] true 0 c fo oN))
    (ih : ∀ jv, Valid pw w (kt w.params) (cOL w.params (kt w.params) 796 oe it xs n (ov.take k ++ iv x :: ov.drop k) (on + 1) (some jv) (c + 1) r oV oN')) : Valid pw w (kt w.params) (cOL w.params (kt w.params) 796 oe it xs n ov on jo c (r + 1) oV oN') := by
  let rl := oe.rl
  refine valid_of 500 (fun B T => hl [0] (.j (cRng it c r) [0] fun α0 τ0 ν0 B0 T0 => hl [8, 8, 2, 12, 12, 12, 12, 7, 1, 7, 1, 8, 0, 0, 0, 0, 0, 0, 0, 0, 0, 0, 0, 0, 1] (.j (cRIter (B0 + 0) 0 c (T0 + 0) (τ0 0) (T0 + 1)) [0] fun α1 τ1 ν1 B1 T1 => hl [0, 0] (.sp (hl [] (.j (cOC w.params (kt w.params) 796 (oe.at' (B1 + 1)) (α1 0) (B1 + 0) 0 xs n c (τ0 0) [] 0 [] true 0 c fo oN) [2, 1, 0, 6, 7, 8, 9] fun α2 τ2 ν2 B2 T2 => hl [0, 0, 0] (.j (cLen (B1 + 0) (fo α2) oN k) [1] fun α3 τ3 ν3 B3 T3 => hl [12, 16, 18, 18, 18] (.j (cGet rl (xs.map iv) n c (c : Int) (τ0 0) (iv x)) [9] fun α4 τ4 ν4 B4 T4 => hl [] (.j (cInsert oe.ol ov on (k : Int) (τ3 0) (iv x)) [10] fun α5 τ5 ν5 B5 T5 => hl [] (.j (cOL w.params (kt w.params) 796 oe it xs n (ov.take k ++ iv x :: ov.drop k) (on + 1) (some (iI c (τ0 0))) (c + 1) r oV oN') [4, 5, 6, 7, 8, 9, 10] fun α6 τ6 ν6 B6 T6 => hl [] (.fin (ofL []) (ofL []) ν6 []))))))) (hl [4, 4, 1, 0, 4, 0, 4] (.j (cOC w.params (kt w.params) 796 (oe.at' (B1 + 1)) (α1 0) (B1 + 0) 0 xs n c (τ0 0) [] 0 [] true 0 c fo oN) [2, 1, 0, 6, 7, 8, 9] fun α2 τ2 ν2 B2 T2 => hl [0, 0, 0] (.j (cLen (B1 + 0) (fo α2) oN k) [1] fun α3 τ3 ν3 B3 T3 => hl [12, 16, 18, 18, 18] (.j (cGet rl (xs.map iv) n c (c : Int) (τ0 0) (iv x)) [9] fun α4 τ4 ν4 B4 T4 => hl [] (.j (cInsert oe.ol ov on (k : Int) (τ3 0) (iv x)) [10] fun α5 τ5 ν5 B5 T5 => hl [] (.j (cOL w.params (kt w.params) 796 oe it xs n (ov.take k ++ iv x :: ov.drop k) (on + 1) (some (iI c (τ0 0))) (c + 1) r oV oN') [4, 5, 6, 7, 8, 9, 10] fun α6 τ6 ν6 B6 T6 => hl [] (.fin (ofL []) (ofL []) ν6 []))))))))))) (fun B T => good_hl _ ⟨vRng _ _ _ hr, fun _ _ _ _ _ => good_hl _ ⟨vRIter _ _ _ _ _ _ (by omega) (by omega), fun _ _ _ _ _ => good_hl _ ⟨good_hl _ ⟨hO _ _ _ _ rfl, fun _ _ _ _ _ => good_hl _ ⟨vLen _ _ _ _ (hk _) (by rw [hk]; omega), fun _ _ _ _ _ => good_hl _ ⟨vGet _ _ _ _ _ _ _ rfl (by omega) (by rw [List.getElem?_map, hx]; rfl), fun _ _ _ _ _ => good_hl _ ⟨vInsert _ _ _ _ _ _ (by omega) (by omega) (by omega), fun _ _ _ _ _ => good_hl _ ⟨ih _, fun _ _ _ _ _ => good_hl _ trivial⟩⟩⟩⟩⟩, good_hl _ ⟨hO _ _ _ _ rfl, fun _ _ _ _ _ => good_hl _ ⟨vLen _ _ _ _ (hk _) (by rw [hk]; omega), fun _ _ _ _ _ => good_hl _ ⟨vGet _ _ _ _ _ _ _ rfl (by omega) (by rw [List.getElem?_map, hx]; rfl), fun _ _ _ _ _ => good_hl _ ⟨vInsert _ _ _ _ _ _ (by omega) (by omega) (by omega), fun _ _ _ _ _ => good_hl _ ⟨ih _, fun _ _ _ _ _ => good_hl _ trivial⟩⟩⟩⟩⟩⟩⟩⟩) fun B T => ?_
  kernel_rfl
theorem vOrd796' (rl : Addr) (xs : List E) (n r : Nat) (oV : List Value) (oN' : Nat) (hr : r ≤ 8) (hl' : xs.length = r + 1) (h : ∀ oe it, oe.rl = rl → Valid pw w (kt w.params) (cOL w.params (kt w.params) 796 oe it xs n [] 0 none 0 (r + 1) oV oN')) : Valid pw w (kt w.params) (cOrd 796 rl xs n oV oN') := by
  refine valid_of 300 (fun B T => hl [1617, 1615, 4, 4, 2, 2, 0, 5, 0, 0, 8, 8, 7, 1, 7, 1, 6] (.j (cLen rl (xs.map iv) n (r + 1)) [5] fun α0 τ0 ν0 B0 T0 => hl [0, 0, 0, 0, 0, 0, 0, 0, 0, 0, 0, 0, 1] (.j (cRIter (B0 + 0) 0 (r + 1) (T0 + 0) (τ0 0) (T0 + 1)) [0] fun α1 τ1 ν1 B1 T1 => hl [0] (.j (cOL w.params (kt w.params) 796 (⟨B + 0, B + 1, B + 2, B + 3, B + 4, rl, T + 0, 0⟩) (α1 0) xs n [] 0 none 0 (r + 1) oV oN') [0, 6, 5, 4, 3, 7, 2] fun α2 τ2 ν2 B2 T2 => hl [12] (.fin (ofL [B + 4]) (ofL []) (ofV []) [2]))))) (fun B T => good_hl _ ⟨vLen _ _ _ _ (by simpa using hl') (by simp; omega), fun _ _ _ _ _ => good_hl _ ⟨vRIter _ _ _ _ _ _ (by omega) (by omega), fun _ _ _ _ _ => good_hl _ ⟨h _ _ rfl, fun _ _ _ _ _ => good_hl _ trivial⟩⟩⟩) fun B T => ?_
  kernel_rfl
theorem vO803_0e (o : OE) (it ac : Addr) (tk : Tok) (xs : List E) (n j : Nat) (tj : Tok) (av : List Value) (an c : Nat) : Valid pw w (kt w.params) (cOC w.params (kt w.params) 803 o it ac tk xs n j tj av an [] false c 0 (fun _ => av) an) := by
  refine valid_of 60 (fun B T => hl [0, 0, 0, 0, 0, 0, 0, 0] (.fin (ofL []) (ofL []) (ofV [.none, .int (c : Int) 0, .int ((0 : Nat) : Int) 0]) [])) (fun B T => good_hl _ trivial) fun B T => ?_
  kernel_rfl
theorem vO803_0 (o : OE) (it ac : Addr) (tk : Tok) (xs : List E) (n j : Nat) (tj : Tok) (av : List Value) (an c : Nat) (iv0 : Value) : Valid pw w (kt w.params) (cOC w.params (kt w.params) 803 o it ac tk xs n j tj av an [iv0] true c 0 (fun _ => av) an) := by
  refine valid_of 60 (fun B T => hl [0, 0, 0, 0, 0, 0, 0, 0] (.fin (ofL []) (ofL [tk]) (ofV [iv0, .int (c : Int) 0, .int ((0 : Nat) : Int) 0]) [])) (fun B T => good_hl _ trivial) fun B T => ?_
  kernel_rfl
theorem vO803_1a (oe : OE) (it ac : Addr) (tk : Tok) (xs : List E) (n j : Nat) (tj : Tok) (av : List Value) (an c r : Nat) (iv0 : Value) (fo : (Nat → Nat) → List Value) (oN : Nat) (hr : r ≤ 9) (ha : av.length ≤ 9) (hs : ∀ ti, Valid pw w (kt w.params) (cStay 803 oe.rl xs n c j ti tj true))
    (ih : ∀ tk t1 v, Valid pw w (kt w.params) (cOC w.params (kt w.params) 803 oe it ac tk xs n j tj (av ++ [iI c t1]) (an + 1) [v] true (c + 1) r (fun a => fo (consT t1 a)) oN)) : Valid pw w (kt w.params) (cOC w.params (kt w.params) 803 oe it ac tk xs n j tj av an [] true c (r + 1) fo oN) := by
  let rl := oe.rl
  refine valid_of 200 (fun B T => hl [0] (.j (cRng it c r) [0] fun α0 τ0 ν0 B0 T0 => hl [0, 4, 4, 8, 6, 4, 10, 1607] (.j (cStay 803 rl xs n c j (τ0 0) tj true) [6] fun α1 τ1 ν1 B1 T1 => hl [4] (.j (cAppend ac av an (.int (c : Int) (τ0 0))) [1] fun α2 τ2 ν2 B2 T2 => hl [] (.j (cOC w.params (kt w.params) 803 oe it ac (T0 + 0) xs n j tj (av ++ [iI c (τ0 0)]) (an + 1) [iI c (τ0 0)] true (c + 1) r (fun a => fo (consT (τ0 0) a)) oN) [0, 1, 2, 3, 4, 5, 6] fun α3 τ3 ν3 B3 T3 => hl [] (.fin (consT (τ0 0) α3) τ3 ν3 [])))))) (fun B T => good_hl _ ⟨vRng _ _ _ hr, fun _ _ _ _ _ => good_hl _ ⟨hs _, fun _ _ _ _ _ => good_hl _ ⟨vAppend _ _ _ _ (by omega), fun _ _ _ _ _ => good_hl _ ⟨ih _ _ _, fun _ _ _ _ _ => good_hl _ trivial⟩⟩⟩⟩) fun B T => ?_
  kernel_rfl
theorem vO803_2a (oe : OE) (it ac : Addr) (tk : Tok) (xs : List E) (n j : Nat) (tj : Tok) (av : List Value) (an c r : Nat) (iv0 : Value) (fo : (Nat → Nat) → List Value) (oN : Nat) (hr : r ≤ 9) (ha : av.length ≤ 9) (hs : ∀ ti, Valid pw w (kt w.params) (cStay 803 oe.rl xs n c j ti tj false))
    (ih : ∀ tk v, Valid pw w (kt w.params) (cOC w.params (kt w.params) 803 oe it ac tk xs n j tj av an [v] true (c + 1) r fo oN)) : Valid pw w (kt w.params) (cOC w.params (kt w.params) 803 oe it ac tk xs n j tj av an [] true c (r + 1) fo oN) := by
  let rl := oe.rl
  refine valid_of 200 (fun B T => hl [0] (.j (cRng it c r) [0] fun α0 τ0 ν0 B0 T0 => hl [0, 4, 4, 8, 6, 4, 10, 1607] (.j (cStay 803 rl xs n c j (τ0 0) tj false) [6] fun α1 τ1 ν1 B1 T1 => hl [] (.j (cOC w.params (kt w.params) 803 oe it ac (T0 + 0) xs n j tj av an [iI c (τ0 0)] true (c + 1) r fo oN) [0, 1, 2, 3, 4, 5, 6] fun α2 τ2 ν2 B2 T2 => hl [] (.fin α2 τ2 ν2 []))))) (fun B T => good_hl _ ⟨vRng _ _ _ hr, fun _ _ _ _ _ => good_hl _ ⟨hs _, fun _ _ _ _ _ => good_hl _ ⟨ih _ _, fun _ _ _ _ _ => good_hl _ trivial⟩⟩⟩) fun B T => ?_
  kernel_rfl
theorem vO803_1b (oe : OE) (it ac : Addr) (tk : Tok) (xs : List E) (n j : Nat) (tj : Tok) (av : List Value) (an c r : Nat) (iv0 : Value) (fo : (Nat → Nat) → List Value) (oN : Nat) (hr : r ≤ 9) (ha : av.length ≤ 9) (hs : ∀ ti, Valid pw w (kt w.params) (cStay 803 oe.rl xs n c j ti tj true))
    (ih : ∀ tk t1 v, Valid pw w (kt w.params) (cOC w.params (kt w.params) 803 oe it ac tk xs n j tj (av ++ [iI c t1]) (an + 1) [v] true (c + 1) r (fun a => fo (consT t1 a)) oN)) : Valid pw w (kt w.params) (cOC w.params (kt w.params) 803 oe it ac tk xs n j tj av an [iv0] true c (r + 1) fo oN) := by
  let rl := oe.rl
  refine valid_of 200 (fun B T => hl [0] (.j (cRng it c r) [0] fun α0 τ0 ν0 B0 T0 => hl [0, 4, 4, 8, 6, 4, 10, 1607] (.j (cStay 803 rl xs n c j (τ0 0) tj true) [6] fun α1 τ1 ν1 B1 T1 => hl [4] (.j (cAppend ac av an (.int (c : Int) (τ0 0))) [1] fun α2 τ2 ν2 B2 T2 => hl [] (.j (cOC w.params (kt w.params) 803 oe it ac (tk) xs n j tj (av ++ [iI c (τ0 0)]) (an + 1) [iI c (τ0 0)] true (c + 1) r (fun a => fo (consT (τ0 0) a)) oN) [0, 1, 2, 3, 4, 5, 6] fun α3 τ3 ν3 B3 T3 => hl [] (.fin (consT (τ0 0) α3) τ3 ν3 [])))))) (fun B T => good_hl _ ⟨vRng _ _ _ hr, fun _ _ _ _ _ => good_hl _ ⟨hs _, fun _ _ _ _ _ => good_hl _ ⟨vAppend _ _ _ _ (by omega), fun _ _ _ _ _ => good_hl _ ⟨ih _ _ _, fun _ _ _ _ _ => good_hl _ trivial⟩⟩⟩⟩) fun B T => ?_
  kernel_rfl
theorem vO803_2b (oe : OE) (it ac : Addr) (tk : Tok) (xs : List E) (n j : Nat) (tj : Tok) (av : List Value) (an c r : Nat) (iv0 : Value) (fo : (Nat → Nat) → List Value) (oN : Nat) (hr : r ≤ 9) (ha : av.length ≤ 9) (hs : ∀ ti, Valid pw w (kt w.params) (cStay 803 oe.rl xs n c j ti tj false))
    (ih : ∀ tk v, Valid pw w (kt w.params) (cOC w.params (kt w.params) 803 oe it ac tk xs n j tj av an [v] true (c + 1) r fo oN)) : Valid pw w (kt w.params) (cOC w.params (kt w.params) 803 oe it ac tk xs n j tj av an [iv0] true c (r + 1) fo oN) := by
  let rl := oe.rl
  refine valid_of 200 (fun B T => hl [0] (.j (cRng it c r) [0] fun α0 τ0 ν0 B0 T0 => hl [0, 4, 4, 8, 6, 4, 10, 1607] (.j (cStay 803 rl xs n c j (τ0 0) tj false) [6] fun α1 τ1 ν1 B1 T1 => hl [] (.j (cOC w.params (kt w.params) 803 oe it ac (tk) xs n j tj av an [iI c (τ0 0)] true (c + 1) r fo oN) [0, 1, 2, 3, 4, 5, 6] fun α2 τ2 ν2 B2 T2 => hl [] (.fin α2 τ2 ν2 []))))) (fun B T => good_hl _ ⟨vRng _ _ _ hr, fun _ _ _ _ _ => good_hl _ ⟨hs _, fun _ _ _ _ _ => good_hl _ ⟨ih _ _, fun _ _ _ _ _ => good_hl _ trivial⟩⟩⟩) fun B T => ?_
  kernel_rfl
theorem vO803 (oe : OE) (it ac : Addr) (xs : List E) (n j : Nat) (tj : Tok) (hln : xs.length ≤ 9) (hj : j < xs.length) : ∀ (r c : Nat) (tk : Tok) (av : List Value) (an : Nat) (iv0 : Value), c + r = j → av.length + r ≤ 9 →
    Valid pw w (kt w.params) (cOC w.params (kt w.params) 803 oe it ac tk xs n j tj av an [iv0] true c r (fun a => av ++ (wds (stI (twiceR (rk xs)) j c r) a).map iv) (an + (stI (twiceR (rk xs)) j c r).length))
  | 0, c, tk, av, an, iv0, _, _ => by
    have e : (fun a : Nat → Nat => av ++ (wds (stI (twiceR (rk xs)) j c 0) a).map iv) = fun _ => av := by
      funext a; simp [stI, wds]
    rw [e]
    exact vO803_0 oe it ac tk xs n j tj av an c iv0
  | r + 1, c, tk, av, an, iv0, hc, ha => by
    have hs := fun ti => vTwice (w := w) oe.rl xs n c j ti tj hln (by omega) hj
    unfold stI
    cases h : twiceR (rk xs) c j with
    | true =>
      rw [h] at hs
      rw [if_pos rfl]
      refine vO803_1b oe it ac tk xs n j tj av an c r iv0 _ _ (by omega) (by omega) hs fun tk t1 v => ?_
      have ih := vO803 oe it ac xs n j tj hln hj r (c + 1) tk (av ++ [iI c t1]) (an + 1) v (by omega) (by simp; omega)
      have e1 : (fun a : Nat → Nat => (av ++ [iI c t1]) ++ (wds (stI (twiceR (rk xs)) j (c + 1) r) a).map iv) = fun a => av ++ (wds (c :: stI (twiceR (rk xs)) j (c + 1) r) (consT t1 a)).map iv := by
        funext a; simp [wds, iv, iI, consT]
      have e2 : an + 1 + (stI (twiceR (rk xs)) j (c + 1) r).length = an + (c :: stI (twiceR (rk xs)) j (c + 1) r).length := by simp only [List.length_cons]; omega
      rw [e1, e2] at ih
      exact ih
    | false =>
      rw [h] at hs
      rw [if_neg (by simp)]
      exact vO803_2b oe it ac tk xs n j tj av an c r iv0 _ _ (by omega) (by omega) hs fun tk v => vO803 oe it ac xs n j tj hln hj r (c + 1) tk av an v (by omega) (by omega)
theorem vO803A (oe : OE) (it ac : Addr) (xs : List E) (n j : Nat) (tj : Tok) (hln : xs.length ≤ 9) (hj : j < xs.length) (r : Nat) (hr : r + 1 = j) (tk : Tok) :
    Valid pw w (kt w.params) (cOC w.params (kt w.params) 803 oe it ac tk xs n j tj [] 0 [] true 0 (r + 1) (fun a => (wds (stI (twiceR (rk xs)) j 0 (r + 1)) a).map iv) (stI (twiceR (rk xs)) j 0 (r + 1)).length) := by
  have hs := fun ti => vTwice (w := w) oe.rl xs n 0 j ti tj hln (by omega) hj
  unfold stI
  cases h : twiceR (rk xs) 0 j with
  | true =>
    rw [h] at hs
    rw [if_pos rfl]
    refine vO803_1a oe it ac tk xs n j tj [] 0 0 r .none _ _ (by omega) (by simp) hs fun tk t1 v => ?_
    have ih := vO803 (w := w) oe it ac xs n j tj hln hj r (0 + 1) tk ([] ++ [iI 0 t1]) (0 + 1) v (by omega) (by simp; omega)
    have e1 : (fun a : Nat → Nat => ([] ++ [iI 0 t1]) ++ (wds (stI (twiceR (rk xs)) j (0 + 1) r) a).map iv) = fun a => (wds (0 :: stI (twiceR (rk xs)) j (0 + 1) r) (consT t1 a)).map iv := by
      funext a; simp [wds, iv, iI, consT]
    have e2 : 0 + 1 + (stI (twiceR (rk xs)) j (0 + 1) r).length = (0 :: stI (twiceR (rk xs)) j (0 + 1) r).length := by simp only [List.length_cons]; omega
    rw [e1, e2] at ih
    exact ih
  | false =>
    rw [h] at hs
    rw [if_neg (by simp)]
    have ih := fun tk v => vO803 (w := w) oe it ac xs n j tj hln hj r (0 + 1) tk [] 0 v (by omega) (by simp; omega)
    simp only [List.nil_append, Nat.zero_add] at ih
    exact vO803_2a oe it ac tk xs n j tj [] 0 0 r .none _ _ (by omega) (by simp) hs ih
theorem vL803_0 (oe : OE) (it : Addr) (xs : List E) (n : Nat) (ov : List Value) (on : Nat) (jv : Value) (c : Nat) : Valid pw w (kt w.params) (cOL w.params (kt w.params) 803 oe it xs n ov on (some jv) c 0 ov on) := by
  refine valid_of 60 (fun B T => hl [0, 0, 0, 0, 0, 0, 0, 0, 0] (.fin (ofL []) (ofL []) (ofV [jv, .int (c : Int) 0, .int ((0 : Nat) : Int) 0]) [])) (fun B T => good_hl _ trivial) fun B T => ?_
  kernel_rfl
theorem vL803_1 (oe : OE) (it : Addr) (xs : List E) (n : Nat) (ov : List Value) (on : Nat) (jo : Option Value) (r : Nat) (oV : List Value) (oN' : Nat) (x : E) (hx : xs[0]? = some x) (hr : r ≤ 9) (ho : ov.length ≤ 9)
    (ih : ∀ jv, Valid pw w (kt w.params) (cOL w.params (kt w.params) 803 oe it xs n (ov.take 0 ++ iv x :: ov.drop 0) (on + 1) (some jv) (0 + 1) r oV oN')) : Valid pw w (kt w.params) (cOL w.params (kt w.params) 803 oe it xs n ov on jo 0 (r + 1) oV oN') := by
  have run : ∀ k c : Nat, k = 0 → c = 0 → (∀ jv, Valid pw w (kt w.params) (cOL w.params (kt w.params) 803 oe it xs n (ov.take k ++ iv x :: ov.drop k) (on + 1) (some jv) (c + 1) r oV oN')) → Valid pw w (kt w.params) (cOL w.params (kt w.params) 803 oe it xs n ov on jo c (r + 1) oV oN') := by
    intro k c hk hc ih
    subst hk hc
    let rl := oe.rl
    let fo : (Nat → Nat) → List Value := fun _ => []
    let oN := 0
    let k := 0
    let c := 0
    refine valid_of 500 (fun B T => hl [0] (.j (cRng it c r) [0] fun α0 τ0 ν0 B0 T0 => hl [8, 8, 2, 12, 12, 12, 12, 7, 1, 7, 1, 8, 0, 0, 0, 0, 0, 0, 0, 0, 0, 0, 0, 0, 1] (.j (cRIter (B0 + 0) 0 c (T0 + 0) (τ0 0) (T0 + 1)) [0] fun α1 τ1 ν1 B1 T1 => hl [0, 0] (.sp (hl [] (.j (cOC w.params (kt w.params) 803 (oe.at' (B1 + 1)) (α1 0) (B1 + 0) 0 xs n c (τ0 0) [] 0 [] false 0 c fo oN) [2, 1, 0, 6, 7, 8, 9] fun α2 τ2 ν2 B2 T2 => hl [0] (.j (cLen (B1 + 0) (fo α2) oN k) [1] fun α3 τ3 ν3 B3 T3 => hl [12, 16, 18, 18, 18] (.j (cGet rl (xs.map iv) n c (c : Int) (τ0 0) (iv x)) [9] fun α4 τ4 ν4 B4 T4 => hl [] (.j (cInsert oe.ol ov on (k : Int) (τ3 0) (iv x)) [10] fun α5 τ5 ν5 B5 T5 => hl [] (.j (cOL w.params (kt w.params) 803 oe it xs n (ov.take k ++ iv x :: ov.drop k) (on + 1) (some (iI c (τ0 0))) (c + 1) r oV oN') [4, 5, 6, 7, 8, 9, 10] fun α6 τ6 ν6 B6 T6 => hl [] (.fin (ofL []) (ofL []) ν6 []))))))) (hl [4, 4, 1, 0, 4, 0, 4] (.j (cOC w.params (kt w.params) 803 (oe.at' (B1 + 1)) (α1 0) (B1 + 0) 0 xs n c (τ0 0) [] 0 [] false 0 c fo oN) [2, 1, 0, 6, 7, 8, 9] fun α2 τ2 ν2 B2 T2 => hl [0] (.j (cLen (B1 + 0) (fo α2) oN k) [1] fun α3 τ3 ν3 B3 T3 => hl [12, 16, 18, 18, 18] (.j (cGet rl (xs.map iv) n c (c : Int) (τ0 0) (iv x)) [9] fun α4 τ4 ν4 B4 T4 => hl [] (.j (cInsert oe.ol ov on (k : Int) (τ3 0) (iv x)) [10] fun α5 τ5 ν5 B5 T5 => hl [] (.j (cOL w.params (kt w.params) 803 oe it xs n (ov.take k ++ iv x :: ov.drop k) (on + 1) (some (iI c (τ0 0))) (c + 1) r oV oN') [4, 5, 6, 7, 8, 9, 10] fun α6 τ6 ν6 B6 T6 => hl [] (.fin (ofL []) (ofL []) ν6 []))))))))))) (fun B T => good_hl _ ⟨vRng _ _ _ hr, fun _ _ _ _ _ => good_hl _ ⟨vRIter _ _ _ _ _ _ (by omega) (by omega), fun _ _ _ _ _ => good_hl _ ⟨good_hl _ ⟨vO803_0e _ _ _ _ _ _ _ _ _ _ _, fun _ _ _ _ _ => good_hl _ ⟨vLen _ _ _ _ rfl (by show (0 : Nat) ≤ 9; omega), fun _ _ _ _ _ => good_hl _ ⟨vGet _ _ _ _ _ _ _ rfl (by omega) (by rw [List.getElem?_map, hx]; rfl), fun _ _ _ _ _ => good_hl _ ⟨vInsert _ _ _ _ _ _ (by omega) (by decide) (by show (0 : Int) ≤ _; omega), fun _ _ _ _ _ => good_hl _ ⟨ih _, fun _ _ _ _ _ => good_hl _ trivial⟩⟩⟩⟩⟩, good_hl _ ⟨vO803_0e _ _ _ _ _ _ _ _ _ _ _, fun _ _ _ _ _ => good_hl _ ⟨vLen _ _ _ _ rfl (by show (0 : Nat) ≤ 9; omega), fun _ _ _ _ _ => good_hl _ ⟨vGet _ _ _ _ _ _ _ rfl (by omega) (by rw [List.getElem?_map, hx]; rfl), fun _ _ _ _ _ => good_hl _ ⟨vInsert _ _ _ _ _ _ (by omega) (by decide) (by show (0 : Int) ≤ _; omega), fun _ _ _ _ _ => good_hl _ ⟨ih _, fun _ _ _ _ _ => good_hl _ trivial⟩⟩⟩⟩⟩⟩⟩⟩) fun B T => ?_
    kernel_rfl
  exact run 0 0 rfl rfl ih
theorem vL803_2 (oe : OE) (it : Addr) (xs : List E) (n : Nat) (ov : List Value) (on : Nat) (jo : Option Value) (c r : Nat) (oV : List Value) (oN' : Nat) (x : E) (fo : (Nat → Nat) → List Value) (oN k : Nat) (hx : xs[c]? = some x) (hc9 : c ≤ 9) (hr : r ≤ 9) (ho : ov.length ≤ 9) (hk : ∀ a, (fo a).length = k) (hkc : k ≤ ov.length)
    (hO : ∀ oe' it ac tj, oe'.rl = oe.rl → Valid pw w (kt w.params) (cOC w.params (kt w.params) 803 oe' it ac 0 xs n c tj [] 0 [] true 0 c fo oN))
    (ih : ∀ jv, Valid pw w (kt w.params) (cOL w.params (kt w.params) 803 oe it xs n (ov.take k ++ iv x :: ov.drop k) (on + 1) (some jv) (c + 1) r oV oN')) : Valid pw w (kt w.params) (cOL w.params (kt w.params) 803 oe it xs n ov on jo c (r + 1) oV oN') := by
  let rl := oe.rl
  refine valid_of 500 (fun B T => hl [0] (.j (cRng it c r) [0] fun α0 τ0 ν0 B0 T0 => hl [8, 8, 2, 12, 12, 12, 12, 7, 1, 7, 1, 8, 0, 0, 0, 0, 0, 0, 0, 0, 0, 0, 0, 0, 1] (.j (cRIter (B0 + 0) 0 c (T0 + 0) (τ0 0) (T0 + 1)) [0] fun α1 τ1 ν1 B1 T1 => hl [0, 0] (.sp (hl [] (.j (cOC w.params (kt w.params) 803 (oe.at' (B1 + 1)) (α1 0) (B1 + 0) 0 xs n c (τ0 0) [] 0 [] true 0 c fo oN) [2, 1, 0, 6, 7, 8, 9] fun α2 τ2 ν2 B2 T2 => hl [0, 0, 0] (.j (cLen (B1 + 0) (fo α2) oN k) [1] fun α3 τ3 ν3 B3 T3 => hl [12, 16, 18, 18, 18] (.j (cGet rl (xs.map iv) n c (c : Int) (τ0 0) (iv x)) [9] fun α4 τ4 ν4 B4 T4 => hl [] (.j (cInsert oe.ol ov on (k : Int) (τ3 0) (iv x)) [10] fun α5 τ5 ν5 B5 T5 => hl [] (.j (cOL w.params (kt w.params) 803 oe it xs n (ov.take k ++ iv x :: ov.drop k) (on + 1) (some (iI c (τ0 0))) (c + 1) r oV oN') [4, 5, 6, 7, 8, 9, 10] fun α6 τ6 ν6 B6 T6 => hl [] (.fin (ofL []) (ofL []) ν6 []))))))) (hl [4, 4, 1, 0, 4, 0, 4] (.j (cOC w.params (kt w.params) 803 (oe.at' (B1 + 1)) (α1 0) (B1 + 0) 0 xs n c (τ0 0) [] 0 [] true 0 c fo oN) [2, 1, 0, 6, 7, 8, 9] fun α2 τ2 ν2 B2 T2 => hl [0, 0, 0] (.j (cLen (B1 + 0) (fo α2) oN k) [1] fun α3 τ3 ν3 B3 T3 => hl [12, 16, 18, 18, 18] (.j (cGet rl (xs.map iv) n c (c : Int) (τ0 0) (iv x)) [9] fun α4 τ4 ν4 B4 T4 => hl [] (.j (cInsert oe.ol ov on (k : Int) (τ3 0) (iv x)) [10] fun α5 τ5 ν5 B5 T5 => hl [] (.j (cOL w.params (kt w.params) 803 oe it xs n (ov.take k ++ iv x :: ov.drop k) (on + 1) (some (iI c (τ0 0))) (c + 1) r oV oN') [4, 5, 6, 7, 8, 9, 10] fun α6 τ6 ν6 B6 T6 => hl [] (.fin (ofL []) (ofL []) ν6 []))))))))))) (fun B T => good_hl _ ⟨vRng _ _ _ hr, fun _ _ _ _ _ => good_hl _ ⟨vRIter _ _ _ _ _ _ (by omega) (by omega), fun _ _ _ _ _ => good_hl _ ⟨good_hl _ ⟨hO _ _ _ _ rfl, fun _ _ _ _ _ => good_hl _ ⟨vLen _ _ _ _ (hk _) (by rw [hk]; omega), fun _ _ _ _ _ => good_hl _ ⟨vGet _ _ _ _ _ _ _ rfl (by omega) (by rw [List.getElem?_map, hx]; rfl), fun _ _ _ _ _ => good_hl _ ⟨vInsert _ _ _ _ _ _ (by omega) (by omega) (by omega), fun _ _ _ _ _ => good_hl _ ⟨ih _, fun _ _ _ _ _ => good_hl _ trivial⟩⟩⟩⟩⟩, good_hl _ ⟨hO _ _ _ _ rfl, fun _ _ _ _ _ => good_hl _ ⟨vLen _ _ _ _ (hk _) (by rw [hk]; omega), fun _ _ _ _ _ => good_hl _ ⟨vGet _ _ _ _ _ _ _ rfl (by omega) (by rw [List.getElem?_map, hx]; rfl), fun _ _ _ _ _ => good_hl _ ⟨vInsert _ _ _ _ _ _ (by omega) (by omega) (by omega), fun _ _ _ _ _ => good_hl _ ⟨ih _, fun _ _ _ _ _ => good_hl _ trivial⟩⟩⟩⟩⟩⟩⟩⟩) fun B T => ?_
  kernel_rfl
theorem vOrd803' (rl : Addr) (xs : List E) (n r : Nat) (oV : List Value) (oN' : Nat) (hr : r ≤ 8) (hl' : xs.length = r + 1) (h : ∀ oe it, oe.rl = rl → Valid pw w (kt w.params) (cOL w.params (kt w.params) 803 oe it xs n [] 0 none 0 (r + 1) oV oN')) : Valid pw w (kt w.params) (cOrd 803 rl xs n oV oN') := by
  refine valid_of 300 (fun B T => hl [1617, 1615, 4, 4, 2, 2, 0, 5, 0, 0, 8, 8, 7, 1, 7, 1, 6] (.j (cLen rl (xs.map iv) n (r + 1)) [5] fun α0 τ0 ν0 B0 T0 => hl [0, 0, 0, 0, 0, 0, 0, 0, 0, 0, 0, 0, 1] (.j (cRIter (B0 + 0) 0 (r + 1) (T0 + 0) (τ0 0) (T0 + 1)) [0] fun α1 τ1 ν1 B1 T1 => hl [0] (.j (cOL w.params (kt w.params) 803 (⟨B + 0, B + 1, B + 2, B + 3, B + 4, rl, T + 0, 0⟩) (α1 0) xs n [] 0 none 0 (r + 1) oV oN') [0, 6, 5, 4, 3, 7, 2] fun α2 τ2 ν2 B2 T2 => hl [12] (.fin (ofL [B + 4]) (ofL []) (ofV []) [2]))))) (fun B T => good_hl _ ⟨vLen _ _ _ _ (by simpa using hl') (by simp; omega), fun _ _ _ _ _ => good_hl _ ⟨vRIter _ _ _ _ _ _ (by omega) (by omega), fun _ _ _ _ _ => good_hl _ ⟨h _ _ rfl, fun _ _ _ _ _ => good_hl _ trivial⟩⟩⟩) fun B T => ?_
  kernel_rfl
end
end Mine
/-! part C19 -/
set_option maxRecDepth 100000
set_option linter.unusedVariables false
namespace Mine
open PySem PySem.Spec PySem.Calls PyProof.Rows PySem.W PySem.W.X
/-! the order that the law reckons -/
theorem stI_le (st : Nat → Nat → Bool) (j : Nat) : ∀ r c, (stI st j c r).length ≤ r
  | 0, c => Nat.zero_le _
  | r + 1, c => by
    unfold stI
    have := stI_le st j r (c + 1)
    split
    · simp only [List.length_cons]; omega
    · omega
def ordX (st : Nat → Nat → Bool) (xs : List E) : Nat → Nat → List E → List E
  | _, 0, os => os
  | c, r + 1, os => ordX st xs (c + 1) r (os.take (stI st c 0 c).length ++ xs.getD c (0, 0) :: os.drop (stI st c 0 c).length)
theorem wds_len : ∀ (l : List Nat) (a : Nat → Nat), (wds l a).length = l.length
  | [], a => rfl
  | x :: r, a => by simp [wds, wds_len r]
section
variable {w : World}
theorem vL796 (oe : OE) (it : Addr) (xs : List E) (n : Nat) (hln : xs.length ≤ 9) : ∀ (r c : Nat) (os : List E) (on : Nat) (jv : Value), 0 < c → c + r = xs.length → os.length = c →
    Valid pw w (kt w.params) (cOL w.params (kt w.params) 796 oe it xs n (os.map iv) on (some jv) c r ((ordX (onceR (rk xs)) xs c r os).map iv) (on + r))
  | 0, c, os, on, jv, _, _, _ => vL796_0 oe it xs n (os.map iv) on jv c
  | r + 1, c, os, on, jv, hc, hr, ho => by
    have hk := stI_le (onceR (rk xs)) c c 0
    have hx : xs[c]? = some (xs.getD c (0, 0)) := by
      have : c < xs.length := by omega
      simp [List.getD, this]
    unfold ordX
    obtain ⟨d, rfl⟩ : ∃ d, c = d + 1 := ⟨c - 1, by omega⟩
    refine vL796_2 oe it xs n (os.map iv) on (some jv) (d + 1) r _ _ _ (fun a => (wds (stI (onceR (rk xs)) (d + 1) 0 (d + 1)) a).map iv) (stI (onceR (rk xs)) (d + 1) 0 (d + 1)).length (stI (onceR (rk xs)) (d + 1) 0 (d + 1)).length hx (by omega) (by omega) (by simp; omega) (fun a => by simp [wds_len]) (by simp; omega) (fun oe' it ac tj h => ?_) fun jv => ?_
    · exact vO796A oe' it ac xs n (d + 1) tj hln (by omega) d rfl 0
    · have ih := vL796 oe it xs n hln r (d + 1 + 1) (os.take (stI (onceR (rk xs)) (d + 1) 0 (d + 1)).length ++ xs.getD (d + 1) (0, 0) :: os.drop (stI (onceR (rk xs)) (d + 1) 0 (d + 1)).length) (on + 1) jv (by omega) (by omega) (by simp; omega)
      have e1 : (os.take (stI (onceR (rk xs)) (d + 1) 0 (d + 1)).length ++ xs.getD (d + 1) (0, 0) :: os.drop (stI (onceR (rk xs)) (d + 1) 0 (d + 1)).length).map iv = (os.map iv).take (stI (onceR (rk xs)) (d + 1) 0 (d + 1)).length ++ iv (xs.getD (d + 1) (0, 0)) :: (os.map iv).drop (stI (onceR (rk xs)) (d + 1) 0 (d + 1)).length := by
        simp [List.map_take, List.map_drop]
      have e2 : on + (r + 1) = on + 1 + r := by omega
      rw [e1] at ih
      rw [e2]
      exact ih
theorem vOrd796 (rl : Addr) (xs : List E) (n : Nat) (hln : xs.length ≤ 9) (hne : xs ≠ []) : Valid pw w (kt w.params) (cOrd 796 rl xs n ((ordX (onceR (rk xs)) xs 0 xs.length []).map iv) xs.length) := by
  obtain ⟨r, hr⟩ : ∃ r, xs.length = r + 1 := ⟨xs.length - 1, by have := List.length_pos_iff.mpr hne; omega⟩
  have hx : xs[0]? = some (xs.getD 0 (0, 0)) := by
    have : 0 < xs.length := by omega
    simp [List.getD, this]
  rw [hr]
  refine vOrd796' rl xs n r _ _ (by omega) hr fun oe it _ => ?_
  refine vL796_1 oe it xs n [] 0 none r _ _ (xs.getD 0 (0, 0)) hx (by omega) (by simp) fun jv => ?_
  have ih := vL796 (w := w) oe it xs n hln r (0 + 1) [xs.getD 0 (0, 0)] (0 + 1) jv (by omega) (by omega) rfl
  have e2 : 0 + 1 + r = r + 1 := by omega
  rw [e2] at ih
  exact ih
theorem vL803 (oe : OE) (it : Addr) (xs : List E) (n : Nat) (hln : xs.length ≤ 9) : ∀ (r c : Nat) (os : List E) (on : Nat) (jv : Value), 0 < c → c + r = xs.length → os.length = c →
    Valid pw w (kt w.params) (cOL w.params (kt w.params) 803 oe it xs n (os.map iv) on (some jv) c r ((ordX (twiceR (rk xs)) xs c r os).map iv) (on + r))
  | 0, c, os, on, jv, _, _, _ => vL803_0 oe it xs n (os.map iv) on jv c
  | r + 1, c, os, on, jv, hc, hr, ho => by
    have hk := stI_le (twiceR (rk xs)) c c 0
    have hx : xs[c]? = some (xs.getD c (0, 0)) := by
      have : c < xs.length := by omega
      simp [List.getD, this]
    unfold ordX
    obtain ⟨d, rfl⟩ : ∃ d, c = d + 1 := ⟨c - 1, by omega⟩
    refine vL803_2 oe it xs n (os.map iv) on (some jv) (d + 1) r _ _ _ (fun a => (wds (stI (twiceR (rk xs)) (d + 1) 0 (d + 1)) a).map iv) (stI (twiceR (rk xs)) (d + 1) 0 (d + 1)).length (stI (twiceR (rk xs)) (d + 1) 0 (d + 1)).length hx (by omega) (by omega) (by simp; omega) (fun a => by simp [wds_len]) (by simp; omega) (fun oe' it ac tj h => ?_) fun jv => ?_
    · exact vO803A oe' it ac xs n (d + 1) tj hln (by omega) d rfl 0
    · have ih := vL803 oe it xs n hln r (d + 1 + 1) (os.take (stI (twiceR (rk xs)) (d + 1) 0 (d + 1)).length ++ xs.getD (d + 1) (0, 0) :: os.drop (stI (twiceR (rk xs)) (d + 1) 0 (d + 1)).length) (on + 1) jv (by omega) (by omega) (by simp; omega)
      have e1 : (os.take (stI (twiceR (rk xs)) (d + 1) 0 (d + 1)).length ++ xs.getD (d + 1) (0, 0) :: os.drop (stI (twiceR (rk xs)) (d + 1) 0 (d + 1)).length).map iv = (os.map iv).take (stI (twiceR (rk xs)) (d + 1) 0 (d + 1)).length ++ iv (xs.getD (d + 1) (0, 0)) :: (os.map iv).drop (stI (twiceR (rk xs)) (d + 1) 0 (d + 1)).length := by
        simp [List.map_take, List.map_drop]
      have e2 : on + (r + 1) = on + 1 + r := by omega
      rw [e1] at ih
      rw [e2]
      exact ih
theorem vOrd803 (rl : Addr) (xs : List E) (n : Nat) (hln : xs.length ≤ 9) (hne : xs ≠ []) : Valid pw w (kt w.params) (cOrd 803 rl xs n ((ordX (twiceR (rk xs)) xs 0 xs.length []).map iv) xs.length) := by
  obtain ⟨r, hr⟩ : ∃ r, xs.length = r + 1 := ⟨xs.length - 1, by have := List.length_pos_iff.mpr hne; omega⟩
  have hx : xs[0]? = some (xs.getD 0 (0, 0)) := by
    have : 0 < xs.length := by omega
    simp [List.getD, this]
  rw [hr]
  refine vOrd803' rl xs n r _ _ (by omega) hr fun oe it _ => ?_
  refine vL803_1 oe it xs n [] 0 none r _ _ (xs.getD 0 (0, 0)) hx (by omega) (by simp) fun jv => ?_
  have ih := vL803 (w := w) oe it xs n hln r (0 + 1) [xs.getD 0 (0, 0)] (0 + 1) jv (by omega) (by omega) rfl
  have e2 : 0 + 1 + r = r + 1 := by omega
  rw [e2] at ih
  exact ih
end
/-! what is written -/
def wr : Nat → List Nat
  | 0 => [34, 34]
  | 1 => [92, 32, 98]
  | 2 => [92, 34]
  | 3 => [97]
  | 4 => [97, 92, 92]
  | 5 => [105, 116, 39, 115]
  | 6 => [34, 34]
  | 7 => [34, 32, 98, 34]
  | 8 => [34, 92, 34, 34]
  | 9 => [34, 97, 34]
  | 10 => [34, 97, 92, 92, 34]
  | _ => [34, 105, 116, 39, 115, 34]
def wrS (k : Nat) : Str := ⟨⟨wr k⟩⟩
def wrL (k : Nat) : Str := ⟨⟨wr k ++ [10]⟩⟩
def wrV (tw : Nat → Tok) : List Value := [.str (wrS 0) (tw 0), .str (wrS 1) (tw 1), .str (wrS 2) (tw 2), .str (wrS 3) (tw 3), .str (wrS 4) (tw 4), .str (wrS 5) (tw 5), .str (wrS 6) (tw 6), .str (wrS 7) (tw 7), .str (wrS 8) (tw 8), .str (wrS 9) (tw 9), .str (wrS 10) (tw 10), .str (wrS 11) (tw 11)]
def plV (tp : Nat → Tok) : List Value := [.str (pl 0) (tp 0), .str (pl 1) (tp 1), .str (pl 2) (tp 2), .str (pl 3) (tp 3), .str (pl 4) (tp 4), .str (pl 5) (tp 5)]
def nv (x : Int × Tok) : Value := .int x.1 x.2
def tks : List Nat → (Nat → Nat) → List (Str × Tok)
  | [], _ => []
  | k :: ks, a => (wrL k, a 0) :: tks ks fun i => a (i + 1)
def lawS (kt : KT) (n : Nat) : Stmt := nthS (fnStmts kt 813) n
def lawC814 (kt : KT) : PySem.Expr := callA (callA (callA (exprOf (lawS kt 3)) 0) 0) 0
def lawC820 (kt : KT) : PySem.Expr := exprOf (lawS kt 9)
def lawC821 (kt : KT) : PySem.Expr := exprOf (lawS kt 10)
def lawC822 (kt : KT) : PySem.Expr := callA (exprOf (lawS kt 11)) 1
def lawC824 (kt : KT) : PySem.Expr := callA (exprOf (lawS kt 12)) 1
def lawC827 (kt : KT) : PySem.Expr := callA (exprOf (lawS kt 14)) 0
def writK : Str := ⟨⟨[119, 114, 105, 116, 105, 110, 103, 115]⟩⟩
def poolK : Str := ⟨⟨[112, 111, 111, 108]⟩⟩
section
variable {w : World}
def cAddW (k : Nat) (t u : Tok) : Ct :=
  { code := .call (.builtin "str.__add__") ⟨[.str (wrS k) t, .str ⟨⟨[10]⟩⟩ u], []⟩, need := [], k := 0, res := fun _ τ _ => ret0 (.str (wrL k) (τ 0)), post := fun _ _ _ => [], new := fun _ _ _ => [], D := 900, U := 9000 }
theorem vAddW (k : Nat) (t u : Tok) (hk : k < 12) : Valid pw w (kt w.params) (cAddW k t u) := by
  have run : ∀ k, Eqn w 10 (cAddW k t u) (fun B T => hl [0] (.fin (ofL []) (ofL [T + 0]) (ofV []) [])) → Valid pw w (kt w.params) (cAddW k t u) := fun k e => valid_of 10 (fun B T => hl [0] (.fin (ofL []) (ofL [T + 0]) (ofV []) [])) (fun B T => good_hl _ trivial) e
  match k, hk with
  | 0, _ => exact run 0 fun B T => by kernel_rfl
  | 1, _ => exact run 1 fun B T => by kernel_rfl
  | 2, _ => exact run 2 fun B T => by kernel_rfl
  | 3, _ => exact run 3 fun B T => by kernel_rfl
  | 4, _ => exact run 4 fun B T => by kernel_rfl
  | 5, _ => exact run 5 fun B T => by kernel_rfl
  | 6, _ => exact run 6 fun B T => by kernel_rfl
  | 7, _ => exact run 7 fun B T => by kernel_rfl
  | 8, _ => exact run 8 fun B T => by kernel_rfl
  | 9, _ => exact run 9 fun B T => by kernel_rfl
  | 10, _ => exact run 10 fun B T => by kernel_rfl
  | 11, _ => exact run 11 fun B T => by kernel_rfl
  | _ + 12, h => exact absurd h (by omega)
/-- the writings are laid out -/
def cT1 (P : Params) (kt : KT) (le : LE) (wl : Addr) (tw : Nat → Tok) (it nl ac loc : Addr) (tk : Tok) (ns : List (Int × Tok)) (n0 i : Nat) (av : List Value) (an : Nat) (ivs : List Value) (fo : (Nat → Nat) → List Value) (oN : Nat) : Ct :=
  { code := .compLoop (lawC814 kt) 0 (.ref it) (.ref ac) (cEnv (le.env kt) (lawC814 kt) loc [(writK, le.cw)]), need := [(it, itO (.ref nl) (i : Int)), (nl, lst (ns.map nv) n0), (ac, lst av an), (loc, locD P [120] tk ivs), (le.cw, cellO (.ref wl)), (wl, lst (wrV tw) 0)], k := 0, res := fun _ _ _ => .ok .next,
    post := fun α τ ν => [itO .none (ns.length : Int), lst (ns.map nv) n0, lst (fo α) oN, locD P [120] (τ 0) [ν 0], cellO (.ref wl), lst (wrV tw) 0], new := fun _ _ _ => [], D := 560, U := 7200 }
theorem vT1_0 (le : LE) (wl : Addr) (tw : Nat → Tok) (it nl ac loc : Addr) (tk : Tok) (ns : List (Int × Tok)) (n0 : Nat) (av : List Value) (an : Nat) (iv0 : Value) : Valid pw w (kt w.params) (cT1 w.params (kt w.params) le wl tw it nl ac loc tk ns n0 ns.length av an [iv0] (fun _ => av) an) := by
  refine valid_of 60 (fun B T => hl [0] (.j (cLEnd it nl (ns.map nv) n0 ns.length) [0, 1] fun α0 τ0 ν0 B0 T0 => hl [0] (.fin (ofL []) (ofL [tk]) (ofV [iv0]) []))) (fun B T => good_hl _ ⟨vLEnd _ _ _ _ _ (by simp), fun _ _ _ _ _ => good_hl _ trivial⟩) fun B T => ?_
  kernel_rfl
theorem vT1_a (le : LE) (wl : Addr) (tw : Nat → Tok) (it nl ac loc : Addr) (tk : Tok) (ns : List (Int × Tok)) (n0 i : Nat) (av : List Value) (an : Nat) (iv0 : Value) (fo : (Nat → Nat) → List Value) (oN : Nat) (x : Int × Tok) (k : Nat) (hx : ns[i]? = some x) (hk : x.1.fmod 12 = (k : Int)) (hk12 : k < 12) (hw : (wrV tw)[k]? = some (.str (wrS k) (tw k))) (ha : av.length ≤ 9)
    (ih : ∀ tk t1 v, Valid pw w (kt w.params) (cT1 w.params (kt w.params) le wl tw it nl ac loc tk ns n0 (i + 1) (av ++ [.str (wrL k) t1]) (an + 1) [v] (fun a => fo (consT t1 a)) oN)) : Valid pw w (kt w.params) (cT1 w.params (kt w.params) le wl tw it nl ac loc tk ns n0 i av an [] fo oN) := by
  refine valid_of 200 (fun B T => hl [0] (.j (cLNext it nl (ns.map nv) n0 i (nv x)) [0, 1] fun α0 τ0 ν0 B0 T0 => hl [0, 6, 6, 8, 6] (.j (cMod x.1 12 x.2 (T0 + 1) k) [] fun α1 τ1 ν1 B1 T1 => hl [10, 10, 10] (.j (cGet wl (wrV tw) 0 k (k : Int) (τ1 0) (.str (wrS k) (tw k))) [5] fun α2 τ2 ν2 B2 T2 => hl [] (.j (cAddW k (tw k) (T2 + 0)) [] fun α3 τ3 ν3 B3 T3 => hl [] (.j (cAppend ac av an (.str (wrL k) (τ3 0))) [2] fun α4 τ4 ν4 B4 T4 => hl [] (.j (cT1 w.params (kt w.params) le wl tw it nl ac loc (T0 + 0) ns n0 (i + 1) (av ++ [.str (wrL k) (τ3 0)]) (an + 1) [nv x] (fun a => fo (consT (τ3 0) a)) oN) [0, 1, 2, 3, 4, 5] fun α5 τ5 ν5 B5 T5 => hl [] (.fin (consT (τ3 0) α5) τ5 ν5 [])))))))) (fun B T => good_hl _ ⟨vLNext _ _ _ _ _ _ (by rw [List.getElem?_map, hx]; rfl), fun _ _ _ _ _ => good_hl _ ⟨vMod12 _ _ _ _ hk, fun _ _ _ _ _ => good_hl _ ⟨vGet _ _ _ _ _ _ _ rfl (by omega) hw, fun _ _ _ _ _ => good_hl _ ⟨vAddW _ _ _ hk12, fun _ _ _ _ _ => good_hl _ ⟨vAppend _ _ _ _ (by omega), fun _ _ _ _ _ => good_hl _ ⟨ih _ _ _, fun _ _ _ _ _ => good_hl _ trivial⟩⟩⟩⟩⟩⟩) fun B T => ?_
  kernel_rfl
theorem vT1_b (le : LE) (wl : Addr) (tw : Nat → Tok) (it nl ac loc : Addr) (tk : Tok) (ns : List (Int × Tok)) (n0 i : Nat) (av : List Value) (an : Nat) (iv0 : Value) (fo : (Nat → Nat) → List Value) (oN : Nat) (x : Int × Tok) (k : Nat) (hx : ns[i]? = some x) (hk : x.1.fmod 12 = (k : Int)) (hk12 : k < 12) (hw : (wrV tw)[k]? = some (.str (wrS k) (tw k))) (ha : av.length ≤ 9)
    (ih : ∀ tk t1 v, Valid pw w (kt w.params) (cT1 w.params (kt w.params) le wl tw it nl ac loc tk ns n0 (i + 1) (av ++ [.str (wrL k) t1]) (an + 1) [v] (fun a => fo (consT t1 a)) oN)) : Valid pw w (kt w.params) (cT1 w.params (kt w.params) le wl tw it nl ac loc tk ns n0 i av an [iv0] fo oN) := by
  refine valid_of 200 (fun B T => hl [0] (.j (cLNext it nl (ns.map nv) n0 i (nv x)) [0, 1] fun α0 τ0 ν0 B0 T0 => hl [0, 6, 6, 8, 6] (.j (cMod x.1 12 x.2 (T0 + 1) k) [] fun α1 τ1 ν1 B1 T1 => hl [10, 10, 10] (.j (cGet wl (wrV tw) 0 k (k : Int) (τ1 0) (.str (wrS k) (tw k))) [5] fun α2 τ2 ν2 B2 T2 => hl [] (.j (cAddW k (tw k) (T2 + 0)) [] fun α3 τ3 ν3 B3 T3 => hl [] (.j (cAppend ac av an (.str (wrL k) (τ3 0))) [2] fun α4 τ4 ν4 B4 T4 => hl [] (.j (cT1 w.params (kt w.params) le wl tw it nl ac loc (tk) ns n0 (i + 1) (av ++ [.str (wrL k) (τ3 0)]) (an + 1) [nv x] (fun a => fo (consT (τ3 0) a)) oN) [0, 1, 2, 3, 4, 5] fun α5 τ5 ν5 B5 T5 => hl [] (.fin (consT (τ3 0) α5) τ5 ν5 [])))))))) (fun B T => good_hl _ ⟨vLNext _ _ _ _ _ _ (by rw [List.getElem?_map, hx]; rfl), fun _ _ _ _ _ => good_hl _ ⟨vMod12 _ _ _ _ hk, fun _ _ _ _ _ => good_hl _ ⟨vGet _ _ _ _ _ _ _ rfl (by omega) hw, fun _ _ _ _ _ => good_hl _ ⟨vAddW _ _ _ hk12, fun _ _ _ _ _ => good_hl _ ⟨vAppend _ _ _ _ (by omega), fun _ _ _ _ _ => good_hl _ ⟨ih _ _ _, fun _ _ _ _ _ => good_hl _ trivial⟩⟩⟩⟩⟩⟩) fun B T => ?_
  kernel_rfl
def cT2 (P : Params) (kt : KT) (le : LE) (it nl ac loc : Addr) (tk : Tok) (ns : List (Int × Tok)) (n0 i : Nat) (av : List Value) (an : Nat) (ivs : List Value) (fo : (Nat → Nat) → List Value) (oN : Nat) : Ct :=
  { code := .compLoop (lawC820 kt) 0 (.ref it) (.ref ac) (cEnv (le.env kt) (lawC820 kt) loc []), need := [(it, itO (.ref nl) (i : Int)), (nl, lst (ns.map nv) n0), (ac, lst av an), (loc, locD P [120] tk ivs)], k := 0, res := fun _ _ _ => .ok .next,
    post := fun α τ ν => [itO .none (ns.length : Int), lst (ns.map nv) n0, lst (fo α) oN, locD P [120] (τ 0) [ν 0]], new := fun _ _ _ => [], D := 560, U := 7200 }
theorem vT2_0 (le : LE) (it nl ac loc : Addr) (tk : Tok) (ns : List (Int × Tok)) (n0 : Nat) (av : List Value) (an : Nat) (iv0 : Value) : Valid pw w (kt w.params) (cT2 w.params (kt w.params) le it nl ac loc tk ns n0 ns.length av an [iv0] (fun _ => av) an) := by
  refine valid_of 60 (fun B T => hl [0] (.j (cLEnd it nl (ns.map nv) n0 ns.length) [0, 1] fun α0 τ0 ν0 B0 T0 => hl [0] (.fin (ofL []) (ofL [tk]) (ofV [iv0]) []))) (fun B T => good_hl _ ⟨vLEnd _ _ _ _ _ (by simp), fun _ _ _ _ _ => good_hl _ trivial⟩) fun B T => ?_
  kernel_rfl
theorem vT2_a (le : LE) (it nl ac loc : Addr) (tk : Tok) (ns : List (Int × Tok)) (n0 i : Nat) (av : List Value) (an : Nat) (iv0 : Value) (fo : (Nat → Nat) → List Value) (oN : Nat) (x : Int × Tok) (k : Nat) (hx : ns[i]? = some x) (hk : x.1.fmod 6 = (k : Int)) (ha : av.length ≤ 9)
    (ih : ∀ tk t1 v, Valid pw w (kt w.params) (cT2 w.params (kt w.params) le it nl ac loc tk ns n0 (i + 1) (av ++ [iv (k, t1)]) (an + 1) [v] (fun a => fo (consT t1 a)) oN)) : Valid pw w (kt w.params) (cT2 w.params (kt w.params) le it nl ac loc tk ns n0 i av an [] fo oN) := by
  refine valid_of 200 (fun B T => hl [0] (.j (cLNext it nl (ns.map nv) n0 i (nv x)) [0, 1] fun α0 τ0 ν0 B0 T0 => hl [0, 6, 6, 6] (.j (cMod x.1 6 x.2 (T0 + 1) k) [] fun α1 τ1 ν1 B1 T1 => hl [] (.j (cAppend ac av an (.int (k : Int) (τ1 0))) [2] fun α2 τ2 ν2 B2 T2 => hl [] (.j (cT2 w.params (kt w.params) le it nl ac loc (T0 + 0) ns n0 (i + 1) (av ++ [iv (k, τ1 0)]) (an + 1) [nv x] (fun a => fo (consT (τ1 0) a)) oN) [0, 1, 2, 3] fun α3 τ3 ν3 B3 T3 => hl [] (.fin (consT (τ1 0) α3) τ3 ν3 [])))))) (fun B T => good_hl _ ⟨vLNext _ _ _ _ _ _ (by rw [List.getElem?_map, hx]; rfl), fun _ _ _ _ _ => good_hl _ ⟨vMod6 _ _ _ _ hk, fun _ _ _ _ _ => good_hl _ ⟨vAppend _ _ _ _ (by omega), fun _ _ _ _ _ => good_hl _ ⟨ih _ _ _, fun _ _ _ _ _ => good_hl _ trivial⟩⟩⟩⟩) fun B T => ?_
  kernel_rfl
theorem vT2_b (le : LE) (it nl ac loc : Addr) (tk : Tok) (ns : List (Int × Tok)) (n0 i : Nat) (av : List Value) (an : Nat) (iv0 : Value) (fo : (Nat → Nat) → List Value) (oN : Nat) (x : Int × Tok) (k : Nat) (hx : ns[i]? = some x) (hk : x.1.fmod 6 = (k : Int)) (ha : av.length ≤ 9)
    (ih : ∀ tk t1 v, Valid pw w (kt w.params) (cT2 w.params (kt w.params) le it nl ac loc tk ns n0 (i + 1) (av ++ [iv (k, t1)]) (an + 1) [v] (fun a => fo (consT t1 a)) oN)) : Valid pw w (kt w.params) (cT2 w.params (kt w.params) le it nl ac loc tk ns n0 i av an [iv0] fo oN) := by
  refine valid_of 200 (fun B T => hl [0] (.j (cLNext it nl (ns.map nv) n0 i (nv x)) [0, 1] fun α0 τ0 ν0 B0 T0 => hl [0, 6, 6, 6] (.j (cMod x.1 6 x.2 (T0 + 1) k) [] fun α1 τ1 ν1 B1 T1 => hl [] (.j (cAppend ac av an (.int (k : Int) (τ1 0))) [2] fun α2 τ2 ν2 B2 T2 => hl [] (.j (cT2 w.params (kt w.params) le it nl ac loc (tk) ns n0 (i + 1) (av ++ [iv (k, τ1 0)]) (an + 1) [nv x] (fun a => fo (consT (τ1 0) a)) oN) [0, 1, 2, 3] fun α3 τ3 ν3 B3 T3 => hl [] (.fin (consT (τ1 0) α3) τ3 ν3 [])))))) (fun B T => good_hl _ ⟨vLNext _ _ _ _ _ _ (by rw [List.getElem?_map, hx]; rfl), fun _ _ _ _ _ => good_hl _ ⟨vMod6 _ _ _ _ hk, fun _ _ _ _ _ => good_hl _ ⟨vAppend _ _ _ _ (by omega), fun _ _ _ _ _ => good_hl _ ⟨ih _ _ _, fun _ _ _ _ _ => good_hl _ trivial⟩⟩⟩⟩) fun B T => ?_
  kernel_rfl
/-- the words of ranks -/
def cT3 (P : Params) (kt : KT) (e : PySem.Expr) (le : LE) (pl' : Addr) (tp : Nat → Tok) (it rl ac loc : Addr) (tk : Tok) (xs : List E) (n i : Nat) (av : List Value) (an : Nat) (ivs : List Value) (oV : List Value) (oN : Nat) : Ct :=
  { code := .compLoop e 0 (.ref it) (.ref ac) (cEnv (le.env kt) e loc [(poolK, le.cp)]), need := [(it, itO (.ref rl) (i : Int)), (rl, lst (xs.map iv) n), (ac, lst av an), (loc, locD P [114, 97, 110, 107] tk ivs), (le.cp, cellO (.ref pl')), (pl', lst (plV tp) 0)], k := 0, res := fun _ _ _ => .ok .next,
    post := fun α τ ν => [itO .none (xs.length : Int), lst (xs.map iv) n, lst oV oN, locD P [114, 97, 110, 107] (τ 0) [ν 0], cellO (.ref pl'), lst (plV tp) 0], new := fun _ _ _ => [], D := 560, U := 7200 }
theorem plV_get (tp : Nat → Tok) (k : Nat) (h : k < 6) : (plV tp)[k]? = some (ev (k, tp k)) := by
  match k, h with
  | 0, _ | 1, _ | 2, _ | 3, _ | 4, _ | 5, _ => rfl
theorem wrV_get (tw : Nat → Tok) (k : Nat) (h : k < 12) : (wrV tw)[k]? = some (.str (wrS k) (tw k)) := by
  match k, h with
  | 0, _ | 1, _ | 2, _ | 3, _ | 4, _ | 5, _ | 6, _ | 7, _ | 8, _ | 9, _ | 10, _ | 11, _ => rfl
theorem vT821_0 (le : LE) (pl' : Addr) (tp : Nat → Tok) (it rl ac loc : Addr) (tk : Tok) (xs : List E) (n : Nat) (av : List Value) (an : Nat) (iv0 : Value) : Valid pw w (kt w.params) (cT3 w.params (kt w.params) (lawC821 (kt w.params)) le pl' tp it rl ac loc tk xs n xs.length av an [iv0] av an) := by
  refine valid_of 60 (fun B T => hl [0] (.j (cLEnd it rl (xs.map iv) n xs.length) [0, 1] fun α0 τ0 ν0 B0 T0 => hl [0] (.fin (ofL []) (ofL [tk]) (ofV [iv0]) []))) (fun B T => good_hl _ ⟨vLEnd _ _ _ _ _ (by simp), fun _ _ _ _ _ => good_hl _ trivial⟩) fun B T => ?_
  kernel_rfl
theorem vT821_a (le : LE) (pl' : Addr) (tp : Nat → Tok) (it rl ac loc : Addr) (tk : Tok) (xs : List E) (n i : Nat) (av : List Value) (an : Nat) (iv0 : Value) (oV : List Value) (oN : Nat) (x : E) (hx : xs[i]? = some x) (hx6 : x.1 < 6) (ha : av.length ≤ 9)
    (ih : ∀ tk v, Valid pw w (kt w.params) (cT3 w.params (kt w.params) (lawC821 (kt w.params)) le pl' tp it rl ac loc tk xs n (i + 1) (av ++ [ev (x.1, tp x.1)]) (an + 1) [v] oV oN)) : Valid pw w (kt w.params) (cT3 w.params (kt w.params) (lawC821 (kt w.params)) le pl' tp it rl ac loc tk xs n i av an [] oV oN) := by
  have hp := plV_get tp x.1 hx6
  refine valid_of 200 (fun B T => hl [0] (.j (cLNext it rl (xs.map iv) n i (iv x)) [0, 1] fun α0 τ0 ν0 B0 T0 => hl [0, 6, 6, 8, 6, 10, 10, 10] (.j (cGet pl' (plV tp) 0 x.1 (x.1 : Int) x.2 (ev (x.1, tp x.1))) [5] fun α1 τ1 ν1 B1 T1 => hl [] (.j (cAppend ac av an (ev (x.1, tp x.1))) [2] fun α2 τ2 ν2 B2 T2 => hl [] (.j (cT3 w.params (kt w.params) (lawC821 (kt w.params)) le pl' tp it rl ac loc (T0 + 0) xs n (i + 1) (av ++ [ev (x.1, tp x.1)]) (an + 1) [iv x] oV oN) [0, 1, 2, 3, 4, 5] fun α3 τ3 ν3 B3 T3 => hl [] (.fin α3 τ3 ν3 [])))))) (fun B T => good_hl _ ⟨vLNext _ _ _ _ _ _ (by rw [List.getElem?_map, hx]; rfl), fun _ _ _ _ _ => good_hl _ ⟨vGet _ _ _ _ _ _ _ rfl (by omega) hp, fun _ _ _ _ _ => good_hl _ ⟨vAppend _ _ _ _ (by omega), fun _ _ _ _ _ => good_hl _ ⟨ih _ _, fun _ _ _ _ _ => good_hl _ trivial⟩⟩⟩⟩) fun B T => ?_
  kernel_rfl
theorem vT821_b (le : LE) (pl' : Addr) (tp : Nat → Tok) (it rl ac loc : Addr) (tk : Tok) (xs : List E) (n i : Nat) (av : List Value) (an : Nat) (iv0 : Value) (oV : List Value) (oN : Nat) (x : E) (hx : xs[i]? = some x) (hx6 : x.1 < 6) (ha : av.length ≤ 9)
    (ih : ∀ tk v, Valid pw w (kt w.params) (cT3 w.params (kt w.params) (lawC821 (kt w.params)) le pl' tp it rl ac loc tk xs n (i + 1) (av ++ [ev (x.1, tp x.1)]) (an + 1) [v] oV oN)) : Valid pw w (kt w.params) (cT3 w.params (kt w.params) (lawC821 (kt w.params)) le pl' tp it rl ac loc tk xs n i av an [iv0] oV oN) := by
  have hp := plV_get tp x.1 hx6
  refine valid_of 200 (fun B T => hl [0] (.j (cLNext it rl (xs.map iv) n i (iv x)) [0, 1] fun α0 τ0 ν0 B0 T0 => hl [0, 6, 6, 8, 6, 10, 10, 10] (.j (cGet pl' (plV tp) 0 x.1 (x.1 : Int) x.2 (ev (x.1, tp x.1))) [5] fun α1 τ1 ν1 B1 T1 => hl [] (.j (cAppend ac av an (ev (x.1, tp x.1))) [2] fun α2 τ2 ν2 B2 T2 => hl [] (.j (cT3 w.params (kt w.params) (lawC821 (kt w.params)) le pl' tp it rl ac loc (tk) xs n (i + 1) (av ++ [ev (x.1, tp x.1)]) (an + 1) [iv x] oV oN) [0, 1, 2, 3, 4, 5] fun α3 τ3 ν3 B3 T3 => hl [] (.fin α3 τ3 ν3 [])))))) (fun B T => good_hl _ ⟨vLNext _ _ _ _ _ _ (by rw [List.getElem?_map, hx]; rfl), fun _ _ _ _ _ => good_hl _ ⟨vGet _ _ _ _ _ _ _ rfl (by omega) hp, fun _ _ _ _ _ => good_hl _ ⟨vAppend _ _ _ _ (by omega), fun _ _ _ _ _ => good_hl _ ⟨ih _ _, fun _ _ _ _ _ => good_hl _ trivial⟩⟩⟩⟩) fun B T => ?_
  kernel_rfl
theorem vT821' (le : LE) (pl' : Addr) (tp : Nat → Tok) (it rl ac loc : Addr) (n : Nat) : ∀ (r pre : List E) (tk : Tok) (av : List Value) (an : Nat) (iv0 : Value), (∀ e ∈ r, e.1 < 6) → av.length + r.length ≤ 9 →
    Valid pw w (kt w.params) (cT3 w.params (kt w.params) (lawC821 (kt w.params)) le pl' tp it rl ac loc tk (pre ++ r) n pre.length av an [iv0] (av ++ r.map fun e => ev (e.1, tp e.1)) (an + r.length))
  | [], pre, tk, av, an, iv0, _, _ => by
    have e1 : av ++ ([] : List E).map (fun e => ev (e.1, tp e.1)) = av := by simp
    have e2 : pre ++ [] = pre := by simp
    rw [e1, e2]
    exact vT821_0 le pl' tp it rl ac loc tk pre n av an iv0
  | x :: r, pre, tk, av, an, iv0, h6, ha => by
    simp only [List.length_cons] at ha
    have e1 : av ++ (x :: r).map (fun e => ev (e.1, tp e.1)) = (av ++ [ev (x.1, tp x.1)]) ++ r.map fun e => ev (e.1, tp e.1) := by simp
    have e3 : an + (x :: r).length = (an + 1) + r.length := by simp only [List.length_cons]; omega
    have e4 : pre ++ x :: r = (pre ++ [x]) ++ r := by simp
    have e5 : pre.length + 1 = (pre ++ [x]).length := by simp
    rw [e1, e3]
    refine vT821_b le pl' tp it rl ac loc tk _ n _ av an iv0 _ _ x (by simp) (h6 x (.head _)) (by omega) fun tk v => ?_
    rw [e4, e5]
    exact vT821' le pl' tp it rl ac loc n r (pre ++ [x]) tk (av ++ [ev (x.1, tp x.1)]) (an + 1) v (fun e he => h6 e (.tail _ he)) (by simp; omega)
theorem vT821 (le : LE) (pl' : Addr) (tp : Nat → Tok) (it rl ac loc : Addr) (n : Nat) (xs : List E) (hne : xs ≠ []) (h6 : ∀ e ∈ xs, e.1 < 6) (hln : xs.length ≤ 9) (tk : Tok) :
    Valid pw w (kt w.params) (cT3 w.params (kt w.params) (lawC821 (kt w.params)) le pl' tp it rl ac loc tk xs n 0 [] 0 [] (xs.map fun e => ev (e.1, tp e.1)) xs.length) := by
  match xs, hne with
  | x :: r, _ =>
    simp only [List.length_cons] at hln
    refine vT821_a le pl' tp it rl ac loc tk _ n 0 [] 0 .none _ _ x rfl (h6 x (.head _)) (by simp) fun tk v => ?_
    have ih := vT821' (w := w) le pl' tp it rl ac loc n r [x] tk [ev (x.1, tp x.1)] (0 + 1) v (fun e he => h6 e (.tail _ he)) (by simp; omega)
    have e3 : 0 + 1 + r.length = (x :: r).length := by simp only [List.length_cons]; omega
    rw [e3] at ih
    exact ih
theorem vT822_0 (le : LE) (pl' : Addr) (tp : Nat → Tok) (it rl ac loc : Addr) (tk : Tok) (xs : List E) (n : Nat) (av : List Value) (an : Nat) (iv0 : Value) : Valid pw w (kt w.params) (cT3 w.params (kt w.params) (lawC822 (kt w.params)) le pl' tp it rl ac loc tk xs n xs.length av an [iv0] av an) := by
  refine valid_of 60 (fun B T => hl [0] (.j (cLEnd it rl (xs.map iv) n xs.length) [0, 1] fun α0 τ0 ν0 B0 T0 => hl [0] (.fin (ofL []) (ofL [tk]) (ofV [iv0]) []))) (fun B T => good_hl _ ⟨vLEnd _ _ _ _ _ (by simp), fun _ _ _ _ _ => good_hl _ trivial⟩) fun B T => ?_
  kernel_rfl
theorem vT822_a (le : LE) (pl' : Addr) (tp : Nat → Tok) (it rl ac loc : Addr) (tk : Tok) (xs : List E) (n i : Nat) (av : List Value) (an : Nat) (iv0 : Value) (oV : List Value) (oN : Nat) (x : E) (hx : xs[i]? = some x) (hx6 : x.1 < 6) (ha : av.length ≤ 9)
    (ih : ∀ tk v, Valid pw w (kt w.params) (cT3 w.params (kt w.params) (lawC822 (kt w.params)) le pl' tp it rl ac loc tk xs n (i + 1) (av ++ [ev (x.1, tp x.1)]) (an + 1) [v] oV oN)) : Valid pw w (kt w.params) (cT3 w.params (kt w.params) (lawC822 (kt w.params)) le pl' tp it rl ac loc tk xs n i av an [] oV oN) := by
  have hp := plV_get tp x.1 hx6
  refine valid_of 200 (fun B T => hl [0] (.j (cLNext it rl (xs.map iv) n i (iv x)) [0, 1] fun α0 τ0 ν0 B0 T0 => hl [0, 6, 6, 8, 6, 10, 10, 10] (.j (cGet pl' (plV tp) 0 x.1 (x.1 : Int) x.2 (ev (x.1, tp x.1))) [5] fun α1 τ1 ν1 B1 T1 => hl [] (.j (cAppend ac av an (ev (x.1, tp x.1))) [2] fun α2 τ2 ν2 B2 T2 => hl [] (.j (cT3 w.params (kt w.params) (lawC822 (kt w.params)) le pl' tp it rl ac loc (T0 + 0) xs n (i + 1) (av ++ [ev (x.1, tp x.1)]) (an + 1) [iv x] oV oN) [0, 1, 2, 3, 4, 5] fun α3 τ3 ν3 B3 T3 => hl [] (.fin α3 τ3 ν3 [])))))) (fun B T => good_hl _ ⟨vLNext _ _ _ _ _ _ (by rw [List.getElem?_map, hx]; rfl), fun _ _ _ _ _ => good_hl _ ⟨vGet _ _ _ _ _ _ _ rfl (by omega) hp, fun _ _ _ _ _ => good_hl _ ⟨vAppend _ _ _ _ (by omega), fun _ _ _ _ _ => good_hl _ ⟨ih _ _, fun _ _ _ _ _ => good_hl _ trivial⟩⟩⟩⟩) fun B T => ?_
  kernel_rfl
theorem vT822_b (le : LE) (pl' : Addr) (tp : Nat → Tok) (it rl ac loc : Addr) (tk : Tok) (xs : List E) (n i : Nat) (av : List Value) (an : Nat) (iv0 : Value) (oV : List Value) (oN : Nat) (x : E) (hx : xs[i]? = some x) (hx6 : x.1 < 6) (ha : av.length ≤ 9)
    (ih : ∀ tk v, Valid pw w (kt w.params) (cT3 w.params (kt w.params) (lawC822 (kt w.params)) le pl' tp it rl ac loc tk xs n (i + 1) (av ++ [ev (x.1, tp x.1)]) (an + 1) [v] oV oN)) : Valid pw w (kt w.params) (cT3 w.params (kt w.params) (lawC822 (kt w.params)) le pl' tp it rl ac loc tk xs n i av an [iv0] oV oN) := by
  have hp := plV_get tp x.1 hx6
  refine valid_of 200 (fun B T => hl [0] (.j (cLNext it rl (xs.map iv) n i (iv x)) [0, 1] fun α0 τ0 ν0 B0 T0 => hl [0, 6, 6, 8, 6, 10, 10, 10] (.j (cGet pl' (plV tp) 0 x.1 (x.1 : Int) x.2 (ev (x.1, tp x.1))) [5] fun α1 τ1 ν1 B1 T1 => hl [] (.j (cAppend ac av an (ev (x.1, tp x.1))) [2] fun α2 τ2 ν2 B2 T2 => hl [] (.j (cT3 w.params (kt w.params) (lawC822 (kt w.params)) le pl' tp it rl ac loc (tk) xs n (i + 1) (av ++ [ev (x.1, tp x.1)]) (an + 1) [iv x] oV oN) [0, 1, 2, 3, 4, 5] fun α3 τ3 ν3 B3 T3 => hl [] (.fin α3 τ3 ν3 [])))))) (fun B T => good_hl _ ⟨vLNext _ _ _ _ _ _ (by rw [List.getElem?_map, hx]; rfl), fun _ _ _ _ _ => good_hl _ ⟨vGet _ _ _ _ _ _ _ rfl (by omega) hp, fun _ _ _ _ _ => good_hl _ ⟨vAppend _ _ _ _ (by omega), fun _ _ _ _ _ => good_hl _ ⟨ih _ _, fun _ _ _ _ _ => good_hl _ trivial⟩⟩⟩⟩) fun B T => ?_
  kernel_rfl
theorem vT822' (le : LE) (pl' : Addr) (tp : Nat → Tok) (it rl ac loc : Addr) (n : Nat) : ∀ (r pre : List E) (tk : Tok) (av : List Value) (an : Nat) (iv0 : Value), (∀ e ∈ r, e.1 < 6) → av.length + r.length ≤ 9 →
    Valid pw w (kt w.params) (cT3 w.params (kt w.params) (lawC822 (kt w.params)) le pl' tp it rl ac loc tk (pre ++ r) n pre.length av an [iv0] (av ++ r.map fun e => ev (e.1, tp e.1)) (an + r.length))
  | [], pre, tk, av, an, iv0, _, _ => by
    have e1 : av ++ ([] : List E).map (fun e => ev (e.1, tp e.1)) = av := by simp
    have e2 : pre ++ [] = pre := by simp
    rw [e1, e2]
    exact vT822_0 le pl' tp it rl ac loc tk pre n av an iv0
  | x :: r, pre, tk, av, an, iv0, h6, ha => by
    simp only [List.length_cons] at ha
    have e1 : av ++ (x :: r).map (fun e => ev (e.1, tp e.1)) = (av ++ [ev (x.1, tp x.1)]) ++ r.map fun e => ev (e.1, tp e.1) := by simp
    have e3 : an + (x :: r).length = (an + 1) + r.length := by simp only [List.length_cons]; omega
    have e4 : pre ++ x :: r = (pre ++ [x]) ++ r := by simp
    have e5 : pre.length + 1 = (pre ++ [x]).length := by simp
    rw [e1, e3]
    refine vT822_b le pl' tp it rl ac loc tk _ n _ av an iv0 _ _ x (by simp) (h6 x (.head _)) (by omega) fun tk v => ?_
    rw [e4, e5]
    exact vT822' le pl' tp it rl ac loc n r (pre ++ [x]) tk (av ++ [ev (x.1, tp x.1)]) (an + 1) v (fun e he => h6 e (.tail _ he)) (by simp; omega)
theorem vT822 (le : LE) (pl' : Addr) (tp : Nat → Tok) (it rl ac loc : Addr) (n : Nat) (xs : List E) (hne : xs ≠ []) (h6 : ∀ e ∈ xs, e.1 < 6) (hln : xs.length ≤ 9) (tk : Tok) :
    Valid pw w (kt w.params) (cT3 w.params (kt w.params) (lawC822 (kt w.params)) le pl' tp it rl ac loc tk xs n 0 [] 0 [] (xs.map fun e => ev (e.1, tp e.1)) xs.length) := by
  match xs, hne with
  | x :: r, _ =>
    simp only [List.length_cons] at hln
    refine vT822_a le pl' tp it rl ac loc tk _ n 0 [] 0 .none _ _ x rfl (h6 x (.head _)) (by simp) fun tk v => ?_
    have ih := vT822' (w := w) le pl' tp it rl ac loc n r [x] tk [ev (x.1, tp x.1)] (0 + 1) v (fun e he => h6 e (.tail _ he)) (by simp; omega)
    have e3 : 0 + 1 + r.length = (x :: r).length := by simp only [List.length_cons]; omega
    rw [e3] at ih
    exact ih
theorem vT824_0 (le : LE) (pl' : Addr) (tp : Nat → Tok) (it rl ac loc : Addr) (tk : Tok) (xs : List E) (n : Nat) (av : List Value) (an : Nat) (iv0 : Value) : Valid pw w (kt w.params) (cT3 w.params (kt w.params) (lawC824 (kt w.params)) le pl' tp it rl ac loc tk xs n xs.length av an [iv0] av an) := by
  refine valid_of 60 (fun B T => hl [0] (.j (cLEnd it rl (xs.map iv) n xs.length) [0, 1] fun α0 τ0 ν0 B0 T0 => hl [0] (.fin (ofL []) (ofL [tk]) (ofV [iv0]) []))) (fun B T => good_hl _ ⟨vLEnd _ _ _ _ _ (by simp), fun _ _ _ _ _ => good_hl _ trivial⟩) fun B T => ?_
  kernel_rfl
theorem vT824_a (le : LE) (pl' : Addr) (tp : Nat → Tok) (it rl ac loc : Addr) (tk : Tok) (xs : List E) (n i : Nat) (av : List Value) (an : Nat) (iv0 : Value) (oV : List Value) (oN : Nat) (x : E) (hx : xs[i]? = some x) (hx6 : x.1 < 6) (ha : av.length ≤ 9)
    (ih : ∀ tk v, Valid pw w (kt w.params) (cT3 w.params (kt w.params) (lawC824 (kt w.params)) le pl' tp it rl ac loc tk xs n (i + 1) (av ++ [ev (x.1, tp x.1)]) (an + 1) [v] oV oN)) : Valid pw w (kt w.params) (cT3 w.params (kt w.params) (lawC824 (kt w.params)) le pl' tp it rl ac loc tk xs n i av an [] oV oN) := by
  have hp := plV_get tp x.1 hx6
  refine valid_of 200 (fun B T => hl [0] (.j (cLNext it rl (xs.map iv) n i (iv x)) [0, 1] fun α0 τ0 ν0 B0 T0 => hl [0, 6, 6, 8, 6, 10, 10, 10] (.j (cGet pl' (plV tp) 0 x.1 (x.1 : Int) x.2 (ev (x.1, tp x.1))) [5] fun α1 τ1 ν1 B1 T1 => hl [] (.j (cAppend ac av an (ev (x.1, tp x.1))) [2] fun α2 τ2 ν2 B2 T2 => hl [] (.j (cT3 w.params (kt w.params) (lawC824 (kt w.params)) le pl' tp it rl ac loc (T0 + 0) xs n (i + 1) (av ++ [ev (x.1, tp x.1)]) (an + 1) [iv x] oV oN) [0, 1, 2, 3, 4, 5] fun α3 τ3 ν3 B3 T3 => hl [] (.fin α3 τ3 ν3 [])))))) (fun B T => good_hl _ ⟨vLNext _ _ _ _ _ _ (by rw [List.getElem?_map, hx]; rfl), fun _ _ _ _ _ => good_hl _ ⟨vGet _ _ _ _ _ _ _ rfl (by omega) hp, fun _ _ _ _ _ => good_hl _ ⟨vAppend _ _ _ _ (by omega), fun _ _ _ _ _ => good_hl _ ⟨ih _ _, fun _ _ _ _ _ => good_hl _ trivial⟩⟩⟩⟩) fun B T => ?_
  kernel_rfl
theorem vT824_b (le : LE) (pl' : Addr) (tp : Nat → Tok) (it rl ac loc : Addr) (tk : Tok) (xs : List E) (n i : Nat) (av : List Value) (an : Nat) (iv0 : Value) (oV : List Value) (oN : Nat) (x : E) (hx : xs[i]? = some x) (hx6 : x.1 < 6) (ha : av.length ≤ 9)
    (ih : ∀ tk v, Valid pw w (kt w.params) (cT3 w.params (kt w.params) (lawC824 (kt w.params)) le pl' tp it rl ac loc tk xs n (i + 1) (av ++ [ev (x.1, tp x.1)]) (an + 1) [v] oV oN)) : Valid pw w (kt w.params) (cT3 w.params (kt w.params) (lawC824 (kt w.params)) le pl' tp it rl ac loc tk xs n i av an [iv0] oV oN) := by
  have hp := plV_get tp x.1 hx6
  refine valid_of 200 (fun B T => hl [0] (.j (cLNext it rl (xs.map iv) n i (iv x)) [0, 1] fun α0 τ0 ν0 B0 T0 => hl [0, 6, 6, 8, 6, 10, 10, 10] (.j (cGet pl' (plV tp) 0 x.1 (x.1 : Int) x.2 (ev (x.1, tp x.1))) [5] fun α1 τ1 ν1 B1 T1 => hl [] (.j (cAppend ac av an (ev (x.1, tp x.1))) [2] fun α2 τ2 ν2 B2 T2 => hl [] (.j (cT3 w.params (kt w.params) (lawC824 (kt w.params)) le pl' tp it rl ac loc (tk) xs n (i + 1) (av ++ [ev (x.1, tp x.1)]) (an + 1) [iv x] oV oN) [0, 1, 2, 3, 4, 5] fun α3 τ3 ν3 B3 T3 => hl [] (.fin α3 τ3 ν3 [])))))) (fun B T => good_hl _ ⟨vLNext _ _ _ _ _ _ (by rw [List.getElem?_map, hx]; rfl), fun _ _ _ _ _ => good_hl _ ⟨vGet _ _ _ _ _ _ _ rfl (by omega) hp, fun _ _ _ _ _ => good_hl _ ⟨vAppend _ _ _ _ (by omega), fun _ _ _ _ _ => good_hl _ ⟨ih _ _, fun _ _ _ _ _ => good_hl _ trivial⟩⟩⟩⟩) fun B T => ?_
  kernel_rfl
theorem vT824' (le : LE) (pl' : Addr) (tp : Nat → Tok) (it rl ac loc : Addr) (n : Nat) : ∀ (r pre : List E) (tk : Tok) (av : List Value) (an : Nat) (iv0 : Value), (∀ e ∈ r, e.1 < 6) → av.length + r.length ≤ 9 →
    Valid pw w (kt w.params) (cT3 w.params (kt w.params) (lawC824 (kt w.params)) le pl' tp it rl ac loc tk (pre ++ r) n pre.length av an [iv0] (av ++ r.map fun e => ev (e.1, tp e.1)) (an + r.length))
  | [], pre, tk, av, an, iv0, _, _ => by
    have e1 : av ++ ([] : List E).map (fun e => ev (e.1, tp e.1)) = av := by simp
    have e2 : pre ++ [] = pre := by simp
    rw [e1, e2]
    exact vT824_0 le pl' tp it rl ac loc tk pre n av an iv0
  | x :: r, pre, tk, av, an, iv0, h6, ha => by
    simp only [List.length_cons] at ha
    have e1 : av ++ (x :: r).map (fun e => ev (e.1, tp e.1)) = (av ++ [ev (x.1, tp x.1)]) ++ r.map fun e => ev (e.1, tp e.1) := by simp
    have e3 : an + (x :: r).length = (an + 1) + r.length := by simp only [List.length_cons]; omega
    have e4 : pre ++ x :: r = (pre ++ [x]) ++ r := by simp
    have e5 : pre.length + 1 = (pre ++ [x]).length := by simp
    rw [e1, e3]
    refine vT824_b le pl' tp it rl ac loc tk _ n _ av an iv0 _ _ x (by simp) (h6 x (.head _)) (by omega) fun tk v => ?_
    rw [e4, e5]
    exact vT824' le pl' tp it rl ac loc n r (pre ++ [x]) tk (av ++ [ev (x.1, tp x.1)]) (an + 1) v (fun e he => h6 e (.tail _ he)) (by simp; omega)
theorem vT824 (le : LE) (pl' : Addr) (tp : Nat → Tok) (it rl ac loc : Addr) (n : Nat) (xs : List E) (hne : xs ≠ []) (h6 : ∀ e ∈ xs, e.1 < 6) (hln : xs.length ≤ 9) (tk : Tok) :
    Valid pw w (kt w.params) (cT3 w.params (kt w.params) (lawC824 (kt w.params)) le pl' tp it rl ac loc tk xs n 0 [] 0 [] (xs.map fun e => ev (e.1, tp e.1)) xs.length) := by
  match xs, hne with
  | x :: r, _ =>
    simp only [List.length_cons] at hln
    refine vT824_a le pl' tp it rl ac loc tk _ n 0 [] 0 .none _ _ x rfl (h6 x (.head _)) (by simp) fun tk v => ?_
    have ih := vT824' (w := w) le pl' tp it rl ac loc n r [x] tk [ev (x.1, tp x.1)] (0 + 1) v (fun e he => h6 e (.tail _ he)) (by simp; omega)
    have e3 : 0 + 1 + r.length = (x :: r).length := by simp only [List.length_cons]; omega
    rw [e3] at ih
    exact ih
theorem vT1' (le : LE) (wl : Addr) (tw : Nat → Tok) (it nl ac loc : Addr) (n0 : Nat) : ∀ (ns pre : List (Int × Tok)) (tk : Tok) (av : List Value) (an : Nat) (iv0 : Value), av.length + ns.length ≤ 9 →
    Valid pw w (kt w.params) (cT1 w.params (kt w.params) le wl tw it nl ac loc tk (pre ++ ns) n0 pre.length av an [iv0] (fun a => av ++ strValues (tks (ns.map fun x => (x.1.fmod 12).toNat) a)) (an + ns.length))
  | [], pre, tk, av, an, iv0, _ => by
    have e1 : (fun a : Nat → Nat => av ++ strValues (tks (([] : List (Int × Tok)).map fun x => (x.1.fmod 12).toNat) a)) = fun _ => av := by
      funext a; simp [tks, wds, strValues]
    have e2 : pre ++ [] = pre := by simp
    rw [e1, e2]
    exact vT1_0 le wl tw it nl ac loc tk pre n0 av an iv0
  | x :: ns, pre, tk, av, an, iv0, ha => by
    simp only [List.length_cons] at ha
    have hp : 0 ≤ x.1.fmod 12 := Int.fmod_nonneg_of_pos x.1 (by decide)
    have hk12 : (x.1.fmod 12).toNat < 12 := by have := Int.fmod_lt_of_pos x.1 (b := 12) (by decide); omega
    have e3 : an + (x :: ns).length = (an + 1) + ns.length := by simp only [List.length_cons]; omega
    have e4 : pre ++ x :: ns = (pre ++ [x]) ++ ns := by simp
    have e5 : pre.length + 1 = (pre ++ [x]).length := by simp
    rw [e3]
    refine vT1_b le wl tw it nl ac loc tk _ n0 _ av an iv0 _ _ x (x.1.fmod 12).toNat (by simp) (by omega) hk12 (wrV_get tw _ hk12) (by omega) fun tk t1 v => ?_
    rw [e4, e5]
    have ih := vT1' le wl tw it nl ac loc n0 ns (pre ++ [x]) tk (av ++ [Value.str (wrL (x.1.fmod 12).toNat) t1]) (an + 1) v (by simp; omega)
    have e1 : (fun a : Nat → Nat => (av ++ [Value.str (wrL (x.1.fmod 12).toNat) t1]) ++ strValues (tks (ns.map fun x => (x.1.fmod 12).toNat) a)) = fun a => (fun a => av ++ strValues (tks ((x :: ns).map fun x => (x.1.fmod 12).toNat) a)) (consT t1 a) := by
      funext a; simp [tks, wds, strValues, consT]
    rw [e1] at ih
    exact ih
theorem vT1 (le : LE) (wl : Addr) (tw : Nat → Tok) (it nl ac loc : Addr) (n0 : Nat) (ns : List (Int × Tok)) (hne : ns ≠ []) (hln : ns.length ≤ 9) (tk : Tok) :
    Valid pw w (kt w.params) (cT1 w.params (kt w.params) le wl tw it nl ac loc tk ns n0 0 [] 0 [] (fun a => strValues (tks (ns.map fun x => (x.1.fmod 12).toNat) a)) ns.length) := by
  match ns, hne with
  | x :: ns, _ =>
    simp only [List.length_cons] at hln
    have hp : 0 ≤ x.1.fmod 12 := Int.fmod_nonneg_of_pos x.1 (by decide)
    have hk12 : (x.1.fmod 12).toNat < 12 := by have := Int.fmod_lt_of_pos x.1 (b := 12) (by decide); omega
    refine vT1_a le wl tw it nl ac loc tk _ n0 0 [] 0 .none _ _ x (x.1.fmod 12).toNat rfl (by omega) hk12 (wrV_get tw _ hk12) (by simp) fun tk t1 v => ?_
    have ih := vT1' (w := w) le wl tw it nl ac loc n0 ns [x] tk [Value.str (wrL (x.1.fmod 12).toNat) t1] (0 + 1) v (by simp; omega)
    have e1 : (fun a : Nat → Nat => [Value.str (wrL (x.1.fmod 12).toNat) t1] ++ strValues (tks (ns.map fun x => (x.1.fmod 12).toNat) a)) = fun a => (fun a => strValues (tks ((x :: ns).map fun x => (x.1.fmod 12).toNat) a)) (consT t1 a) := by
      funext a; simp [tks, wds, strValues, consT]
    have e3 : 0 + 1 + ns.length = (x :: ns).length := by simp only [List.length_cons]; omega
    rw [e1, e3] at ih
    exact ih
theorem vT2' (le : LE) (it nl ac loc : Addr) (n0 : Nat) : ∀ (ns pre : List (Int × Tok)) (tk : Tok) (av : List Value) (an : Nat) (iv0 : Value), av.length + ns.length ≤ 9 →
    Valid pw w (kt w.params) (cT2 w.params (kt w.params) le it nl ac loc tk (pre ++ ns) n0 pre.length av an [iv0] (fun a => av ++ (wds (ns.map fun x => (x.1.fmod 6).toNat) a).map iv) (an + ns.length))
  | [], pre, tk, av, an, iv0, _ => by
    have e1 : (fun a : Nat → Nat => av ++ (wds (([] : List (Int × Tok)).map fun x => (x.1.fmod 6).toNat) a).map iv) = fun _ => av := by
      funext a; simp [tks, wds, strValues]
    have e2 : pre ++ [] = pre := by simp
    rw [e1, e2]
    exact vT2_0 le it nl ac loc tk pre n0 av an iv0
  | x :: ns, pre, tk, av, an, iv0, ha => by
    simp only [List.length_cons] at ha
    have hp : 0 ≤ x.1.fmod 6 := Int.fmod_nonneg_of_pos x.1 (by decide)
    have e3 : an + (x :: ns).length = (an + 1) + ns.length := by simp only [List.length_cons]; omega
    have e4 : pre ++ x :: ns = (pre ++ [x]) ++ ns := by simp
    have e5 : pre.length + 1 = (pre ++ [x]).length := by simp
    rw [e3]
    refine vT2_b le it nl ac loc tk _ n0 _ av an iv0 _ _ x (x.1.fmod 6).toNat (by simp) (by omega) (by omega) fun tk t1 v => ?_
    rw [e4, e5]
    have ih := vT2' le it nl ac loc n0 ns (pre ++ [x]) tk (av ++ [iv ((x.1.fmod 6).toNat, t1)]) (an + 1) v (by simp; omega)
    have e1 : (fun a : Nat → Nat => (av ++ [iv ((x.1.fmod 6).toNat, t1)]) ++ (wds (ns.map fun x => (x.1.fmod 6).toNat) a).map iv) = fun a => (fun a => av ++ (wds ((x :: ns).map fun x => (x.1.fmod 6).toNat) a).map iv) (consT t1 a) := by
      funext a; simp [tks, wds, strValues, consT]
    rw [e1] at ih
    exact ih
theorem vT2 (le : LE) (it nl ac loc : Addr) (n0 : Nat) (ns : List (Int × Tok)) (hne : ns ≠ []) (hln : ns.length ≤ 9) (tk : Tok) :
    Valid pw w (kt w.params) (cT2 w.params (kt w.params) le it nl ac loc tk ns n0 0 [] 0 [] (fun a => (wds (ns.map fun x => (x.1.fmod 6).toNat) a).map iv) ns.length) := by
  match ns, hne with
  | x :: ns, _ =>
    simp only [List.length_cons] at hln
    have hp : 0 ≤ x.1.fmod 6 := Int.fmod_nonneg_of_pos x.1 (by decide)
    refine vT2_a le it nl ac loc tk _ n0 0 [] 0 .none _ _ x (x.1.fmod 6).toNat rfl (by omega) (by simp) fun tk t1 v => ?_
    have ih := vT2' (w := w) le it nl ac loc n0 ns [x] tk [iv ((x.1.fmod 6).toNat, t1)] (0 + 1) v (by simp; omega)
    have e1 : (fun a : Nat → Nat => [iv ((x.1.fmod 6).toNat, t1)] ++ (wds (ns.map fun x => (x.1.fmod 6).toNat) a).map iv) = fun a => (fun a => (wds ((x :: ns).map fun x => (x.1.fmod 6).toNat) a).map iv) (consT t1 a) := by
      funext a; simp [tks, wds, strValues, consT]
    have e3 : 0 + 1 + ns.length = (x :: ns).length := by simp only [List.length_cons]; omega
    rw [e1, e3] at ih
    exact ih
end
end Mine
/-! part C20 -/
set_option maxRecDepth 100000
set_option linter.unusedVariables false
namespace Mine
open PySem PySem.Spec PySem.Calls PyProof.Rows PySem.W PySem.W.X
/-- a comprehension from its start -/
def cStart (C : Ct) : Ct := match C.code with
  | .compLoop e d it acc env => { C with code := .compStart e d it acc env, D := 550, U := 7150 }
  | _ => C
section
variable {w : World}
theorem vS814 (le : LE) (wl : Addr) (tw : Nat → Tok) (it nl ac loc : Addr) (tk : Tok) (ns : List (Int × Tok)) (n0 : Nat) (fo : (Nat → Nat) → List Value) (oN : Nat) (h : Valid pw w (kt w.params) (cT1 w.params (kt w.params) le wl tw it nl ac loc tk ns n0 0 [] 0 [] fo oN)) : Valid pw w (kt w.params) (cStart (cT1 w.params (kt w.params) le wl tw it nl ac loc tk ns n0 0 [] 0 [] fo oN)) := by
  refine valid_of 100 (fun B T => hl [] (.sp (hl [] (.j (cT1 w.params (kt w.params) le wl tw it nl ac loc tk ns n0 0 [] 0 [] fo oN) [0, 1, 2, 3, 4, 5] fun α0 τ0 ν0 B0 T0 => hl [] (.fin α0 τ0 ν0 []))) (hl [0, 0, 1, 0, 0, 0, 0] (.j (cT1 w.params (kt w.params) le wl tw it nl ac loc tk ns n0 0 [] 0 [] fo oN) [0, 1, 2, 3, 4, 5] fun α0 τ0 ν0 B0 T0 => hl [] (.fin α0 τ0 ν0 []))))) (fun B T => good_hl _ ⟨good_hl _ ⟨h, fun _ _ _ _ _ => good_hl _ trivial⟩, good_hl _ ⟨h, fun _ _ _ _ _ => good_hl _ trivial⟩⟩) fun B T => ?_
  kernel_rfl
theorem vS820 (le : LE) (it nl ac loc : Addr) (tk : Tok) (ns : List (Int × Tok)) (n0 : Nat) (fo : (Nat → Nat) → List Value) (oN : Nat) (h : Valid pw w (kt w.params) (cT2 w.params (kt w.params) le it nl ac loc tk ns n0 0 [] 0 [] fo oN)) : Valid pw w (kt w.params) (cStart (cT2 w.params (kt w.params) le it nl ac loc tk ns n0 0 [] 0 [] fo oN)) := by
  refine valid_of 100 (fun B T => hl [] (.sp (hl [] (.j (cT2 w.params (kt w.params) le it nl ac loc tk ns n0 0 [] 0 [] fo oN) [0, 1, 2, 3] fun α0 τ0 ν0 B0 T0 => hl [] (.fin α0 τ0 ν0 []))) (hl [0, 0, 1, 0, 0, 0, 0] (.j (cT2 w.params (kt w.params) le it nl ac loc tk ns n0 0 [] 0 [] fo oN) [0, 1, 2, 3] fun α0 τ0 ν0 B0 T0 => hl [] (.fin α0 τ0 ν0 []))))) (fun B T => good_hl _ ⟨good_hl _ ⟨h, fun _ _ _ _ _ => good_hl _ trivial⟩, good_hl _ ⟨h, fun _ _ _ _ _ => good_hl _ trivial⟩⟩) fun B T => ?_
  kernel_rfl
theorem vS821 (le : LE) (pl' : Addr) (tp : Nat → Tok) (it rl ac loc : Addr) (tk : Tok) (xs : List E) (n : Nat) (oV : List Value) (oN : Nat) (h : Valid pw w (kt w.params) (cT3 w.params (kt w.params) (lawC821 (kt w.params)) le pl' tp it rl ac loc tk xs n 0 [] 0 [] oV oN)) : Valid pw w (kt w.params) (cStart (cT3 w.params (kt w.params) (lawC821 (kt w.params)) le pl' tp it rl ac loc tk xs n 0 [] 0 [] oV oN)) := by
  refine valid_of 100 (fun B T => hl [] (.sp (hl [] (.j (cT3 w.params (kt w.params) (lawC821 (kt w.params)) le pl' tp it rl ac loc tk xs n 0 [] 0 [] oV oN) [0, 1, 2, 3, 4, 5] fun α0 τ0 ν0 B0 T0 => hl [] (.fin α0 τ0 ν0 []))) (hl [0, 0, 1, 0, 0, 0, 0] (.j (cT3 w.params (kt w.params) (lawC821 (kt w.params)) le pl' tp it rl ac loc tk xs n 0 [] 0 [] oV oN) [0, 1, 2, 3, 4, 5] fun α0 τ0 ν0 B0 T0 => hl [] (.fin α0 τ0 ν0 []))))) (fun B T => good_hl _ ⟨good_hl _ ⟨h, fun _ _ _ _ _ => good_hl _ trivial⟩, good_hl _ ⟨h, fun _ _ _ _ _ => good_hl _ trivial⟩⟩) fun B T => ?_
  kernel_rfl
theorem vS822 (le : LE) (pl' : Addr) (tp : Nat → Tok) (it rl ac loc : Addr) (tk : Tok) (xs : List E) (n : Nat) (oV : List Value) (oN : Nat) (h : Valid pw w (kt w.params) (cT3 w.params (kt w.params) (lawC822 (kt w.params)) le pl' tp it rl ac loc tk xs n 0 [] 0 [] oV oN)) : Valid pw w (kt w.params) (cStart (cT3 w.params (kt w.params) (lawC822 (kt w.params)) le pl' tp it rl ac loc tk xs n 0 [] 0 [] oV oN)) := by
  refine valid_of 100 (fun B T => hl [] (.sp (hl [] (.j (cT3 w.params (kt w.params) (lawC822 (kt w.params)) le pl' tp it rl ac loc tk xs n 0 [] 0 [] oV oN) [0, 1, 2, 3, 4, 5] fun α0 τ0 ν0 B0 T0 => hl [] (.fin α0 τ0 ν0 []))) (hl [0, 0, 1, 0, 0, 0, 0] (.j (cT3 w.params (kt w.params) (lawC822 (kt w.params)) le pl' tp it rl ac loc tk xs n 0 [] 0 [] oV oN) [0, 1, 2, 3, 4, 5] fun α0 τ0 ν0 B0 T0 => hl [] (.fin α0 τ0 ν0 []))))) (fun B T => good_hl _ ⟨good_hl _ ⟨h, fun _ _ _ _ _ => good_hl _ trivial⟩, good_hl _ ⟨h, fun _ _ _ _ _ => good_hl _ trivial⟩⟩) fun B T => ?_
  kernel_rfl
theorem vS824 (le : LE) (pl' : Addr) (tp : Nat → Tok) (it rl ac loc : Addr) (tk : Tok) (xs : List E) (n : Nat) (oV : List Value) (oN : Nat) (h : Valid pw w (kt w.params) (cT3 w.params (kt w.params) (lawC824 (kt w.params)) le pl' tp it rl ac loc tk xs n 0 [] 0 [] oV oN)) : Valid pw w (kt w.params) (cStart (cT3 w.params (kt w.params) (lawC824 (kt w.params)) le pl' tp it rl ac loc tk xs n 0 [] 0 [] oV oN)) := by
  refine valid_of 100 (fun B T => hl [] (.sp (hl [] (.j (cT3 w.params (kt w.params) (lawC824 (kt w.params)) le pl' tp it rl ac loc tk xs n 0 [] 0 [] oV oN) [0, 1, 2, 3, 4, 5] fun α0 τ0 ν0 B0 T0 => hl [] (.fin α0 τ0 ν0 []))) (hl [0, 0, 1, 0, 0, 0, 0] (.j (cT3 w.params (kt w.params) (lawC824 (kt w.params)) le pl' tp it rl ac loc tk xs n 0 [] 0 [] oV oN) [0, 1, 2, 3, 4, 5] fun α0 τ0 ν0 B0 T0 => hl [] (.fin α0 τ0 ν0 []))))) (fun B T => good_hl _ ⟨good_hl _ ⟨h, fun _ _ _ _ _ => good_hl _ trivial⟩, good_hl _ ⟨h, fun _ _ _ _ _ => good_hl _ trivial⟩⟩) fun B T => ?_
  kernel_rfl
/-- no sign is a bool -/
def cT6 (P : Params) (kt : KT) (le : LE) (it l ac loc : Addr) (a b : Int) (t u : Tok) (n : Nat) : Ct :=
  { code := .compStart (lawC827 kt) 0 (.ref it) (.ref ac) (cEnv (le.env kt) (lawC827 kt) loc []), need := [(it, itO (.ref l) 0), (l, lst [.int a t, .int b u] n), (ac, lst [] 0), (loc, locD P [115, 105, 103, 110] 0 [])], k := 0, res := fun _ _ _ => .ok .next,
    post := fun _ τ ν => [itO .none 2, lst [.int a t, .int b u] n, lst [] 0, locD P [115, 105, 103, 110] (τ 0) [ν 0]], new := fun _ _ _ => [], D := 550, U := 7150 }
theorem vT6 (le : LE) (it l ac loc : Addr) (a b : Int) (t u : Tok) (n : Nat) : Valid pw w (kt w.params) (cT6 w.params (kt w.params) le it l ac loc a b t u n) := by
  refine valid_of 400 (fun B T => hl [] (.sp (hl [0, 0, 0, 0, 0, 0, 0, 2, 0, 0, 0, 6, 6, 7, 1, 6, 7, 1, 0, 0, 0, 0, 0, 0, 0, 0, 0, 0, 0, 0, 0, 0, 0, 2, 0, 0, 0, 6, 6, 7, 1, 6, 7, 1, 0, 0, 0, 0, 0, 0, 0, 0, 0, 0, 0, 0, 0, 0, 0, 2, 0, 0, 0] (.fin (ofL []) (ofL [T + 0]) (ofV [.int b u]) [])) (hl [0, 0, 1, 0, 0, 0, 0, 0, 0, 0, 0, 0, 0, 0, 2, 0, 0, 0, 6, 6, 7, 1, 6, 7, 1, 0, 0, 0, 0, 0, 0, 0, 0, 0, 0, 0, 0, 0, 0, 0, 2, 0, 0, 0, 6, 6, 7, 1, 6, 7, 1, 0, 0, 0, 0, 0, 0, 0, 0, 0, 0, 0, 0, 0, 0, 0, 2, 0, 0, 0] (.fin (ofL []) (ofL [T + 0]) (ofV [.int b u]) [])))) (fun B T => good_hl _ ⟨good_hl _ trivial, good_hl _ trivial⟩) fun B T => ?_
  kernel_rfl
/-- two lists of words by three_way_cmp -/
def cCmpL (a b : Addr) (xs ys : List E) (n n2 : Nat) (σ : Int) : Ct :=
  { code := .call (.ref 775) ⟨[.ref a, .ref b], []⟩, need := [(a, lst (xs.map ev) n), (b, lst (ys.map ev) n2)], k := 0, res := fun _ τ _ => ret0 (.int σ (τ 0)), post := fun _ _ _ => [lst (xs.map ev) n, lst (ys.map ev) n2], new := fun _ _ _ => [], D := 700, U := 8000 }
theorem vCmpL0 (a b : Addr) (xs ys : List E) (n n2 : Nat) (hx : ∀ e ∈ xs, e.1 < 6) (hy : ∀ e ∈ ys, e.1 < 6) (hl' : xs.length = ys.length) (h1 : lexLt (rk ys) (rk xs) = false) (h2 : lexLt (rk xs) (rk ys) = false) : Valid pw w (kt w.params) (cCmpL a b xs ys n n2 0) := by
  refine valid_of 200 (fun B T => hl [1551, 1549, 0, 0, 0, 0, 0, 0, 0, 5, 0, 0, 0] (.rm (cmpW1 a b) .Gt (a) (b) (hl [2, 4, 2, 1] (.j (cGtW a b xs ys n n2 false) [1, 2] fun α0 τ0 ν0 B0 T0 => hl [0, 0] (.rm (cmpW2 (.bool false) a b) .Lt (a) (b) (hl [2, 4, 2, 1] (.j (cLtW a b xs ys n n2 false) [1, 2] fun α1 τ1 ν1 B1 T1 => hl [0, 0] (.fin (ofL []) (ofL [T1 + 0]) (ofV []) [])))))))) (fun B T => good_hl _ ⟨fun _ _ => sCmp1 _ _ _ _, good_hl _ ⟨vGtW _ _ _ _ _ _ _ hx hy hl' h1, fun _ _ _ _ _ => good_hl _ ⟨fun _ _ => sCmp2 _ _ _ _ _, good_hl _ ⟨vLtW _ _ _ _ _ _ _ hx hy hl' h2, fun _ _ _ _ _ => good_hl _ trivial⟩⟩⟩⟩) fun B T => ?_
  kernel_rfl
theorem vCmpL1 (a b : Addr) (xs ys : List E) (n n2 : Nat) (hx : ∀ e ∈ xs, e.1 < 6) (hy : ∀ e ∈ ys, e.1 < 6) (hl' : xs.length = ys.length) (h1 : lexLt (rk ys) (rk xs) = false) (h2 : lexLt (rk xs) (rk ys) = true) : Valid pw w (kt w.params) (cCmpL a b xs ys n n2 (-1)) := by
  refine valid_of 200 (fun B T => hl [1551, 1549, 0, 0, 0, 0, 0, 0, 0, 5, 0, 0, 0] (.rm (cmpW1 a b) .Gt (a) (b) (hl [2, 4, 2, 1] (.j (cGtW a b xs ys n n2 false) [1, 2] fun α0 τ0 ν0 B0 T0 => hl [0, 0] (.rm (cmpW2 (.bool false) a b) .Lt (a) (b) (hl [2, 4, 2, 1] (.j (cLtW a b xs ys n n2 true) [1, 2] fun α1 τ1 ν1 B1 T1 => hl [0, 0] (.fin (ofL []) (ofL [T1 + 0]) (ofV []) [])))))))) (fun B T => good_hl _ ⟨fun _ _ => sCmp1 _ _ _ _, good_hl _ ⟨vGtW _ _ _ _ _ _ _ hx hy hl' h1, fun _ _ _ _ _ => good_hl _ ⟨fun _ _ => sCmp2 _ _ _ _ _, good_hl _ ⟨vLtW _ _ _ _ _ _ _ hx hy hl' h2, fun _ _ _ _ _ => good_hl _ trivial⟩⟩⟩⟩) fun B T => ?_
  kernel_rfl
def cNeS (a b : Addr) (vs : List Value) (n : Nat) (β : Bool) : Ct :=
  { code := .call (.builtin "list.__ne__") ⟨[.ref a, .ref b], []⟩, need := [(a, lst vs n), (b, lst [] 0)], k := 0, res := fun _ _ _ => ret0 (.bool β), post := fun _ _ _ => [lst vs n, lst [] 0], new := fun _ _ _ => [], D := 900, U := 9000 }
theorem vNeS1 (a b : Addr) (vs : List Value) (n : Nat) (h : vs ≠ []) : Valid pw w (kt w.params) (cNeS a b vs n true) := by
  have hsz : ((⟨vs⟩ : Array Value).size != (⟨[]⟩ : Array Value).size) = true := by
    have := List.length_pos_iff.mpr h
    simp; exact h
  refine valid_meets (C := cNeS a b vs n true) F.slot_list_ne F.entry_list_ne (F.args_list_ne_2 _ _) (SeqAt.list_ne_lengthsAt a b ⟨vs⟩ ⟨[]⟩ n 0 none none #[] #[] hsz) rfl (fun s h => lst_type (h _ (.head _))) fun A R s hown hfin => ?_
  exact ⟨hown _ (.head _), hown _ (.tail _ (.head _)), hfin (fun _ => 0) (fun _ => 0) (fun _ => .none) s.heap s.toks (after_same rfl rfl hown)⟩
theorem vNeS0 (a b : Addr) (n : Nat) : Valid pw w (kt w.params) (cNeS a b [] n false) := by
  refine valid_meets (C := cNeS a b [] n false) F.slot_list_ne F.entry_list_ne (F.args_list_ne_2 _ _) (SeqAt.list_neAt a b ⟨[]⟩ ⟨[]⟩ n 0 none none #[] #[] rfl fun _ => true) rfl (fun s h => lst_type (h _ (.head _))) fun A R s hown hfin => ?_
  exact ⟨hown _ (.head _), hown _ (.tail _ (.head _)), fun j h1 => absurd h1 (by simp), hfin (fun _ => 0) (fun _ => 0) (fun _ => .none) s.heap s.toks (after_same rfl rfl hown)⟩
def cEqI (a b : Addr) (x y : Int) (t1 t2 t3 t4 : Tok) (n n2 : Nat) : Ct :=
  { code := .call (.builtin "list.__eq__") ⟨[.ref a, .ref b], []⟩, need := [(a, lst [.int x t1, .int y t2] n), (b, lst [.int x t3, .int y t4] n2)], k := 0, res := fun _ _ _ => ret0 (.bool true), post := fun _ _ _ => [lst [.int x t1, .int y t2] n, lst [.int x t3, .int y t4] n2], new := fun _ _ _ => [], D := 900, U := 9000 }
theorem vEqI (a b : Addr) (x y : Int) (t1 t2 t3 t4 : Tok) (n n2 : Nat) : Valid pw w (kt w.params) (cEqI a b x y t1 t2 t3 t4 n n2) := by
  refine valid_meets (C := cEqI a b x y t1 t2 t3 t4 n n2) F.slot_list_eq F.entry_list_eq (F.args_list_eq_2 _ _) (SeqAt.list_eqAt a b ⟨[.int x t1, .int y t2]⟩ ⟨[.int x t3, .int y t4]⟩ n n2 none none #[] #[] rfl fun _ => true) rfl (fun s h => lst_type (h _ (.head _))) fun A R s hown hfin => ?_
  refine ⟨hown _ (.head _), hown _ (.tail _ (.head _)), fun j h1 h2 => ?_, hfin (fun _ => 0) (fun _ => 0) (fun _ => .none) s.heap s.toks (after_same rfl rfl hown)⟩
  have h1' : j < 2 := h1
  match j, h1' with
  | 0, _ =>
    have := SeqAt.EqAt.int_int (A := A.in1) (s := s) x t1 x t3
    rw [beq_self_eq_true] at this
    exact this
  | 1, _ =>
    have := SeqAt.EqAt.int_int (A := A.in1) (s := s) y t2 y t4
    rw [beq_self_eq_true] at this
    exact this
end
end Mine
/-! part C21 -/
set_option maxRecDepth 100000
set_option linter.unusedVariables false
namespace Mine
open PySem PySem.Spec PySem.Calls PyProof.Rows PySem.W PySem.W.X
/-! a pass, in words -/
def wRW (wd : E) : List E → Option E → List E → Option E × List E × List E
  | qs, none, tvs => (none, tvs, qs)
  | [], some t, tvs => if t.1 < wd.1 then (none, tvs ++ [t], []) else (some t, tvs, [])
  | q :: qs, some t, tvs => if t.1 < wd.1 then wRW wd qs (some q) (tvs ++ [t]) else (some t, tvs, q :: qs)
def passRW : List E → List E → List E → List E × List E
  | [], tvs, qs => (tvs, qs)
  | u :: us, tvs, [] => passRW us tvs [u]
  | u :: us, tvs, q :: qs => match wRW u qs (some q) tvs with
    | (none, tvs', qs') => passRW us tvs' (u :: qs')
    | (some t, tvs', qs') => passRW us tvs' (u :: t :: qs')
def passW (ws : List E) : List E := (passRW ws [] []).1 ++ (passRW ws [] []).2
theorem wRW_is (wd : E) : ∀ (qs : List E) (top : Option E) (tvs : List E) (tn : Nat) (m : Int), ∃ tn' m', wRun wd qs top (tvs.map ev) tn m = ⟨(wRW wd qs top tvs).1, (wRW wd qs top tvs).2.1.map ev, tn', (wRW wd qs top tvs).2.2, m'⟩
  | qs, none, tvs, tn, m => ⟨_, _, by unfold wRun wRW; rfl⟩
  | [], some t, tvs, tn, m => by
    unfold wRun wRW
    split
    · exact ⟨_, _, by simp; exact ⟨rfl, rfl⟩⟩
    · exact ⟨_, _, rfl⟩
  | q :: qs, some t, tvs, tn, m => by
    unfold wRun wRW
    split
    · have e : tvs.map ev ++ [ev t] = (tvs ++ [t]).map ev := by simp
      rw [e]
      exact wRW_is wd qs (some q) (tvs ++ [t]) _ _
    · exact ⟨_, _, rfl⟩
theorem passRW_is : ∀ (us tvs : List E) (tn : Nat) (qs : List E) (m : Int), ∃ tn' m', passRun us (tvs.map ev) tn qs m = ⟨(passRW us tvs qs).1.map ev, tn', (passRW us tvs qs).2, m'⟩
  | [], tvs, tn, qs, m => ⟨_, _, rfl⟩
  | u :: us, tvs, tn, [], m => by
    unfold passRun passRW
    exact passRW_is us tvs tn [u] (m + 1)
  | u :: us, tvs, tn, q :: qs, m => by
    obtain ⟨tn', m', e⟩ := wRW_is u qs (some q) tvs tn (m + 1)
    unfold passRun passRW
    rw [e]
    generalize wRW u qs (some q) tvs = o
    obtain ⟨a, b, c⟩ := o
    cases a with
    | none => exact passRW_is us b tn' (u :: c) (m' + 1)
    | some t => exact passRW_is us b tn' (u :: t :: c) (m' + 1 + 1)
theorem full_is (us : List E) : fullV (passRun us [] 0 [] 0) = (passW us).map ev := by
  obtain ⟨tn', m', e⟩ := passRW_is us [] 0 [] 0
  rw [List.map_nil] at e
  simp [fullV, e, passW]
theorem wRW_perm (wd : E) : ∀ (qs : List E) (top : Option E) (tvs : List E), ((wRW wd qs top tvs).2.1 ++ ((wRW wd qs top tvs).1.toList ++ (wRW wd qs top tvs).2.2)).Perm (tvs ++ (top.toList ++ qs))
  | qs, none, tvs => by unfold wRW; exact .refl _
  | [], some t, tvs => by
    unfold wRW
    split
    · simp
    · exact .refl _
  | q :: qs, some t, tvs => by
    unfold wRW
    split
    · refine (wRW_perm wd qs (some q) (tvs ++ [t])).trans ?_
      simp
    · exact .refl _
theorem passRW_perm : ∀ (us tvs qs : List E), ((passRW us tvs qs).1 ++ (passRW us tvs qs).2).Perm (tvs ++ (qs ++ us))
  | [], tvs, qs => by simp [passRW]
  | u :: us, tvs, [] => by
    unfold passRW
    refine (passRW_perm us tvs [u]).trans ?_
    simp
  | u :: us, tvs, q :: qs => by
    have h := wRW_perm u qs (some q) tvs
    unfold passRW
    generalize wRW u qs (some q) tvs = o at *
    obtain ⟨a, b, c⟩ := o
    have h' : (b ++ (a.toList ++ c) ++ u :: us).Perm (tvs ++ (q :: qs) ++ u :: us) := h.append_right _
    cases a with
    | none =>
      refine (passRW_perm us b (u :: c)).trans ?_
      simp only [Option.toList_none, List.nil_append] at h'
      refine List.Perm.trans ?_ (h'.trans (by simp))
      rw [List.append_assoc]
      exact List.Perm.append_left _ (List.perm_middle (l₁ := c) (a := u) (l₂ := us)).symm
    | some t =>
      refine (passRW_perm us b (u :: t :: c)).trans ?_
      simp only [Option.toList_some] at h'
      refine List.Perm.trans ?_ (h'.trans (by simp))
      rw [List.append_assoc]
      refine List.Perm.append_left _ ?_
      exact (List.perm_middle (l₁ := t :: c) (a := u) (l₂ := us)).symm
theorem passW_perm (us : List E) : (passW us).Perm us := by
  have := passRW_perm us [] []
  simpa [passW] using this
theorem passW_len (us : List E) : (passW us).length = us.length := (passW_perm us).length_eq
theorem passW_six {us : List E} (h : ∀ e ∈ us, e.1 < 6) : ∀ e ∈ passW us, e.1 < 6 := fun e he => h e ((passW_perm us).mem_iff.mp he)
theorem wds_six : ∀ {us : List Nat} (h : ∀ u ∈ us, u < 6) (a : Nat → Nat), ∀ e ∈ wds us a, e.1 < 6
  | [], _, _, e, he => nomatch he
  | u :: us, h, a, e, he => by
    rcases List.mem_cons.mp he with z | z
    · subst z; exact h u (.head _)
    · exact wds_six (fun v hv => h v (.tail _ hv)) _ e z
theorem wds_ne {us : List Nat} (h : us ≠ []) (a : Nat → Nat) : wds us a ≠ [] := fun e => h (List.eq_nil_of_length_eq_zero (by rw [← wds_len us a, e]; rfl))
def nF (us : List E) : Nat := fullN (passRun us [] 0 [] 0)
def mF' (us : List E) (m : Int) : Int := (passRun us [] 0 [] m).m + (passRun us [] 0 [] m).qs.length
theorem passRun_m : ∀ (us : List E) (tvs : List Value) (tn : Nat) (qs : List E) (m m' : Int), (passRun us tvs tn qs m).tvs = (passRun us tvs tn qs m').tvs ∧ (passRun us tvs tn qs m).tn = (passRun us tvs tn qs m').tn ∧ (passRun us tvs tn qs m).qs = (passRun us tvs tn qs m').qs := by
  have hw : ∀ (wd : E) (qs : List E) (top : Option E) (tvs : List Value) (tn : Nat) (m m' : Int), (wRun wd qs top tvs tn m).top = (wRun wd qs top tvs tn m').top ∧ (wRun wd qs top tvs tn m).tvs = (wRun wd qs top tvs tn m').tvs ∧ (wRun wd qs top tvs tn m).tn = (wRun wd qs top tvs tn m').tn ∧ (wRun wd qs top tvs tn m).qs = (wRun wd qs top tvs tn m').qs := by
    intro wd qs
    induction qs with
    | nil =>
      intro top tvs tn m m'
      cases top with
      | none => unfold wRun; exact ⟨rfl, rfl, rfl, rfl⟩
      | some t => unfold wRun; split <;> exact ⟨rfl, rfl, rfl, rfl⟩
    | cons q qs ih =>
      intro top tvs tn m m'
      cases top with
      | none => unfold wRun; exact ⟨rfl, rfl, rfl, rfl⟩
      | some t =>
        unfold wRun
        split
        · exact ih _ _ _ _ _
        · exact ⟨rfl, rfl, rfl, rfl⟩
  intro us
  induction us with
  | nil => intro tvs tn qs m m'; exact ⟨rfl, rfl, rfl⟩
  | cons u us ih =>
    intro tvs tn qs m m'
    cases qs with
    | nil => unfold passRun; exact ih _ _ _ _ _
    | cons q qs =>
      unfold passRun
      obtain ⟨h1, h2, h3, h4⟩ := hw u qs (some q) tvs tn (m + 1) (m' + 1)
      generalize wRun u qs (some q) tvs tn (m + 1) = o at *
      generalize wRun u qs (some q) tvs tn (m' + 1) = o' at *
      obtain ⟨a, b, c, d, e⟩ := o
      obtain ⟨a', b', c', d', e'⟩ := o'
      subst h1 h2 h3 h4
      cases a with
      | none => exact ih _ _ _ _ _
      | some t => exact ih _ _ _ _ _
theorem full_is' (us : List E) (m : Int) : fullV (passRun us [] 0 [] m) = (passW us).map ev := by
  obtain ⟨h1, h2, h3⟩ := passRun_m us [] 0 [] m 0
  rw [← full_is us]
  simp only [fullV, h1, h3]
theorem nF_is (us : List E) (m : Int) : fullN (passRun us [] 0 [] m) = nF us := by
  obtain ⟨h1, h2, h3⟩ := passRun_m us [] 0 [] m 0
  simp only [nF, fullN, h2, h3]
end Mine
/-! part C22 -/
set_option maxRecDepth 100000
set_option linter.unusedVariables false
namespace Mine
open PySem PySem.Spec PySem.Calls PyProof.Rows PySem.W PySem.W.X
section
variable {w : World}
/-- a pass from the text, in words -/
def cP1 (kt : KT) (s : TS) (txt : Str) (p0 : PS) (le : LE) (lf : Obj) (lfo : Value → Obj) (us : List Nat) (r : Nat) (tz : Tok) (tl tp : Tok) (lnF psF : Int) (t1 t2 : Tok) : Ct :=
  { code := .call (.ref 789) ⟨[.ref s.xF, .ref p0.xT, .ref p0.xS, szV r tz], []⟩, need := (le.lL, lf) :: (s.slots kt txt 1 tl 0 tp ++ p0.tgt [] 0 ++ p0.stk (kS [32] t1) (kS [] t2) 0 []), k := 1, res := fun α _ _ => ret0 (.ref (α 0)),
    post := fun α τ ν => lfo (ν 0) :: (objs (s.slots kt txt lnF (τ 1) psF (τ 2)) ++ objs (p0.tgt ((passW (wds us fun i => α (i + 1))).map ev) (nF (wds us fun i => α (i + 1)))) ++ objs (p0.stk .none (kS [] (τ 0)) (mF' (wds us fun i => α (i + 1)) 0) [])),
    new := fun α _ _ => [lst ((passW (wds us fun i => α (i + 1))).map ev) (ep1 ((passW (wds us fun i => α (i + 1))).map ev))], D := 560, U := 7300, fr := some [le.env kt], raw := [true] }
theorem vP1 (s : TS) (txt : Str) (p0 : PS) (le : LE) (lf : Obj) (lfo : Value → Obj) (us : List Nat) (r : Nat) (tz : Tok) (tl tp : Tok) (lnF psF : Int) (t1 t2 : Tok) (hr : r ≤ 8) (hus : us.length = r + 1) (h6 : ∀ u ∈ us, u < 6)
    (hN : ∀ (p : PS) (dp : Data) m tk, Valid pw w (kt w.params) (cNextE (kt w.params) p le (frO dp #[]) lf lfo m tk))
    (hS : Src w s txt 1 0 us lnF psF) : Valid pw w (kt w.params) (cP1 (kt w.params) s txt p0 le lf lfo us r tz tl tp lnF psF t1 t2) := by
  match us, hus with
  | u :: us, hus =>
    obtain ⟨ln', ps', hs, hS⟩ := hS
    have hl : us.length = r := by simpa using hus
    subst hl
    have h := vPass1 (w := w) s txt p0 le lf lfo us.length tz u 1 tl 0 tp ln' ps' lnF psF 0 0 t1 t2 (fun a => passRun (wds (u :: us) a) [] 0 [] 0) hr
      (fun a => by rw [full_is, List.length_map, passW_len, wds_len]; simpa using hr) hN hs
      (fun L hf tf it t1 kv wdv topv tl tp t0 => vL1 s txt (p0.at L hf tf (szV us.length tz)) it us 1 kv wdv topv ln' tl ps' tp lnF psF [] 0 [(u, t1)] (0 + 1) t0 hS (by simp) (fun v hv => h6 v (.tail _ hv)) (fun e he => by
        rcases List.mem_cons.mp he with z | z
        · rw [z]; exact h6 u (.head _)
        · cases z) (by simp; omega))
    unfold cPass1 at h
    simp only [full_is] at h
    exact h
/-- a pass from a lexer to another, in words -/
def cP2 (kt : KT) (p2 : P2) (x : Addr) (p0 : PS) (le : LE) (lf : Obj) (lfo : Value → Obj) (xs : List E) (r : Nat) (tz : Tok) (un : Nat) (m : Int) (tk : Value) : Ct :=
  { code := .call (.ref 789) ⟨[.ref x, .ref p0.xT, .ref p0.xS, szV r tz], []⟩, need := (le.lL, lf) :: (p2.slots x (xs.map ev) un ++ p0.tgt [] 0 ++ p0.stk .none tk m []), k := 1, res := fun α _ _ => ret0 (.ref (α 0)),
    post := fun α τ ν => lfo (ν 0) :: (objs (p2.slots x [] (un + xs.length)) ++ objs (p0.tgt ((passW xs).map ev) (nF xs)) ++ objs (p0.stk .none (kS [] (τ 0)) (mF' xs m) [])),
    new := fun α _ _ => [lst ((passW xs).map ev) (ep1 ((passW xs).map ev))], D := 560, U := 7300, fr := some [le.env kt], raw := [true] }
theorem vP2 (p2 : P2) (x : Addr) (p0 : PS) (le : LE) (lf : Obj) (lfo : Value → Obj) (xs : List E) (r : Nat) (tz : Tok) (un : Nat) (m : Int) (tk : Value) (hr : r ≤ 8) (hxs : xs.length = r + 1) (h6 : ∀ e ∈ xs, e.1 < 6)
    (hN : ∀ (p : PS) (dp : Data) m tk, Valid pw w (kt w.params) (cNextE (kt w.params) p le (frO dp #[]) lf lfo m tk)) : Valid pw w (kt w.params) (cP2 (kt w.params) p2 x p0 le lf lfo xs r tz un m tk) := by
  match xs, hxs with
  | u :: us, hxs =>
    have hl : us.length = r := by simpa using hxs
    have h := vPass2 (w := w) p2 x p0 le lf lfo r tz u us un 0 m tk (passRun (u :: us) [] 0 [] m) hr hl
      (by rw [full_is', List.length_map, passW_len]; simp; omega) hN
      (fun L hf tf it kv wdv topv t0 => by
        have z := vL2 (w := w) ((p0.at L hf tf (szV r tz)).withSrc x) p2 it us 1 (un + 1) kv wdv topv [] 0 [u] (m + 1) t0 (by simp) (fun e he => h6 e (.tail _ he)) (fun e he => by
          rcases List.mem_cons.mp he with z | z
          · rw [z]; exact h6 u (.head _)
          · cases z) (by simp; omega)
        rw [hl] at z
        exact z)
    unfold cPass2 at h
    simp only [full_is', nF_is] at h
    exact h
/-- the text of writings -/
def txtOf (ks : List Nat) : Str := ⟨⟨ks.flatMap fun k => wr k ++ [10]⟩⟩
theorem tks_flat : ∀ (ks : List Nat) (a : Nat → Nat), ((tks ks a).map (·.1)).flatMap (fun p => p.cps.toList) = ks.flatMap fun k => wr k ++ [10]
  | [], a => rfl
  | k :: ks, a => by
    have := tks_flat ks fun i => a (i + 1)
    simp only [tks, List.map_cons, List.flatMap_cons, this]
    rfl
def cJ (a : Addr) (t : Tok) (ks : List Nat) (τ : Nat → Nat) (n : Nat) : Ct :=
  { code := .call (.builtin "str.join") ⟨[.str ⟨⟨[]⟩⟩ t, .ref a], []⟩, need := [(a, lst (strValues (tks ks τ)) n)], k := 0, res := fun _ τ _ => ret0 (.str (txtOf ks) (τ 0)), post := fun _ _ _ => [lst (strValues (tks ks τ)) n], new := fun _ _ _ => [], D := 900, U := 9000 }
theorem wr_len (k : Nat) : (wr k).length ≤ 6 := by
  unfold wr
  split <;> simp
theorem txt_len : ∀ ks : List Nat, (ks.flatMap fun k => wr k ++ [10]).length ≤ 7 * ks.length
  | [] => by simp
  | k :: ks => by
    have := txt_len ks
    have := wr_len k
    simp only [List.flatMap_cons, List.length_append, List.length_cons, List.length_nil]
    omega
theorem vJ (a : Addr) (t : Tok) (ks : List Nat) (τ : Nat → Nat) (n : Nat) (h : ks.length ≤ 9) : Valid pw w (kt w.params) (cJ a t ks τ n) := by
  have z := vJoin (prog := pw) (w := w) (kt := kt w.params) a t (tks ks τ) n (by rw [tks_flat]; have := txt_len ks; omega)
  unfold cJoin at z
  rw [tks_flat] at z
  exact z
/-- the words of ranks, as words -/
def atP (tp : Nat → Tok) (xs : List E) : List E := xs.map fun e => (e.1, tp e.1)
theorem atP_ev (tp : Nat → Tok) (xs : List E) : xs.map (fun e => ev (e.1, tp e.1)) = (atP tp xs).map ev := by
  simp [atP, List.map_map, Function.comp_def]
end
end Mine
/-! part C23a -/
set_option maxRecDepth 100000
set_option linter.unusedVariables false
namespace Mine
open PySem PySem.Spec PySem.Calls PyProof.Rows PySem.W PySem.W.X
def leL (B : Nat) : LE := ⟨B + 0, B + 2, B + 1⟩
def tsL (P : Params) (αa : Nat → Addr) (τa : Nat → Tok) (νa : Nat → Value) (αb : Nat → Addr) (τb : Nat → Tok) (tt : Tok) : TS :=
  { xF := αb 0, dF := αb 1, pF := αb 2, st := αa 0, dS := αa 1, fn := αa 2, co := αa 3, cT := αa 4, cP := αa 5, pl := αa 6, hF := hfP P netN, tF := τb, tw := τb 5, eF := 4, nP := 0, hS := hfP P strN, tS := τa, vS := νa, eS := 5, md := νa 4, ct := νa 5, c0 := νa 6, tc := τa 5,
    cs := [νa 7, νa 8, νa 9, νa 10, νa 11, νa 12, νa 13, νa 14, νa 15, νa 16, νa 17, νa 18, νa 19, νa 20, νa 21, νa 22, νa 23], tt := tt, nl := 0 }
def psL (P : Params) (αb : Nat → Addr) (τb : Nat → Tok) (αs : Nat → Addr) (τs : Nat → Tok) (νs : Nat → Value) : PS :=
  { L := 0, xT := αb 0, dT := αb 1, pT := αb 2, xS := αs 0, dS := αs 1, q := αs 2, ins := αs 3, di := αs 4, fs := αs 5, src := 0, hf := fun _ => 0, tf := fun _ => 0, hT := hfP P netN, tT := τb, line := .int 1 (τb 4), insT := .none, wsT := wsV (τb 5), eT := 4,
    hS := hfP P shN, tS := τs, vS := νs, eS := 19, nI := 3, mF := 0, size := .none, n := 0, sl := #[] }
def p2L (P : Params) (αb : Nat → Addr) (τb : Nat → Tok) : P2 := { dU := αb 1, pU := αb 2, hU := hfP P netN, tU := τb, lnU := .int 1 (τb 4), inU := .none, wsU := wsV (τb 5), eU := 4 }
def lawN : List (List Nat) := [[115, 99, 114, 105, 112, 116], [110, 117, 109, 98, 101, 114, 115], [102, 105, 114, 115, 116], [115, 101, 99, 111, 110, 100], [116, 104, 105, 114, 100], [115, 116, 97, 99, 107], [116, 111, 108, 100], [97, 103, 97, 105, 110], [114, 97, 110, 107, 115], [119, 111, 114, 100, 115], [115, 105, 103, 110, 115], [100, 117, 101]]
def lawD (P : Params) (ts : Nat → Tok) (vs : List Value) (n : Nat) : Data := .dict ⟨fze (hfP P lawN) ts 0 lawN vs⟩ n
def o1 (X : List E) : List E := ordX (onceR (rk X)) X 0 X.length []
def o2 (X : List E) : List E := ordX (twiceR (rk X)) X 0 X.length []
theorem rk_wds : ∀ (us : List Nat) (a : Nat → Nat), rk (wds us a) = us
  | [], a => rfl
  | u :: us, a => congrArg (u :: ·) (rk_wds us fun i => a (i + 1))
theorem rk_atP (tp : Nat → Tok) (X : List E) : rk (atP tp X) = rk X := by
  simp [rk, atP, List.map_map, Function.comp_def]
theorem rk_len (X : List E) : (rk X).length = X.length := by simp [rk]
theorem six_rk {X : List E} {us : List Nat} (h : rk X = us) (h6 : ∀ u ∈ us, u < 6) : ∀ e ∈ X, e.1 < 6 := fun e he => h6 e.1 (h ▸ List.mem_map.mpr ⟨e, he, rfl⟩)
/-- what the law needs of ranks -/
structure Facts (us q1 q2 : List Nat) : Prop where
  p1 : ∀ X : List E, rk X = us → rk (passW X) = q1
  a1 : ∀ X : List E, rk X = us → rk (o1 X) = q1
  p2 : ∀ X : List E, rk X = q1 → rk (passW X) = q2
  a2 : ∀ X : List E, rk X = us → rk (o2 X) = q2
  l1 : q1.length = us.length
  l2 : q2.length = us.length
  s0 : ∀ u ∈ us, u < 6
  s1 : ∀ u ∈ q1, u < 6
  s2 : ∀ u ∈ q2, u < 6
  g1 : lexLt us q1 = false
  g2 : lexLt q1 q2 = false
  h9 : us.length ≤ 9
  hne : us ≠ []
section
variable {w : World} {us q1 q2 : List Nat}
theorem len_of {X Y : List E} {a b : List Nat} (hx : rk X = a) (hy : rk Y = b) (h : a.length = b.length) : X.length = Y.length := by
  rw [← rk_len X, ← rk_len Y, hx, hy, h]
theorem ne_of {a b : List Nat} {c : List Nat} (h1 : a = c) (h2 : b = c) : (!(a == b)) = false := by
  subst h1 h2
  simp
theorem vNe1 (H : Facts us q1 q2) (a b : Addr) (tp : Nat → Tok) (α β : Nat → Nat) (n n2 : Nat) : Valid pw w (kt w.params) (cNeW a b (passW (wds us α)) (atP tp (o1 (wds us β))) n n2 false) := by
  have e1 := H.p1 _ (rk_wds us α)
  have e2 := (rk_atP tp _).trans (H.a1 _ (rk_wds us β))
  exact vNeW _ _ _ _ _ _ _ (six_rk e1 H.s1) (six_rk e2 H.s1) (len_of e1 e2 rfl) (ne_of e1 e2)
theorem vNe2 (H : Facts us q1 q2) (a b : Addr) (tp : Nat → Tok) (α β : Nat → Nat) (n n2 : Nat) : Valid pw w (kt w.params) (cNeW a b (passW (passW (wds us α))) (atP tp (o2 (wds us β))) n n2 false) := by
  have e1 := H.p2 _ (H.p1 _ (rk_wds us α))
  have e2 := (rk_atP tp _).trans (H.a2 _ (rk_wds us β))
  exact vNeW _ _ _ _ _ _ _ (six_rk e1 H.s2) (six_rk e2 H.s2) (len_of e1 e2 rfl) (ne_of e1 e2)
theorem vCm10 (H : Facts us q1 q2) (h : lexLt q1 us = false) (a b : Addr) (tp : Nat → Tok) (α β : Nat → Nat) (n n2 : Nat) : Valid pw w (kt w.params) (cCmpL a b (passW (wds us α)) (atP tp (wds us β)) n n2 0) := by
  have e1 := H.p1 _ (rk_wds us α)
  have e2 := (rk_atP tp _).trans (rk_wds us β)
  exact vCmpL0 _ _ _ _ _ _ (six_rk e1 H.s1) (six_rk e2 H.s0) (len_of e1 e2 H.l1) (by rw [e1, e2]; exact H.g1) (by rw [e1, e2]; exact h)
theorem vCm11 (H : Facts us q1 q2) (h : lexLt q1 us = true) (a b : Addr) (tp : Nat → Tok) (α β : Nat → Nat) (n n2 : Nat) : Valid pw w (kt w.params) (cCmpL a b (passW (wds us α)) (atP tp (wds us β)) n n2 (-1)) := by
  have e1 := H.p1 _ (rk_wds us α)
  have e2 := (rk_atP tp _).trans (rk_wds us β)
  exact vCmpL1 _ _ _ _ _ _ (six_rk e1 H.s1) (six_rk e2 H.s0) (len_of e1 e2 H.l1) (by rw [e1, e2]; exact H.g1) (by rw [e1, e2]; exact h)
theorem vCm20 (H : Facts us q1 q2) (h : lexLt q2 q1 = false) (a b : Addr) (α : Nat → Nat) (n n2 : Nat) : Valid pw w (kt w.params) (cCmpL a b (passW (passW (wds us α))) (passW (wds us α)) n n2 0) := by
  have e2 := H.p1 _ (rk_wds us α)
  have e1 := H.p2 _ e2
  exact vCmpL0 _ _ _ _ _ _ (six_rk e1 H.s2) (six_rk e2 H.s1) (len_of e1 e2 (H.l2.trans H.l1.symm)) (by rw [e1, e2]; exact H.g2) (by rw [e1, e2]; exact h)
theorem vCm21 (H : Facts us q1 q2) (h : lexLt q2 q1 = true) (a b : Addr) (α : Nat → Nat) (n n2 : Nat) : Valid pw w (kt w.params) (cCmpL a b (passW (passW (wds us α))) (passW (wds us α)) n n2 (-1)) := by
  have e2 := H.p1 _ (rk_wds us α)
  have e1 := H.p2 _ e2
  exact vCmpL1 _ _ _ _ _ _ (six_rk e1 H.s2) (six_rk e2 H.s1) (len_of e1 e2 (H.l2.trans H.l1.symm)) (by rw [e1, e2]; exact H.g2) (by rw [e1, e2]; exact h)
theorem srt_len (l : List Nat) : (srt l).length = l.length := (srt_perm l).length_eq
theorem srt_six {l : List Nat} (h : ∀ u ∈ l, u < 6) : ∀ u ∈ srt l, u < 6 := fun u hu => h u ((srt_perm l).mem_iff.mp hu)
theorem vEq1 (H : Facts us q1 q2) {β1 : Bool} (h : (us == srt us) = β1) (a b : Addr) (tp : Nat → Tok) (β τ : Nat → Nat) (n n2 : Nat) : Valid pw w (kt w.params) (cEqW a b (atP tp (wds us β)) (wds (srt (rk (atP tp (wds us β)))) τ) n n2 β1) := by
  have e1 := (rk_atP tp _).trans (rk_wds us β)
  have e2 := rk_wds (srt (rk (atP tp (wds us β)))) τ
  rw [e1] at e2 ⊢
  exact vEqW _ _ _ _ _ _ _ (six_rk e1 H.s0) (six_rk e2 (srt_six H.s0)) (len_of e1 e2 (srt_len us).symm) (by rw [e1, e2]; exact h)
theorem vEq2 (H : Facts us q1 q2) {β2 : Bool} (h : (q1 == srt us) = β2) (a b : Addr) (tp : Nat → Tok) (α β τ : Nat → Nat) (n n2 : Nat) : Valid pw w (kt w.params) (cEqW a b (passW (wds us α)) (wds (srt (rk (atP tp (wds us β)))) τ) n n2 β2) := by
  have e1 := H.p1 _ (rk_wds us α)
  have e2 := rk_wds (srt (rk (atP tp (wds us β)))) τ
  rw [(rk_atP tp _).trans (rk_wds us β)] at e2 ⊢
  exact vEqW _ _ _ _ _ _ _ (six_rk e1 H.s1) (six_rk e2 (srt_six H.s0)) (len_of e1 e2 (H.l1.trans (srt_len us).symm)) (by rw [e1, e2]; exact h)
theorem vSo (H : Facts us q1 q2) (a : Addr) (tp : Nat → Tok) (β : Nat → Nat) (n : Nat) : Valid pw w (kt w.params) (cSort a (atP tp (wds us β)) n) := by
  have e1 := (rk_atP tp _).trans (rk_wds us β)
  exact vSort _ _ _ (six_rk e1 H.s0) (by rw [← rk_len, e1]; exact H.h9)
theorem vO1 (H : Facts us q1 q2) (rl : Addr) (β : Nat → Nat) (n : Nat) : Valid pw w (kt w.params) (cOrd 796 rl (wds us β) n ((o1 (wds us β)).map iv) (wds us β).length) :=
  vOrd796 rl _ n (by rw [wds_len]; exact H.h9) (wds_ne H.hne β)
theorem vO2 (H : Facts us q1 q2) (rl : Addr) (β : Nat → Nat) (n : Nat) : Valid pw w (kt w.params) (cOrd 803 rl (wds us β) n ((o2 (wds us β)).map iv) (wds us β).length) :=
  vOrd803 rl _ n (by rw [wds_len]; exact H.h9) (wds_ne H.hne β)
theorem ne_len {X : List E} {q : List Nat} (h : rk X = q) (hq : q.length = us.length) (hne : us ≠ []) : X ≠ [] := fun e => by
  subst e
  have : q = [] := h.symm
  rw [this] at hq
  exact hne (List.eq_nil_of_length_eq_zero hq.symm)
theorem vW821 (H : Facts us q1 q2) (le : LE) (pl' : Addr) (tp : Nat → Tok) (it rl ac loc : Addr) (n : Nat) (β : Nat → Nat) (tk : Tok) :
    Valid pw w (kt w.params) (cStart (cT3 w.params (kt w.params) (lawC821 (kt w.params)) le pl' tp it rl ac loc tk (wds us β) n 0 [] 0 [] ((atP tp (wds us β)).map ev) (wds us β).length)) := by
  rw [← atP_ev]
  exact vS821 _ _ _ _ _ _ _ _ _ _ _ _ (vT821 _ _ _ _ _ _ _ _ _ (wds_ne H.hne β) (wds_six H.s0 β) (by rw [wds_len]; exact H.h9) _)
theorem vW822 (H : Facts us q1 q2) (le : LE) (pl' : Addr) (tp : Nat → Tok) (it rl ac loc : Addr) (n : Nat) (β : Nat → Nat) (tk : Tok) :
    Valid pw w (kt w.params) (cStart (cT3 w.params (kt w.params) (lawC822 (kt w.params)) le pl' tp it rl ac loc tk (o1 (wds us β)) n 0 [] 0 [] ((atP tp (o1 (wds us β))).map ev) (o1 (wds us β)).length)) := by
  have e := H.a1 _ (rk_wds us β)
  rw [← atP_ev]
  exact vS822 _ _ _ _ _ _ _ _ _ _ _ _ (vT822 _ _ _ _ _ _ _ _ _ (ne_len e H.l1 H.hne) (six_rk e H.s1) (by rw [← rk_len, e, H.l1]; exact H.h9) _)
theorem vW824 (H : Facts us q1 q2) (le : LE) (pl' : Addr) (tp : Nat → Tok) (it rl ac loc : Addr) (n : Nat) (β : Nat → Nat) (tk : Tok) :
    Valid pw w (kt w.params) (cStart (cT3 w.params (kt w.params) (lawC824 (kt w.params)) le pl' tp it rl ac loc tk (o2 (wds us β)) n 0 [] 0 [] ((atP tp (o2 (wds us β))).map ev) (o2 (wds us β)).length)) := by
  have e := H.a2 _ (rk_wds us β)
  rw [← atP_ev]
  exact vS824 _ _ _ _ _ _ _ _ _ _ _ _ (vT824 _ _ _ _ _ _ _ _ _ (ne_len e H.l2 H.hne) (six_rk e H.s2) (by rw [← rk_len, e, H.l2]; exact H.h9) _)
theorem vW814 (le : LE) (wl : Addr) (tw : Nat → Tok) (it nl ac loc : Addr) (n0 : Nat) (ns : List (Int × Tok)) (ks : List Nat) (hk : ks = ns.map fun x => (x.1.fmod 12).toNat) (hne : ns ≠ []) (hln : ns.length ≤ 9) (tk : Tok) :
    Valid pw w (kt w.params) (cStart (cT1 w.params (kt w.params) le wl tw it nl ac loc tk ns n0 0 [] 0 [] (fun a => strValues (tks ks a)) ns.length)) := by
  subst hk
  exact vS814 _ _ _ _ _ _ _ _ _ _ _ _ (vT1 _ _ _ _ _ _ _ _ _ hne hln _)
theorem vW820 (le : LE) (it nl ac loc : Addr) (n0 : Nat) (ns : List (Int × Tok)) (us : List Nat) (hu : us = ns.map fun x => (x.1.fmod 6).toNat) (hne : ns ≠ []) (hln : ns.length ≤ 9) (tk : Tok) :
    Valid pw w (kt w.params) (cStart (cT2 w.params (kt w.params) le it nl ac loc tk ns n0 0 [] 0 [] (fun a => (wds us a).map iv) ns.length)) := by
  subst hu
  exact vS820 _ _ _ _ _ _ _ _ _ _ (vT2 _ _ _ _ _ _ _ hne hln _)
theorem vQ2 (H : Facts us q1 q2) (p2 : P2) (x : Addr) (p0 : PS) (le : LE) (dl : Data) (b0 : Value) (α : Nat → Nat) (r : Nat) (tz : Tok) (un : Nat) (m : Int) (tk : Value) (hr : us.length = r + 1) :
    Valid pw w (kt w.params) (cP2 (kt w.params) p2 x p0 le (rdO (le.env (kt w.params)) b0 (frO dl #[])) (fun _ => rdO (le.env (kt w.params)) b0 (frO dl #[])) (passW (wds us α)) r tz un m tk) :=
  vP2 _ _ _ _ _ _ _ _ _ _ _ _ (by have := H.h9; omega) (by rw [passW_len, wds_len]; exact hr) (six_rk (H.p1 _ (rk_wds us α)) H.s1) fun p dp m tk => vNextE2 p _ dp _ m tk _
theorem vQ1 (H : Facts us q1 q2) (s : TS) (txt : Str) (p0 : PS) (le : LE) (dl : Data) (r : Nat) (tz tl tp : Tok) (lnF psF : Int) (t1 t2 : Tok) (hr : us.length = r + 1) (hS : Src w s txt 1 0 us lnF psF) :
    Valid pw w (kt w.params) (cP1 (kt w.params) s txt p0 le (frO dl #[]) (fun bk => rdO (le.env (kt w.params)) bk (frO dl #[])) us r tz tl tp lnF psF t1 t2) :=
  vP1 _ _ _ _ _ _ _ _ _ _ _ _ _ _ _ (by have := H.h9; omega) hr H.s0 (fun p dp m tk => vNextE1 p _ dp _ m tk) hS
def cLaw (sl : Addr) (ss : List (Int × Tok)) (n : Nat) : Ct :=
  { code := .call (.ref 813) ⟨[.ref sl], []⟩, need := [(sl, lst (ss.map nv) n), (777, tab0 [])], k := 0, res := fun _ _ _ => ret0 (.bool true), post := fun _ _ ν => [lst (ss.map nv) n, tab0 [ν 0, ν 1, ν 2]], new := fun _ _ _ => [], D := 500, U := 7000, fr := some [] }
end
end Mine
/-! part C23 -/
set_option maxRecDepth 100000
set_option linter.unusedVariables false
namespace Mine
open PySem PySem.Spec PySem.Calls PyProof.Rows PySem.W PySem.W.X
section
variable {w : World} {us q1 q2 : List Nat}
theorem vLawA (H : Facts us q1 q2) (sl : Addr) (ss ns : List (Int × Tok)) (n : Nat) (ks : List Nat) (r : Nat) (lnF psF : Int) (hs0 : ss.map nv ≠ []) (hs63 : (ss.map nv).length ≤ 1000) (hpick : slicePick ⟨ss.map nv⟩ none (some 9) none = ⟨ns.map nv⟩)
    (hk : ks = ns.map fun x => (x.1.fmod 12).toNat) (hu : us = ns.map fun x => (x.1.fmod 6).toNat) (hr : us.length = r + 1) (hS : ∀ s : TS, Src w s (txtOf ks) 1 0 us lnF psF) (c1 : lexLt q1 us = true) (c2 : lexLt q2 q1 = true) (b1 : (us == srt us) = false) (b2 : (q1 == srt us) = false) :
    Valid pw w (kt w.params) (cLaw sl ss n) := by
  have hnl : ns.length = us.length := by rw [hu, List.length_map]
  have hns0 : ns ≠ [] := fun e => by rw [e] at hnl; rw [← hnl] at hr; cases hr
  have hns9 : ns.length ≤ 9 := hnl ▸ H.h9
  have hk9 : ks.length ≤ 9 := by rw [hk, List.length_map]; exact hns9
  have hlen : (ns.map nv).length = r + 1 := by rw [List.length_map, hnl, hr]
  have hlen9 : (ns.map nv).length ≤ 9 := by rw [List.length_map]; exact hns9
  refine valid_of 1000 (fun B T => hl [1627, 1625, 0, 4, 4, 0, 5, 0, 4] (.rm (lawW0 0 sl (B + 3)) .NotEq (sl) (B + 3) (hl [8, 0, 8, 1] (.j (cNeS sl (B + 3) (ss.map nv) n true) [4, 0] fun α0 τ0 ν0 B0 T0 => hl [6, 10, 10, 10] (.j (cSl sl (B0 + 0) (ss.map nv) n .none (.int 9 (T0 + 0)) (ns.map nv)) [5, 0] fun α1 τ1 ν1 B1 T1 => hl [0, 10, 10, 10, 10, 10, 10, 7, 7, 14, 4, 4, 1, 0, 4, 0, 0] (.j (cStart (cT1 w.params (kt w.params) (leL B) (B1 + 0) (ofL [T1 + 1, T1 + 2, T1 + 3, T1 + 4, T1 + 5, T1 + 6, T1 + 7, T1 + 8, T1 + 9, T1 + 10, T1 + 11, T1 + 12]) (B1 + 2) (α1 0) (B1 + 3) (B1 + 4) 0 ns 0 0 [] 0 [] (fun a => strValues (tks ks a)) ns.length)) [2, 5, 1, 0, 9, 4] fun α2 τ2 ν2 B2 T2 => hl [0, 0, 0] (.j (cJ (B1 + 3) (T1 + 19) ks α2 ns.length) [1] fun α3 τ3 ν3 B3 T3 => hl [1565] (.j (cStream w.params (kt w.params) (txtOf ks) (τ3 0)) [12] fun α4 τ4 ν4 B4 T4 => hl [1529, 1529] (.j (cNet w.params (.ref (α4 0))) [] fun α5 τ5 ν5 B5 T5 => hl [0, 40, 40, 7, 1529, 1529] (.j (cNet w.params .none) [] fun α6 τ6 ν6 B6 T6 => hl [0, 46, 46, 7, 1529, 1529] (.j (cNet w.params .none) [] fun α7 τ7 ν7 B7 T7 => hl [0, 52, 52, 7, 1445, 1445] (.j (cShl w.params (T7 + 1)) [] fun α8 τ8 ν8 B8 T8 => hl [0, 64, 64, 7, 64, 64, 64, 7, 1, 64] (.j (cLen (α1 0) (ns.map nv) 0 (r + 1)) [27] fun α9 τ9 ν9 B9 T9 => hl [1579] (.j (cP1 (kt w.params) (tsL w.params α4 τ4 ν4 α5 τ5 (τ3 0)) (txtOf ks) (psL w.params α6 τ6 α8 τ8 ν8) (leL B) (frO (lawD w.params (ofL [T + 0, T1 + 0, T5 + 0, T6 + 0, T7 + 0, T8 + 0]) [.ref sl, .ref (α1 0), .ref (α5 0), .ref (α6 0), .ref (α7 0), .ref (α8 0)] 6) #[]) (fun bk => (rdO ((leL B).env (kt w.params)) bk (frO (lawD w.params (ofL [T + 0, T1 + 0, T5 + 0, T6 + 0, T7 + 0, T8 + 0]) [.ref sl, .ref (α1 0), .ref (α5 0), .ref (α6 0), .ref (α7 0), .ref (α8 0)] 6) #[]))) us r (τ9 0) (τ5 4) (τ4 6) lnF psF (τ8 36) (τ8 37)) [32, 12, 13, 14, 15, 16, 17, 18, 19, 20, 21, 9, 10, 11, 0, 1, 2, 3, 4, 5] fun α10 τ10 ν10 B10 T10 => hl [0, 66, 66, 7, 66, 66, 66, 7, 1, 66] (.j (cLen (α1 0) (ns.map nv) 0 (r + 1)) [28] fun α11 τ11 ν11 B11 T11 => hl [1579] (.j (cP2 (kt w.params) (p2L w.params α6 τ6) (α6 0) (psL w.params α7 τ7 α8 τ8 ν8) (leL B) (rdO ((leL B).env (kt w.params)) (ν10 0) (frO (lawD w.params (ofL [T + 0, T1 + 0, T5 + 0, T6 + 0, T7 + 0, T8 + 0, T10 + 0]) [.ref sl, .ref (α1 0), .ref (α5 0), .ref (α6 0), .ref (α7 0), .ref (α8 0), .ref (α10 0)] 7) #[])) (fun _ => (rdO ((leL B).env (kt w.params)) (ν10 0) (frO (lawD w.params (ofL [T + 0, T1 + 0, T5 + 0, T6 + 0, T7 + 0, T8 + 0, T10 + 0]) [.ref sl, .ref (α1 0), .ref (α5 0), .ref (α6 0), .ref (α7 0), .ref (α8 0), .ref (α10 0)] 7) #[]))) (passW (wds us fun i => α10 (i + 1))) r (τ11 0) (nF (wds us fun i => α10 (i + 1))) (mF' (wds us fun i => α10 (i + 1)) 0) (kS [] (τ10 0))) [33, 10, 11, 12, 7, 8, 9, 1, 2, 3, 4, 5, 6] fun α12 τ12 ν12 B12 T12 => hl [0, 68, 68, 68, 58, 58, 1, 0, 58, 0, 0] (.j (cStart (cT2 w.params (kt w.params) (leL B) (B12 + 0) (α1 0) (B12 + 1) (B12 + 2) 0 ns 0 0 [] 0 [] (fun a => (wds us a).map iv) ns.length)) [2, 32, 1, 0] fun α13 τ13 ν13 B13 T13 => hl [0, 74, 74, 0, 0, 0, 74, 2, 2, 1, 0, 2, 0, 0] (.j (cStart (cT3 w.params (kt w.params) (lawC821 (kt w.params)) (leL B) (B1 + 1) (ofL [T1 + 13, T1 + 14, T1 + 15, T1 + 16, T1 + 17, T1 + 18]) (B13 + 0) (B12 + 1) (B13 + 1) (B13 + 2) 0 (wds us α13) ns.length 0 [] 0 [] ((atP (ofL [T1 + 13, T1 + 14, T1 + 15, T1 + 16, T1 + 17, T1 + 18]) (wds us α13)).map ev) (wds us α13).length)) [2, 4, 1, 0, 38, 33] fun α14 τ14 ν14 B14 T14 => hl [0, 80, 80, 0, 0, 0, 80, 7, 80, 7, 1617] (.j (cOrd 796 (B12 + 1) (wds us α13) ns.length ((o1 (wds us α13)).map iv) (wds us α13).length) [4] fun α15 τ15 ν15 B15 T15 => hl [0, 0, 1, 0, 0, 0, 0] (.j (cStart (cT3 w.params (kt w.params) (lawC822 (kt w.params)) (leL B) (B1 + 1) (ofL [T1 + 13, T1 + 14, T1 + 15, T1 + 16, T1 + 17, T1 + 18]) (B15 + 0) (α15 0) (B15 + 1) (B15 + 2) 0 (o1 (wds us α13)) (wds us α13).length 0 [] 0 [] ((atP (ofL [T1 + 13, T1 + 14, T1 + 15, T1 + 16, T1 + 17, T1 + 18]) (o1 (wds us α13))).map ev) (o1 (wds us α13)).length)) [2, 3, 1, 0, 42, 37] fun α16 τ16 ν16 B16 T16 => hl [0, 0, 0] (.rm (lawWif 11 (α10 0) (B15 + 1)) .NotEq (α10 0) (B15 + 1) (hl [22, 2, 22, 1] (.j (cNeW (α10 0) (B15 + 1) (passW (wds us fun i => α10 (i + 1))) (atP (ofL [T1 + 13, T1 + 14, T1 + 15, T1 + 16, T1 + 17, T1 + 18]) (o1 (wds us α13))) (ep1 ((passW (wds us fun i => α10 (i + 1))).map ev)) (o1 (wds us α13)).length false) [11, 1] fun α17 τ17 ν17 B17 T17 => hl [88, 7, 88, 7, 1617] (.j (cOrd 803 (B12 + 1) (wds us α13) ns.length ((o2 (wds us α13)).map iv) (wds us α13).length) [8] fun α18 τ18 ν18 B18 T18 => hl [0, 0, 1, 0, 0, 0, 0] (.j (cStart (cT3 w.params (kt w.params) (lawC824 (kt w.params)) (leL B) (B1 + 1) (ofL [T1 + 13, T1 + 14, T1 + 15, T1 + 16, T1 + 17, T1 + 18]) (B18 + 0) (α18 0) (B18 + 1) (B18 + 2) 0 (o2 (wds us α13)) (wds us α13).length 0 [] 0 [] ((atP (ofL [T1 + 13, T1 + 14, T1 + 15, T1 + 16, T1 + 17, T1 + 18]) (o2 (wds us α13))).map ev) (o2 (wds us α13)).length)) [2, 3, 1, 0, 46, 41] fun α19 τ19 ν19 B19 T19 => hl [0, 0, 0] (.rm (lawWif 12 (α12 0) (B18 + 1)) .NotEq (α12 0) (B18 + 1) (hl [28, 2, 28, 1] (.j (cNeW (α12 0) (B18 + 1) (passW (passW (wds us fun i => α10 (i + 1)))) (atP (ofL [T1 + 13, T1 + 14, T1 + 15, T1 + 16, T1 + 17, T1 + 18]) (o2 (wds us α13))) (ep1 ((passW (passW (wds us fun i => α10 (i + 1)))).map ev)) (o2 (wds us α13)).length false) [14, 1] fun α20 τ20 ν20 B20 T20 => hl [7, 96, 96, 1551] (.j (cCmpL (α10 0) (B13 + 1) (passW (wds us fun i => α10 (i + 1))) (atP (ofL [T1 + 13, T1 + 14, T1 + 15, T1 + 16, T1 + 17, T1 + 18]) (wds us α13)) (ep1 ((passW (wds us fun i => α10 (i + 1))).map ev)) (wds us α13).length (-1)) [15, 9] fun α21 τ21 ν21 B21 T21 => hl [7, 96, 96, 1551] (.j (cCmpL (α12 0) (α10 0) (passW (passW (wds us fun i => α10 (i + 1)))) (passW (wds us fun i => α10 (i + 1))) (ep1 ((passW (passW (wds us fun i => α10 (i + 1)))).map ev)) (ep1 ((passW (wds us fun i => α10 (i + 1))).map ev)) (-1)) [14, 15] fun α22 τ22 ν22 B22 T22 => hl [0, 98, 98, 98, 0, 0, 1, 0, 0, 0, 0] (.j (cT6 w.params (kt w.params) (leL B) (B22 + 1) (B22 + 0) (B22 + 2) (B22 + 3) (-1) (-1) (τ21 0) (τ22 0) 0) [2, 3, 1, 0] fun α23 τ23 ν23 B23 T23 => hl [0, 0, 0] (.rm (lawWif 14 (B22 + 2) (B23 + 0)) .NotEq (B22 + 2) (B23 + 0) (hl [4, 0, 4, 1] (.j (cNeS (B22 + 2) (B23 + 0) [] 0 false) [2, 0] fun α24 τ24 ν24 B24 T24 => hl [7, 1, 106] (.j (cSort (B13 + 1) (atP (ofL [T1 + 13, T1 + 14, T1 + 15, T1 + 16, T1 + 17, T1 + 18]) (wds us α13)) (wds us α13).length) [14] fun α25 τ25 ν25 B25 T25 => hl [0, 108, 108, 108, 108, 108] (.rm (lawWr1 16 (B22 + 0) (B13 + 1) (α25 0)) .Eq (B13 + 1) (α25 0) (hl [30, 0, 30, 1] (.j (cEqW (B13 + 1) (α25 0) (atP (ofL [T1 + 13, T1 + 14, T1 + 15, T1 + 16, T1 + 17, T1 + 18]) (wds us α13)) (wds (srt (rk (atP (ofL [T1 + 13, T1 + 14, T1 + 15, T1 + 16, T1 + 17, T1 + 18]) (wds us α13)))) τ25) (wds us α13).length (α25 1) false) [15, 0] fun α26 τ26 ν26 B26 T26 => hl [0, 0, 108, 108] (.rm (lawWr2 16 (B22 + 0) (-1) (T26 + 0 + 1) (α10 0) (α25 0)) .Eq (α10 0) (α25 0) (hl [42, 0, 42, 1] (.j (cEqW (α10 0) (α25 0) (passW (wds us fun i => α10 (i + 1))) (wds (srt (rk (atP (ofL [T1 + 13, T1 + 14, T1 + 15, T1 + 16, T1 + 17, T1 + 18]) (wds us α13)))) τ25) (ep1 ((passW (wds us fun i => α10 (i + 1))).map ev)) (α25 1) false) [21, 0] fun α27 τ27 ν27 B27 T27 => hl [0, 0] (.rm (lawWr3 16 (B22 + 0) (B27 + 0)) .Eq (B22 + 0) (B27 + 0) (hl [12, 0, 12, 1] (.j (cEqI (B22 + 0) (B27 + 0) (-1) (-1) (τ21 0) (τ22 0) (T26 + 1) (T27 + 1) 0 0) [6, 0] fun α28 τ28 ν28 B28 T28 => hl [] (.fin (ofL []) (ofL []) (ofV [ν4 24, ν4 25, ν4 26]) []))))))))))))))))))))))))))))))))))))))))))))) (fun B T => good_hl _ ⟨fun _ _ => sLaw0 _ _ _ _ _, good_hl _ ⟨vNeS1 _ _ _ _ hs0, fun _ _ _ _ _ => good_hl _ ⟨vSl _ _ _ _ _ _ _ _ _ .none (.int _ _) hpick hs63, fun _ _ _ _ _ => good_hl _ ⟨vW814 _ _ _ _ _ _ _ _ _ _ hk hns0 hns9 _, fun _ _ _ _ _ => good_hl _ ⟨vJ _ _ _ _ _ hk9, fun _ _ _ _ _ => good_hl _ ⟨vStream _ _, fun _ _ _ _ _ => good_hl _ ⟨vNet1 _, fun _ _ _ _ _ => good_hl _ ⟨vNet0, fun _ _ _ _ _ => good_hl _ ⟨vNet0, fun _ _ _ _ _ => good_hl _ ⟨vShl _, fun _ _ _ _ _ => good_hl _ ⟨vLen _ _ _ _ hlen hlen9, fun _ _ _ _ _ => good_hl _ ⟨vQ1 H _ _ _ _ _ _ _ _ _ _ _ _ _ hr (hS _), fun _ _ _ _ _ => good_hl _ ⟨vLen _ _ _ _ hlen hlen9, fun _ _ _ _ _ => good_hl _ ⟨vQ2 H _ _ _ _ _ _ _ _ _ _ _ _ hr, fun _ _ _ _ _ => good_hl _ ⟨vW820 _ _ _ _ _ _ _ _ hu hns0 hns9 _, fun _ _ _ _ _ => good_hl _ ⟨vW821 H _ _ _ _ _ _ _ _ _ _, fun _ _ _ _ _ => good_hl _ ⟨vO1 H _ _ _, fun _ _ _ _ _ => good_hl _ ⟨vW822 H _ _ _ _ _ _ _ _ _ _, fun _ _ _ _ _ => good_hl _ ⟨fun _ _ => sLawif _ _ _ _ _, good_hl _ ⟨vNe1 H _ _ _ _ _ _ _, fun _ _ _ _ _ => good_hl _ ⟨vO2 H _ _ _, fun _ _ _ _ _ => good_hl _ ⟨vW824 H _ _ _ _ _ _ _ _ _ _, fun _ _ _ _ _ => good_hl _ ⟨fun _ _ => sLawif _ _ _ _ _, good_hl _ ⟨vNe2 H _ _ _ _ _ _ _, fun _ _ _ _ _ => good_hl _ ⟨vCm11 H c1 _ _ _ _ _ _ _, fun _ _ _ _ _ => good_hl _ ⟨vCm21 H c2 _ _ _ _ _, fun _ _ _ _ _ => good_hl _ ⟨vT6 _ _ _ _ _ _ _ _ _ _, fun _ _ _ _ _ => good_hl _ ⟨fun _ _ => sLawif _ _ _ _ _, good_hl _ ⟨vNeS0 _ _ _, fun _ _ _ _ _ => good_hl _ ⟨vSo H _ _ _ _, fun _ _ _ _ _ => good_hl _ ⟨fun _ _ => sLawr1 _ _ _ _ _ _, good_hl _ ⟨vEq1 H b1 _ _ _ _ _ _ _, fun _ _ _ _ _ => good_hl _ ⟨fun _ _ => sLawr2 _ _ _ _ _ _ _ _, good_hl _ ⟨vEq2 H b2 _ _ _ _ _ _ _ _, fun _ _ _ _ _ => good_hl _ ⟨fun _ _ => sLawr3 _ _ _ _ _, good_hl _ ⟨vEqI _ _ _ _ _ _ _ _ _ _, fun _ _ _ _ _ => good_hl _ trivial⟩⟩⟩⟩⟩⟩⟩⟩⟩⟩⟩⟩⟩⟩⟩⟩⟩⟩⟩⟩⟩⟩⟩⟩⟩⟩⟩⟩⟩⟩⟩⟩⟩⟩⟩⟩) fun B T => ?_
  kernel_rfl
theorem vLawB (H : Facts us q1 q2) (sl : Addr) (ss ns : List (Int × Tok)) (n : Nat) (ks : List Nat) (r : Nat) (lnF psF : Int) (hs0 : ss.map nv ≠ []) (hs63 : (ss.map nv).length ≤ 1000) (hpick : slicePick ⟨ss.map nv⟩ none (some 9) none = ⟨ns.map nv⟩)
    (hk : ks = ns.map fun x => (x.1.fmod 12).toNat) (hu : us = ns.map fun x => (x.1.fmod 6).toNat) (hr : us.length = r + 1) (hS : ∀ s : TS, Src w s (txtOf ks) 1 0 us lnF psF) (c1 : lexLt q1 us = true) (c2 : lexLt q2 q1 = false) (b1 : (us == srt us) = false) (b2 : (q1 == srt us) = true) :
    Valid pw w (kt w.params) (cLaw sl ss n) := by
  have hnl : ns.length = us.length := by rw [hu, List.length_map]
  have hns0 : ns ≠ [] := fun e => by rw [e] at hnl; rw [← hnl] at hr; cases hr
  have hns9 : ns.length ≤ 9 := hnl ▸ H.h9
  have hk9 : ks.length ≤ 9 := by rw [hk, List.length_map]; exact hns9
  have hlen : (ns.map nv).length = r + 1 := by rw [List.length_map, hnl, hr]
  have hlen9 : (ns.map nv).length ≤ 9 := by rw [List.length_map]; exact hns9
  refine valid_of 1000 (fun B T => hl [1627, 1625, 0, 4, 4, 0, 5, 0, 4] (.rm (lawW0 0 sl (B + 3)) .NotEq (sl) (B + 3) (hl [8, 0, 8, 1] (.j (cNeS sl (B + 3) (ss.map nv) n true) [4, 0] fun α0 τ0 ν0 B0 T0 => hl [6, 10, 10, 10] (.j (cSl sl (B0 + 0) (ss.map nv) n .none (.int 9 (T0 + 0)) (ns.map nv)) [5, 0] fun α1 τ1 ν1 B1 T1 => hl [0, 10, 10, 10, 10, 10, 10, 7, 7, 14, 4, 4, 1, 0, 4, 0, 0] (.j (cStart (cT1 w.params (kt w.params) (leL B) (B1 + 0) (ofL [T1 + 1, T1 + 2, T1 + 3, T1 + 4, T1 + 5, T1 + 6, T1 + 7, T1 + 8, T1 + 9, T1 + 10, T1 + 11, T1 + 12]) (B1 + 2) (α1 0) (B1 + 3) (B1 + 4) 0 ns 0 0 [] 0 [] (fun a => strValues (tks ks a)) ns.length)) [2, 5, 1, 0, 9, 4] fun α2 τ2 ν2 B2 T2 => hl [0, 0, 0] (.j (cJ (B1 + 3) (T1 + 19) ks α2 ns.length) [1] fun α3 τ3 ν3 B3 T3 => hl [1565] (.j (cStream w.params (kt w.params) (txtOf ks) (τ3 0)) [12] fun α4 τ4 ν4 B4 T4 => hl [1529, 1529] (.j (cNet w.params (.ref (α4 0))) [] fun α5 τ5 ν5 B5 T5 => hl [0, 40, 40, 7, 1529, 1529] (.j (cNet w.params .none) [] fun α6 τ6 ν6 B6 T6 => hl [0, 46, 46, 7, 1529, 1529] (.j (cNet w.params .none) [] fun α7 τ7 ν7 B7 T7 => hl [0, 52, 52, 7, 1445, 1445] (.j (cShl w.params (T7 + 1)) [] fun α8 τ8 ν8 B8 T8 => hl [0, 64, 64, 7, 64, 64, 64, 7, 1, 64] (.j (cLen (α1 0) (ns.map nv) 0 (r + 1)) [27] fun α9 τ9 ν9 B9 T9 => hl [1579] (.j (cP1 (kt w.params) (tsL w.params α4 τ4 ν4 α5 τ5 (τ3 0)) (txtOf ks) (psL w.params α6 τ6 α8 τ8 ν8) (leL B) (frO (lawD w.params (ofL [T + 0, T1 + 0, T5 + 0, T6 + 0, T7 + 0, T8 + 0]) [.ref sl, .ref (α1 0), .ref (α5 0), .ref (α6 0), .ref (α7 0), .ref (α8 0)] 6) #[]) (fun bk => (rdO ((leL B).env (kt w.params)) bk (frO (lawD w.params (ofL [T + 0, T1 + 0, T5 + 0, T6 + 0, T7 + 0, T8 + 0]) [.ref sl, .ref (α1 0), .ref (α5 0), .ref (α6 0), .ref (α7 0), .ref (α8 0)] 6) #[]))) us r (τ9 0) (τ5 4) (τ4 6) lnF psF (τ8 36) (τ8 37)) [32, 12, 13, 14, 15, 16, 17, 18, 19, 20, 21, 9, 10, 11, 0, 1, 2, 3, 4, 5] fun α10 τ10 ν10 B10 T10 => hl [0, 66, 66, 7, 66, 66, 66, 7, 1, 66] (.j (cLen (α1 0) (ns.map nv) 0 (r + 1)) [28] fun α11 τ11 ν11 B11 T11 => hl [1579] (.j (cP2 (kt w.params) (p2L w.params α6 τ6) (α6 0) (psL w.params α7 τ7 α8 τ8 ν8) (leL B) (rdO ((leL B).env (kt w.params)) (ν10 0) (frO (lawD w.params (ofL [T + 0, T1 + 0, T5 + 0, T6 + 0, T7 + 0, T8 + 0, T10 + 0]) [.ref sl, .ref (α1 0), .ref (α5 0), .ref (α6 0), .ref (α7 0), .ref (α8 0), .ref (α10 0)] 7) #[])) (fun _ => (rdO ((leL B).env (kt w.params)) (ν10 0) (frO (lawD w.params (ofL [T + 0, T1 + 0, T5 + 0, T6 + 0, T7 + 0, T8 + 0, T10 + 0]) [.ref sl, .ref (α1 0), .ref (α5 0), .ref (α6 0), .ref (α7 0), .ref (α8 0), .ref (α10 0)] 7) #[]))) (passW (wds us fun i => α10 (i + 1))) r (τ11 0) (nF (wds us fun i => α10 (i + 1))) (mF' (wds us fun i => α10 (i + 1)) 0) (kS [] (τ10 0))) [33, 10, 11, 12, 7, 8, 9, 1, 2, 3, 4, 5, 6] fun α12 τ12 ν12 B12 T12 => hl [0, 68, 68, 68, 58, 58, 1, 0, 58, 0, 0] (.j (cStart (cT2 w.params (kt w.params) (leL B) (B12 + 0) (α1 0) (B12 + 1) (B12 + 2) 0 ns 0 0 [] 0 [] (fun a => (wds us a).map iv) ns.length)) [2, 32, 1, 0] fun α13 τ13 ν13 B13 T13 => hl [0, 74, 74, 0, 0, 0, 74, 2, 2, 1, 0, 2, 0, 0] (.j (cStart (cT3 w.params (kt w.params) (lawC821 (kt w.params)) (leL B) (B1 + 1) (ofL [T1 + 13, T1 + 14, T1 + 15, T1 + 16, T1 + 17, T1 + 18]) (B13 + 0) (B12 + 1) (B13 + 1) (B13 + 2) 0 (wds us α13) ns.length 0 [] 0 [] ((atP (ofL [T1 + 13, T1 + 14, T1 + 15, T1 + 16, T1 + 17, T1 + 18]) (wds us α13)).map ev) (wds us α13).length)) [2, 4, 1, 0, 38, 33] fun α14 τ14 ν14 B14 T14 => hl [0, 80, 80, 0, 0, 0, 80, 7, 80, 7, 1617] (.j (cOrd 796 (B12 + 1) (wds us α13) ns.length ((o1 (wds us α13)).map iv) (wds us α13).length) [4] fun α15 τ15 ν15 B15 T15 => hl [0, 0, 1, 0, 0, 0, 0] (.j (cStart (cT3 w.params (kt w.params) (lawC822 (kt w.params)) (leL B) (B1 + 1) (ofL [T1 + 13, T1 + 14, T1 + 15, T1 + 16, T1 + 17, T1 + 18]) (B15 + 0) (α15 0) (B15 + 1) (B15 + 2) 0 (o1 (wds us α13)) (wds us α13).length 0 [] 0 [] ((atP (ofL [T1 + 13, T1 + 14, T1 + 15, T1 + 16, T1 + 17, T1 + 18]) (o1 (wds us α13))).map ev) (o1 (wds us α13)).length)) [2, 3, 1, 0, 42, 37] fun α16 τ16 ν16 B16 T16 => hl [0, 0, 0] (.rm (lawWif 11 (α10 0) (B15 + 1)) .NotEq (α10 0) (B15 + 1) (hl [22, 2, 22, 1] (.j (cNeW (α10 0) (B15 + 1) (passW (wds us fun i => α10 (i + 1))) (atP (ofL [T1 + 13, T1 + 14, T1 + 15, T1 + 16, T1 + 17, T1 + 18]) (o1 (wds us α13))) (ep1 ((passW (wds us fun i => α10 (i + 1))).map ev)) (o1 (wds us α13)).length false) [11, 1] fun α17 τ17 ν17 B17 T17 => hl [88, 7, 88, 7, 1617] (.j (cOrd 803 (B12 + 1) (wds us α13) ns.length ((o2 (wds us α13)).map iv) (wds us α13).length) [8] fun α18 τ18 ν18 B18 T18 => hl [0, 0, 1, 0, 0, 0, 0] (.j (cStart (cT3 w.params (kt w.params) (lawC824 (kt w.params)) (leL B) (B1 + 1) (ofL [T1 + 13, T1 + 14, T1 + 15, T1 + 16, T1 + 17, T1 + 18]) (B18 + 0) (α18 0) (B18 + 1) (B18 + 2) 0 (o2 (wds us α13)) (wds us α13).length 0 [] 0 [] ((atP (ofL [T1 + 13, T1 + 14, T1 + 15, T1 + 16, T1 + 17, T1 + 18]) (o2 (wds us α13))).map ev) (o2 (wds us α13)).length)) [2, 3, 1, 0, 46, 41] fun α19 τ19 ν19 B19 T19 => hl [0, 0, 0] (.rm (lawWif 12 (α12 0) (B18 + 1)) .NotEq (α12 0) (B18 + 1) (hl [28, 2, 28, 1] (.j (cNeW (α12 0) (B18 + 1) (passW (passW (wds us fun i => α10 (i + 1)))) (atP (ofL [T1 + 13, T1 + 14, T1 + 15, T1 + 16, T1 + 17, T1 + 18]) (o2 (wds us α13))) (ep1 ((passW (passW (wds us fun i => α10 (i + 1)))).map ev)) (o2 (wds us α13)).length false) [14, 1] fun α20 τ20 ν20 B20 T20 => hl [7, 96, 96, 1551] (.j (cCmpL (α10 0) (B13 + 1) (passW (wds us fun i => α10 (i + 1))) (atP (ofL [T1 + 13, T1 + 14, T1 + 15, T1 + 16, T1 + 17, T1 + 18]) (wds us α13)) (ep1 ((passW (wds us fun i => α10 (i + 1))).map ev)) (wds us α13).length (-1)) [15, 9] fun α21 τ21 ν21 B21 T21 => hl [7, 96, 96, 1551] (.j (cCmpL (α12 0) (α10 0) (passW (passW (wds us fun i => α10 (i + 1)))) (passW (wds us fun i => α10 (i + 1))) (ep1 ((passW (passW (wds us fun i => α10 (i + 1)))).map ev)) (ep1 ((passW (wds us fun i => α10 (i + 1))).map ev)) (0)) [14, 15] fun α22 τ22 ν22 B22 T22 => hl [0, 98, 98, 98, 0, 0, 1, 0, 0, 0, 0] (.j (cT6 w.params (kt w.params) (leL B) (B22 + 1) (B22 + 0) (B22 + 2) (B22 + 3) (-1) (0) (τ21 0) (τ22 0) 0) [2, 3, 1, 0] fun α23 τ23 ν23 B23 T23 => hl [0, 0, 0] (.rm (lawWif 14 (B22 + 2) (B23 + 0)) .NotEq (B22 + 2) (B23 + 0) (hl [4, 0, 4, 1] (.j (cNeS (B22 + 2) (B23 + 0) [] 0 false) [2, 0] fun α24 τ24 ν24 B24 T24 => hl [7, 1, 106] (.j (cSort (B13 + 1) (atP (ofL [T1 + 13, T1 + 14, T1 + 15, T1 + 16, T1 + 17, T1 + 18]) (wds us α13)) (wds us α13).length) [14] fun α25 τ25 ν25 B25 T25 => hl [0, 108, 108, 108, 108, 108] (.rm (lawWr1 16 (B22 + 0) (B13 + 1) (α25 0)) .Eq (B13 + 1) (α25 0) (hl [30, 0, 30, 1] (.j (cEqW (B13 + 1) (α25 0) (atP (ofL [T1 + 13, T1 + 14, T1 + 15, T1 + 16, T1 + 17, T1 + 18]) (wds us α13)) (wds (srt (rk (atP (ofL [T1 + 13, T1 + 14, T1 + 15, T1 + 16, T1 + 17, T1 + 18]) (wds us α13)))) τ25) (wds us α13).length (α25 1) false) [15, 0] fun α26 τ26 ν26 B26 T26 => hl [0, 0, 108, 108] (.rm (lawWr2 16 (B22 + 0) (-1) (T26 + 0 + 1) (α10 0) (α25 0)) .Eq (α10 0) (α25 0) (hl [42, 0, 42, 1] (.j (cEqW (α10 0) (α25 0) (passW (wds us fun i => α10 (i + 1))) (wds (srt (rk (atP (ofL [T1 + 13, T1 + 14, T1 + 15, T1 + 16, T1 + 17, T1 + 18]) (wds us α13)))) τ25) (ep1 ((passW (wds us fun i => α10 (i + 1))).map ev)) (α25 1) true) [21, 0] fun α27 τ27 ν27 B27 T27 => hl [] (.rm (lawWr3 16 (B22 + 0) (B27 + 0)) .Eq (B22 + 0) (B27 + 0) (hl [12, 0, 12, 1] (.j (cEqI (B22 + 0) (B27 + 0) (-1) (0) (τ21 0) (τ22 0) (T26 + 1) (T27 + 0) 0 0) [6, 0] fun α28 τ28 ν28 B28 T28 => hl [] (.fin (ofL []) (ofL []) (ofV [ν4 24, ν4 25, ν4 26]) []))))))))))))))))))))))))))))))))))))))))))))) (fun B T => good_hl _ ⟨fun _ _ => sLaw0 _ _ _ _ _, good_hl _ ⟨vNeS1 _ _ _ _ hs0, fun _ _ _ _ _ => good_hl _ ⟨vSl _ _ _ _ _ _ _ _ _ .none (.int _ _) hpick hs63, fun _ _ _ _ _ => good_hl _ ⟨vW814 _ _ _ _ _ _ _ _ _ _ hk hns0 hns9 _, fun _ _ _ _ _ => good_hl _ ⟨vJ _ _ _ _ _ hk9, fun _ _ _ _ _ => good_hl _ ⟨vStream _ _, fun _ _ _ _ _ => good_hl _ ⟨vNet1 _, fun _ _ _ _ _ => good_hl _ ⟨vNet0, fun _ _ _ _ _ => good_hl _ ⟨vNet0, fun _ _ _ _ _ => good_hl _ ⟨vShl _, fun _ _ _ _ _ => good_hl _ ⟨vLen _ _ _ _ hlen hlen9, fun _ _ _ _ _ => good_hl _ ⟨vQ1 H _ _ _ _ _ _ _ _ _ _ _ _ _ hr (hS _), fun _ _ _ _ _ => good_hl _ ⟨vLen _ _ _ _ hlen hlen9, fun _ _ _ _ _ => good_hl _ ⟨vQ2 H _ _ _ _ _ _ _ _ _ _ _ _ hr, fun _ _ _ _ _ => good_hl _ ⟨vW820 _ _ _ _ _ _ _ _ hu hns0 hns9 _, fun _ _ _ _ _ => good_hl _ ⟨vW821 H _ _ _ _ _ _ _ _ _ _, fun _ _ _ _ _ => good_hl _ ⟨vO1 H _ _ _, fun _ _ _ _ _ => good_hl _ ⟨vW822 H _ _ _ _ _ _ _ _ _ _, fun _ _ _ _ _ => good_hl _ ⟨fun _ _ => sLawif _ _ _ _ _, good_hl _ ⟨vNe1 H _ _ _ _ _ _ _, fun _ _ _ _ _ => good_hl _ ⟨vO2 H _ _ _, fun _ _ _ _ _ => good_hl _ ⟨vW824 H _ _ _ _ _ _ _ _ _ _, fun _ _ _ _ _ => good_hl _ ⟨fun _ _ => sLawif _ _ _ _ _, good_hl _ ⟨vNe2 H _ _ _ _ _ _ _, fun _ _ _ _ _ => good_hl _ ⟨vCm11 H c1 _ _ _ _ _ _ _, fun _ _ _ _ _ => good_hl _ ⟨vCm20 H c2 _ _ _ _ _, fun _ _ _ _ _ => good_hl _ ⟨vT6 _ _ _ _ _ _ _ _ _ _, fun _ _ _ _ _ => good_hl _ ⟨fun _ _ => sLawif _ _ _ _ _, good_hl _ ⟨vNeS0 _ _ _, fun _ _ _ _ _ => good_hl _ ⟨vSo H _ _ _ _, fun _ _ _ _ _ => good_hl _ ⟨fun _ _ => sLawr1 _ _ _ _ _ _, good_hl _ ⟨vEq1 H b1 _ _ _ _ _ _ _, fun _ _ _ _ _ => good_hl _ ⟨fun _ _ => sLawr2 _ _ _ _ _ _ _ _, good_hl _ ⟨vEq2 H b2 _ _ _ _ _ _ _ _, fun _ _ _ _ _ => good_hl _ ⟨fun _ _ => sLawr3 _ _ _ _ _, good_hl _ ⟨vEqI _ _ _ _ _ _ _ _ _ _, fun _ _ _ _ _ => good_hl _ trivial⟩⟩⟩⟩⟩⟩⟩⟩⟩⟩⟩⟩⟩⟩⟩⟩⟩⟩⟩⟩⟩⟩⟩⟩⟩⟩⟩⟩⟩⟩⟩⟩⟩⟩⟩⟩) fun B T => ?_
  kernel_rfl
theorem vLawC (H : Facts us q1 q2) (sl : Addr) (ss ns : List (Int × Tok)) (n : Nat) (ks : List Nat) (r : Nat) (lnF psF : Int) (hs0 : ss.map nv ≠ []) (hs63 : (ss.map nv).length ≤ 1000) (hpick : slicePick ⟨ss.map nv⟩ none (some 9) none = ⟨ns.map nv⟩)
    (hk : ks = ns.map fun x => (x.1.fmod 12).toNat) (hu : us = ns.map fun x => (x.1.fmod 6).toNat) (hr : us.length = r + 1) (hS : ∀ s : TS, Src w s (txtOf ks) 1 0 us lnF psF) (c1 : lexLt q1 us = false) (c2 : lexLt q2 q1 = false) (b1 : (us == srt us) = true) (b2 : (q1 == srt us) = true) :
    Valid pw w (kt w.params) (cLaw sl ss n) := by
  have hnl : ns.length = us.length := by rw [hu, List.length_map]
  have hns0 : ns ≠ [] := fun e => by rw [e] at hnl; rw [← hnl] at hr; cases hr
  have hns9 : ns.length ≤ 9 := hnl ▸ H.h9
  have hk9 : ks.length ≤ 9 := by rw [hk, List.length_map]; exact hns9
  have hlen : (ns.map nv).length = r + 1 := by rw [List.length_map, hnl, hr]
  have hlen9 : (ns.map nv).length ≤ 9 := by rw [List.length_map]; exact hns9
  refine valid_of 1000 (fun B T => hl [1627, 1625, 0, 4, 4, 0, 5, 0, 4] (.rm (lawW0 0 sl (B + 3)) .NotEq (sl) (B + 3) (hl [8, 0, 8, 1] (.j (cNeS sl (B + 3) (ss.map nv) n true) [4, 0] fun α0 τ0 ν0 B0 T0 => hl [6, 10, 10, 10] (.j (cSl sl (B0 + 0) (ss.map nv) n .none (.int 9 (T0 + 0)) (ns.map nv)) [5, 0] fun α1 τ1 ν1 B1 T1 => hl [0, 10, 10, 10, 10, 10, 10, 7, 7, 14, 4, 4, 1, 0, 4, 0, 0] (.j (cStart (cT1 w.params (kt w.params) (leL B) (B1 + 0) (ofL [T1 + 1, T1 + 2, T1 + 3, T1 + 4, T1 + 5, T1 + 6, T1 + 7, T1 + 8, T1 + 9, T1 + 10, T1 + 11, T1 + 12]) (B1 + 2) (α1 0) (B1 + 3) (B1 + 4) 0 ns 0 0 [] 0 [] (fun a => strValues (tks ks a)) ns.length)) [2, 5, 1, 0, 9, 4] fun α2 τ2 ν2 B2 T2 => hl [0, 0, 0] (.j (cJ (B1 + 3) (T1 + 19) ks α2 ns.length) [1] fun α3 τ3 ν3 B3 T3 => hl [1565] (.j (cStream w.params (kt w.params) (txtOf ks) (τ3 0)) [12] fun α4 τ4 ν4 B4 T4 => hl [1529, 1529] (.j (cNet w.params (.ref (α4 0))) [] fun α5 τ5 ν5 B5 T5 => hl [0, 40, 40, 7, 1529, 1529] (.j (cNet w.params .none) [] fun α6 τ6 ν6 B6 T6 => hl [0, 46, 46, 7, 1529, 1529] (.j (cNet w.params .none) [] fun α7 τ7 ν7 B7 T7 => hl [0, 52, 52, 7, 1445, 1445] (.j (cShl w.params (T7 + 1)) [] fun α8 τ8 ν8 B8 T8 => hl [0, 64, 64, 7, 64, 64, 64, 7, 1, 64] (.j (cLen (α1 0) (ns.map nv) 0 (r + 1)) [27] fun α9 τ9 ν9 B9 T9 => hl [1579] (.j (cP1 (kt w.params) (tsL w.params α4 τ4 ν4 α5 τ5 (τ3 0)) (txtOf ks) (psL w.params α6 τ6 α8 τ8 ν8) (leL B) (frO (lawD w.params (ofL [T + 0, T1 + 0, T5 + 0, T6 + 0, T7 + 0, T8 + 0]) [.ref sl, .ref (α1 0), .ref (α5 0), .ref (α6 0), .ref (α7 0), .ref (α8 0)] 6) #[]) (fun bk => (rdO ((leL B).env (kt w.params)) bk (frO (lawD w.params (ofL [T + 0, T1 + 0, T5 + 0, T6 + 0, T7 + 0, T8 + 0]) [.ref sl, .ref (α1 0), .ref (α5 0), .ref (α6 0), .ref (α7 0), .ref (α8 0)] 6) #[]))) us r (τ9 0) (τ5 4) (τ4 6) lnF psF (τ8 36) (τ8 37)) [32, 12, 13, 14, 15, 16, 17, 18, 19, 20, 21, 9, 10, 11, 0, 1, 2, 3, 4, 5] fun α10 τ10 ν10 B10 T10 => hl [0, 66, 66, 7, 66, 66, 66, 7, 1, 66] (.j (cLen (α1 0) (ns.map nv) 0 (r + 1)) [28] fun α11 τ11 ν11 B11 T11 => hl [1579] (.j (cP2 (kt w.params) (p2L w.params α6 τ6) (α6 0) (psL w.params α7 τ7 α8 τ8 ν8) (leL B) (rdO ((leL B).env (kt w.params)) (ν10 0) (frO (lawD w.params (ofL [T + 0, T1 + 0, T5 + 0, T6 + 0, T7 + 0, T8 + 0, T10 + 0]) [.ref sl, .ref (α1 0), .ref (α5 0), .ref (α6 0), .ref (α7 0), .ref (α8 0), .ref (α10 0)] 7) #[])) (fun _ => (rdO ((leL B).env (kt w.params)) (ν10 0) (frO (lawD w.params (ofL [T + 0, T1 + 0, T5 + 0, T6 + 0, T7 + 0, T8 + 0, T10 + 0]) [.ref sl, .ref (α1 0), .ref (α5 0), .ref (α6 0), .ref (α7 0), .ref (α8 0), .ref (α10 0)] 7) #[]))) (passW (wds us fun i => α10 (i + 1))) r (τ11 0) (nF (wds us fun i => α10 (i + 1))) (mF' (wds us fun i => α10 (i + 1)) 0) (kS [] (τ10 0))) [33, 10, 11, 12, 7, 8, 9, 1, 2, 3, 4, 5, 6] fun α12 τ12 ν12 B12 T12 => hl [0, 68, 68, 68, 58, 58, 1, 0, 58, 0, 0] (.j (cStart (cT2 w.params (kt w.params) (leL B) (B12 + 0) (α1 0) (B12 + 1) (B12 + 2) 0 ns 0 0 [] 0 [] (fun a => (wds us a).map iv) ns.length)) [2, 32, 1, 0] fun α13 τ13 ν13 B13 T13 => hl [0, 74, 74, 0, 0, 0, 74, 2, 2, 1, 0, 2, 0, 0] (.j (cStart (cT3 w.params (kt w.params) (lawC821 (kt w.params)) (leL B) (B1 + 1) (ofL [T1 + 13, T1 + 14, T1 + 15, T1 + 16, T1 + 17, T1 + 18]) (B13 + 0) (B12 + 1) (B13 + 1) (B13 + 2) 0 (wds us α13) ns.length 0 [] 0 [] ((atP (ofL [T1 + 13, T1 + 14, T1 + 15, T1 + 16, T1 + 17, T1 + 18]) (wds us α13)).map ev) (wds us α13).length)) [2, 4, 1, 0, 38, 33] fun α14 τ14 ν14 B14 T14 => hl [0, 80, 80, 0, 0, 0, 80, 7, 80, 7, 1617] (.j (cOrd 796 (B12 + 1) (wds us α13) ns.length ((o1 (wds us α13)).map iv) (wds us α13).length) [4] fun α15 τ15 ν15 B15 T15 => hl [0, 0, 1, 0, 0, 0, 0] (.j (cStart (cT3 w.params (kt w.params) (lawC822 (kt w.params)) (leL B) (B1 + 1) (ofL [T1 + 13, T1 + 14, T1 + 15, T1 + 16, T1 + 17, T1 + 18]) (B15 + 0) (α15 0) (B15 + 1) (B15 + 2) 0 (o1 (wds us α13)) (wds us α13).length 0 [] 0 [] ((atP (ofL [T1 + 13, T1 + 14, T1 + 15, T1 + 16, T1 + 17, T1 + 18]) (o1 (wds us α13))).map ev) (o1 (wds us α13)).length)) [2, 3, 1, 0, 42, 37] fun α16 τ16 ν16 B16 T16 => hl [0, 0, 0] (.rm (lawWif 11 (α10 0) (B15 + 1)) .NotEq (α10 0) (B15 + 1) (hl [22, 2, 22, 1] (.j (cNeW (α10 0) (B15 + 1) (passW (wds us fun i => α10 (i + 1))) (atP (ofL [T1 + 13, T1 + 14, T1 + 15, T1 + 16, T1 + 17, T1 + 18]) (o1 (wds us α13))) (ep1 ((passW (wds us fun i => α10 (i + 1))).map ev)) (o1 (wds us α13)).length false) [11, 1] fun α17 τ17 ν17 B17 T17 => hl [88, 7, 88, 7, 1617] (.j (cOrd 803 (B12 + 1) (wds us α13) ns.length ((o2 (wds us α13)).map iv) (wds us α13).length) [8] fun α18 τ18 ν18 B18 T18 => hl [0, 0, 1, 0, 0, 0, 0] (.j (cStart (cT3 w.params (kt w.params) (lawC824 (kt w.params)) (leL B) (B1 + 1) (ofL [T1 + 13, T1 + 14, T1 + 15, T1 + 16, T1 + 17, T1 + 18]) (B18 + 0) (α18 0) (B18 + 1) (B18 + 2) 0 (o2 (wds us α13)) (wds us α13).length 0 [] 0 [] ((atP (ofL [T1 + 13, T1 + 14, T1 + 15, T1 + 16, T1 + 17, T1 + 18]) (o2 (wds us α13))).map ev) (o2 (wds us α13)).length)) [2, 3, 1, 0, 46, 41] fun α19 τ19 ν19 B19 T19 => hl [0, 0, 0] (.rm (lawWif 12 (α12 0) (B18 + 1)) .NotEq (α12 0) (B18 + 1) (hl [28, 2, 28, 1] (.j (cNeW (α12 0) (B18 + 1) (passW (passW (wds us fun i => α10 (i + 1)))) (atP (ofL [T1 + 13, T1 + 14, T1 + 15, T1 + 16, T1 + 17, T1 + 18]) (o2 (wds us α13))) (ep1 ((passW (passW (wds us fun i => α10 (i + 1)))).map ev)) (o2 (wds us α13)).length false) [14, 1] fun α20 τ20 ν20 B20 T20 => hl [7, 96, 96, 1551] (.j (cCmpL (α10 0) (B13 + 1) (passW (wds us fun i => α10 (i + 1))) (atP (ofL [T1 + 13, T1 + 14, T1 + 15, T1 + 16, T1 + 17, T1 + 18]) (wds us α13)) (ep1 ((passW (wds us fun i => α10 (i + 1))).map ev)) (wds us α13).length (0)) [15, 9] fun α21 τ21 ν21 B21 T21 => hl [7, 96, 96, 1551] (.j (cCmpL (α12 0) (α10 0) (passW (passW (wds us fun i => α10 (i + 1)))) (passW (wds us fun i => α10 (i + 1))) (ep1 ((passW (passW (wds us fun i => α10 (i + 1)))).map ev)) (ep1 ((passW (wds us fun i => α10 (i + 1))).map ev)) (0)) [14, 15] fun α22 τ22 ν22 B22 T22 => hl [0, 98, 98, 98, 0, 0, 1, 0, 0, 0, 0] (.j (cT6 w.params (kt w.params) (leL B) (B22 + 1) (B22 + 0) (B22 + 2) (B22 + 3) (0) (0) (τ21 0) (τ22 0) 0) [2, 3, 1, 0] fun α23 τ23 ν23 B23 T23 => hl [0, 0, 0] (.rm (lawWif 14 (B22 + 2) (B23 + 0)) .NotEq (B22 + 2) (B23 + 0) (hl [4, 0, 4, 1] (.j (cNeS (B22 + 2) (B23 + 0) [] 0 false) [2, 0] fun α24 τ24 ν24 B24 T24 => hl [7, 1, 106] (.j (cSort (B13 + 1) (atP (ofL [T1 + 13, T1 + 14, T1 + 15, T1 + 16, T1 + 17, T1 + 18]) (wds us α13)) (wds us α13).length) [14] fun α25 τ25 ν25 B25 T25 => hl [0, 108, 108, 108, 108, 108] (.rm (lawWr1 16 (B22 + 0) (B13 + 1) (α25 0)) .Eq (B13 + 1) (α25 0) (hl [30, 0, 30, 1] (.j (cEqW (B13 + 1) (α25 0) (atP (ofL [T1 + 13, T1 + 14, T1 + 15, T1 + 16, T1 + 17, T1 + 18]) (wds us α13)) (wds (srt (rk (atP (ofL [T1 + 13, T1 + 14, T1 + 15, T1 + 16, T1 + 17, T1 + 18]) (wds us α13)))) τ25) (wds us α13).length (α25 1) true) [15, 0] fun α26 τ26 ν26 B26 T26 => hl [108, 108] (.rm (lawWr2 16 (B22 + 0) (0) (T26 + 0) (α10 0) (α25 0)) .Eq (α10 0) (α25 0) (hl [42, 0, 42, 1] (.j (cEqW (α10 0) (α25 0) (passW (wds us fun i => α10 (i + 1))) (wds (srt (rk (atP (ofL [T1 + 13, T1 + 14, T1 + 15, T1 + 16, T1 + 17, T1 + 18]) (wds us α13)))) τ25) (ep1 ((passW (wds us fun i => α10 (i + 1))).map ev)) (α25 1) true) [21, 0] fun α27 τ27 ν27 B27 T27 => hl [] (.rm (lawWr3 16 (B22 + 0) (B27 + 0)) .Eq (B22 + 0) (B27 + 0) (hl [12, 0, 12, 1] (.j (cEqI (B22 + 0) (B27 + 0) (0) (0) (τ21 0) (τ22 0) (T26 + 0) (T27 + 0) 0 0) [6, 0] fun α28 τ28 ν28 B28 T28 => hl [] (.fin (ofL []) (ofL []) (ofV [ν4 24, ν4 25, ν4 26]) []))))))))))))))))))))))))))))))))))))))))))))) (fun B T => good_hl _ ⟨fun _ _ => sLaw0 _ _ _ _ _, good_hl _ ⟨vNeS1 _ _ _ _ hs0, fun _ _ _ _ _ => good_hl _ ⟨vSl _ _ _ _ _ _ _ _ _ .none (.int _ _) hpick hs63, fun _ _ _ _ _ => good_hl _ ⟨vW814 _ _ _ _ _ _ _ _ _ _ hk hns0 hns9 _, fun _ _ _ _ _ => good_hl _ ⟨vJ _ _ _ _ _ hk9, fun _ _ _ _ _ => good_hl _ ⟨vStream _ _, fun _ _ _ _ _ => good_hl _ ⟨vNet1 _, fun _ _ _ _ _ => good_hl _ ⟨vNet0, fun _ _ _ _ _ => good_hl _ ⟨vNet0, fun _ _ _ _ _ => good_hl _ ⟨vShl _, fun _ _ _ _ _ => good_hl _ ⟨vLen _ _ _ _ hlen hlen9, fun _ _ _ _ _ => good_hl _ ⟨vQ1 H _ _ _ _ _ _ _ _ _ _ _ _ _ hr (hS _), fun _ _ _ _ _ => good_hl _ ⟨vLen _ _ _ _ hlen hlen9, fun _ _ _ _ _ => good_hl _ ⟨vQ2 H _ _ _ _ _ _ _ _ _ _ _ _ hr, fun _ _ _ _ _ => good_hl _ ⟨vW820 _ _ _ _ _ _ _ _ hu hns0 hns9 _, fun _ _ _ _ _ => good_hl _ ⟨vW821 H _ _ _ _ _ _ _ _ _ _, fun _ _ _ _ _ => good_hl _ ⟨vO1 H _ _ _, fun _ _ _ _ _ => good_hl _ ⟨vW822 H _ _ _ _ _ _ _ _ _ _, fun _ _ _ _ _ => good_hl _ ⟨fun _ _ => sLawif _ _ _ _ _, good_hl _ ⟨vNe1 H _ _ _ _ _ _ _, fun _ _ _ _ _ => good_hl _ ⟨vO2 H _ _ _, fun _ _ _ _ _ => good_hl _ ⟨vW824 H _ _ _ _ _ _ _ _ _ _, fun _ _ _ _ _ => good_hl _ ⟨fun _ _ => sLawif _ _ _ _ _, good_hl _ ⟨vNe2 H _ _ _ _ _ _ _, fun _ _ _ _ _ => good_hl _ ⟨vCm10 H c1 _ _ _ _ _ _ _, fun _ _ _ _ _ => good_hl _ ⟨vCm20 H c2 _ _ _ _ _, fun _ _ _ _ _ => good_hl _ ⟨vT6 _ _ _ _ _ _ _ _ _ _, fun _ _ _ _ _ => good_hl _ ⟨fun _ _ => sLawif _ _ _ _ _, good_hl _ ⟨vNeS0 _ _ _, fun _ _ _ _ _ => good_hl _ ⟨vSo H _ _ _ _, fun _ _ _ _ _ => good_hl _ ⟨fun _ _ => sLawr1 _ _ _ _ _ _, good_hl _ ⟨vEq1 H b1 _ _ _ _ _ _ _, fun _ _ _ _ _ => good_hl _ ⟨fun _ _ => sLawr2 _ _ _ _ _ _ _ _, good_hl _ ⟨vEq2 H b2 _ _ _ _ _ _ _ _, fun _ _ _ _ _ => good_hl _ ⟨fun _ _ => sLawr3 _ _ _ _ _, good_hl _ ⟨vEqI _ _ _ _ _ _ _ _ _ _, fun _ _ _ _ _ => good_hl _ trivial⟩⟩⟩⟩⟩⟩⟩⟩⟩⟩⟩⟩⟩⟩⟩⟩⟩⟩⟩⟩⟩⟩⟩⟩⟩⟩⟩⟩⟩⟩⟩⟩⟩⟩⟩⟩) fun B T => ?_
  kernel_rfl
theorem vLawE (q1 q2 : List Nat) (H : Facts [3, 2, 4, 1] q1 q2) (sl : Addr) (n : Nat) (lnF psF : Int) (hS : ∀ s : TS, Src w s (txtOf [3, 8, 4, 1]) 1 0 [3, 2, 4, 1] lnF psF) (c1 : lexLt q1 [3, 2, 4, 1] = true) (c2 : lexLt q2 q1 = true) (b1 : ([3, 2, 4, 1] == srt [3, 2, 4, 1]) = false) (b2 : (q1 == srt [3, 2, 4, 1]) = false) :
    Valid pw w (kt w.params) (cLaw sl [] n) := by
  refine valid_of 1000 (fun B T => hl [1627, 1625, 0, 4, 4, 0, 5, 0, 4] (.rm (lawW0 0 sl (B + 3)) .NotEq (sl) (B + 3) (hl [8, 0, 8, 1] (.j (cNeS sl (B + 3) [] n false) [4, 0] fun α0 τ0 ν0 B0 T0 => hl [0, 8, 8, 8, 8, 8, 8, 7, 7, 12, 4, 4, 1, 0, 4, 0, 0] (.j (cStart (cT1 w.params (kt w.params) (leL B) (B0 + 1) (ofL [T0 + 5, T0 + 6, T0 + 7, T0 + 8, T0 + 9, T0 + 10, T0 + 11, T0 + 12, T0 + 13, T0 + 14, T0 + 15, T0 + 16]) (B0 + 3) (B0 + 0) (B0 + 4) (B0 + 5) 0 [(3, T0 + 0), (8, T0 + 1), (4, T0 + 2), (1, T0 + 3)] 0 0 [] 0 [] (fun a => strValues (tks [3, 8, 4, 1] a)) 4)) [2, 5, 1, 0, 8, 4] fun α1 τ1 ν1 B1 T1 => hl [0, 0, 0] (.j (cJ (B0 + 4) (T0 + 23) [3, 8, 4, 1] α1 4) [1] fun α2 τ2 ν2 B2 T2 => hl [1565] (.j (cStream w.params (kt w.params) (txtOf [3, 8, 4, 1]) (τ2 0)) [11] fun α3 τ3 ν3 B3 T3 => hl [1529, 1529] (.j (cNet w.params (.ref (α3 0))) [] fun α4 τ4 ν4 B4 T4 => hl [0, 38, 38, 7, 1529, 1529] (.j (cNet w.params .none) [] fun α5 τ5 ν5 B5 T5 => hl [0, 44, 44, 7, 1529, 1529] (.j (cNet w.params .none) [] fun α6 τ6 ν6 B6 T6 => hl [0, 50, 50, 7, 1445, 1445] (.j (cShl w.params (T6 + 1)) [] fun α7 τ7 ν7 B7 T7 => hl [0, 62, 62, 7, 62, 62, 62, 7, 1, 62] (.j (cLen (B0 + 0) ([(3, T0 + 0), (8, T0 + 1), (4, T0 + 2), (1, T0 + 3)].map nv) 0 (3 + 1)) [27] fun α8 τ8 ν8 B8 T8 => hl [1579] (.j (cP1 (kt w.params) (tsL w.params α3 τ3 ν3 α4 τ4 (τ2 0)) (txtOf [3, 8, 4, 1]) (psL w.params α5 τ5 α7 τ7 ν7) (leL B) (frO (lawD w.params (ofL [T + 0, T0 + 4, T4 + 0, T5 + 0, T6 + 0, T7 + 0]) [.ref sl, .ref (B0 + 0), .ref (α4 0), .ref (α5 0), .ref (α6 0), .ref (α7 0)] 6) #[]) (fun bk => (rdO ((leL B).env (kt w.params)) bk (frO (lawD w.params (ofL [T + 0, T0 + 4, T4 + 0, T5 + 0, T6 + 0, T7 + 0]) [.ref sl, .ref (B0 + 0), .ref (α4 0), .ref (α5 0), .ref (α6 0), .ref (α7 0)] 6) #[]))) [3, 2, 4, 1] 3 (τ8 0) (τ4 4) (τ3 6) lnF psF (τ7 36) (τ7 37)) [31, 12, 13, 14, 15, 16, 17, 18, 19, 20, 21, 9, 10, 11, 0, 1, 2, 3, 4, 5] fun α9 τ9 ν9 B9 T9 => hl [0, 64, 64, 7, 64, 64, 64, 7, 1, 64] (.j (cLen (B0 + 0) ([(3, T0 + 0), (8, T0 + 1), (4, T0 + 2), (1, T0 + 3)].map nv) 0 (3 + 1)) [28] fun α10 τ10 ν10 B10 T10 => hl [1579] (.j (cP2 (kt w.params) (p2L w.params α5 τ5) (α5 0) (psL w.params α6 τ6 α7 τ7 ν7) (leL B) (rdO ((leL B).env (kt w.params)) (ν9 0) (frO (lawD w.params (ofL [T + 0, T0 + 4, T4 + 0, T5 + 0, T6 + 0, T7 + 0, T9 + 0]) [.ref sl, .ref (B0 + 0), .ref (α4 0), .ref (α5 0), .ref (α6 0), .ref (α7 0), .ref (α9 0)] 7) #[])) (fun _ => (rdO ((leL B).env (kt w.params)) (ν9 0) (frO (lawD w.params (ofL [T + 0, T0 + 4, T4 + 0, T5 + 0, T6 + 0, T7 + 0, T9 + 0]) [.ref sl, .ref (B0 + 0), .ref (α4 0), .ref (α5 0), .ref (α6 0), .ref (α7 0), .ref (α9 0)] 7) #[]))) (passW (wds [3, 2, 4, 1] fun i => α9 (i + 1))) 3 (τ10 0) (nF (wds [3, 2, 4, 1] fun i => α9 (i + 1))) (mF' (wds [3, 2, 4, 1] fun i => α9 (i + 1)) 0) (kS [] (τ9 0))) [32, 10, 11, 12, 7, 8, 9, 1, 2, 3, 4, 5, 6] fun α11 τ11 ν11 B11 T11 => hl [0, 66, 66, 66, 58, 58, 1, 0, 58, 0, 0] (.j (cStart (cT2 w.params (kt w.params) (leL B) (B11 + 0) (B0 + 0) (B11 + 1) (B11 + 2) 0 [(3, T0 + 0), (8, T0 + 1), (4, T0 + 2), (1, T0 + 3)] 0 0 [] 0 [] (fun a => (wds [3, 2, 4, 1] a).map iv) 4)) [2, 32, 1, 0] fun α12 τ12 ν12 B12 T12 => hl [0, 72, 72, 0, 0, 0, 72, 2, 2, 1, 0, 2, 0, 0] (.j (cStart (cT3 w.params (kt w.params) (lawC821 (kt w.params)) (leL B) (B0 + 2) (ofL [T0 + 17, T0 + 18, T0 + 19, T0 + 20, T0 + 21, T0 + 22]) (B12 + 0) (B11 + 1) (B12 + 1) (B12 + 2) 0 (wds [3, 2, 4, 1] α12) 4 0 [] 0 [] ((atP (ofL [T0 + 17, T0 + 18, T0 + 19, T0 + 20, T0 + 21, T0 + 22]) (wds [3, 2, 4, 1] α12)).map ev) (wds [3, 2, 4, 1] α12).length)) [2, 4, 1, 0, 37, 33] fun α13 τ13 ν13 B13 T13 => hl [0, 78, 78, 0, 0, 0, 78, 7, 78, 7, 1617] (.j (cOrd 796 (B11 + 1) (wds [3, 2, 4, 1] α12) 4 ((o1 (wds [3, 2, 4, 1] α12)).map iv) (wds [3, 2, 4, 1] α12).length) [4] fun α14 τ14 ν14 B14 T14 => hl [0, 0, 1, 0, 0, 0, 0] (.j (cStart (cT3 w.params (kt w.params) (lawC822 (kt w.params)) (leL B) (B0 + 2) (ofL [T0 + 17, T0 + 18, T0 + 19, T0 + 20, T0 + 21, T0 + 22]) (B14 + 0) (α14 0) (B14 + 1) (B14 + 2) 0 (o1 (wds [3, 2, 4, 1] α12)) (wds [3, 2, 4, 1] α12).length 0 [] 0 [] ((atP (ofL [T0 + 17, T0 + 18, T0 + 19, T0 + 20, T0 + 21, T0 + 22]) (o1 (wds [3, 2, 4, 1] α12))).map ev) (o1 (wds [3, 2, 4, 1] α12)).length)) [2, 3, 1, 0, 41, 37] fun α15 τ15 ν15 B15 T15 => hl [0, 0, 0] (.rm (lawWif 11 (α9 0) (B14 + 1)) .NotEq (α9 0) (B14 + 1) (hl [22, 2, 22, 1] (.j (cNeW (α9 0) (B14 + 1) (passW (wds [3, 2, 4, 1] fun i => α9 (i + 1))) (atP (ofL [T0 + 17, T0 + 18, T0 + 19, T0 + 20, T0 + 21, T0 + 22]) (o1 (wds [3, 2, 4, 1] α12))) (ep1 ((passW (wds [3, 2, 4, 1] fun i => α9 (i + 1))).map ev)) (o1 (wds [3, 2, 4, 1] α12)).length false) [11, 1] fun α16 τ16 ν16 B16 T16 => hl [86, 7, 86, 7, 1617] (.j (cOrd 803 (B11 + 1) (wds [3, 2, 4, 1] α12) 4 ((o2 (wds [3, 2, 4, 1] α12)).map iv) (wds [3, 2, 4, 1] α12).length) [8] fun α17 τ17 ν17 B17 T17 => hl [0, 0, 1, 0, 0, 0, 0] (.j (cStart (cT3 w.params (kt w.params) (lawC824 (kt w.params)) (leL B) (B0 + 2) (ofL [T0 + 17, T0 + 18, T0 + 19, T0 + 20, T0 + 21, T0 + 22]) (B17 + 0) (α17 0) (B17 + 1) (B17 + 2) 0 (o2 (wds [3, 2, 4, 1] α12)) (wds [3, 2, 4, 1] α12).length 0 [] 0 [] ((atP (ofL [T0 + 17, T0 + 18, T0 + 19, T0 + 20, T0 + 21, T0 + 22]) (o2 (wds [3, 2, 4, 1] α12))).map ev) (o2 (wds [3, 2, 4, 1] α12)).length)) [2, 3, 1, 0, 45, 41] fun α18 τ18 ν18 B18 T18 => hl [0, 0, 0] (.rm (lawWif 12 (α11 0) (B17 + 1)) .NotEq (α11 0) (B17 + 1) (hl [28, 2, 28, 1] (.j (cNeW (α11 0) (B17 + 1) (passW (passW (wds [3, 2, 4, 1] fun i => α9 (i + 1)))) (atP (ofL [T0 + 17, T0 + 18, T0 + 19, T0 + 20, T0 + 21, T0 + 22]) (o2 (wds [3, 2, 4, 1] α12))) (ep1 ((passW (passW (wds [3, 2, 4, 1] fun i => α9 (i + 1)))).map ev)) (o2 (wds [3, 2, 4, 1] α12)).length false) [14, 1] fun α19 τ19 ν19 B19 T19 => hl [7, 94, 94, 1551] (.j (cCmpL (α9 0) (B12 + 1) (passW (wds [3, 2, 4, 1] fun i => α9 (i + 1))) (atP (ofL [T0 + 17, T0 + 18, T0 + 19, T0 + 20, T0 + 21, T0 + 22]) (wds [3, 2, 4, 1] α12)) (ep1 ((passW (wds [3, 2, 4, 1] fun i => α9 (i + 1))).map ev)) (wds [3, 2, 4, 1] α12).length (-1)) [15, 9] fun α20 τ20 ν20 B20 T20 => hl [7, 94, 94, 1551] (.j (cCmpL (α11 0) (α9 0) (passW (passW (wds [3, 2, 4, 1] fun i => α9 (i + 1)))) (passW (wds [3, 2, 4, 1] fun i => α9 (i + 1))) (ep1 ((passW (passW (wds [3, 2, 4, 1] fun i => α9 (i + 1)))).map ev)) (ep1 ((passW (wds [3, 2, 4, 1] fun i => α9 (i + 1))).map ev)) (-1)) [14, 15] fun α21 τ21 ν21 B21 T21 => hl [0, 96, 96, 96, 0, 0, 1, 0, 0, 0, 0] (.j (cT6 w.params (kt w.params) (leL B) (B21 + 1) (B21 + 0) (B21 + 2) (B21 + 3) (-1) (-1) (τ20 0) (τ21 0) 0) [2, 3, 1, 0] fun α22 τ22 ν22 B22 T22 => hl [0, 0, 0] (.rm (lawWif 14 (B21 + 2) (B22 + 0)) .NotEq (B21 + 2) (B22 + 0) (hl [4, 0, 4, 1] (.j (cNeS (B21 + 2) (B22 + 0) [] 0 false) [2, 0] fun α23 τ23 ν23 B23 T23 => hl [7, 1, 104] (.j (cSort (B12 + 1) (atP (ofL [T0 + 17, T0 + 18, T0 + 19, T0 + 20, T0 + 21, T0 + 22]) (wds [3, 2, 4, 1] α12)) (wds [3, 2, 4, 1] α12).length) [14] fun α24 τ24 ν24 B24 T24 => hl [0, 106, 106, 106, 106, 106] (.rm (lawWr1 16 (B21 + 0) (B12 + 1) (α24 0)) .Eq (B12 + 1) (α24 0) (hl [30, 0, 30, 1] (.j (cEqW (B12 + 1) (α24 0) (atP (ofL [T0 + 17, T0 + 18, T0 + 19, T0 + 20, T0 + 21, T0 + 22]) (wds [3, 2, 4, 1] α12)) (wds (srt (rk (atP (ofL [T0 + 17, T0 + 18, T0 + 19, T0 + 20, T0 + 21, T0 + 22]) (wds [3, 2, 4, 1] α12)))) τ24) (wds [3, 2, 4, 1] α12).length (α24 1) false) [15, 0] fun α25 τ25 ν25 B25 T25 => hl [0, 0, 106, 106] (.rm (lawWr2 16 (B21 + 0) (-1) (T25 + 1) (α9 0) (α24 0)) .Eq (α9 0) (α24 0) (hl [42, 0, 42, 1] (.j (cEqW (α9 0) (α24 0) (passW (wds [3, 2, 4, 1] fun i => α9 (i + 1))) (wds (srt (rk (atP (ofL [T0 + 17, T0 + 18, T0 + 19, T0 + 20, T0 + 21, T0 + 22]) (wds [3, 2, 4, 1] α12)))) τ24) (ep1 ((passW (wds [3, 2, 4, 1] fun i => α9 (i + 1))).map ev)) (α24 1) false) [21, 0] fun α26 τ26 ν26 B26 T26 => hl [0, 0] (.rm (lawWr3 16 (B21 + 0) (B26 + 0)) .Eq (B21 + 0) (B26 + 0) (hl [12, 0, 12, 1] (.j (cEqI (B21 + 0) (B26 + 0) (-1) (-1) (τ20 0) (τ21 0) (T25 + 1) (T26 + 1) 0 0) [6, 0] fun α27 τ27 ν27 B27 T27 => hl [] (.fin (ofL []) (ofL []) (ofV [ν3 24, ν3 25, ν3 26]) [])))))))))))))))))))))))))))))))))))))))))))) (fun B T => good_hl _ ⟨fun _ _ => sLaw0 _ _ _ _ _, good_hl _ ⟨vNeS0 _ _ _, fun _ _ _ _ _ => good_hl _ ⟨vW814 _ _ _ _ _ _ _ _ _ _ rfl (by simp) (by simp) _, fun _ _ _ _ _ => good_hl _ ⟨vJ _ _ _ _ _ (by simp), fun _ _ _ _ _ => good_hl _ ⟨vStream _ _, fun _ _ _ _ _ => good_hl _ ⟨vNet1 _, fun _ _ _ _ _ => good_hl _ ⟨vNet0, fun _ _ _ _ _ => good_hl _ ⟨vNet0, fun _ _ _ _ _ => good_hl _ ⟨vShl _, fun _ _ _ _ _ => good_hl _ ⟨vLen _ _ _ _ rfl (by simp), fun _ _ _ _ _ => good_hl _ ⟨vQ1 H _ _ _ _ _ _ _ _ _ _ _ _ _ rfl (hS _), fun _ _ _ _ _ => good_hl _ ⟨vLen _ _ _ _ rfl (by simp), fun _ _ _ _ _ => good_hl _ ⟨vQ2 H _ _ _ _ _ _ _ _ _ _ _ _ rfl, fun _ _ _ _ _ => good_hl _ ⟨vW820 _ _ _ _ _ _ _ _ rfl (by simp) (by simp) _, fun _ _ _ _ _ => good_hl _ ⟨vW821 H _ _ _ _ _ _ _ _ _ _, fun _ _ _ _ _ => good_hl _ ⟨vO1 H _ _ _, fun _ _ _ _ _ => good_hl _ ⟨vW822 H _ _ _ _ _ _ _ _ _ _, fun _ _ _ _ _ => good_hl _ ⟨fun _ _ => sLawif _ _ _ _ _, good_hl _ ⟨vNe1 H _ _ _ _ _ _ _, fun _ _ _ _ _ => good_hl _ ⟨vO2 H _ _ _, fun _ _ _ _ _ => good_hl _ ⟨vW824 H _ _ _ _ _ _ _ _ _ _, fun _ _ _ _ _ => good_hl _ ⟨fun _ _ => sLawif _ _ _ _ _, good_hl _ ⟨vNe2 H _ _ _ _ _ _ _, fun _ _ _ _ _ => good_hl _ ⟨vCm11 H c1 _ _ _ _ _ _ _, fun _ _ _ _ _ => good_hl _ ⟨vCm21 H c2 _ _ _ _ _, fun _ _ _ _ _ => good_hl _ ⟨vT6 _ _ _ _ _ _ _ _ _ _, fun _ _ _ _ _ => good_hl _ ⟨fun _ _ => sLawif _ _ _ _ _, good_hl _ ⟨vNeS0 _ _ _, fun _ _ _ _ _ => good_hl _ ⟨vSo H _ _ _ _, fun _ _ _ _ _ => good_hl _ ⟨fun _ _ => sLawr1 _ _ _ _ _ _, good_hl _ ⟨vEq1 H b1 _ _ _ _ _ _ _, fun _ _ _ _ _ => good_hl _ ⟨fun _ _ => sLawr2 _ _ _ _ _ _ _ _, good_hl _ ⟨vEq2 H b2 _ _ _ _ _ _ _ _, fun _ _ _ _ _ => good_hl _ ⟨fun _ _ => sLawr3 _ _ _ _ _, good_hl _ ⟨vEqI _ _ _ _ _ _ _ _ _ _, fun _ _ _ _ _ => good_hl _ trivial⟩⟩⟩⟩⟩⟩⟩⟩⟩⟩⟩⟩⟩⟩⟩⟩⟩⟩⟩⟩⟩⟩⟩⟩⟩⟩⟩⟩⟩⟩⟩⟩⟩⟩⟩) fun B T => ?_
  kernel_rfl
end
end Mine
/-! part C24 -/
set_option maxRecDepth 100000
set_option linter.unusedVariables false
namespace Mine
open PySem PySem.Spec PySem.Calls PyProof.Rows PySem.W PySem.W.X
/-- what stands in a text from a place on -/
def AtZ (txt : Str) (p : Int) (l : List Nat) : Prop := ∃ pre : List Nat, txt.cps.toList = pre ++ l ∧ p = (pre.length : Int)
theorem AtZ.next {txt : Str} {p : Int} {c : Nat} {l : List Nat} (h : AtZ txt p (c :: l)) : AtZ txt (p + 1) l := by
  obtain ⟨pre, h1, h2⟩ := h
  exact ⟨pre ++ [c], by simp [h1], by rw [h2]; simp⟩
section
variable {w : World}
theorem AtZ.slice {txt : Str} {p : Int} {c : Nat} {l : List Nat} (h : AtZ txt p (c :: l)) (h2 : 2 ≤ txt.cps.size) (t : Tok) (a : Addr) (ti tj : Tok) : Valid pw w (kt w.params) (cSlice txt t a p (p + 1) ti tj c) := by
  obtain ⟨pre, h1, rfl⟩ := h
  refine vSlice txt t a pre.length _ ti tj c rfl ?_ h2
  rw [← Array.getElem?_toList, h1]
  simp
theorem AtZ.rd {txt : Str} {p : Int} {c : Nat} {l : List Nat} (h : AtZ txt p (c :: l)) (h2 : 2 ≤ txt.cps.size) (hc : (c == 10) = false) (s : TS) : Rd w s txt p c := fun ln tl tp =>
  vRead' s txt ln tl p tp c (fun a ti tj => h.slice h2 s.tt a ti tj) fun t u => vStrEq _ _ _ _ _ (by show ([c] == [10]) = false; simp only [List.cons_beq_cons, hc, Bool.false_and])
theorem AtZ.rdN {txt : Str} {p : Int} {l : List Nat} (h : AtZ txt p (10 :: l)) (h2 : 2 ≤ txt.cps.size) (s : TS) : RdN w s txt p := fun ln tl tp =>
  vReadN' s txt ln tl p tp 10 rfl (fun a ti tj => h.slice h2 s.tt a ti tj) fun t u => vStrEq _ _ _ _ _ rfl
def flat (ks : List Nat) : List Nat := ks.flatMap fun k => wr k ++ [10]
def nlB (b : Bool) : List Nat := match b with | true => [10] | false => []
theorem src_of (txt : Str) (h2 : 2 ≤ txt.cps.size) : ∀ (ks : List Nat) (b : Bool) (ln p : Int), (∀ k ∈ ks, k < 12) → AtZ txt p (nlB b ++ flat ks) → ∃ lnF psF, ∀ s : TS, Src w s txt ln p (ks.map (· % 6)) lnF psF
  | [], b, ln, p, _, _ => ⟨ln, p, fun s => ⟨rfl, rfl⟩⟩
  | k :: ks, b, ln, p, h12, hat => by
    have hk : k < 12 := h12 k (.head _)
    have h12' : ∀ k ∈ ks, k < 12 := fun k hk => h12 k (.tail _ hk)
    match k, hk, b with
    | 0, _, false =>
      have g0 : AtZ txt p (34 :: 34 :: 10 :: flat ks) := hat
      have g1 := g0.next
      have g2 := g1.next
      obtain ⟨lnF, psF, ih⟩ := src_of txt h2 ks true (ln) (p + 1 + 1) h12' g2
      exact ⟨lnF, psF, fun s => ⟨_, _, fun tl tp => vTok0_0 s txt ln tl p tp (g0.rd h2 rfl s) (g1.rd h2 rfl s), ih s⟩⟩
    | 0, _, true =>
      have g0 : AtZ txt p (10 :: 34 :: 34 :: 10 :: flat ks) := hat
      have g1 := g0.next
      have g2 := g1.next
      have g3 := g2.next
      obtain ⟨lnF, psF, ih⟩ := src_of txt h2 ks true (ln + 1) (p + 1 + 1 + 1) h12' g3
      exact ⟨lnF, psF, fun s => ⟨_, _, fun tl tp => vTok1_0 s txt ln tl p tp (g0.rdN h2 s) (g1.rd h2 rfl s) (g2.rd h2 rfl s), ih s⟩⟩
    | 1, _, false =>
      have g0 : AtZ txt p (92 :: 32 :: 98 :: 10 :: flat ks) := hat
      have g1 := g0.next
      have g2 := g1.next
      have g3 := g2.next
      have g4 := g3.next
      obtain ⟨lnF, psF, ih⟩ := src_of txt h2 ks false (ln + 1) (p + 1 + 1 + 1 + 1) h12' g4
      exact ⟨lnF, psF, fun s => ⟨_, _, fun tl tp => vTok0_1 s txt ln tl p tp (g0.rd h2 rfl s) (g1.rd h2 rfl s) (g2.rd h2 rfl s) (g3.rdN h2 s), ih s⟩⟩
    | 1, _, true =>
      have g0 : AtZ txt p (10 :: 92 :: 32 :: 98 :: 10 :: flat ks) := hat
      have g1 := g0.next
      have g2 := g1.next
      have g3 := g2.next
      have g4 := g3.next
      have g5 := g4.next
      obtain ⟨lnF, psF, ih⟩ := src_of txt h2 ks false (ln + 1 + 1) (p + 1 + 1 + 1 + 1 + 1) h12' g5
      exact ⟨lnF, psF, fun s => ⟨_, _, fun tl tp => vTok1_1 s txt ln tl p tp (g0.rdN h2 s) (g1.rd h2 rfl s) (g2.rd h2 rfl s) (g3.rd h2 rfl s) (g4.rdN h2 s), ih s⟩⟩
    | 2, _, false =>
      have g0 : AtZ txt p (92 :: 34 :: 10 :: flat ks) := hat
      have g1 := g0.next
      have g2 := g1.next
      have g3 := g2.next
      obtain ⟨lnF, psF, ih⟩ := src_of txt h2 ks false (ln + 1) (p + 1 + 1 + 1) h12' g3
      exact ⟨lnF, psF, fun s => ⟨_, _, fun tl tp => vTok0_2 s txt ln tl p tp (g0.rd h2 rfl s) (g1.rd h2 rfl s) (g2.rdN h2 s), ih s⟩⟩
    | 2, _, true =>
      have g0 : AtZ txt p (10 :: 92 :: 34 :: 10 :: flat ks) := hat
      have g1 := g0.next
      have g2 := g1.next
      have g3 := g2.next
      have g4 := g3.next
      obtain ⟨lnF, psF, ih⟩ := src_of txt h2 ks false (ln + 1 + 1) (p + 1 + 1 + 1 + 1) h12' g4
      exact ⟨lnF, psF, fun s => ⟨_, _, fun tl tp => vTok1_2 s txt ln tl p tp (g0.rdN h2 s) (g1.rd h2 rfl s) (g2.rd h2 rfl s) (g3.rdN h2 s), ih s⟩⟩
    | 3, _, false =>
      have g0 : AtZ txt p (97 :: 10 :: flat ks) := hat
      have g1 := g0.next
      have g2 := g1.next
      obtain ⟨lnF, psF, ih⟩ := src_of txt h2 ks false (ln + 1) (p + 1 + 1) h12' g2
      exact ⟨lnF, psF, fun s => ⟨_, _, fun tl tp => vTok0_3 s txt ln tl p tp (g0.rd h2 rfl s) (g1.rdN h2 s), ih s⟩⟩
    | 3, _, true =>
      have g0 : AtZ txt p (10 :: 97 :: 10 :: flat ks) := hat
      have g1 := g0.next
      have g2 := g1.next
      have g3 := g2.next
      obtain ⟨lnF, psF, ih⟩ := src_of txt h2 ks false (ln + 1 + 1) (p + 1 + 1 + 1) h12' g3
      exact ⟨lnF, psF, fun s => ⟨_, _, fun tl tp => vTok1_3 s txt ln tl p tp (g0.rdN h2 s) (g1.rd h2 rfl s) (g2.rdN h2 s), ih s⟩⟩
    | 4, _, false =>
      have g0 : AtZ txt p (97 :: 92 :: 92 :: 10 :: flat ks) := hat
      have g1 := g0.next
      have g2 := g1.next
      have g3 := g2.next
      have g4 := g3.next
      obtain ⟨lnF, psF, ih⟩ := src_of txt h2 ks false (ln + 1) (p + 1 + 1 + 1 + 1) h12' g4
      exact ⟨lnF, psF, fun s => ⟨_, _, fun tl tp => vTok0_4 s txt ln tl p tp (g0.rd h2 rfl s) (g1.rd h2 rfl s) (g2.rd h2 rfl s) (g3.rdN h2 s), ih s⟩⟩
    | 4, _, true =>
      have g0 : AtZ txt p (10 :: 97 :: 92 :: 92 :: 10 :: flat ks) := hat
      have g1 := g0.next
      have g2 := g1.next
      have g3 := g2.next
      have g4 := g3.next
      have g5 := g4.next
      obtain ⟨lnF, psF, ih⟩ := src_of txt h2 ks false (ln + 1 + 1) (p + 1 + 1 + 1 + 1 + 1) h12' g5
      exact ⟨lnF, psF, fun s => ⟨_, _, fun tl tp => vTok1_4 s txt ln tl p tp (g0.rdN h2 s) (g1.rd h2 rfl s) (g2.rd h2 rfl s) (g3.rd h2 rfl s) (g4.rdN h2 s), ih s⟩⟩
    | 5, _, false =>
      have g0 : AtZ txt p (105 :: 116 :: 39 :: 115 :: 10 :: flat ks) := hat
      have g1 := g0.next
      have g2 := g1.next
      have g3 := g2.next
      have g4 := g3.next
      have g5 := g4.next
      obtain ⟨lnF, psF, ih⟩ := src_of txt h2 ks false (ln + 1) (p + 1 + 1 + 1 + 1 + 1) h12' g5
      exact ⟨lnF, psF, fun s => ⟨_, _, fun tl tp => vTok0_5 s txt ln tl p tp (g0.rd h2 rfl s) (g1.rd h2 rfl s) (g2.rd h2 rfl s) (g3.rd h2 rfl s) (g4.rdN h2 s), ih s⟩⟩
    | 5, _, true =>
      have g0 : AtZ txt p (10 :: 105 :: 116 :: 39 :: 115 :: 10 :: flat ks) := hat
      have g1 := g0.next
      have g2 := g1.next
      have g3 := g2.next
      have g4 := g3.next
      have g5 := g4.next
      have g6 := g5.next
      obtain ⟨lnF, psF, ih⟩ := src_of txt h2 ks false (ln + 1 + 1) (p + 1 + 1 + 1 + 1 + 1 + 1) h12' g6
      exact ⟨lnF, psF, fun s => ⟨_, _, fun tl tp => vTok1_5 s txt ln tl p tp (g0.rdN h2 s) (g1.rd h2 rfl s) (g2.rd h2 rfl s) (g3.rd h2 rfl s) (g4.rd h2 rfl s) (g5.rdN h2 s), ih s⟩⟩
    | 6, _, false =>
      have g0 : AtZ txt p (34 :: 34 :: 10 :: flat ks) := hat
      have g1 := g0.next
      have g2 := g1.next
      obtain ⟨lnF, psF, ih⟩ := src_of txt h2 ks true (ln) (p + 1 + 1) h12' g2
      exact ⟨lnF, psF, fun s => ⟨_, _, fun tl tp => vTok0_0 s txt ln tl p tp (g0.rd h2 rfl s) (g1.rd h2 rfl s), ih s⟩⟩
    | 6, _, true =>
      have g0 : AtZ txt p (10 :: 34 :: 34 :: 10 :: flat ks) := hat
      have g1 := g0.next
      have g2 := g1.next
      have g3 := g2.next
      obtain ⟨lnF, psF, ih⟩ := src_of txt h2 ks true (ln + 1) (p + 1 + 1 + 1) h12' g3
      exact ⟨lnF, psF, fun s => ⟨_, _, fun tl tp => vTok1_0 s txt ln tl p tp (g0.rdN h2 s) (g1.rd h2 rfl s) (g2.rd h2 rfl s), ih s⟩⟩
    | 7, _, false =>
      have g0 : AtZ txt p (34 :: 32 :: 98 :: 34 :: 10 :: flat ks) := hat
      have g1 := g0.next
      have g2 := g1.next
      have g3 := g2.next
      have g4 := g3.next
      obtain ⟨lnF, psF, ih⟩ := src_of txt h2 ks true (ln) (p + 1 + 1 + 1 + 1) h12' g4
      exact ⟨lnF, psF, fun s => ⟨_, _, fun tl tp => vTok0_7 s txt ln tl p tp (g0.rd h2 rfl s) (g1.rd h2 rfl s) (g2.rd h2 rfl s) (g3.rd h2 rfl s), ih s⟩⟩
    | 7, _, true =>
      have g0 : AtZ txt p (10 :: 34 :: 32 :: 98 :: 34 :: 10 :: flat ks) := hat
      have g1 := g0.next
      have g2 := g1.next
      have g3 := g2.next
      have g4 := g3.next
      have g5 := g4.next
      obtain ⟨lnF, psF, ih⟩ := src_of txt h2 ks true (ln + 1) (p + 1 + 1 + 1 + 1 + 1) h12' g5
      exact ⟨lnF, psF, fun s => ⟨_, _, fun tl tp => vTok1_7 s txt ln tl p tp (g0.rdN h2 s) (g1.rd h2 rfl s) (g2.rd h2 rfl s) (g3.rd h2 rfl s) (g4.rd h2 rfl s), ih s⟩⟩
    | 8, _, false =>
      have g0 : AtZ txt p (34 :: 92 :: 34 :: 34 :: 10 :: flat ks) := hat
      have g1 := g0.next
      have g2 := g1.next
      have g3 := g2.next
      have g4 := g3.next
      obtain ⟨lnF, psF, ih⟩ := src_of txt h2 ks true (ln) (p + 1 + 1 + 1 + 1) h12' g4
      exact ⟨lnF, psF, fun s => ⟨_, _, fun tl tp => vTok0_8 s txt ln tl p tp (g0.rd h2 rfl s) (g1.rd h2 rfl s) (g2.rd h2 rfl s) (g3.rd h2 rfl s), ih s⟩⟩
    | 8, _, true =>
      have g0 : AtZ txt p (10 :: 34 :: 92 :: 34 :: 34 :: 10 :: flat ks) := hat
      have g1 := g0.next
      have g2 := g1.next
      have g3 := g2.next
      have g4 := g3.next
      have g5 := g4.next
      obtain ⟨lnF, psF, ih⟩ := src_of txt h2 ks true (ln + 1) (p + 1 + 1 + 1 + 1 + 1) h12' g5
      exact ⟨lnF, psF, fun s => ⟨_, _, fun tl tp => vTok1_8 s txt ln tl p tp (g0.rdN h2 s) (g1.rd h2 rfl s) (g2.rd h2 rfl s) (g3.rd h2 rfl s) (g4.rd h2 rfl s), ih s⟩⟩
    | 9, _, false =>
      have g0 : AtZ txt p (34 :: 97 :: 34 :: 10 :: flat ks) := hat
      have g1 := g0.next
      have g2 := g1.next
      have g3 := g2.next
      obtain ⟨lnF, psF, ih⟩ := src_of txt h2 ks true (ln) (p + 1 + 1 + 1) h12' g3
      exact ⟨lnF, psF, fun s => ⟨_, _, fun tl tp => vTok0_9 s txt ln tl p tp (g0.rd h2 rfl s) (g1.rd h2 rfl s) (g2.rd h2 rfl s), ih s⟩⟩
    | 9, _, true =>
      have g0 : AtZ txt p (10 :: 34 :: 97 :: 34 :: 10 :: flat ks) := hat
      have g1 := g0.next
      have g2 := g1.next
      have g3 := g2.next
      have g4 := g3.next
      obtain ⟨lnF, psF, ih⟩ := src_of txt h2 ks true (ln + 1) (p + 1 + 1 + 1 + 1) h12' g4
      exact ⟨lnF, psF, fun s => ⟨_, _, fun tl tp => vTok1_9 s txt ln tl p tp (g0.rdN h2 s) (g1.rd h2 rfl s) (g2.rd h2 rfl s) (g3.rd h2 rfl s), ih s⟩⟩
    | 10, _, false =>
      have g0 : AtZ txt p (34 :: 97 :: 92 :: 92 :: 34 :: 10 :: flat ks) := hat
      have g1 := g0.next
      have g2 := g1.next
      have g3 := g2.next
      have g4 := g3.next
      have g5 := g4.next
      obtain ⟨lnF, psF, ih⟩ := src_of txt h2 ks true (ln) (p + 1 + 1 + 1 + 1 + 1) h12' g5
      exact ⟨lnF, psF, fun s => ⟨_, _, fun tl tp => vTok0_10 s txt ln tl p tp (g0.rd h2 rfl s) (g1.rd h2 rfl s) (g2.rd h2 rfl s) (g3.rd h2 rfl s) (g4.rd h2 rfl s), ih s⟩⟩
    | 10, _, true =>
      have g0 : AtZ txt p (10 :: 34 :: 97 :: 92 :: 92 :: 34 :: 10 :: flat ks) := hat
      have g1 := g0.next
      have g2 := g1.next
      have g3 := g2.next
      have g4 := g3.next
      have g5 := g4.next
      have g6 := g5.next
      obtain ⟨lnF, psF, ih⟩ := src_of txt h2 ks true (ln + 1) (p + 1 + 1 + 1 + 1 + 1 + 1) h12' g6
      exact ⟨lnF, psF, fun s => ⟨_, _, fun tl tp => vTok1_10 s txt ln tl p tp (g0.rdN h2 s) (g1.rd h2 rfl s) (g2.rd h2 rfl s) (g3.rd h2 rfl s) (g4.rd h2 rfl s) (g5.rd h2 rfl s), ih s⟩⟩
    | 11, _, false =>
      have g0 : AtZ txt p (34 :: 105 :: 116 :: 39 :: 115 :: 34 :: 10 :: flat ks) := hat
      have g1 := g0.next
      have g2 := g1.next
      have g3 := g2.next
      have g4 := g3.next
      have g5 := g4.next
      have g6 := g5.next
      obtain ⟨lnF, psF, ih⟩ := src_of txt h2 ks true (ln) (p + 1 + 1 + 1 + 1 + 1 + 1) h12' g6
      exact ⟨lnF, psF, fun s => ⟨_, _, fun tl tp => vTok0_11 s txt ln tl p tp (g0.rd h2 rfl s) (g1.rd h2 rfl s) (g2.rd h2 rfl s) (g3.rd h2 rfl s) (g4.rd h2 rfl s) (g5.rd h2 rfl s), ih s⟩⟩
    | 11, _, true =>
      have g0 : AtZ txt p (10 :: 34 :: 105 :: 116 :: 39 :: 115 :: 34 :: 10 :: flat ks) := hat
      have g1 := g0.next
      have g2 := g1.next
      have g3 := g2.next
      have g4 := g3.next
      have g5 := g4.next
      have g6 := g5.next
      have g7 := g6.next
      obtain ⟨lnF, psF, ih⟩ := src_of txt h2 ks true (ln + 1) (p + 1 + 1 + 1 + 1 + 1 + 1 + 1) h12' g7
      exact ⟨lnF, psF, fun s => ⟨_, _, fun tl tp => vTok1_11 s txt ln tl p tp (g0.rdN h2 s) (g1.rd h2 rfl s) (g2.rd h2 rfl s) (g3.rd h2 rfl s) (g4.rd h2 rfl s) (g5.rd h2 rfl s) (g6.rd h2 rfl s), ih s⟩⟩
theorem txt_two : ∀ ks : List Nat, ks ≠ [] → 2 ≤ (txtOf ks).cps.size
  | [], h => absurd rfl h
  | k :: ks, _ => by
    have : 1 ≤ (wr k).length := by unfold wr; split <;> simp
    show 2 ≤ ((k :: ks).flatMap fun k => wr k ++ [10]).length
    simp only [List.flatMap_cons, List.length_append, List.length_cons, List.length_nil]
    omega
theorem src_txt (ks us : List Nat) (hne : ks ≠ []) (h12 : ∀ k ∈ ks, k < 12) (hu : us = ks.map (· % 6)) : ∃ lnF psF, ∀ s : TS, Src w s (txtOf ks) 1 0 us lnF psF := by
  subst hu
  exact src_of (txtOf ks) (txt_two ks hne) ks false 1 0 h12 ⟨[], rfl, rfl⟩
theorem fmod_six (x : Int) : (x.fmod 6).toNat = (x.fmod 12).toNat % 6 := by
  have h1 := Int.fmod_nonneg_of_pos x (b := 12) (by decide)
  have h2 := Int.fmod_nonneg_of_pos x (b := 6) (by decide)
  rw [Int.fmod_eq_emod_of_nonneg x (by decide)] at h1 ⊢
  rw [Int.fmod_eq_emod_of_nonneg x (by decide)] at h2 ⊢
  omega
end
end Mine
/-! part P1 -/
set_option linter.unusedVariables false
namespace Mine
/-! the plain law: a pass is a machine on a stack -/
section
variable {α : Type}
def lo (f : α → Nat) (u : Nat) : List α → List α
  | [] => []
  | x :: r => if f x < u then x :: lo f u r else []
def hi (f : α → Nat) (u : Nat) : List α → List α
  | [] => []
  | x :: r => if f x < u then hi f u r else x :: r
def stp (f : α → Nat) (p : List α × List α) (a : α) : List α × List α := (p.1 ++ lo f (f a) p.2, a :: hi f (f a) p.2)
def mrun (f : α → Nat) (us : List α) (p : List α × List α) : List α × List α := us.foldl (stp f) p
theorem lo_hi (f : α → Nat) (u : Nat) : ∀ s, lo f u s ++ hi f u s = s
  | [] => rfl
  | x :: r => by
    unfold lo hi
    split
    · rw [List.cons_append, lo_hi f u r]
    · rfl
theorem lo_lt (f : α → Nat) (u : Nat) : ∀ s, ∀ x ∈ lo f u s, f x < u
  | [], x, h => nomatch h
  | y :: r, x, h => by
    unfold lo at h
    split at h
    · rename_i hy
      rcases List.mem_cons.mp h with z | z
      · rw [z]; exact hy
      · exact lo_lt f u r x z
    · nomatch h
def SrtF (f : α → Nat) (s : List α) : Prop := s.Pairwise fun a b => f a ≤ f b
theorem hi_ge (f : α → Nat) (u : Nat) : ∀ s, SrtF f s → ∀ x ∈ hi f u s, u ≤ f x
  | [], _, x, h => nomatch h
  | y :: r, hs, x, h => by
    have hs' := List.pairwise_cons.mp hs
    unfold hi at h
    split at h
    · exact hi_ge f u r hs'.2 x h
    · rename_i hy
      rcases List.mem_cons.mp h with z | z
      · rw [z]; omega
      · have := hs'.1 x z; omega
theorem hi_sub (f : α → Nat) (u : Nat) : ∀ s : List α, (hi f u s).Sublist s
  | [] => .slnil
  | y :: r => by
    unfold hi
    split
    · exact (hi_sub f u r).cons y
    · exact List.Sublist.refl _
theorem lo_sub (f : α → Nat) (u : Nat) : ∀ s : List α, (lo f u s).Sublist s
  | [] => .slnil
  | y :: r => by
    unfold lo
    split
    · exact (lo_sub f u r).cons_cons y
    · exact List.nil_sublist _
theorem stp_srt (f : α → Nat) (p : List α × List α) (a : α) (h : SrtF f p.2) : SrtF f (stp f p a).2 :=
  List.pairwise_cons.mpr ⟨fun x hx => hi_ge f _ _ h x hx, List.Pairwise.sublist (hi_sub f _ _) h⟩
theorem mrun_srt (f : α → Nat) : ∀ (us : List α) (p : List α × List α), SrtF f p.2 → SrtF f (mrun f us p).2
  | [], p, h => h
  | u :: us, p, h => mrun_srt f us _ (stp_srt f p u h)
theorem mrun_app (f : α → Nat) (us vs : List α) (p : List α × List α) : mrun f (us ++ vs) p = mrun f vs (mrun f us p) := by
  simp [mrun, List.foldl_append]
theorem mrun_out (f : α → Nat) : ∀ (us : List α) (o s : List α), mrun f us (o, s) = (o ++ (mrun f us ([], s)).1, (mrun f us ([], s)).2)
  | [], o, s => by simp [mrun]
  | u :: us, o, s => by
    show mrun f us (o ++ lo f (f u) s, u :: hi f (f u) s) = (o ++ (mrun f us ([] ++ lo f (f u) s, u :: hi f (f u) s)).1, (mrun f us ([] ++ lo f (f u) s, u :: hi f (f u) s)).2)
    rw [mrun_out f us (o ++ lo f (f u) s), mrun_out f us ([] ++ lo f (f u) s)]
    simp
theorem mrun_perm (f : α → Nat) : ∀ (us : List α) (p : List α × List α), ((mrun f us p).1 ++ (mrun f us p).2).Perm (p.1 ++ p.2 ++ us)
  | [], p => by simp [mrun]
  | u :: us, p => by
    have h := mrun_perm f us (stp f p u)
    refine (show ((mrun f us (stp f p u)).1 ++ (mrun f us (stp f p u)).2).Perm _ from h).trans ?_
    show ((p.1 ++ lo f (f u) p.2) ++ (u :: hi f (f u) p.2) ++ us).Perm (p.1 ++ p.2 ++ (u :: us))
    have e : p.1 ++ p.2 ++ (u :: us) = (p.1 ++ lo f (f u) p.2) ++ (hi f (f u) p.2 ++ (u :: us)) := by
      conv => lhs; rw [← lo_hi f (f u) p.2]
      simp only [List.append_assoc]
    rw [e, List.append_assoc]
    refine List.Perm.append_left _ ?_
    exact (List.perm_middle (l₁ := hi f (f u) p.2) (a := u) (l₂ := us)).symm
theorem lo_map (f : α → Nat) (u : Nat) : ∀ s : List α, (lo f u s).map f = lo id u (s.map f)
  | [] => rfl
  | x :: r => by
    simp only [lo, List.map_cons, id]
    split
    · rw [List.map_cons, lo_map f u r]
    · rfl
theorem hi_map (f : α → Nat) (u : Nat) : ∀ s : List α, (hi f u s).map f = hi id u (s.map f)
  | [] => rfl
  | x :: r => by
    simp only [hi, List.map_cons, id]
    split
    · rw [hi_map f u r]
    · rfl
theorem mrun_map (f : α → Nat) : ∀ (us : List α) (p : List α × List α), ((mrun f us p).1.map f, (mrun f us p).2.map f) = mrun id (us.map f) (p.1.map f, p.2.map f)
  | [], p => rfl
  | u :: us, p => by
    have h := mrun_map f us (stp f p u)
    show ((mrun f us (stp f p u)).1.map f, (mrun f us (stp f p u)).2.map f) = mrun id (us.map f) (p.1.map f ++ lo id (f u) (p.2.map f), f u :: hi id (f u) (p.2.map f))
    rw [h, ← lo_map, ← hi_map]
    simp [stp]
end
/-- a row behind a pass -/
def R1 (us : List Nat) : List Nat := (mrun id us ([], [])).1 ++ (mrun id us ([], [])).2
/-! _law_pass is that machine -/
theorem wRW_lo (wd : E) : ∀ (qs : List E) (t : E) (tvs : List E), ∃ B, B = hi (·.1) wd.1 (t :: qs) ∧ wRW wd qs (some t) tvs = (B.head?, tvs ++ lo (·.1) wd.1 (t :: qs), B.tail)
  | [], t, tvs => by
    refine ⟨_, rfl, ?_⟩
    unfold wRW lo hi
    split
    · simp [lo, hi]
    · simp
  | q :: qs, t, tvs => by
    refine ⟨_, rfl, ?_⟩
    unfold wRW
    obtain ⟨B, hB, e⟩ := wRW_lo wd qs q (tvs ++ [t])
    unfold lo hi
    split
    · rw [e, hB]
      simp
    · simp
theorem passRW_run : ∀ (us tvs qs : List E), passRW us tvs qs = mrun (·.1) us (tvs, qs)
  | [], tvs, qs => rfl
  | u :: us, tvs, [] => by
    unfold passRW
    rw [passRW_run us]
    simp [mrun, stp, lo, hi]
  | u :: us, tvs, q :: qs => by
    unfold passRW
    obtain ⟨B, hB, e⟩ := wRW_lo u qs q tvs
    rw [e]
    show _ = mrun (·.1) us (tvs ++ lo (·.1) u.1 (q :: qs), u :: hi (·.1) u.1 (q :: qs))
    rw [← hB]
    cases B with
    | nil => exact passRW_run us _ _
    | cons b B => exact passRW_run us _ _
theorem rk_pass (X : List E) : rk (passW X) = R1 (rk X) := by
  have h := mrun_map (fun e : E => e.1) X ([], [])
  have h1 := congrArg Prod.fst h
  have h2 := congrArg Prod.snd h
  simp only [List.map_nil] at h1 h2
  unfold passW R1
  rw [passRW_run]
  show ((mrun (fun e : E => e.1) X ([], [])).1 ++ (mrun (fun e : E => e.1) X ([], [])).2).map (·.1) = _
  rw [List.map_append, h1, h2]
  rfl
theorem R1_perm (us : List Nat) : (R1 us).Perm us := by
  have := mrun_perm id us ([], [])
  simpa [R1] using this
/-! how many come off, out of those that p tells -/
def npop (p : Nat → Bool) : List Nat → Nat
  | [] => 0
  | x :: r => (if p x && r.any (fun y => decide (x < y)) then 1 else 0) + npop p r
theorem countP_split (p q : Nat → Bool) : ∀ l : List Nat, l.countP p = l.countP (fun x => p x && q x) + l.countP (fun x => p x && !q x)
  | [] => rfl
  | x :: r => by
    have := countP_split p q r
    simp only [List.countP_cons]
    cases p x <;> cases q x <;> simp <;> omega
theorem popped (p : Nat → Bool) : ∀ (U o s : List Nat), SrtF id s → (mrun id U (o, s)).1.countP p = o.countP p + s.countP (fun x => p x && U.any fun y => decide (x < y)) + npop p U
  | [], o, s, _ => by simp [mrun, npop]
  | u :: U, o, s, hs => by
    have ih := popped p U (o ++ lo id u s) (u :: hi id u s) (stp_srt id (o, s) u hs)
    show (mrun id U (o ++ lo id u s, u :: hi id u s)).1.countP p = _
    rw [ih]
    have e : s.countP (fun x => p x && (u :: U).any fun y => decide (x < y)) = (lo id u s).countP p + (hi id u s).countP (fun x => p x && U.any fun y => decide (x < y)) := by
      conv => lhs; rw [← lo_hi id u s]
      rw [List.countP_append]
      congr 1
      · refine List.countP_congr fun x hx => ?_
        have h1 : x < u := lo_lt id u s x hx
        simp [h1]
      · refine List.countP_congr fun x hx => ?_
        have h1 : u ≤ x := hi_ge id u s hs x hx
        have : ¬ x < u := by omega
        simp [this]
    rw [e]
    simp only [List.countP_append, List.countP_cons, npop]
    omega
end Mine
/-! part P2 -/
set_option linter.unusedVariables false
namespace Mine
/-! a word more ahead of greater ones: it stands behind those that aren't greater and those that came off -/
theorem lo_app (b : Nat) : ∀ (L M : List Nat), (∀ x ∈ L, x < b) → lo id b (L ++ M) = L ++ lo id b M
  | [], M, _ => rfl
  | x :: L, M, h => by
    have hx : id x < b := h x (.head _)
    simp only [List.cons_append, lo]
    rw [if_pos hx, lo_app b L M fun y hy => h y (.tail _ hy)]
theorem hi_app (b : Nat) : ∀ (L M : List Nat), (∀ x ∈ L, x < b) → hi id b (L ++ M) = hi id b M
  | [], M, _ => rfl
  | x :: L, M, h => by
    have hx : id x < b := h x (.head _)
    simp only [List.cons_append, hi]
    rw [if_pos hx, hi_app b L M fun y hy => h y (.tail _ hy)]
theorem lo_none (b : Nat) : ∀ (M : List Nat), (∀ x ∈ M, b ≤ x) → lo id b M = []
  | [], _ => rfl
  | x :: M, h => by
    have hx : ¬ id x < b := Nat.not_lt.mpr (h x (.head _))
    simp only [lo]
    rw [if_neg hx]
theorem hi_none (b : Nat) : ∀ (M : List Nat), (∀ x ∈ M, b ≤ x) → hi id b M = M
  | [], _ => rfl
  | x :: M, h => by
    have hx : ¬ id x < b := Nat.not_lt.mpr (h x (.head _))
    simp only [hi]
    rw [if_neg hx]
def finL (p : List Nat × List Nat) : List Nat := p.1 ++ p.2
theorem fin_cons (b : Nat) (B o s : List Nat) : finL (mrun id (b :: B) (o, s)) = o ++ lo id b s ++ finL (mrun id B ([], b :: hi id b s)) := by
  show finL (mrun id B (o ++ lo id b s, b :: hi id b s)) = _
  rw [mrun_out]
  simp [finL, List.append_assoc]
theorem core (w : Nat) : ∀ (B L H : List Nat) (e : Nat), SrtF id B → (∀ x ∈ B, w ≤ x) → (∀ x ∈ L, x < w) → (∀ x ∈ H, w < x) →
    finL (mrun id B ([], L ++ List.replicate e w ++ H)) = L ++ List.replicate (e + B.countP (fun x => decide (x = w))) w ++ finL (mrun id (B.filter fun x => !decide (x = w)) ([], H))
  | [], L, H, e, _, _, _, _ => by simp [mrun, finL]
  | b :: B, L, H, e, hs, hB, hL, hH => by
    have hs' := List.pairwise_cons.mp hs
    by_cases q : b = w
    · subst q
      rw [fin_cons]
      have e1 : lo id b (L ++ List.replicate e b ++ H) = L := by
        rw [List.append_assoc, lo_app b L _ hL, lo_none]
        · simp
        · intro x hx
          rcases List.mem_append.mp hx with z | z
          · rw [(List.mem_replicate.mp z).2]; exact Nat.le_refl _
          · exact Nat.le_of_lt (hH x z)
      have e2 : hi id b (L ++ List.replicate e b ++ H) = List.replicate e b ++ H := by
        rw [List.append_assoc, hi_app b L _ hL, hi_none]
        intro x hx
        rcases List.mem_append.mp hx with z | z
        · rw [(List.mem_replicate.mp z).2]; exact Nat.le_refl _
        · exact Nat.le_of_lt (hH x z)
      rw [e1, e2]
      have ih := core b B [] H (e + 1) hs'.2 (fun x hx => hB x (.tail _ hx)) (fun x hx => nomatch hx) hH
      have e3 : b :: (List.replicate e b ++ H) = [] ++ List.replicate (e + 1) b ++ H := by simp [List.replicate_succ]
      rw [e3, ih]
      have e4 : e + 1 + B.countP (fun x => decide (x = b)) = e + (b :: B).countP (fun x => decide (x = b)) := by
        rw [List.countP_cons]; simp; omega
      have e5 : (b :: B).filter (fun x => !decide (x = b)) = B.filter fun x => !decide (x = b) := by simp
      rw [e4, e5]
      simp
    · have hb : w < b := by have := hB b (.head _); omega
      have hgt : ∀ x ∈ B, ¬ x = w := fun x hx => by
        have := hs'.1 x hx
        simp only [id] at this
        omega
      rw [fin_cons]
      have hlt : ∀ x ∈ L ++ List.replicate e w, x < b := fun x hx => by
        rcases List.mem_append.mp hx with z | z
        · have := hL x z; omega
        · rw [(List.mem_replicate.mp z).2]; exact hb
      rw [lo_app b _ _ hlt, hi_app b _ _ hlt]
      have e1 : (b :: B).countP (fun x => decide (x = w)) = 0 := by
        rw [List.countP_eq_zero]
        intro x hx
        rcases List.mem_cons.mp hx with z | z
        · rw [z]; simpa using q
        · simpa using hgt x z
      have e2 : (b :: B).filter (fun x => !decide (x = w)) = b :: B := by
        rw [List.filter_eq_self]
        intro x hx
        rcases List.mem_cons.mp hx with z | z
        · rw [z]; simpa using q
        · simpa using hgt x z
      rw [e1, e2, fin_cons]
      simp [List.append_assoc]
theorem split_ge (w : Nat) : ∀ (s : List Nat), SrtF id s → (∀ x ∈ s, w ≤ x) → ∃ e H, s = List.replicate e w ++ H ∧ (∀ x ∈ H, w < x) ∧ e = s.countP (fun x => decide (x ≤ w))
  | [], _, _ => ⟨0, [], rfl, fun x hx => (nomatch hx), rfl⟩
  | x :: s, hs, h => by
    have hs' := List.pairwise_cons.mp hs
    by_cases q : x = w
    · subst q
      obtain ⟨e, H, e1, e2, e3⟩ := split_ge x s hs'.2 fun y hy => h y (.tail _ hy)
      refine ⟨e + 1, H, ?_, e2, ?_⟩
      · conv => lhs; rw [e1]
        simp [List.replicate_succ]
      · rw [List.countP_cons, ← e3]; simp
    · have hx : w < x := by have := h x (.head _); omega
      have hall : ∀ y ∈ x :: s, w < y := fun y hy => by
        rcases List.mem_cons.mp hy with z | z
        · rw [z]; exact hx
        · have := hs'.1 y z
          simp only [id] at this
          omega
      refine ⟨0, x :: s, rfl, hall, ?_⟩
      symm
      rw [List.countP_eq_zero]
      intro y hy
      have := hall y hy
      simp; omega
theorem insert_at (w : Nat) (U B : List Nat) (hB : SrtF id B) (hw : ∀ x ∈ B, w ≤ x) (N : Nat) (hN : N = (U ++ B).countP (fun x => decide (x ≤ w)) + npop (fun x => decide (w < x)) U) :
    R1 (U ++ w :: B) = (R1 (U ++ B)).take N ++ w :: (R1 (U ++ B)).drop N := by
  have hs : SrtF id (mrun id U ([], [])).2 := mrun_srt id U ([], []) .nil
  have hp := mrun_perm id U ([], [])
  have hc := popped (fun x => decide (w < x)) U [] [] .nil
  simp only [List.countP_nil, Nat.zero_add] at hc
  have R1_is : ∀ C : List Nat, R1 (U ++ C) = finL (mrun id C (mrun id U ([], []))) := fun C => by
    show finL (mrun id (U ++ C) ([], [])) = _
    rw [mrun_app]
  rw [R1_is, R1_is]
  generalize mrun id U ([], []) = p at *
  obtain ⟨o, s⟩ := p
  simp only [List.nil_append] at hp
  obtain ⟨e, H, e1, e2, e3⟩ := split_ge w (hi id w s) (List.Pairwise.sublist (hi_sub id w s) hs) (hi_ge id w s hs)
  have es : s = lo id w s ++ List.replicate e w ++ H := by
    rw [List.append_assoc, ← e1, lo_hi]
  have hL := lo_lt id w s
  have run : ∀ C : List Nat, SrtF id C → (∀ x ∈ C, w ≤ x) → finL (mrun id C (o, s)) = o ++ (lo id w s ++ List.replicate (e + C.countP (fun x => decide (x = w))) w ++ finL (mrun id (C.filter fun x => !decide (x = w)) ([], H))) := fun C h1 h2 => by
    rw [← core w C (lo id w s) H e h1 h2 hL e2, ← es, mrun_out]
    simp [finL]
  have hwB : SrtF id (w :: B) := List.pairwise_cons.mpr ⟨hw, hB⟩
  rw [run B hB hw, run (w :: B) hwB fun x hx => by
    rcases List.mem_cons.mp hx with z | z
    · rw [z]; exact Nat.le_refl _
    · exact hw x z]
  have c1 : (w :: B).countP (fun x => decide (x = w)) = B.countP (fun x => decide (x = w)) + 1 := by rw [List.countP_cons]; simp
  have c2 : (w :: B).filter (fun x => !decide (x = w)) = B.filter fun x => !decide (x = w) := by simp
  rw [c1, c2]
  have hlen : N = (o ++ (lo id w s ++ List.replicate (e + B.countP (fun x => decide (x = w))) w)).length := by
    rw [hN, List.countP_append, ← hc, ← hp.countP_eq, List.countP_append]
    have k1 : o.countP (fun x => decide (x ≤ w)) + o.countP (fun x => decide (w < x)) = o.length := by
      have h := List.length_eq_countP_add_countP (fun x => decide (x ≤ w)) (l := o)
      have : o.countP (fun x => decide (w < x)) = o.countP (fun a => decide ¬ (decide (a ≤ w) = true)) := List.countP_congr fun x _ => by simp
      omega
    have k2 : s.countP (fun x => decide (x ≤ w)) = (lo id w s).length + e := by
      conv => lhs; rw [← lo_hi id w s]
      rw [List.countP_append, ← e3]
      congr 1
      rw [List.countP_eq_length]
      intro x hx
      have := hL x hx
      simp only [id] at this
      simp; omega
    have k3 : B.countP (fun x => decide (x ≤ w)) = B.countP (fun x => decide (x = w)) := List.countP_congr fun x hx => by
      have := hw x hx
      simp; omega
    simp only [List.length_append, List.length_replicate]
    omega
  generalize finL (mrun id (B.filter fun x => !decide (x = w)) ([], H)) = G
  have e4 : ∀ k, o ++ (lo id w s ++ List.replicate k w ++ G) = (o ++ (lo id w s ++ List.replicate k w)) ++ G := fun k => by simp [List.append_assoc]
  rw [e4, e4, hlen, List.take_left, List.drop_left, ← Nat.add_assoc, List.replicate_succ']
  simp [List.append_assoc]
end Mine
/-! part P3 -/
set_option linter.unusedVariables false
namespace Mine
/-! insertions by pairs -/
theorem stI_count (st : Nat → Nat → Bool) (j : Nat) : ∀ r c, (stI st j c r).length = (List.range' c r).countP fun i => st i j
  | 0, c => rfl
  | r + 1, c => by
    unfold stI
    rw [List.range'_succ, List.countP_cons]
    split
    · rename_i h
      rw [List.length_cons, stI_count st j r (c + 1)]
    · rename_i h
      rw [stI_count st j r (c + 1)]; rfl
theorem ord_run (Q : List Nat → List Nat) (st : Nat → Nat → Bool) (X : List E)
    (hstep : ∀ c, c < X.length → Q ((rk X).take (c + 1)) = (Q ((rk X).take c)).take ((List.range' 0 c).countP fun i => st i c) ++ (rk X).getD c 0 :: (Q ((rk X).take c)).drop ((List.range' 0 c).countP fun i => st i c)) :
    ∀ (r c : Nat) (os : List E), c + r = X.length → rk os = Q ((rk X).take c) → rk (ordX st X c r os) = Q (rk X)
  | 0, c, os, h, e => by
    unfold ordX
    rw [e, List.take_of_length_le]
    rw [rk_len]; omega
  | r + 1, c, os, h, e => by
    unfold ordX
    refine ord_run Q st X hstep r (c + 1) _ (by omega) ?_
    rw [hstep c (by omega), stI_count, ← e]
    have hc : (rk X).getD c 0 = (X.getD c (0, 0)).1 := by
      have : c < X.length := by omega
      simp [rk, List.getD, this]
    rw [hc]
    simp [rk, List.map_take, List.map_drop]
theorem ord_eq (Q : List Nat → List Nat) (st : Nat → Nat → Bool) (X : List E) (h0 : Q [] = [])
    (hstep : ∀ c, c < X.length → Q ((rk X).take (c + 1)) = (Q ((rk X).take c)).take ((List.range' 0 c).countP fun i => st i c) ++ (rk X).getD c 0 :: (Q ((rk X).take c)).drop ((List.range' 0 c).countP fun i => st i c)) :
    rk (ordX st X 0 X.length []) = Q (rk X) :=
  ord_run Q st X hstep X.length 0 [] (by omega) (by rw [List.take_zero, h0]; rfl)
/-! rows by places -/
theorem take_range (rs : List Nat) (c : Nat) (h : c ≤ rs.length) : rs.take c = (List.range' 0 c).map fun i => rs.getD i 0 := by
  refine List.ext_getElem (by simp; omega) fun i h1 h2 => ?_
  have : i < rs.length := by simp at h1; omega
  simp [List.getD, this]
theorem take_succ' (rs : List Nat) (c : Nat) (h : c < rs.length) : rs.take (c + 1) = rs.take c ++ [rs.getD c 0] := by
  rw [List.take_add_one]
  simp [List.getD, h]
theorem seg_range (rs : List Nat) (a b : Nat) (h : b ≤ rs.length) : seg rs a b = (List.range' a (b - a)).map fun i => rs.getD i 0 := by
  unfold seg
  refine List.ext_getElem (by simp; omega) fun i h1 h2 => ?_
  have : a + i < rs.length := by simp at h1; omega
  simp [List.getD, this]
theorem mxN_le : ∀ (r : List Nat) (m b : Nat), mxN m r ≤ b ↔ m ≤ b ∧ ∀ x ∈ r, x ≤ b
  | [], m, b => by simp [mxN]
  | x :: r, m, b => by
    unfold mxN
    split
    · rw [mxN_le r x b]
      simp only [List.mem_cons, forall_eq_or_imp]
      constructor
      · intro h; exact ⟨by omega, h⟩
      · intro h; exact h.2
    · rw [mxN_le r m b]
      simp only [List.mem_cons, forall_eq_or_imp]
      constructor
      · intro h; exact ⟨h.1, by omega, h.2⟩
      · intro h; exact ⟨h.1, h.2.2⟩
theorem mxN_ge : ∀ (r : List Nat) (m : Nat), m ≤ mxN m r := fun r m => ((mxN_le r m _).mp (Nat.le_refl _)).1
theorem segMax_le (rs : List Nat) (a b t : Nat) (hab : a < b) (h : b ≤ rs.length) : segMax rs a b ≤ t ↔ ∀ k, a ≤ k → k < b → rs.getD k 0 ≤ t := by
  unfold segMax
  rw [seg_range rs a b h]
  obtain ⟨m, hm⟩ : ∃ m, b - a = m + 1 := ⟨b - a - 1, by omega⟩
  rw [hm, List.range'_succ, List.map_cons]
  show mxN (rs.getD a 0) _ ≤ t ↔ _
  rw [mxN_le]
  constructor
  · intro ⟨h1, h2⟩ k hk1 hk2
    by_cases q : k = a
    · rw [q]; exact h1
    · exact h2 _ (List.mem_map.mpr ⟨k, List.mem_range'_1.mpr ⟨by omega, by omega⟩, rfl⟩)
  · intro H
    refine ⟨H a (Nat.le_refl _) hab, fun x hx => ?_⟩
    obtain ⟨k, hk, rfl⟩ := List.mem_map.mp hx
    have := List.mem_range'_1.mp hk
    exact H k (by omega) (by omega)
theorem npop_range (p : Nat → Bool) (v : Nat → Nat) (e : Nat) : ∀ m a, a + m = e → npop p ((List.range' a m).map v) = (List.range' a m).countP fun i => p (v i) && (List.range' (i + 1) (e - (i + 1))).any fun k => decide (v i < v k)
  | 0, a, _ => rfl
  | m + 1, a, h => by
    rw [List.range'_succ, List.map_cons, List.countP_cons]
    unfold npop
    rw [npop_range p v e m (a + 1) (by omega)]
    have : e - (a + 1) = m := by omega
    rw [this, List.any_map]
    have e2 : (List.range' (a + 1) m).any ((fun y => decide (v a < y)) ∘ v) = (List.range' (a + 1) m).any fun k => decide (v a < v k) := rfl
    rw [e2]
    omega
theorem countP_or (p q : Nat → Bool) (l : List Nat) : l.countP (fun i => p i || q i) = l.countP p + l.countP (fun i => !p i && q i) := by
  induction l with
  | nil => rfl
  | cons x r ih =>
    simp only [List.countP_cons, ih]
    cases p x <;> cases q x <;> simp <;> omega
/-- one pass -/
theorem once_law (X : List E) : rk (o1 X) = R1 (rk X) := by
  refine ord_eq R1 (onceR (rk X)) X rfl fun c hc => ?_
  have hcl : c < (rk X).length := by rw [rk_len]; exact hc
  generalize rk X = rs at *
  rw [take_succ' rs c hcl]
  have key := insert_at (rs.getD c 0) (rs.take c) [] .nil (fun x hx => nomatch hx) ((List.range' 0 c).countP fun i => onceR rs i c) ?_
  · rw [List.append_nil] at key
    exact key
  · rw [List.append_nil, take_range rs c (by omega), List.countP_map, npop_range _ _ c c 0 (by omega)]
    unfold onceR
    rw [countP_or]
    congr 1
    refine List.countP_congr fun i hi => ?_
    have hi' : i < c := by have := List.mem_range'_1.mp hi; omega
    have hm : rs.getD i 0 < segMax rs i c ↔ ∃ k, i < k ∧ k < c ∧ rs.getD i 0 < rs.getD k 0 := by
      have h := segMax_le rs i c (rs.getD i 0) hi' (by omega)
      constructor
      · intro hlt
        have hn : ¬ ∀ k, i ≤ k → k < c → rs.getD k 0 ≤ rs.getD i 0 := fun H => by
          have := h.mpr H; omega
        simp only [Classical.not_forall] at hn
        obtain ⟨k, h1, h2, h3⟩ := hn
        refine ⟨k, ?_, h2, by omega⟩
        rcases Nat.lt_or_eq_of_le h1 with z | z
        · exact z
        · subst z; omega
      · intro ⟨k, h1, h2, h3⟩
        refine Nat.lt_of_not_le fun hle => ?_
        have := h.mp hle k (by omega) h2
        omega
    have ha : ((List.range' (i + 1) (c - (i + 1))).any fun k => decide (rs.getD i 0 < rs.getD k 0)) = true ↔ ∃ k, i < k ∧ k < c ∧ rs.getD i 0 < rs.getD k 0 := by
      rw [List.any_eq_true]
      constructor
      · intro ⟨k, hk, h⟩
        have := List.mem_range'_1.mp hk
        exact ⟨k, by omega, by omega, by simpa using h⟩
      · intro ⟨k, h1, h2, h3⟩
        exact ⟨k, List.mem_range'_1.mpr ⟨by omega, by omega⟩, by simpa using h3⟩
    rw [Bool.and_eq_true, Bool.and_eq_true, ha, decide_eq_true_iff, hm]
    simp
end Mine
/-! part P4 -/
set_option linter.unusedVariables false
namespace Mine
/-! two passes: who comes off a second time -/
def Zp (v : Nat → Nat) (i j : Nat) : Prop := ∃ z, i < z ∧ z < j ∧ ∃ c, c < z ∧ v i < v c ∧ v c < v z ∧ (i < c ∨ ∀ k, c ≤ k → k < i → v k ≤ v c)
def sfx (v : Nat → Nat) (Z : Nat → Prop) : List Nat → Prop
  | [] => True
  | x :: r => ((∃ y, y ∈ r ∧ v x < v y) ↔ Z x) ∧ sfx v Z r
theorem sfx_app (v : Nat → Nat) (Z Z' : Nat → Prop) (A : List Nat) : ∀ o : List Nat, (∀ x ∈ o, (Z' x ↔ Z x ∨ ∃ a, a ∈ A ∧ v x < v a)) → sfx v Z o → sfx v Z' A → sfx v Z' (o ++ A)
  | [], _, _, h => h
  | x :: o, h1, h2, h3 => by
    refine ⟨?_, sfx_app v Z Z' A o (fun y hy => h1 y (.tail _ hy)) h2.2 h3⟩
    rw [h1 x (.head _), ← h2.1]
    constructor
    · intro ⟨y, hy, hv⟩
      rcases List.mem_append.mp hy with z | z
      · exact .inl ⟨y, z, hv⟩
      · exact .inr ⟨y, z, hv⟩
    · rintro (⟨y, hy, hv⟩ | ⟨y, hy, hv⟩)
      · exact ⟨y, List.mem_append.mpr (.inl hy), hv⟩
      · exact ⟨y, List.mem_append.mpr (.inr hy), hv⟩
theorem sfx_of (v : Nat → Nat) (Z : Nat → Prop) : ∀ A : List Nat, A.Pairwise (fun a b => b < a) → (∀ x ∈ A, ((∃ y, y ∈ A ∧ y < x ∧ v x < v y) ↔ Z x)) → sfx v Z A
  | [], _, _ => trivial
  | x :: A, hp, h => by
    have hp' := List.pairwise_cons.mp hp
    refine ⟨?_, sfx_of v Z A hp'.2 fun y hy => ?_⟩
    · rw [← h x (.head _)]
      constructor
      · intro ⟨y, hy, hv⟩
        exact ⟨y, .tail _ hy, hp'.1 y hy, hv⟩
      · intro ⟨y, hy, hlt, hv⟩
        rcases List.mem_cons.mp hy with z | z
        · omega
        · exact ⟨y, z, hv⟩
    · rw [← h y (.tail _ hy)]
      constructor
      · intro ⟨a, ha, h1, h2⟩
        exact ⟨a, .tail _ ha, h1, h2⟩
      · intro ⟨a, ha, h1, h2⟩
        rcases List.mem_cons.mp ha with z | z
        · have := hp'.1 y hy
          omega
        · exact ⟨a, z, h1, h2⟩
theorem sfx_count (v : Nat → Nat) (Z : Nat → Prop) (Zb : Nat → Bool) (hZ : ∀ x, Zb x = true ↔ Z x) (p : Nat → Bool) : ∀ o : List Nat, sfx v Z o → npop p (o.map v) = o.countP fun x => p (v x) && Zb x
  | [], _ => rfl
  | x :: o, h => by
    rw [List.map_cons, List.countP_cons]
    unfold npop
    rw [sfx_count v Z Zb hZ p o h.2]
    have e : (o.map v).any (fun y => decide (v x < y)) = Zb x := by
      rw [Bool.eq_iff_iff, hZ, ← h.1, List.any_eq_true]
      constructor
      · intro ⟨y, hy, hv⟩
        obtain ⟨a, ha, rfl⟩ := List.mem_map.mp hy
        exact ⟨a, ha, by simpa using hv⟩
      · intro ⟨a, ha, hv⟩
        exact ⟨v a, List.mem_map.mpr ⟨a, ha, rfl⟩, by simpa using hv⟩
    rw [e]
    omega
theorem npop_low (w : Nat) : ∀ L : List Nat, (∀ x ∈ L, x < w) → npop (fun x => decide (w < x)) L = 0
  | [], _ => rfl
  | x :: L, h => by
    have hx := h x (.head _)
    have : ¬ w < x := by omega
    unfold npop
    rw [npop_low w L fun y hy => h y (.tail _ hy)]
    simp [this]
theorem npop_app (w : Nat) (L : List Nat) (hL : ∀ x ∈ L, x < w) : ∀ o : List Nat, npop (fun x => decide (w < x)) (o ++ L) = npop (fun x => decide (w < x)) o
  | [] => by rw [List.nil_append, npop_low w L hL]; rfl
  | x :: o => by
    rw [List.cons_append]
    unfold npop
    rw [npop_app w L hL o, List.any_append]
    by_cases q : w < x
    · have : L.any (fun y => decide (x < y)) = false := by
        rw [List.any_eq_false]
        intro y hy
        have := hL y hy
        simp; omega
      rw [this, Bool.or_false]
    · simp [q]
/-! the first machine, by places -/
def mst (v : Nat → Nat) (j : Nat) : List Nat × List Nat := mrun v (List.range' 0 j) ([], [])
theorem mst_succ (v : Nat → Nat) (j : Nat) : mst v (j + 1) = ((mst v j).1 ++ lo v (v j) (mst v j).2, j :: hi v (v j) (mst v j).2) := by
  unfold mst
  rw [List.range'_concat, mrun_app]
  simp [mrun, stp]
structure Inv (v : Nat → Nat) (j : Nat) (O S : List Nat) : Prop where
  perm : (O ++ S).Perm (List.range' 0 j)
  mem : ∀ i, i ∈ S ↔ i < j ∧ ∀ k, i < k → k < j → v k ≤ v i
  srt : S.Pairwise fun a b => v a ≤ v b ∧ b < a
  out : sfx v (fun i => Zp v i j) O
theorem mst_inv (v : Nat → Nat) : ∀ j, Inv v j (mst v j).1 (mst v j).2
  | 0 => ⟨by simp [mst, mrun], fun i => by simp [mst, mrun], List.Pairwise.nil, trivial⟩
  | j + 1 => by
    have I := mst_inv v j
    rw [mst_succ]
    generalize mst v j = p at *
    obtain ⟨O, S⟩ := p
    obtain ⟨hp, hm, hs, ho⟩ := I
    simp only at *
    have hsv : SrtF v S := hs.imp fun h => h.1
    have lh := lo_hi v (v j) S
    have hlt := lo_lt v (v j) S
    have hge := hi_ge v (v j) S hsv
    have inS : ∀ x, x ∈ S ↔ x ∈ lo v (v j) S ∨ x ∈ hi v (v j) S := fun x => by
      conv => lhs; rw [← lh]
      exact List.mem_append
    have inlo : ∀ x, x ∈ lo v (v j) S ↔ x ∈ S ∧ v x < v j := fun x => by
      constructor
      · intro h; exact ⟨(inS x).mpr (.inl h), hlt x h⟩
      · intro ⟨h1, h2⟩
        rcases (inS x).mp h1 with z | z
        · exact z
        · have := hge x z; omega
    have inhi : ∀ x, x ∈ hi v (v j) S ↔ x ∈ S ∧ v j ≤ v x := fun x => by
      constructor
      · intro h; exact ⟨(inS x).mpr (.inr h), hge x h⟩
      · intro ⟨h1, h2⟩
        rcases (inS x).mp h1 with z | z
        · have := hlt x z; omega
        · exact z
    refine ⟨?_, fun i => ?_, ?_, ?_⟩
    · rw [List.range'_concat]
      have : (O ++ lo v (v j) S ++ j :: hi v (v j) S).Perm (j :: (O ++ S)) := by
        refine List.perm_middle.trans (List.Perm.cons _ ?_)
        rw [List.append_assoc, lh]
      refine this.trans ((hp.cons j).trans ?_)
      simp only [Nat.zero_add, Nat.one_mul]
      exact (List.perm_append_singleton j _).symm
    · rw [List.mem_cons, inhi, hm]
      constructor
      · rintro (z | ⟨⟨h1, h2⟩, h3⟩)
        · subst z
          exact ⟨by omega, fun k h1 h2 => by omega⟩
        · refine ⟨by omega, fun k hk1 hk2 => ?_⟩
          by_cases q : k = j
          · rw [q]; exact h3
          · exact h2 k hk1 (by omega)
      · intro ⟨h1, h2⟩
        by_cases q : i = j
        · exact .inl q
        · exact .inr ⟨⟨by omega, fun k hk1 hk2 => h2 k hk1 (by omega)⟩, h2 j (by omega) (by omega)⟩
    · refine List.pairwise_cons.mpr ⟨fun x hx => ?_, List.Pairwise.sublist (hi_sub v _ _) hs⟩
      have h1 := (inhi x).mp hx
      exact ⟨h1.2, ((hm x).mp h1.1).1⟩
    · refine sfx_app v (fun i => Zp v i j) (fun i => Zp v i (j + 1)) _ O (fun x hx => ?_) ho ?_
      · have hxj : x < j := by
          have : x ∈ O ++ S := List.mem_append.mpr (.inl hx)
          have := List.mem_range'_1.mp (hp.mem_iff.mp this)
          omega
        constructor
        · intro ⟨z, h1, h2, c, h3, h4, h5, h6⟩
          by_cases q : z = j
          · subst q
            by_cases hc : c ∈ S
            · exact .inr ⟨c, (inlo c).mpr ⟨hc, h5⟩, h4⟩
            · left
              have hn : ¬ ∀ k, c < k → k < z → v k ≤ v c := fun H => hc ((hm c).mpr ⟨h3, H⟩)
              simp only [Classical.not_forall] at hn
              obtain ⟨k, k1, k2, k3⟩ := hn
              by_cases hk : x < k
              · exact ⟨k, hk, k2, c, k1, h4, by omega, h6⟩
              · exfalso
                rcases h6 with h6 | h6
                · omega
                · by_cases e : k = x
                  · subst e; omega
                  · have := h6 k (by omega) (by omega)
                    omega
          · exact .inl ⟨z, h1, by omega, c, h3, h4, h5, h6⟩
        · rintro (⟨z, h1, h2, r⟩ | ⟨a, ha, hv⟩)
          · exact ⟨z, h1, by omega, r⟩
          · have h1 := (inlo a).mp ha
            have h2 := (hm a).mp h1.1
            refine ⟨j, hxj, by omega, a, h2.1, hv, h1.2, ?_⟩
            by_cases q : x < a
            · exact .inl q
            · refine .inr fun k k1 k2 => ?_
              by_cases e : k = a
              · rw [e]; exact Nat.le_refl _
              · exact h2.2 k (by omega) (by omega)
      · refine sfx_of v _ _ (List.Pairwise.sublist (lo_sub v _ _) (hs.imp fun h => h.2)) fun x hx => ?_
        have hx1 := (inlo x).mp hx
        have hx2 := (hm x).mp hx1.1
        constructor
        · intro ⟨y, hy, hlt', hv⟩
          have h1 := (inlo y).mp hy
          have h2 := (hm y).mp h1.1
          refine ⟨j, hx2.1, by omega, y, h2.1, hv, h1.2, .inr fun k k1 k2 => ?_⟩
          by_cases e : k = y
          · rw [e]; exact Nat.le_refl _
          · exact h2.2 k (by omega) (by omega)
        · intro ⟨z, h1, h2, c, h3, h4, h5, h6⟩
          by_cases q : z = j
          · subst q
            have hcx : c < x := by
              by_cases e : c < x
              · exact e
              · exfalso
                by_cases e2 : c = x
                · subst e2; omega
                · have := hx2.2 c (by omega) h3
                  omega
            have h6' : ∀ k, c ≤ k → k < x → v k ≤ v c := by
              rcases h6 with h6 | h6
              · omega
              · exact h6
            refine ⟨c, (inlo c).mpr ⟨(hm c).mpr ⟨h3, fun k k1 k2 => ?_⟩, h5⟩, hcx, h4⟩
            by_cases e : k < x
            · exact h6' k (by omega) e
            · by_cases e2 : k = x
              · subst e2; omega
              · have := hx2.2 k (by omega) k2
                omega
          · exfalso
            have := hx2.2 z h1 (by omega)
            omega
/-! the law's pairs -/
theorem twIn_iff (rs : List Nat) (i z : Nat) : ∀ r c, twIn rs i z c r = true ↔ ∃ c', c ≤ c' ∧ c' < c + r ∧ inT rs i z c' = true
  | 0, c => by simp [twIn]; intro x h1 h2; omega
  | r + 1, c => by
    unfold twIn
    split
    · rename_i h
      simp only [true_iff]
      exact ⟨c, Nat.le_refl _, by omega, h⟩
    · rename_i h
      rw [twIn_iff rs i z r (c + 1)]
      constructor
      · intro ⟨c', h1, h2, h3⟩; exact ⟨c', by omega, by omega, h3⟩
      · intro ⟨c', h1, h2, h3⟩
        by_cases q : c' = c
        · subst q; exact absurd h3 h
        · exact ⟨c', by omega, by omega, h3⟩
theorem twZB_iff (rs : List Nat) (i : Nat) : ∀ r z, twZB rs i z r = true ↔ ∃ z', z ≤ z' ∧ z' < z + r ∧ twIn rs i z' 0 z' = true
  | 0, z => by simp [twZB]; intro x h1 h2; omega
  | r + 1, z => by
    unfold twZB
    split
    · rename_i h
      simp only [true_iff]
      exact ⟨z, Nat.le_refl _, by omega, h⟩
    · rename_i h
      rw [twZB_iff rs i r (z + 1)]
      constructor
      · intro ⟨c', h1, h2, h3⟩; exact ⟨c', by omega, by omega, h3⟩
      · intro ⟨c', h1, h2, h3⟩
        by_cases q : c' = z
        · subst q; exact absurd h3 h
        · exact ⟨c', by omega, by omega, h3⟩
theorem inT_iff (rs : List Nat) (i z c : Nat) (hi : i ≤ rs.length) : inT rs i z c = true ↔ rs.getD i 0 < rs.getD c 0 ∧ rs.getD c 0 < rs.getD z 0 ∧ (i < c ∨ ∀ k, c ≤ k → k < i → rs.getD k 0 ≤ rs.getD c 0) := by
  unfold inT
  rw [Bool.and_eq_true, Bool.and_eq_true, decide_eq_true_iff, decide_eq_true_iff, Bool.or_eq_true, decide_eq_true_iff, beq_iff_eq]
  constructor
  · rintro ⟨h1, h2, h3⟩
    refine ⟨h1, h2, ?_⟩
    rcases h3 with h3 | h3
    · exact .inl h3
    · by_cases q : c < i
      · exact .inr ((segMax_le rs c i _ q hi).mp (Nat.le_of_eq h3))
      · by_cases e : c = i
        · subst e; omega
        · exact .inl (by omega)
  · rintro ⟨h1, h2, h3⟩
    refine ⟨h1, h2, ?_⟩
    rcases h3 with h3 | h3
    · exact .inl h3
    · by_cases q : c < i
      · refine .inr (Nat.le_antisymm ((segMax_le rs c i _ q hi).mpr h3) ?_)
        exact (segMax_le rs c i _ q hi).mp (Nat.le_refl _) c (Nat.le_refl _) q
      · by_cases e : c = i
        · subst e; omega
        · exact .inl (by omega)
theorem Zb_iff (rs : List Nat) (i j : Nat) (hj : j ≤ rs.length) (hi : i < j) : twZB rs i (i + 1) (j - (i + 1)) = true ↔ Zp (fun i => rs.getD i 0) i j := by
  rw [twZB_iff]
  constructor
  · intro ⟨z, h1, h2, h3⟩
    obtain ⟨c, h4, h5, h6⟩ := (twIn_iff rs i z z 0).mp h3
    exact ⟨z, by omega, by omega, c, by omega, (inT_iff rs i z c (by omega)).mp h6⟩
  · intro ⟨z, h1, h2, c, h3, h4⟩
    exact ⟨z, by omega, by omega, (twIn_iff rs i z z 0).mpr ⟨c, by omega, by omega, (inT_iff rs i z c (by omega)).mpr h4⟩⟩
/-- two passes -/
theorem twice_law (X : List E) : rk (o2 X) = R1 (R1 (rk X)) := by
  refine ord_eq (fun l => R1 (R1 l)) (twiceR (rk X)) X rfl fun c hc => ?_
  have hcl : c < (rk X).length := by rw [rk_len]; exact hc
  generalize rk X = rs at *
  have R1_at : ∀ j, j ≤ rs.length → R1 (rs.take j) = ((mst (fun i => rs.getD i 0) j).1 ++ (mst (fun i => rs.getD i 0) j).2).map fun i => rs.getD i 0 := fun j hj => by
    have h := mrun_map (fun i => rs.getD i 0) (List.range' 0 j) ([], [])
    have h1 := congrArg Prod.fst h
    have h2 := congrArg Prod.snd h
    simp only [List.map_nil] at h1 h2
    rw [take_range rs j hj, List.map_append]
    show _ ++ _ = _ ++ _
    unfold mst
    rw [h1, h2]
  show R1 (R1 (rs.take (c + 1))) = (R1 (R1 (rs.take c))).take _ ++ _ :: (R1 (R1 (rs.take c))).drop _
  rw [R1_at (c + 1) (by omega), R1_at c (by omega), mst_succ]
  have I := mst_inv (fun i => rs.getD i 0) c
  generalize mst (fun i => rs.getD i 0) c = p at *
  obtain ⟨O, S⟩ := p
  simp only at *
  have hsv : SrtF (fun i => rs.getD i 0) S := I.srt.imp fun h => h.1
  generalize hw : rs.getD c 0 = w
  have hL : ∀ x ∈ (lo (fun i => rs.getD i 0) w S).map (fun i => rs.getD i 0), x < w := fun x hx => by
    obtain ⟨i, hi, rfl⟩ := List.mem_map.mp hx
    exact lo_lt _ _ _ i hi
  have key := insert_at w ((O ++ lo (fun i => rs.getD i 0) w S).map fun i => rs.getD i 0) ((hi (fun i => rs.getD i 0) w S).map fun i => rs.getD i 0)
    (List.pairwise_map.mpr (List.Pairwise.sublist (hi_sub _ _ _) hsv)) (fun x hx => by
      obtain ⟨i, hi, rfl⟩ := List.mem_map.mp hx
      exact hi_ge _ _ _ hsv i hi) ((List.range' 0 c).countP fun i => twiceR rs i c) ?_
  · have e1 : (O ++ lo (fun i => rs.getD i 0) w S).map (fun i => rs.getD i 0) ++ (hi (fun i => rs.getD i 0) w S).map (fun i => rs.getD i 0) = (O ++ S).map fun i => rs.getD i 0 := by
      rw [← List.map_append, List.append_assoc, lo_hi]
    rw [e1] at key
    rw [← key, List.map_append, List.map_cons, hw]
  · have e1 : (O ++ lo (fun i => rs.getD i 0) w S).map (fun i => rs.getD i 0) ++ (hi (fun i => rs.getD i 0) w S).map (fun i => rs.getD i 0) = (O ++ S).map fun i => rs.getD i 0 := by
      rw [← List.map_append, List.append_assoc, lo_hi]
    rw [e1, List.countP_map, I.perm.countP_eq, List.map_append, npop_app w _ hL]
    unfold twiceR
    rw [countP_or, hw]
    congr 1
    have hz : ∀ i, i < c → (twZB rs i (i + 1) (c - (i + 1)) = true ↔ Zp (fun i => rs.getD i 0) i c) := fun i hi => Zb_iff rs i c (by omega) hi
    rw [sfx_count (fun i => rs.getD i 0) (fun i => Zp (fun i => rs.getD i 0) i c) (fun x => @decide _ (Classical.propDecidable (Zp (fun i => rs.getD i 0) x c))) (fun x => by simp) (fun x => decide (w < x)) O I.out]
    have hS : S.countP (fun x => decide (w < rs.getD x 0) && @decide _ (Classical.propDecidable (Zp (fun i => rs.getD i 0) x c))) = 0 := by
      rw [List.countP_eq_zero]
      intro x hx
      have h := (I.mem x).mp hx
      simp only [Bool.and_eq_true, decide_eq_true_eq, not_and]
      intro _ ⟨z, h1, h2, c', h3, h4, h5, h6⟩
      have := h.2 z h1 h2
      simp only at *
      omega
    have hO : (O ++ S).countP (fun x => decide (w < rs.getD x 0) && @decide _ (Classical.propDecidable (Zp (fun i => rs.getD i 0) x c))) = O.countP (fun x => decide (w < rs.getD x 0) && @decide _ (Classical.propDecidable (Zp (fun i => rs.getD i 0) x c))) := by
      rw [List.countP_append, hS]; rfl
    rw [← hO, I.perm.countP_eq]
    refine List.countP_congr fun i hi => ?_
    have hi' : i < c := by have := List.mem_range'_1.mp hi; omega
    simp only [Bool.and_eq_true, decide_eq_true_eq, hz i hi', Bool.not_eq_true', decide_eq_false_iff_not, Nat.not_le]
end Mine
/-! part P5 -/
set_option linter.unusedVariables false
namespace Mine
/-! a pass makes a row less, if it wasn't in order -/
def nd : Nat → List Nat → Bool
  | _, [] => true
  | m, u :: r => decide (m ≤ u) && nd u r
theorem nd_iff : ∀ (r : List Nat) (m : Nat), nd m r = true ↔ (m :: r).Pairwise (· ≤ ·)
  | [], m => by simp [nd]
  | u :: r, m => by
    unfold nd
    rw [Bool.and_eq_true, nd_iff r u, decide_eq_true_iff, List.pairwise_cons (a := m)]
    constructor
    · intro ⟨h1, h2⟩
      refine ⟨fun x hx => ?_, h2⟩
      rcases List.mem_cons.mp hx with z | z
      · rw [z]; exact h1
      · exact Nat.le_trans h1 ((List.pairwise_cons.mp h2).1 x z)
    · intro ⟨h1, h2⟩
      exact ⟨h1 u (.head _), h2⟩
theorem lex_app : ∀ (o a b : List Nat), lexLt (o ++ a) (o ++ b) = lexLt a b
  | [], a, b => rfl
  | x :: o, a, b => by
    show (if x = x then lexLt (o ++ a) (o ++ b) else _) = _
    rw [if_pos rfl, lex_app o a b]
theorem lex_irr : ∀ a : List Nat, lexLt a a = false
  | [] => rfl
  | x :: a => by
    show (if x = x then lexLt a a else _) = _
    rw [if_pos rfl, lex_irr a]
theorem lex_head (x y : Nat) (a b : List Nat) (h : x < y) : lexLt (x :: a) (y :: b) = true ∧ lexLt (y :: b) (x :: a) = false := by
  have h1 : ¬ x = y := by omega
  have h2 : ¬ y = x := by omega
  have h3 : ¬ y < x := by omega
  refine ⟨?_, ?_⟩
  · show (if x = y then _ else decide (x < y)) = true
    rw [if_neg h1]; simpa using h
  · show (if y = x then _ else decide (y < x)) = false
    rw [if_neg h2]; simpa using h3
/-- what comes first isn't greater than what lies on top -/
theorem first_le : ∀ (us : List Nat) (w : Nat) (s : List Nat), ∃ y t, finL (mrun id us ([], w :: s)) = y :: t ∧ y ≤ w
  | [], w, s => ⟨w, s, rfl, Nat.le_refl _⟩
  | u :: us, w, s => by
    rw [fin_cons]
    by_cases q : w < u
    · have e : lo id u (w :: s) = w :: lo id u s := if_pos (show id w < u from q)
      rw [e]
      exact ⟨w, _, rfl, Nat.le_refl _⟩
    · obtain ⟨y, t, h1, h2⟩ := first_le us u (w :: s)
      refine ⟨y, t, ?_, by omega⟩
      unfold lo hi
      rw [if_neg (show ¬ id w < u from q), if_neg (show ¬ id w < u from q), h1]
      rfl
theorem less : ∀ (rest : List Nat) (m k : Nat),
    (nd m rest = true → finL (mrun id rest ([], List.replicate (k + 1) m)) = List.replicate (k + 1) m ++ rest) ∧
    (nd m rest = false → lexLt (finL (mrun id rest ([], List.replicate (k + 1) m))) (List.replicate (k + 1) m ++ rest) = true ∧ lexLt (List.replicate (k + 1) m ++ rest) (finL (mrun id rest ([], List.replicate (k + 1) m))) = false)
  | [], m, k => ⟨fun _ => by simp [mrun, finL], fun h => by simp [nd] at h⟩
  | u :: rest, m, k => by
    rw [fin_cons]
    unfold nd
    rcases Nat.lt_trichotomy m u with q | q | q
    · have hall : ∀ x ∈ List.replicate (k + 1) m, x < u := fun x hx => by rw [(List.mem_replicate.mp hx).2]; exact q
      have e1 : lo id u (List.replicate (k + 1) m) = List.replicate (k + 1) m := by
        have := lo_app u (List.replicate (k + 1) m) [] hall
        simpa [lo] using this
      have e2 : hi id u (List.replicate (k + 1) m) = [] := by
        have := hi_app u (List.replicate (k + 1) m) [] hall
        simpa [hi] using this
      rw [e1, e2]
      have ih := less rest u 0
      simp only [Nat.zero_add, List.replicate_one, List.singleton_append] at ih
      have hm : decide (m ≤ u) = true := by simp; omega
      rw [hm, Bool.true_and, List.nil_append, lex_app, lex_app]
      exact ⟨fun h => by rw [ih.1 h], ih.2⟩
    · subst q
      have e1 : lo id m (List.replicate (k + 1) m) = [] := lo_none m _ fun x hx => by rw [(List.mem_replicate.mp hx).2]; exact Nat.le_refl _
      have e2 : hi id m (List.replicate (k + 1) m) = List.replicate (k + 1) m := hi_none m _ fun x hx => by rw [(List.mem_replicate.mp hx).2]; exact Nat.le_refl _
      rw [e1, e2]
      have ih := less rest m (k + 1)
      have e3 : m :: List.replicate (k + 1) m = List.replicate (k + 1 + 1) m := rfl
      have e4 : List.replicate (k + 1) m ++ m :: rest = List.replicate (k + 1 + 1) m ++ rest := by
        rw [List.replicate_succ' (n := k + 1)]
        simp [List.append_assoc]
      rw [e3, e4]
      simp only [Nat.le_refl, decide_true, Bool.true_and, List.nil_append]
      exact ih
    · have e1 : lo id u (List.replicate (k + 1) m) = [] := lo_none u _ fun x hx => by rw [(List.mem_replicate.mp hx).2]; omega
      have e2 : hi id u (List.replicate (k + 1) m) = List.replicate (k + 1) m := hi_none u _ fun x hx => by rw [(List.mem_replicate.mp hx).2]; omega
      rw [e1, e2]
      have hm : decide (m ≤ u) = false := by simp; omega
      rw [hm, Bool.false_and]
      refine ⟨fun h => (nomatch h), fun _ => ?_⟩
      obtain ⟨y, t, h1, h2⟩ := first_le rest u (List.replicate (k + 1) m)
      rw [List.nil_append, h1, List.replicate_succ, List.cons_append]
      exact lex_head y m _ _ (by omega)
theorem sorted_srt (l : List Nat) : (l == srt l) = true ↔ l.Pairwise (· ≤ ·) := by
  rw [beq_iff_eq]
  constructor
  · intro h; rw [h]; exact srt_sorted l
  · intro h; exact sorted_uniq l (srt l) (srt_perm l).symm h (srt_sorted l)
/-- in order: it stays; else it becomes less -/
theorem R1_less (l : List Nat) : ((l == srt l) = true → R1 l = l) ∧ ((l == srt l) = false → lexLt (R1 l) l = true ∧ lexLt l (R1 l) = false) := by
  cases l with
  | nil => exact ⟨fun _ => rfl, fun h => by simp [srt] at h⟩
  | cons u r =>
    have e : R1 (u :: r) = finL (mrun id r ([], List.replicate (0 + 1) u)) := rfl
    have h := less r u 0
    have e2 : List.replicate (0 + 1) u ++ r = u :: r := rfl
    rw [e2] at h
    rw [e]
    constructor
    · intro hs
      exact h.1 ((nd_iff r u).mpr ((sorted_srt _).mp hs))
    · intro hs
      refine h.2 ?_
      cases q : nd u r with
      | false => rfl
      | true =>
        have := (sorted_srt (u :: r)).mpr ((nd_iff r u).mp q)
        rw [this] at hs
        cases hs
theorem lex_R1 (l : List Nat) : lexLt l (R1 l) = false ∧ lexLt (R1 l) l = !(l == srt l) := by
  cases q : (l == srt l) with
  | true => rw [(R1_less l).1 q]; exact ⟨lex_irr l, lex_irr l⟩
  | false => exact ⟨((R1_less l).2 q).2, ((R1_less l).2 q).1⟩
theorem srt_of_perm {a b : List Nat} (h : a.Perm b) : srt a = srt b :=
  sorted_uniq _ _ ((srt_perm a).trans (h.trans (srt_perm b).symm)) (srt_sorted a) (srt_sorted b)
theorem facts (us : List Nat) (h6 : ∀ u ∈ us, u < 6) (h9 : us.length ≤ 9) (hne : us ≠ []) : Facts us (R1 us) (R1 (R1 us)) where
  p1 := fun X h => by rw [rk_pass, h]
  a1 := fun X h => by rw [once_law, h]
  p2 := fun X h => by rw [rk_pass, h]
  a2 := fun X h => by rw [twice_law, h]
  l1 := (R1_perm us).length_eq
  l2 := (R1_perm _).length_eq.trans (R1_perm us).length_eq
  s0 := h6
  s1 := fun u hu => h6 u ((R1_perm us).mem_iff.mp hu)
  s2 := fun u hu => h6 u ((R1_perm us).mem_iff.mp ((R1_perm _).mem_iff.mp hu))
  g1 := (lex_R1 us).1
  g2 := (lex_R1 _).1
  h9 := h9
  hne := hne
theorem told_srt (us : List Nat) : (R1 us == srt (R1 us)) = (R1 us == srt us) := by rw [srt_of_perm (R1_perm us)]
end Mine
/-! part C25 -/
set_option maxRecDepth 100000
set_option linter.unusedVariables false
namespace Mine
open PySem PySem.Spec PySem.Calls PyProof.Rows PySem.W PySem.W.X
theorem pick9 (vs : List Value) : slicePick ⟨vs⟩ none (some 9) none = ⟨vs.take 9⟩ := by
  have e : sliceBounds none (some 9) none (⟨vs⟩ : Array Value).size = (((0 : Nat) : Int), ((min 9 vs.length : Nat) : Int), 1) := by
    simp only [sliceBounds, Option.getD_none, show (1 : Int) > 0 by decide, if_true, if_neg (show ¬ ((9 : Int) < 0) by omega)]
    congr 1
    congr 1
    simp only [List.size_toArray]
    omega
  rw [kmk_pick_nat _ e]
  show ((vs.drop 0).take (min 9 vs.length - 0)).toArray = _
  rw [List.drop_zero, Nat.sub_zero, kmk_take_min]
section
variable {w : World}
theorem law_valid (sl : Addr) (ss : List (Int × Tok)) (n : Nat) (h63 : ss.length ≤ 63) : Valid pw w (kt w.params) (cLaw sl ss n) := by
  by_cases h0 : ss = []
  · subst h0
    have H := facts [3, 2, 4, 1] (by decide) (by decide) (by decide)
    obtain ⟨lnF, psF, hS⟩ := src_txt (w := w) [3, 8, 4, 1] [3, 2, 4, 1] (by decide) (by decide) rfl
    exact vLawE _ _ H sl n lnF psF hS (by decide) (by decide) (by decide) (by decide)
  · have hnl : (ss.take 9).length ≤ 9 := by rw [List.length_take]; omega
    have hne : ss.take 9 ≠ [] := fun e => by
      have := congrArg List.length e
      rw [List.length_take] at this
      have h1 := List.length_pos_iff.mpr h0
      simp only [List.length_nil] at this
      omega
    have six : ∀ x : Int, (x.fmod 6).toNat < 6 := fun x => by
      have := Int.fmod_nonneg_of_pos x (b := 6) (by decide)
      have := Int.fmod_lt_of_pos x (b := 6) (by decide)
      omega
    have twelve : ∀ x : Int, (x.fmod 12).toNat < 12 := fun x => by
      have := Int.fmod_nonneg_of_pos x (b := 12) (by decide)
      have := Int.fmod_lt_of_pos x (b := 12) (by decide)
      omega
    generalize hn : ss.take 9 = ns at hnl hne
    generalize hu : ns.map (fun x => (x.1.fmod 6).toNat) = us
    generalize hk : ns.map (fun x => (x.1.fmod 12).toNat) = ks
    have hul : us.length = ns.length := by rw [← hu, List.length_map]
    have hkl : ks.length = ns.length := by rw [← hk, List.length_map]
    have hu0 : us ≠ [] := fun e => hne (List.eq_nil_of_length_eq_zero (by rw [← hul, e]; rfl))
    have hk0 : ks ≠ [] := fun e => hne (List.eq_nil_of_length_eq_zero (by rw [← hkl, e]; rfl))
    have h6 : ∀ u ∈ us, u < 6 := fun u hu' => by
      rw [← hu] at hu'
      obtain ⟨x, _, rfl⟩ := List.mem_map.mp hu'
      exact six _
    have h12 : ∀ k ∈ ks, k < 12 := fun k hk' => by
      rw [← hk] at hk'
      obtain ⟨x, _, rfl⟩ := List.mem_map.mp hk'
      exact twelve _
    have huk : us = ks.map (· % 6) := by
      rw [← hu, ← hk, List.map_map]
      exact List.map_congr_left fun x _ => fmod_six x.1
    have H := facts us h6 (by omega) hu0
    obtain ⟨lnF, psF, hS⟩ := src_txt (w := w) ks us hk0 h12 huk
    obtain ⟨r, hr⟩ : ∃ r, us.length = r + 1 := ⟨us.length - 1, by have := List.length_pos_iff.mpr hu0; omega⟩
    have hs0 : ss.map nv ≠ [] := fun e => h0 (List.map_eq_nil_iff.mp e)
    have hs63 : (ss.map nv).length ≤ 1000 := by rw [List.length_map]; omega
    have hpick : slicePick ⟨ss.map nv⟩ none (some 9) none = ⟨ns.map nv⟩ := by rw [pick9, ← List.map_take, hn]
    have c1 := (lex_R1 us).2
    have c2 := (lex_R1 (R1 us)).2
    rw [told_srt] at c2
    cases b1 : (us == srt us) with
    | true =>
      have e1 : R1 us = us := (R1_less us).1 b1
      have b2 : (R1 us == srt us) = true := by rw [e1]; exact b1
      rw [b1] at c1
      rw [b2] at c2
      exact vLawC H sl ss ns n ks r lnF psF hs0 hs63 hpick hk.symm hu.symm hr hS c1 c2 b1 b2
    | false =>
      rw [b1] at c1
      cases b2 : (R1 us == srt us) with
      | true =>
        rw [b2] at c2
        exact vLawB H sl ss ns n ks r lnF psF hs0 hs63 hpick hk.symm hu.symm hr hS c1 c2 b1 b2
      | false =>
        rw [b2] at c2
        exact vLawA H sl ss ns n ks r lnF psF hs0 hs63 hpick hk.symm hu.symm hr hS c1 c2 b1 b2
end
end Mine
/-! part Said -/
set_option maxRecDepth 100000
set_option linter.unusedVariables false
namespace Mine
open PySem PySem.Spec PySem.Calls PySem.W PySem.W.X PyProof.Rows
/-! the law is well said, look by look -/
noncomputable def pX : Program := PySem.Challenge.rw_in0138_01.row.prog
noncomputable def meetQ := @PySem.W.Fast.tw17119622794617984870
theorem meetQ_eq : @namesMeet = meetQ := PySem.W.Fast.te17119622794617984870
noncomputable def resolveQ := @PySem.W.Fast.tw8377067652309620493
theorem resolveQ_eq : @namesResolve = resolveQ := PySem.W.Fast.te8377067652309620493
noncomputable def roadQ := @PySem.W.Fast.tw8326940854005059898
theorem roadQ_eq : @noRoadLSs = roadQ := PySem.W.Fast.te8326940854005059898
theorem meet_of {p : Program} {b : List Stmt} {f : Scope → Str → Bool} (h : meetQ p b f = true) : namesMeet p b f = true := by rw [meetQ_eq]; exact h
theorem resolve_of {p : Program} (h : resolveQ p = true) : namesResolve p = true := by rw [resolveQ_eq]; exact h
theorem road_of {l : Look} {b : List Stmt} (h : roadQ l b = true) : noRoadLSs l b = true := by rw [roadQ_eq]; exact h
theorem reads_of {p : Program} {b : List Stmt} {n : Str} (h : (!meetQ p b fun sc x => x != n || !(sc.names.lookup x == some .globalImplicit || sc.names.lookup x == some .globalExplicit)) = false) : readsOut p b n = false := by
  unfold readsOut; rw [meetQ_eq]; exact h
/-- a look at the text's reads -/
theorem reads1 : readsOut pX pX.main.body "vars" = false := reads_of (by kernel_rfl)
theorem reads2 : readsOut pX pX.main.body "dir" = false := reads_of (by kernel_rfl)
theorem reads3 : readsOut pX pX.main.body "locals" = false := reads_of (by kernel_rfl)
theorem filter3 {α : Type} {f : α → Bool} {a b c : α} (h1 : f a = false) (h2 : f b = false) (h3 : f c = false) : [a, b, c].filter f = [] := by simp [h1, h2, h3]
theorem road_said : noRoadLSs { strict := !(importedModules pX.main.body).all cThrough.contains, foot := none, bare := (["vars", "dir", "locals"] : List Str).filter (readsOut pX pX.main.body) } pX.main.body = true := by
  rw [filter3 reads1 reads2 reads3]
  exact road_of (by kernel_rfl)
theorem meet_said : (namesMeet pX pX.main.body fun _ n => attrL n) = true := meet_of (by kernel_rfl)
theorem resolve_said : namesResolve pX = true := resolve_of (by kernel_rfl)
theorem looks_said : looksOpen pX = true := by
  delta looksOpen
  refine look_both (look_both (look_both (look_both ?_ ?_) ?_) road_said) meet_said
  · kernel_rfl
  · exact resolve_said
  · kernel_rfl
theorem row_said' : PySem.Challenge.rw_in0138_01.row.wellSaid = true := by
  delta OpenRow.wellSaid
  refine look_both (look_both ?_ ?_) ?_
  · delta OpenRow.partSaid
    refine look_both (look_both (look_both (look_both (look_both (look_both (look_both (look_both (look_both (look_both (look_both (look_both (look_both looks_said ?_) ?_) ?_) ?_) ?_) ?_) ?_) ?_) ?_) ?_) ?_) ?_) ?_
    all_goals kernel_rfl
  · kernel_rfl
  · kernel_rfl
theorem meets_above : namesMeet PySem.Challenge.rw_in0138_01.prog PySem.Challenge.rw_in0138_01.above (fun _ n => !PySem.Challenge.rw_in0138_01.own.contains n) = true := meet_of (by kernel_rfl)
theorem said_law : PySem.Challenge.rw_in0138_01.wellSaid = true := by
  delta OpenLaw.wellSaid
  refine look_both (look_both (look_both (look_both (look_both (look_both (look_both (look_both (look_both (look_both (look_both (look_both (look_both (look_both (look_both (look_both (look_both (look_both row_said' ?_) ?_) ?_) ?_) ?_) ?_) ?_) ?_) ?_) ?_) ?_) ?_) ?_) ?_) ?_) ?_) meets_above) ?_
  all_goals kernel_rfl
end Mine
/-! part J0 -/
set_option maxRecDepth 100000
set_option linter.unusedVariables false
namespace Mine
open PySem PySem.Spec PySem.Calls PySem.W PySem.W.X PyProof.Rows
theorem left_pw : LeftO pw viewP looseN xtP obsP valP 10620 := by
  refine left_of (e := 828) (f := 5260) (by decide) (by decide) (look := lookP) (r := fun w => (openGood viewP looseN, valP w)) (fun w s₀ s₁ h => ?_) head_run
  unfold lookP at h
  cases q : staticsOk (importedModules pw.main.body) s₀.heap s₁.heap && namesBound pw s₁.heap && gensDone s₁ && laidKept s₀.heap s₁.heap with
  | false => rw [q] at h; cases h
  | true =>
    rw [q] at h
    refine ⟨rfl, ?_⟩
    rw [seenQ_eq]
    exact Option.some.inj h
theorem kt_of (P : Params) : KT.of (kl P) = kt P := by kernel_rfl
theorem kl_in (P : Params) : (kl P).map (fun p => (klT P).lookup p.1) = (kl P).map (fun p => some p.2) := by kernel_rfl
theorem allIn_map {h : Heap} {K : Frag} (KX : K.In h) : ∀ {l : Frag}, l.map (fun p => K.lookup p.1) = l.map (fun p => some p.2) → AllIn h l
  | [], _ => trivial
  | p :: l, e => by
    have e1 := (List.cons.inj e).1
    have e2 := (List.cons.inj e).2
    exact ⟨KX _ _ e1, allIn_map KX e2⟩
theorem kt_in_gen {K L : Frag} {t : KT} {h : Heap} (KX : K.In h) (e : L.map (fun p => K.lookup p.1) = L.map (fun p => some p.2)) (ho : KT.of L = t) : ∀ a o, t.get a = some o → h.get? a = some o := by
  intro a o q
  rw [← ho] at q
  have := KT.Holds.get (holds_of (allIn_map KX e)) q
  rw [Nat.one_mul, Nat.add_zero] at this
  exact this
theorem kt_in {P : Params} {h : Heap} (KX : (klT P).In h) : ∀ a o, (kt P).get a = some o → h.get? a = some o := @kt_in_gen (klT P) (kl P) (kt P) h KX (kl_in P) (kt_of P)
theorem keys_is (P : Params) : klA = (klT P).map (·.1) := by kernel_rfl
theorem in_of {w : World} {s : Shared} (y : obsP s = valP w) : InK klT w s.heap := InK.of keys_is w s (congrArg Prod.fst y)
theorem size_of {w : World} {s : Shared} (y : obsP s = valP w) : s.heap.objs.size = 814 := congrArg Prod.snd y
theorem ints_nv : ∀ {vs : List Value} {ns : List Int}, IntsAre vs ns → ∃ ss : List (Int × Tok), vs = ss.map nv ∧ ss.length = ns.length
  | _, _, .nil => ⟨[], rfl, rfl⟩
  | _, _, .cons n t h => by
    obtain ⟨ss, e1, e2⟩ := ints_nv h
    exact ⟨(n, t) :: ss, by rw [e1]; rfl, by simp [e2]⟩
theorem tab_in (P : Params) : (klT P).lookup 777 = some (tab0 []) := by kernel_rfl
theorem kt_814 (P : Params) : (kt P).get 814 = none := by kernel_rfl
theorem kt_777 (P : Params) : (kt P).get 777 = none := by kernel_rfl
theorem code_at (P : Params) : ∃ vs : Array Value, ob781 P = { cls := .type "code", data := .fields vs } ∧ vs[11]? = some (.ref 777) := ⟨_, rfl, rfl⟩
/-- the law's call, and what becomes of the heap -/
theorem law_call {w : World} {s : Shared} {ss : List (Int × Tok)} {R : Result → Shared → Prop} (KX : (klT w.params).In s.heap) (hlim : s.heap.NoLimit) (h63 : ss.length ≤ 63)
    (hL : s.heap.get? 814 = some (lst (ss.map nv) 0)) (H : ∀ h' tk', OldK s.heap h' → R (ret0 (.bool true)) { s with heap := h', toks := tk' }) :
    codeAny (model pw w) callerA (.call (.ref 813) ⟨[.ref 814], []⟩) R s := by
  have hb : Base (kt w.params) s.heap := ⟨kt_in KX, hlim, rfl⟩
  have h7 : s.heap.get? 777 = some (tab0 []) := KX 777 _ (tab_in w.params)
  refine law_valid 814 ss 0 h63 callerA s R rfl (by show 1 + claimMargin ≤ 500; decide) (by show 4 ≤ 7000; decide) (fun l hl => hl) hb ?_ ?_ ?_ ?_
  · intro p hp
    rcases List.mem_cons.mp hp with z | z
    · subst z; exact hL
    · rcases List.mem_cons.mp z with z | z
      · subst z; exact h7
      · cases z
  · show [814, 777].Nodup
    decide
  · intro p hp
    rcases List.mem_cons.mp hp with z | z
    · subst z; exact kt_814 w.params
    · rcases List.mem_cons.mp z with z | z
      · subst z; exact kt_777 w.params
      · cases z
  · intro α τ ν h' tk' A
    refine H h' tk' ⟨fun b o e => ?_, fun b o e => ?_⟩
    · by_cases q : b = 777
      · subst q
        obtain ⟨vs, c1, c2⟩ := code_at w.params
        have hc : s.heap.get? 781 = some (ob781 w.params) := kt_in KX 781 _ rfl
        have : o = tab0 [] := Option.some.inj (e.symm.trans h7)
        subst this
        refine .inr (.inl ⟨⟨781, _, vs, hc, by rw [c1], by rw [c1], c2⟩, rfl, #[], #[ν 0, ν 1, ν 2], rfl, ?_⟩)
        exact A.post (777, tab0 [ν 0, ν 1, ν 2]) (.tail _ (.head _))
      · by_cases q2 : b = 814
        · subst q2
          have : o = lst (ss.map nv) 0 := Option.some.inj (e.symm.trans hL)
          subst this
          exact .inl (A.post (814, lst (ss.map nv) 0) (.head _))
        · refine .inl (A.keep b o e fun hm => ?_)
          have hm' : b ∈ [814, 777] := hm
          simp [q, q2] at hm'
    · by_cases q : b = 777
      · subst q; exact ⟨_, A.post (777, tab0 [ν 0, ν 1, ν 2]) (.tail _ (.head _))⟩
      · by_cases q2 : b = 814
        · subst q2; exact ⟨_, A.post (814, lst (ss.map nv) 0) (.head _)⟩
        · refine ⟨o, A.keep b o e fun hm => ?_⟩
          have hm' : b ∈ [814, 777] := hm
          simp [q, q2] at hm'
end Mine
open PySem PySem.W PySem.W.X PySem.W.ZRun PyProof.Rows
set_option maxRecDepth 100000 in
set_option maxHeartbeats 0 in
theorem PySem.Challenge.cw_in0138_01_holds : PySem.Challenge.rw_in0138_01.Holds := by
  w_on
  refine holds_law Mine.said_law fun said => ?_
  refine holds_openX (q := Mine.viewP) (loose := Mine.looseN) (Xt := Mine.xtP) (XP := XL Mine.viewP []) (Yf := Mine.obsP) (Ya := Mine.valP) (N := 10620) ?hl (fun s e => xl_of s (Bool.and_eq_true_iff.mp e).1) XL.keeps (by rfl) (by rfl) (by rfl) (fun s e => recFacts_of (Bool.and_eq_true_iff.mp e).2) (by rfl) (by first | assumption | decide +kernel) (by decide +kernel) ⟨rfl, rfl, rfl, rfl, rfl, by decide +kernel⟩ ?hw ?hc
  case hl => exact Mine.left_pw
  case hw => w_witness2
  intro w s₀ s₁ mg mb G y fa o pm cd doc dV kV ho hd hcd hD hmg hg args vals as L hpre hlay hrd hwl hlo
  have KX : (Mine.klT w.params).In s₁.heap := InK.keeps w s₀.heap s₁.heap (Mine.in_of y) L.keeps
  have ZN := Mine.size_of y
  refine Ground.open G ?_
  intro T B D TE TW
  wrow_args hpre hlay hrd hwl hlo
  obtain ⟨hat, hsz⟩ := script_at L
  rw [ZN] at hat hsz
  subst hat
  x_fa T KX hmg
  all_lens
  rename_i hi9 hb9
  rename s₁.heap.IsList 814 _ => hL
  have hol := script_obj L hL
  obtain ⟨ss, e1, e2⟩ := Mine.ints_nv hi9
  subst e1
  refine wpAny_call (Mine.law_call KX T.nolimit ?_ hol fun h' tk' K => ?_)
  · rw [e2]; omega
  · refine ⟨.inl ⟨_, _, [], rfl, ?_, ReadsW.bool true, ?_, fun _ => ⟨List.nodup_nil, fun _ hm => (nomatch hm)⟩⟩, K, rfl, AllBare.of_eq hg⟩
    · intro cls
      rfl
    · first | kernel_rfl | wrow_post
