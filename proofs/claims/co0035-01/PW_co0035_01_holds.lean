import PyProof.Rows.All
import Wide.All
import OpenK.AllK
import Wide.FinOn
import PySem.Challenge.RW_co0035_01
open PySem PySem.W PyProof.Rows
set_option Elab.async false
namespace Mine
set_option maxRecDepth 100000 in
set_option maxHeartbeats 8000000 in
open_top hd for PySem.Challenge.rw_co0035_01

/-! ### G1 -/
section
set_option maxRecDepth 100000
theorem fill : (hd.heap_39 = hd.heap_39) ∧ (PySem.Challenge.rw_co0035_01 = PySem.Challenge.rw_co0035_01) := by
  k_fill
  exact ⟨rfl, rfl⟩
abbrev theProg : Program := PySem.Challenge.rw_co0035_01.row.prog
abbrev theTop (mean : ExcName → Option Value) (mg mb : Str → Option Value) (h : Heap) : Prop := Top hd.view_39 (looseW hd.view_39 [Str.ofString "nunpack"]) mean mg mb h
def defScope : Stmt → Scope
  | .FunctionDef _ _ _ _ _ _ sc _ _ _ => sc
  | _ => { kind := .module, names := [], isGenerator := false, isCoroutine := false }
def defBody : Stmt → List Stmt
  | .FunctionDef _ _ b _ _ _ _ _ _ _ => b
  | _ => []
def forBody : Stmt → List Stmt
  | .For _ _ b _ _ => b
  | _ => []
def noStmt : Stmt := .Pass ⟨0, 0, 0, 0⟩
def chopDef : Stmt := PySem.Challenge.pw_co0035_01.main.body.getD 1 noStmt
def chopScope : Scope := defScope chopDef
def chopBody : List Stmt := defBody chopDef
def chopTurn : List Stmt := forBody (chopBody.getD 1 noStmt)
def ifTest : Stmt → Expr
  | .If t _ _ _ => t
  | _ => .Constant .none 0 ⟨0, 0, 0, 0⟩
def ifBody : Stmt → List Stmt
  | .If _ b _ _ => b
  | _ => []
def yieldOf : Stmt → Expr
  | .Expr (.Yield (some e) _) _ => e
  | _ => .Constant .none 0 ⟨0, 0, 0, 0⟩
def stAppend : Stmt := chopTurn.getD 0 noStmt
def exTest : Expr := ifTest (chopTurn.getD 1 noStmt)
def exYield : Expr := yieldOf ((ifBody (chopTurn.getD 1 noStmt)).getD 0 noStmt)
def stClear : Stmt := (ifBody (chopTurn.getD 1 noStmt)).getD 1 noStmt
def stStart : Stmt := chopBody.getD 0 noStmt
abbrev lobj (rs : Array Value) (c : Nat) : Obj := { cls := .type "list", data := .seq rs c }
abbrev tobj (rs : Array Value) : Obj := { cls := .type "tuple", data := .seq rs }
/-- the generator's locals: x, r, n over m -/
abbrev gm (x : Value) (R : Addr) (n : Int) (tn : Tok) (m : Str → Option Value) : Str → Option Value := fun y => if y = Str.ofString "x" then some x else if y = Str.ofString "r" then some (.ref R) else if y = Str.ofString "n" then some (.int n tn) else m y

section
variable {w : World} {A : Around} {E : Value → Shared → Prop} {s : Shared} {h₀ : Heap} {C a R : Addr} {cd v : Value} {m : Str → Option Value} {mean : ExcName → Option Value} {mg mb : Str → Option Value} {nm : Str} {rs : List Value} {c : Nat} {n : Int} {tn : Tok}

local macro_rules | `(tactic| walk_at "call builtin:list.append") => `(tactic| (refine append_at (by assumption) ?_ ?_; (intro h' hs' ho'); (try assumption)))
set_option maxHeartbeats 4000000 in
theorem chop_append {Q : Flow → Shared → Prop} (X₀ : (hd.heap_39 w.params).In h₀) (T : theTop mean mg mb h₀)
    (F : Fr h₀ C s.heap (gm v R n tn m)) (hR : s.heap.get? R = some (lobj rs.toArray c)) (hR0 : h₀.get? R = none) (hRC : R ≠ C) (hsz : rs.toArray.size ≤ sizeLine)
    (h : ∀ h', Heap.SameBut R s.heap h' → h'.get? R = some (lobj (rs.toArray.push v) (c + 1)) → Q .next { s with heap := h' }) :
    wpAny (model theProg w) A (exec stAppend (envOf nm chopScope C a cd)) Q E s := by
  have N : News h₀ C s.heap [(R, lobj rs.toArray c)] := fun p hp => by
    rw [List.mem_singleton.mp hp]; exact ⟨hR, hRC, hR0⟩
  have e : stAppend = Stmt.Expr (Expr.Call (Expr.Attribute (Expr.Name (Str.ofString "r") _) (Str.ofString "append") _) _ _ _) _ := rfl
  rw [e]
  k_steps
  exact h _ (by assumption) (by assumption)

set_option maxHeartbeats 4000000 in
theorem chop_tuple {Q : Value → Shared → Prop} (X₀ : (hd.heap_39 w.params).In h₀) (T : theTop mean mg mb h₀)
    (F : Fr h₀ C s.heap (gm v R n tn m)) (hR : s.heap.get? R = some (lobj rs.toArray c)) (hR0 : h₀.get? R = none) (hRC : R ≠ C) (hsz : rs.toArray.size ≤ sizeLine)
    (h : ∀ h' : Heap, (∀ b o, s.heap.get? b = some o → h'.get? b = some o) → Q (.ref h'.objs.size) { s with heap := h'.push (tobj rs.toArray) }) :
    wpAny (model theProg w) A (eval exYield (envOf nm chopScope C a cd)) Q E s := by
  have N : News h₀ C s.heap [(R, lobj rs.toArray c)] := fun p hp => by
    rw [List.mem_singleton.mp hp]; exact ⟨hR, hRC, hR0⟩
  have e : exYield = Expr.Call (Expr.Name (Str.ofString "tuple") _) _ _ _ := rfl
  rw [e]
  iterate 6 walk1
  exact call_tuple_list (hsz := hsz) ⟨_, hR, rfl, _, rfl⟩ fun h' hk' => h h' hk'

set_option maxHeartbeats 4000000 in
theorem chop_test {Q : Bool → Shared → Prop} (X₀ : (hd.heap_39 w.params).In h₀) (T : theTop mean mg mb h₀)
    (F : Fr h₀ C s.heap (gm v R n tn m)) (hR : s.heap.get? R = some (lobj rs.toArray c)) (hR0 : h₀.get? R = none) (hRC : R ≠ C) (hsz : rs.length ≤ 1000)
    (h : ∀ tk, Q (decide ((rs.length : Int) = n)) { s with toks := tk }) :
    wpAny (model theProg w) A (isTrue exTest (envOf nm chopScope C a cd) (eval exTest (envOf nm chopScope C a cd))) Q E s := by
  have N : News h₀ C s.heap [(R, lobj rs.toArray c)] := fun p hp => by
    rw [List.mem_singleton.mp hp]; exact ⟨hR, hRC, hR0⟩
  have e : exTest = Expr.Compare (Expr.Call (Expr.Name (Str.ofString "len") _) _ _ _) [CmpOp.Eq] _ _ := rfl
  rw [e]
  iterate 7 walk1
  refine len_list ⟨_, hR, rfl, _, rfl⟩ (by rw [List.size_toArray]; omega) ?_
  k_steps
  have e2 : ((rs.toArray.size : Int) == n) = decide ((rs.length : Int) = n) := by rw [List.size_toArray]; rfl
  rw [e2]
  exact h _

set_option maxHeartbeats 4000000 in
theorem chop_clear {Q : Flow → Shared → Prop} (X₀ : (hd.heap_39 w.params).In h₀) (T : theTop mean mg mb h₀)
    (F : Fr h₀ C s.heap m)
    (h : ∀ h' tk, Heap.SameBut C (s.heap.push (lobj #[] 0)) h' → Fr h₀ C h' (fun y => if y = Str.ofString "r" then some (.ref s.heap.objs.size) else m y) → Q .next { s with heap := h', toks := tk }) :
    wpAny (model theProg w) A (exec stClear (envOf nm chopScope C a cd)) Q E s := by
  have e : stClear = Stmt.Assign [Expr.Name (Str.ofString "r") _] (Expr.List [] _) _ := rfl
  rw [e]
  iterate 3 walk1
  refine wpAny_newObj_type ?_
  refine wpAny_storeName_local (by rfl) (F.push _).ns (fun h' hn hs => ?_)
  exact h h' _ hs ((F.push _).set hn hs)

set_option maxHeartbeats 4000000 in
theorem chop_start {Q : Flow → Shared → Prop} (X₀ : (hd.heap_39 w.params).In h₀) (T : theTop mean mg mb h₀)
    (F : Fr h₀ C s.heap m)
    (h : ∀ h' tk, Heap.SameBut C (s.heap.push (lobj #[] 0)) h' → Fr h₀ C h' (fun y => if y = Str.ofString "r" then some (.ref s.heap.objs.size) else m y) → Q .next { s with heap := h', toks := tk }) :
    wpAny (model theProg w) A (exec stStart (envOf nm chopScope C a cd)) Q E s := by
  have e : stStart = Stmt.Assign [Expr.Name (Str.ofString "r") _] (Expr.List [] _) _ := rfl
  rw [e]
  iterate 3 walk1
  refine wpAny_newObj_type ?_
  refine wpAny_storeName_local (by rfl) (F.push _).ns (fun h' hn hs => ?_)
  exact h h' _ hs ((F.push _).set hn hs)
end
end

/-! ### G2 -/
section
open Sem (wp)
set_option maxRecDepth 100000
section
variable {M : Model} {A : Around} {R : GenEnd} {Y : Protocol} {n : Nat} {s₀ : Shared} {c : Code} {fs : List Frame} {s : Shared} {env : Env}
  {K : Flow → Sem Fin} {H : Value → Sem Fin} {gd : Bool → Bool} {lv : List Value → List Value}

theorem seg_If {test : Expr} {body orelse : List Stmt} {pos : Pos}
    (h : wpAny M (A.over c fs) (isTrue test env (eval test env)) (fun b s' => if b = true then Seg M A R Y n s₀ c ((execs body env).wrap K H gd lv) fs s' else Seg M A R Y n s₀ c ((execs orelse env).wrap K H gd lv) fs s')
      (fun x s' => Seg M A R Y n s₀ c (H x) fs s') s) :
    Seg M A R Y n s₀ c ((exec (.If test body orelse pos) env).wrap K H gd lv) fs s := by
  rw [exec_If]
  refine seg_bind_wrap (wpAny_standAt (seg_bind_wrap (wpAny_mono h (fun b s' hb => ?_) fun _ _ x => x)))
  cases b with
  | true => rw [if_pos rfl] at hb; exact hb
  | false => rw [if_neg Bool.false_ne_true] at hb; exact hb

def ownK (env : Env) (K : Flow → Sem Fin) (H : Value → Sem Fin) (gd : Bool → Bool) (lv : List Value → List Value) (r : Result) : Sem Fin :=
  ((match r with | .ok f => (.pure f : Sem Flow) | .error e => .raise e).onRaise fun (x : Value) => do
        if (← field x 1) == Value.none then unsupported "frame.own-activation:exception-without-traceback"
        setFlight x env.frame).wrap K H gd lv

theorem seg_runOwn {c' : Code} (h : ∀ p, Seg M A R Y n s₀ c' (M.den c') (.ret (ownK env K H gd lv) none (gd false) (lv []) c p [] :: fs) s) :
    Seg M A R Y n s₀ c ((runOwn c' env).wrap K H gd lv) fs s := seg_call h

theorem seg_For {target iter : Expr} {body orelse : List Stmt} {pos : Pos}
    (h : wpAny M (A.over c fs) (eval iter env) (fun x s₁ => wpAny M (A.over c fs) (pyIter x) (fun it s₂ =>
        ∀ p, Seg M A R Y n s₀ (.forLoop target it body orelse env) (M.den (.forLoop target it body orelse env)) (.ret (ownK env K H gd lv) none (gd false) (lv []) c p [] :: fs) s₂)
        (fun x s' => Seg M A R Y n s₀ c (H x) fs s') s₁) (fun x s' => Seg M A R Y n s₀ c (H x) fs s') s)
    (hs : ∀ x, foldedSetIterable iter env x = pure x := by intro _; rfl) :
    Seg M A R Y n s₀ c ((exec (.For target iter body orelse pos) env).wrap K H gd lv) fs s := by
  rw [exec_For]
  refine seg_bind_wrap (wpAny_standAt (seg_bind_wrap (wpAny_mono h (fun x s₁ h₁ => ?_) fun _ _ x => x)))
  refine seg_bind_wrap (wpAny_of_eq (hs x) (seg_bind_wrap (wpAny_standAt (seg_bind_wrap (wpAny_holding (wpAny_mono h₁ (fun it s₂ h₂ => ?_) fun _ _ x => x))))))
  exact seg_runOwn h₂
end

section
variable {prog : Program} {w : World} {A : Around} {R : GenEnd} {Y : Protocol} {n : Nat} {s₀ : Shared} {fs : List Frame} {s : Shared} {env : Env}

def noteK (env : Env) (e : Value) : Sem Fin := (do noteFrame e env; theTreesLotGoes e : Sem Unit).wrap (fun _ => .raise e) .raise id id
def turnK (target : Expr) (it : Value) (body orelse : List Stmt) (env : Env) (f : Flow) : Sem Fin := match f with
  | .next | .cont => .pure (.again (.forLoop target it body orelse env))
  | .brk => .pure (.done .next)
  | .ret v => .pure (.done (.ret v))

theorem seg_forLoop {target : Expr} {it : Value} {body orelse : List Stmt}
    (h : ∀ E, wpAny (model prog w) (A.over (.forLoop target it body orelse env) fs) (pyNext it) (fun r s₁ => match r with
        | none => Seg (model prog w) A R Y n s₀ (.block orelse env) ((model prog w).den (.block orelse env)) fs s₁
        | some v => ∀ E', wpAny (model prog w) (A.over (.forLoop target it body orelse env) fs) (letOwnedTupleGo target it v) (fun _ s₂ => wpAny (model prog w) (A.over (.forLoop target it body orelse env) fs) (assign target env v) (fun _ s₃ =>
            Seg (model prog w) A R Y n s₀ (.forLoop target it body orelse env) ((execs body env).wrap (turnK target it body orelse env) (noteK env) id id) fs s₃) E' s₂) E' s₁) E s) :
    Seg (model prog w) A R Y n s₀ (.forLoop target it body orelse env) ((model prog w).den (.forLoop target it body orelse env)) fs s := by
  show Seg _ A R Y n s₀ _ ((forTurn target it body orelse env).onRaise (fun x => do noteFrame x env; theTreesLotGoes x)) fs s
  unfold forTurn
  rw [Sem.onRaise_eq_wrap]
  refine seg_bind_wrap (wpAny_standAt (seg_bind_wrap (wpAny_onRaise (wpAny_mono (h _) (fun r s₁ h₁ => ?_) fun _ _ x => wpAny_standAt x))))
  cases r with
  | none => exact seg_again rfl h₁
  | some v =>
    refine seg_bind_wrap (wpAny_mono (h₁ _) (fun _ s₂ h₂ => ?_) fun _ _ x => x)
    refine seg_bind_wrap (wpAny_mono h₂ (fun _ s₃ h₃ => ?_) fun _ _ x => x)
    rw [Sem.bind_eq_wrap', Sem.wrap_wrap]
    rw [Sem.wrap_congr (execs body env) _ _ (K' := turnK target it body orelse env) (H' := noteK env)
        (fun f => by cases f <;> rfl)
        (fun e => by show (do noteFrame e env; theTreesLotGoes e : Sem Unit).bind (fun _ => .raise e) = _; rw [Sem.bind_eq_wrap]; rfl)]
    exact h₃

theorem seg_block {env : Env} (h : Seg (model prog w) A R Y n s₀ (.block [] env) (.pure (.done .next)) fs s) :
    Seg (model prog w) A R Y n s₀ (.block [] env) ((model prog w).den (.block [] env)) fs s := h
end
end

/-! ### G3 -/
section
open Sem (wp)
set_option maxRecDepth 100000
def Since (C : Addr) (itc : String) (N₀ : Nat) (s₀ s : Shared) : Prop :=
  ∃ h' tk, s = { s₀ with heap := h', toks := tk } ∧ (∀ b o, s₀.heap.get? b = some o → ∃ o', h'.get? b = some o') ∧ ∀ b o, b ≠ C → (b < N₀ ∨ o.cls ≠ .type itc) → s₀.heap.get? b = some o → h'.get? b = some o
def Kept (C : Addr) (itc : String) (N₀ : Nat) (s₀ s : Shared) : Prop :=
  ∃ h' tk, s = { s₀ with heap := h', toks := tk } ∧ ∀ b o, b ≠ C → (b < N₀ ∨ o.cls ≠ .type itc) → s₀.heap.get? b = some o → h'.get? b = some o
theorem Since.kept {C : Addr} {itc : String} {N₀ : Nat} {s₀ s : Shared} (x : Since C itc N₀ s₀ s) {h' : Heap} {tk : Nat}
    (hk : ∀ b o, b ≠ C → (b < N₀ ∨ o.cls ≠ .type itc) → s₀.heap.get? b = some o → s.heap.get? b = some o → h'.get? b = some o) : Kept C itc N₀ s₀ { s with heap := h', toks := tk } := by
  obtain ⟨h₁, tk₁, rfl, _, hk₁⟩ := x
  exact ⟨h', tk, rfl, fun b o hC hi e => hk b o hC hi e (hk₁ b o hC hi e)⟩
theorem Since.refl (C : Addr) (itc : String) (N₀ : Nat) (s : Shared) : Since C itc N₀ s s := ⟨s.heap, s.toks, rfl, fun _ o e => ⟨o, e⟩, fun _ _ _ _ e => e⟩
theorem Since.step {C : Addr} {itc : String} {N₀ : Nat} {s₀ s : Shared} (x : Since C itc N₀ s₀ s) {h' : Heap} {tk : Nat}
    (hl : ∀ b o, s.heap.get? b = some o → ∃ o', h'.get? b = some o')
    (hk : ∀ b o, b ≠ C → (b < N₀ ∨ o.cls ≠ .type itc) → s₀.heap.get? b = some o → s.heap.get? b = some o → h'.get? b = some o) : Since C itc N₀ s₀ { s with heap := h', toks := tk } := by
  obtain ⟨h₁, tk₁, rfl, hl₁, hk₁⟩ := x
  exact ⟨h', tk, rfl, fun b o e => let ⟨o', e'⟩ := hl₁ b o e; hl b o' e', fun b o hC hi e => hk b o hC hi e (hk₁ b o hC hi e)⟩
theorem Since.keep {C : Addr} {itc : String} {N₀ : Nat} {s₀ s : Shared} (x : Since C itc N₀ s₀ s) : ∀ b o, b ≠ C → (b < N₀ ∨ o.cls ≠ .type itc) → s₀.heap.get? b = some o → s.heap.get? b = some o := by
  obtain ⟨h₁, tk₁, rfl, _, hk₁⟩ := x
  exact hk₁
theorem Since.live {C : Addr} {itc : String} {N₀ : Nat} {s₀ s : Shared} (x : Since C itc N₀ s₀ s) : ∀ b o, s₀.heap.get? b = some o → ∃ o', s.heap.get? b = some o' := by
  obtain ⟨h₁, tk₁, rfl, hl₁, _⟩ := x
  exact hl₁
theorem live_but {h h' : Heap} {a : Addr} (hk : ∀ b o, b ≠ a → h.get? b = some o → h'.get? b = some o) (ha : ∃ o, h'.get? a = some o) : ∀ b o, h.get? b = some o → ∃ o', h'.get? b = some o' := fun b o e => by
  by_cases hb : b = a
  · rw [hb]; exact ha
  · exact ⟨o, hk b o hb e⟩
theorem live_of {h h' : Heap} (hk : ∀ b o, h.get? b = some o → h'.get? b = some o) : ∀ b o, h.get? b = some o → ∃ o', h'.get? b = some o' := fun b o e => ⟨o, hk b o e⟩
theorem live_trans {h h' h'' : Heap} (x : ∀ b o, h.get? b = some o → ∃ o', h'.get? b = some o') (y : ∀ b o, h'.get? b = some o → ∃ o', h''.get? b = some o') : ∀ b o, h.get? b = some o → ∃ o', h''.get? b = some o' :=
  fun b o e => let ⟨o', e'⟩ := x b o e; y b o' e'
theorem ns_live {h : Heap} {C : Addr} {m : Str → Option Value} (x : h.Ns C m) : ∃ o, h.get? C = some o := let ⟨o, _, _, e, _⟩ := x; ⟨o, e⟩

def chopY (C D : Addr) (itc : String) (N₀ n m : Nat) (P : Nat → Value → Prop) : Protocol := fun k s₀ v s kap =>
  (∃ (a : Addr) (us : List Value), v = .ref a ∧ us.length = n ∧ (∀ j u, us[j]? = some u → P (n * (m - 1 - k) + j) u) ∧ s.heap.get? a = some (tobj us.toArray) ∧ s₀.heap.get? a = none ∧ N₀ ≤ a) ∧
  Since C itc N₀ s₀ s ∧
  ∀ s'' : Shared, (∀ b o, b ≠ D → s.heap.get? b = some o → s''.heap.get? b = some o) → (∃ o, s''.heap.get? D = some o) → kap (.send .none) s''
def chopR (C : Addr) (itc : String) (N₀ : Nat) : GenEnd := fun k s₀ r s₁ => r = .ok (.ret .none) ∧ (k = 0 ∧ Kept C itc N₀ s₀ s₁)

def forTarget : Stmt → Expr
  | .For t _ _ _ _ => t
  | _ => .Constant .none 0 ⟨0, 0, 0, 0⟩
def chopTarget : Expr := forTarget (chopBody.getD 1 noStmt)
theorem gm_eq {v : Value} {R : Addr} {n : Int} {tn : Tok} {m : Str → Option Value} (h1 : m (Str.ofString "r") = some (.ref R)) (h2 : m (Str.ofString "n") = some (.int n tn)) :
    (fun y => if y = Str.ofString "x" then some v else m y) = gm v R n tn m := by
  funext y
  unfold gm
  split
  · rfl
  · split
    · rename_i e; rw [e]; exact h1
    · split
      · rename_i e; rw [e]; exact h2
      · rfl

theorem div_end {n q r N : Nat} (hr : r < n) (h : N = n * q + r) : N / n = q := by
  subst h
  rw [Nat.mul_add_div (by omega), Nat.div_eq_of_lt hr]; rfl

section
variable {w : World} {A : Around} {h₀ : Heap} {mean : ExcName → Option Value} {mg mb : Str → Option Value}

set_option maxHeartbeats 4000000 in
theorem chop_loop (hh : A.handled = none) (X₀ : (hd.heap_39 w.params).In h₀) (T : theTop mean mg mb h₀) (C D I a : Addr) (cd : Value) (nm : Str) (itc : String) (N₀ n m N : Nat) (tn : Tok) (P : Nat → Value → Prop) (fpI : List Addr) (StI : Nat → Heap → Prop)
    (W : ∀ A' : Around, A'.handled = none → Walks theProg w A' I fpI [I] N P StI) (hIc : ∀ i h, StI i h → ∃ o, h.get? I = some o ∧ o.cls = .type itc) (hIl : ∀ i h, StI i h → ∀ b ∈ fpI, ∃ o, h.get? b = some o)
    (hn : 1 ≤ n) (hm : m = N / n) (hnb : n ≤ 1000) (hCf : C ∉ fpI) (hDf : D ∉ fpI) (hNI : N₀ ≤ I) (hDC : D ≠ C) (hD0 : h₀.get? D = none) (hN0 : h₀.objs.size ≤ N₀)
    {fs : List Frame} (hh' : (A.over (.forLoop chopTarget (.ref I) chopTurn [] (envOf nm chopScope C a cd)) fs).handled = none) (hfs : splitAtGen fs = none) (hfg : fs.any Frame.guarded = false)
    (hend : ∀ s₀ s₁, Kept C itc N₀ s₀ s₁ → Seg (model theProg w) A (chopR C itc N₀) (chopY C D itc N₀ n m P) 0 s₀ (.block [] (envOf nm chopScope C a cd)) (.pure (.done .next)) fs s₁) :
    ∀ (k i q : Nat) (rs : List Value) (R : Addr) (c : Nat) (mm : Str → Option Value) (s₀ s : Shared), N - i = k → i ≤ N → i = n * q + rs.length → rs.length < n → (∀ j u, rs[j]? = some u → P (n * q + j) u) →
      StI i s.heap → Fr h₀ C s.heap mm → mm (Str.ofString "r") = some (.ref R) → mm (Str.ofString "n") = some (.int n tn) → s.heap.get? R = some (lobj rs.toArray c) → R ≠ C → R ≠ D → R ∉ fpI → N₀ ≤ R →
      (∃ o, s.heap.get? D = some o) → Since C itc N₀ s₀ s → s₀.heap.get? R = none →
      Seg (model theProg w) A (chopR C itc N₀) (chopY C D itc N₀ n m P) (m - q) s₀ (.forLoop chopTarget (.ref I) chopTurn [] (envOf nm chopScope C a cd))
        ((model theProg w).den (.forLoop chopTarget (.ref I) chopTurn [] (envOf nm chopScope C a cd))) fs s := by
  have hIf : I ∈ fpI := (W A hh).sub I (by simp)
  have hCI : C ≠ I := fun h => hCf (h ▸ hIf)
  have hDI : D ≠ I := fun h => hDf (h ▸ hIf)
  have eT : chopTarget = Expr.Name (Str.ofString "x") _ := rfl
  have eB : chopTurn = [stAppend, Stmt.If exTest [Stmt.Expr (Expr.Yield (some exYield) _) _, stClear] [] _] := rfl
  intro k
  induction k with
  | zero =>
    intro i q rs R c mm s₀ s hk hi hq hr hP hst F hmr hmn hR hRC hRD hRf hNR hDe hsince hRs
    have hin : i = N := by omega
    subst hin
    refine seg_forLoop fun E => ?_
    refine (W _ hh').done s _ _ hst fun h' tk hk' => ?_
    refine seg_block ?_
    have e0 : m - q = 0 := by rw [hm, div_end hr hq]; omega
    rw [e0]
    obtain ⟨oI, heI, hcI⟩ := hIc _ _ hst
    exact hend _ _ (hsince.kept fun b o hbC hbi e0 e => hk' b o (fun hm => by
      rw [List.mem_singleton.mp hm, heI] at e
      cases e
      rcases hbi with h | h
      · rw [List.mem_singleton.mp hm] at h; exact Nat.lt_irrefl _ (Nat.lt_of_lt_of_le h hNI)
      · exact h hcI) e)
  | succ k ih =>
    intro i q rs R c mm s₀ s hk hi hq hr hP hst F hmr hmn hR hRC hRD hRf hNR hDe hsince hRs
    have hlt : i < N := by omega
    refine seg_forLoop fun E => ?_
    refine (W _ hh').item i s _ _ hlt hst fun v h₁ tk₁ hPv hst₁ hk₁ => ?_
    intro E'
    rw [eT]
    refine wpAny_of_eq (rfl : letOwnedTupleGo (.Name _ _) (.ref I) v = pure ()) ?_
    have hRI : R ≠ I := fun h => hRf (h ▸ hIf)
    have F₁ : Fr h₀ C h₁ mm := ⟨F.ns.at' fun o e => hk₁ _ o (by simpa using hCI) e, fun b o e => hk₁ b o (fun hm => by
      rw [List.mem_singleton.mp hm] at e
      exact absurd (Nat.lt_of_lt_of_le (Heap.lt_size e) (Nat.le_trans hN0 hNI)) (Nat.lt_irrefl _)) (F.keep b o e), F.above⟩
    refine wpAny_assign_Name (wpAny_storeName_local (by rfl) F₁.ns (fun h₂ hn₂ hs₂ => ?_) (by rfl))
    have F₂ : Fr h₀ C h₂ (gm v R n tn mm) := by
      have := F₁.set hn₂ hs₂
      rwa [gm_eq hmr hmn] at this
    have hst₂ : StI (i + 1) h₂ := (W A hh).frame _ _ _ hst₁ fun b hb o e => hs₂.extBut b o (fun h => hCf (by have h' : b = C := h; rw [← h']; exact hb)) e
    have hR₂ : h₂.get? R = some (lobj rs.toArray c) := hs₂.extBut _ _ hRC (hk₁ _ _ (by simpa using hRI) hR)
    have hR0 : h₀.get? R = none := by
      cases e : h₀.get? R with
      | none => rfl
      | some o => exact absurd (Nat.lt_of_lt_of_le (Heap.lt_size e) (Nat.le_trans hN0 hNR)) (Nat.lt_irrefl _)
    obtain ⟨oI, heI, hcI⟩ := hIc _ _ hst
    have up₂ : ∀ b o, b ≠ C → b ≠ I → s.heap.get? b = some o → h₂.get? b = some o := fun b o hC hI e => hs₂.extBut b o hC (hk₁ b o (by simpa using hI) e)
    have notI : ∀ b o, (b < N₀ ∨ o.cls ≠ .type itc) → s.heap.get? b = some o → b ≠ I := fun b o hbi e h => by
      rw [h, heI] at e
      cases e
      rcases hbi with h' | h'
      · rw [h] at h'; exact Nat.lt_irrefl _ (Nat.lt_of_lt_of_le h' hNI)
      · exact h' hcI
    have live₂ : ∀ b o, s.heap.get? b = some o → ∃ o', h₂.get? b = some o' := fun b o e => by
      by_cases hC : b = C
      · rw [hC]; exact ns_live F₂.ns
      · by_cases hI : b = I
        · rw [hI]; exact hIl _ _ hst₂ I hIf
        · exact ⟨o, up₂ b o hC hI e⟩
    have since₂ : Since C itc N₀ s₀ { s with heap := h₂, toks := tk₁ + 1 } := hsince.step live₂ fun b o hbC hbi _ e => up₂ b o hbC (notI b o hbi e) e
    rw [← eT, eB]
    refine seg_execs_cons (seg_wrap (chop_append X₀ T F₂ hR₂ hR0 hRC (by rw [List.size_toArray]; exact Nat.le_trans (Nat.le_of_lt hr) (Nat.le_trans hnb (by decide))) fun h₃ hs₃ hR₃ => ?_))
    have F₃ : Fr h₀ C h₃ (gm v R n tn mm) := F₂.change hs₃ hRC hR0
    have hst₃ : StI (i + 1) h₃ := (W A hh).frame _ _ _ hst₂ fun b hb o e => hs₃.extBut b o (fun h => hRf (h ▸ hb)) e
    have since₃ : ∀ tk, Since C itc N₀ s₀ { s with heap := h₃, toks := tk } := fun tk => since₂.step (tk := tk) (live_but (fun b o hb e => hs₃.extBut b o hb e) ⟨_, hR₃⟩) fun b o hbC hbi e0 e => hs₃.extBut b o (fun h => by rw [h, hRs] at e0; cases e0) e
    rw [show rs.toArray.push v = (rs ++ [v]).toArray by simp] at hR₃
    have hlen : (rs ++ [v]).length = rs.length + 1 := by simp
    have hP₃ : ∀ j u, (rs ++ [v])[j]? = some u → P (n * q + j) u := fun j u hj => by
      rcases Nat.lt_or_ge j rs.length with h | h
      · rw [List.getElem?_append_left h] at hj; exact hP j u hj
      · rw [List.getElem?_append_right h] at hj
        have : j = rs.length := by
          rcases Nat.eq_or_lt_of_le h with h | h
          · exact h.symm
          · rw [List.getElem?_eq_none (by simp; omega)] at hj; cases hj
        subst this
        rw [Nat.sub_self] at hj
        cases hj
        rw [← hq]; exact hPv
    have hDe₃ : ∃ o, h₃.get? D = some o := let ⟨o, e⟩ := hDe; ⟨o, hs₃.extBut D o (Ne.symm hRD) (up₂ D o hDC hDI e)⟩
    have fin : ∀ (mm' : Str → Option Value) (h' : Heap) (tk : Nat) (rs' : List Value) (R' : Addr) (c' q' : Nat) (s₀' s' : Shared), i + 1 = n * q' + rs'.length → rs'.length < n → (∀ j u, rs'[j]? = some u → P (n * q' + j) u) →
      StI (i + 1) s'.heap → Fr h₀ C s'.heap mm' → mm' (Str.ofString "r") = some (.ref R') → mm' (Str.ofString "n") = some (.int n tn) → s'.heap.get? R' = some (lobj rs'.toArray c') → R' ≠ C → R' ≠ D → R' ∉ fpI → N₀ ≤ R' →
      (∃ o, s'.heap.get? D = some o) → Since C itc N₀ s₀' s' → s₀'.heap.get? R' = none →
      Seg (model theProg w) A (chopR C itc N₀) (chopY C D itc N₀ n m P) (m - q') s₀' (.forLoop chopTarget (.ref I) chopTurn [] (envOf nm chopScope C a cd))
        (.pure (.again (.forLoop chopTarget (.ref I) chopTurn [] (envOf nm chopScope C a cd)))) fs s' :=
      fun mm' h' tk rs' R' c' q' s₀' s' g1 g2 g3 g4 g5 g6 g7 g8 g9 g10 g11 g12 g13 g14 g15 => seg_again rfl (ih (i + 1) q' rs' R' c' mm' s₀' s' (by omega) (by omega) g1 g2 g3 g4 g5 g6 g7 g8 g9 g10 g11 g12 g13 g14 g15)
    refine seg_execs_cons (seg_If (chop_test X₀ T F₃ hR₃ hR0 hRC (by rw [hlen]; omega) fun tk₃ => ?_))
    by_cases hfull : rs.length + 1 = n
    · have hb : decide (((rs ++ [v]).length : Int) = (n : Int)) = true := by rw [hlen]; exact decide_eq_true (by omega)
      rw [hb, if_pos rfl]
      have hmq : ∃ d, m - q = d + 1 ∧ m - (q + 1) = d ∧ m - 1 - d = q := by
        have h1 : n * (q + 1) ≤ N := by rw [Nat.mul_succ]; omega
        have h2 : q + 1 ≤ m := by rw [hm]; exact (Nat.le_div_iff_mul_le (by omega)).mpr (by rw [Nat.mul_comm]; exact h1)
        exact ⟨m - (q + 1), by omega, rfl, by omega⟩
      obtain ⟨d, hd1, hd2, hd3⟩ := hmq
      rw [hd1]
      refine seg_execs_cons (seg_Expr_Yield hfs rfl hfg (chop_tuple X₀ T F₃ hR₃ hR0 hRC (by rw [List.size_toArray, hlen]; exact Nat.le_trans (Nat.le_of_eq hfull) (Nat.le_trans hnb (by decide))) fun h₄ hk₄ => ?_))
      intro kap hkap
      have since₄ : Since C itc N₀ s₀ { s with heap := h₄.push (tobj (rs ++ [v]).toArray), toks := tk₃ } := (since₃ tk₃).step (live_of fun b o e => Heap.get?_push_of_some _ (hk₄ b o e)) fun b o _ _ _ e => Heap.get?_push_of_some _ (hk₄ b o e)
      refine ⟨⟨_, rs ++ [v], rfl, by rw [hlen]; exact hfull, fun j u hj => by rw [hd3]; exact hP₃ j u hj, Heap.get?_push_size _ rfl, ?_, ?_⟩, since₄, fun s'' hc hDe'' => hkap .none s'' ?_⟩
      · cases e : s₀.heap.get? h₄.objs.size with
        | none => rfl
        | some o =>
          obtain ⟨o', e'⟩ := (since₃ tk₃).live _ _ e
          exact absurd (Heap.lt_size (hk₄ _ _ e')) (Nat.lt_irrefl _)
      · obtain ⟨o, e, _⟩ := hIc _ _ hst₃
        exact Nat.le_of_lt (Nat.lt_of_le_of_lt hNI (Heap.lt_size (hk₄ _ _ e)))
      have up₅ : ∀ b o, b ≠ D → h₃.get? b = some o → s''.heap.get? b = some o := fun b o hb e => hc b o hb (Heap.get?_push_of_some _ (hk₄ b o e))
      have F₅ : Fr h₀ C s''.heap (gm v R n tn mm) := ⟨F₃.ns.at' fun o e => up₅ _ o (Ne.symm hDC) e, fun b o e => up₅ b o (fun h => by rw [h, hD0] at e; cases e) (F₃.keep b o e), F₃.above⟩
      have hst₅ : StI (i + 1) s''.heap := (W A hh).frame _ _ _ hst₃ fun b hb o e => up₅ b o (fun h => hDf (h ▸ hb)) e
      refine seg_execs_cons (seg_wrap (chop_clear X₀ T F₅ fun h₆ tk₆ hs₆ F₆ => ?_))
      show Seg _ _ _ _ _ _ _ (.pure (.again _)) _ _
      have hC₅ : C < s''.heap.objs.size := F₅.ns.lt
      have hD₅ : D < s''.heap.objs.size := let ⟨_, e⟩ := hDe''; Heap.lt_size e
      have hf₅ : ∀ b ∈ fpI, b < s''.heap.objs.size := fun b hb => let ⟨_, e⟩ := hIl _ _ hst₅ b hb; Heap.lt_size e
      have up₆ : ∀ b o, b ≠ C → s''.heap.get? b = some o → h₆.get? b = some o := fun b o hb e => hs₆.extBut b o hb (Heap.get?_push_of_some _ e)
      have := fin _ h₆ tk₆ [] s''.heap.objs.size 0 (q + 1) s'' { s'' with heap := h₆, toks := tk₆ } (by rw [hq, Nat.mul_succ]; simp; omega) (by simp; omega) (fun j u hj => by simp at hj)
        ((W A hh).frame _ _ _ hst₅ fun b hb o e => up₆ b o (fun h => hCf (h ▸ hb)) e) F₆ (by rw [if_pos rfl]) (by rfl)
        (hs₆.extBut _ _ (Nat.ne_of_gt hC₅) (Heap.get?_push_size _ rfl)) (Nat.ne_of_gt hC₅) (Nat.ne_of_gt hD₅) (fun h => Nat.lt_irrefl _ (hf₅ _ h)) (Nat.le_of_lt (Nat.lt_of_le_of_lt hNI (hf₅ _ hIf)))
        (let ⟨o, e⟩ := hDe''; ⟨o, up₆ D o hDC e⟩)
        ((Since.refl C itc N₀ s'').step (live_but (fun b o hb e => up₆ b o hb e) (ns_live F₆.ns)) fun b o hbC _ _ e => up₆ b o hbC e)
        (by
          cases e : s''.heap.get? s''.heap.objs.size with
          | none => rfl
          | some o => exact absurd (Heap.lt_size e) (Nat.lt_irrefl _))
      rw [hd2] at this
      exact this
    · have hb : decide (((rs ++ [v]).length : Int) = (n : Int)) = false := by rw [hlen]; exact decide_eq_false (by omega)
      rw [hb, if_neg Bool.false_ne_true]
      exact fin _ h₃ tk₃ (rs ++ [v]) R (c + 1) q s₀ { s with heap := h₃, toks := tk₃ } (by rw [hlen]; omega) (by rw [hlen]; omega) hP₃ hst₃ F₃ (by rfl) (by rfl) hR₃ hRC hRD hRf hNR hDe₃ (since₃ tk₃) hRs
end
end

/-! ### G4 -/
section
open Sem (wp)
set_option maxRecDepth 100000
structure SeqIter (w : World) (seqv : Value) (itc : String) (N : Nat) (P : Nat → Value → Prop) (SeqSt : Heap → Prop) (fpS : List Addr) (itObj : Obj) (St : Addr → Nat → Heap → Prop) : Prop where
  iter : ∀ (A : Around) (E : Value → Shared → Prop) (s : Shared) (Q : Value → Shared → Prop), SeqSt s.heap → Q (.ref s.heap.objs.size) { s with heap := s.heap.push itObj } → wpAny (model theProg w) A (pyIter seqv) Q E s
  walks : ∀ (I : Addr) (A' : Around), A'.handled = none → I ∉ fpS → Walks theProg w A' I (I :: fpS) [I] N P (St I)
  cls : ∀ I i h, St I i h → ∃ o, h.get? I = some o ∧ o.cls = .type itc
  live : ∀ I i h, St I i h → ∀ b ∈ I :: fpS, ∃ o, h.get? b = some o
  start : ∀ h, SeqSt h → St h.objs.size 0 (h.push itObj)
  keep : ∀ h h', SeqSt h → (∀ b ∈ fpS, ∀ o, h.get? b = some o → h'.get? b = some o) → SeqSt h'
  seqLive : ∀ h, SeqSt h → ∀ b ∈ fpS, ∃ o, h.get? b = some o

section
variable {w : World} {A : Around} {h₀ : Heap} {mean : ExcName → Option Value} {mg mb : Str → Option Value}

set_option maxHeartbeats 4000000 in
theorem chop_seg {seqv : Value} {itc : String} {N : Nat} {P : Nat → Value → Prop} {SeqSt : Heap → Prop} {fpS : List Addr} {itObj : Obj} {St : Addr → Nat → Heap → Prop} (S : SeqIter w seqv itc N P SeqSt fpS itObj St)
    (hh : A.handled = none) (X₀ : (hd.heap_39 w.params).In h₀) (T : theTop mean mg mb h₀) (C D a : Addr) (cd : Value) (nm : Str) (N₀ n m : Nat) (tn : Tok)
    (hn : 1 ≤ n) (hm : m = N / n) (hnb : n ≤ 1000) (hCf : C ∉ fpS) (hDf : D ∉ fpS) (hNC : N₀ ≤ C) (hDC : D ≠ C) (hD0 : h₀.get? D = none) (hN0 : h₀.objs.size ≤ N₀)
    (s : Shared) (mm : Str → Option Value) (F : Fr h₀ C s.heap mm) (hmn : mm (Str.ofString "n") = some (.int n tn)) (hms : mm (Str.ofString "seq") = some seqv) (hseq : SeqSt s.heap) (hDe : ∃ o, s.heap.get? D = some o) :
    Seg (model theProg w) A (chopR C itc N₀) (chopY C D itc N₀ n m P) m s (.func chopBody (envOf nm chopScope C a cd)) ((model theProg w).den (.func chopBody (envOf nm chopScope C a cd))) [] s := by
  refine seg_func ?_
  have eB : chopBody = [stStart, Stmt.For chopTarget (Expr.Name (Str.ofString "seq") _) chopTurn [] _] := rfl
  rw [eB]
  refine seg_execs_cons (seg_wrap (chop_start X₀ T F fun h₁ tk₁ hs₁ F₁ => ?_))
  have hC₁ : C < s.heap.objs.size := F.ns.lt
  have hD₁ : D < s.heap.objs.size := let ⟨_, e⟩ := hDe; Heap.lt_size e
  have up₁ : ∀ b o, b ≠ C → s.heap.get? b = some o → h₁.get? b = some o := fun b o hb e => hs₁.extBut b o hb (Heap.get?_push_of_some _ e)
  have hseq₁ : SeqSt h₁ := S.keep _ _ hseq fun b hb o e => up₁ b o (fun h => hCf (h ▸ hb)) e
  refine seg_execs_cons (seg_For (ld F₁ (by show (if Str.ofString "seq" = Str.ofString "r" then _ else mm (Str.ofString "seq")) = _; rw [if_neg (by decide)]; exact hms) (S.iter _ _ _ _ hseq₁ fun p => ?_)))
  have hR₁ : h₁.get? s.heap.objs.size = some (lobj #[] 0) := hs₁.extBut _ _ (Nat.ne_of_gt hC₁) (Heap.get?_push_size _ rfl)
  have hI : h₁.objs.size ∉ fpS := fun hm => by obtain ⟨_, e⟩ := S.seqLive _ hseq₁ _ hm; exact absurd (Heap.lt_size e) (Nat.lt_irrefl _)
  have hC₂ : C < h₁.objs.size := F₁.ns.lt
  have hD₂ : D < h₁.objs.size := let ⟨o, e⟩ := hDe; Heap.lt_size (up₁ D o hDC e)
  have hR₂ : s.heap.objs.size < h₁.objs.size := Heap.lt_size hR₁
  have hRf : s.heap.objs.size ∉ fpS := fun hm => by
    obtain ⟨o, e⟩ := S.seqLive _ hseq _ hm
    exact absurd (Heap.lt_size e) (Nat.lt_irrefl _)
  refine (chop_loop hh X₀ T C D h₁.objs.size a cd nm itc N₀ n m N tn P (h₁.objs.size :: fpS) (St h₁.objs.size) (fun A' hA => S.walks _ A' hA hI) (S.cls _) (S.live _) hn hm hnb
    (fun h => ?_) (fun h => ?_) (Nat.le_trans hNC (Nat.le_of_lt hC₂)) hDC hD0 hN0 ?_ rfl rfl (fun s₀ s₁ hk => ?_)) N 0 0 [] s.heap.objs.size 0 _ s _ (Nat.sub_zero _) (Nat.zero_le _) (by simp) (by simp; omega) (fun j u hj => by simp at hj)
    (S.start _ hseq₁) (F₁.push _) (by rfl) (by show (if Str.ofString "n" = Str.ofString "r" then _ else mm (Str.ofString "n")) = _; rw [if_neg (by decide)]; exact hmn)
    (Heap.get?_push_of_some _ hR₁) (Nat.ne_of_gt hC₁) (Nat.ne_of_gt hD₁) (fun h => ?_) (Nat.le_trans hNC (Nat.le_of_lt hC₁)) ?_ ?_ ?_
  · rcases List.mem_cons.mp h with h | h
    · exact absurd h (Nat.ne_of_lt hC₂)
    · exact hCf h
  · rcases List.mem_cons.mp h with h | h
    · exact absurd h (Nat.ne_of_lt hD₂)
    · exact hDf h
  · exact hh
  · exact seg_leaf (.ok .next) (seg_end (.ok (.ret .none)) ⟨rfl, rfl, hk⟩)
  · rcases List.mem_cons.mp h with h | h
    · exact absurd h (Nat.ne_of_lt hR₂)
    · exact hRf h
  · obtain ⟨o, e⟩ := hDe
    exact ⟨o, Heap.get?_push_of_some _ (up₁ D o hDC e)⟩
  · refine (Since.refl C itc N₀ s).step ?_ fun b o hbC _ _ e => Heap.get?_push_of_some _ (up₁ b o hbC e)
    exact live_but (a := C) (fun b o hb e => Heap.get?_push_of_some _ (up₁ b o hb e)) (ns_live (F₁.push _).ns)
  · cases e : s.heap.get? s.heap.objs.size with
    | none => rfl
    | some o => exact absurd (Heap.lt_size e) (Nat.lt_irrefl _)
end
end

/-! ### G5 -/
section
open Sem (wp)
set_option maxRecDepth 100000
/-- the pieces that the generator has handed out -/
def PiecesAre (n : Nat) (P : Nat → Value → Prop) (own : List (Addr × Obj)) (acc : List Value) : Prop :=
  ∀ i v, acc[i]? = some v → ∃ (a : Addr) (us : List Value), v = .ref a ∧ (a, tobj us.toArray) ∈ own ∧ us.length = n ∧ ∀ j u, us[j]? = some u → P (n * i + j) u
def OwnAt (C D : Addr) (N₀ : Nat) (own : List (Addr × Obj)) (h : Heap) : Prop := ∀ p ∈ own, h.get? p.1 = some p.2 ∧ N₀ ≤ p.1 ∧ p.1 ≠ C ∧ p.1 ≠ D ∧ p.2.cls = .type "tuple"

section
variable {w : World} {A : Around} {R : Result → Shared → Prop}

def GensOnly (g : Nat) (a b : Array GenState) : Prop := b.size = a.size ∧ ∀ k, k ≠ g → b[k]? = a[k]?

set_option maxHeartbeats 4000000 in
theorem chop_drain (C D G : Addr) (g : Nat) (itc : String) (N₀ n m : Nat) (P : Nat → Value → Prop) (res : Value) (sB : Shared) (hh : A.handled = none) (hroom : A.depth < recursionLimit) (hlim : sB.heap.NoLimit) (hNB : sB.heap.objs.size = N₀)
    (hi1 : itc ≠ "list") (hi2 : itc ≠ "tuple") (hi3 : itc ≠ "generator") (hDC : D ≠ C) (hGC : G ≠ C) (hGD : G ≠ D) (hND : N₀ ≤ D) (hNC : N₀ ≤ C) (hmz : m ≤ 1000)
    (hR : ∀ (s' : Shared) (acc : List Value) (c : Nat) (own : List (Addr × Obj)), s'.heap.get? D = some (lobj acc.toArray c) → acc.length = m → PiecesAre n P own acc → OwnAt C D N₀ own s'.heap →
      (∀ b o, sB.heap.get? b = some o → s'.heap.get? b = some o) → s'.drawn = sB.drawn → s'.os = sB.os → s'.gens.size = sB.gens.size + 1 → (∀ k, k < sB.gens.size → s'.gens[k]? = sB.gens[k]?) → s'.gens[sB.gens.size]? = some .finished → R (.ok (.ret res)) s') (hg : g = sB.gens.size) :
    ∀ (k j : Nat) (s : Shared) (acc : List Value) (c : Nat) (own : List (Addr × Obj)) (gs : GenState), m - j = k → j ≤ m → s.heap.get? D = some (lobj acc.toArray c) → acc.length = j → PiecesAre n P own acc → OwnAt C D N₀ own s.heap →
      (∀ b o, sB.heap.get? b = some o → s.heap.get? b = some o) → s.drawn = sB.drawn → s.os = sB.os → s.gens.size = sB.gens.size + 1 → (∀ k, k < sB.gens.size → s.gens[k]? = sB.gens[k]?) → s.heap.IsGen G g → (∃ o, s.heap.get? C = some o) → s.gens[g]? = some gs →
      (∀ s'' : Shared, (∀ b o, b ≠ D → s.heap.get? b = some o → s''.heap.get? b = some o) → (∃ o, s''.heap.get? D = some o) → gs.Goes (model theProg w) A.in1.in1 (chopR C itc N₀) (chopY C D itc N₀ n m P) (m - j) (.send .none) s'') →
      codeAny (model theProg w) A (.builtin "list.extend.loop" ⟨[.ref D, .ref G, res], []⟩) R s := by
  intro k
  induction k with
  | zero =>
    intro j s acc c own gs hk hj hD hacc hP hown hbase hdr hos hgz hgo hG hCe hgs hgoes
    have hjm : m - j = 0 := hk
    refine codeAny_builtin F.entry_extend_loop ?_
    rw [Around.under_plainId F.plain_extend_loop _]
    show wpAny _ A.in1 (pyNext (.ref G) >>= _) _ _ s
    refine wpAny_bind (wpAny_pyNext_gen (A := A.in1) hh (hlim.keeps hbase) hroom hG hgs (hgoes _ (fun b o _ e => e) ⟨_, hD⟩) (P := fun k s₀ s₁ => k = 0 ∧ Kept C itc N₀ s₀ s₁) (fun v s₁ gs' hv => ?_) (fun s₁ hp h' hk' => ?_))
    · rw [hjm] at hv
      obtain ⟨_, hs, hgo'⟩ := hv
      exact (hgo' s₁ (fun _ _ _ e => e) ⟨_, hs.keep D _ hDC (.inr (fun h => hi1 (by cases h; rfl))) hD⟩).elim
    · obtain ⟨_, h₁, tk₁, rfl, hk₁⟩ := hp
      have up : ∀ b o, b ≠ C → (b < N₀ ∨ o.cls ≠ .type itc) → s.heap.get? b = some o → h'.get? b = some o := fun b o hC hi e => hk' b o (hk₁ b o hC hi e)
      refine wpAny_pure (hR _ acc c own (up D _ hDC (.inr (fun h => hi1 (by cases h; rfl))) hD) (by omega) hP (fun p hp => ?_) (fun b o e => ?_) hdr hos ?_ (fun k hk => ?_) ?_)
      · obtain ⟨e1, e2, e3, e4, e5⟩ := hown p hp
        exact ⟨up _ _ e3 (.inr (fun h => hi2 (by rw [e5] at h; cases h; rfl))) e1, e2, e3, e4, e5⟩
      · have hlt : b < N₀ := by rw [← hNB]; exact Heap.lt_size e
        exact up b o (fun h => by rw [h] at hlt; exact Nat.lt_irrefl _ (Nat.lt_of_lt_of_le hlt hNC)) (.inl hlt) (hbase b o e)
      · simpa [Shared.setGen] using hgz
      · have hkg : ¬ g = k := by omega
        simpa [Shared.setGen, hkg] using hgo k hk
      · have : g < s.gens.size := by omega
        simp [Shared.setGen, ← hg, this]
  | succ k ih =>
    intro j s acc c own gs hk hj hD hacc hP hown hbase hdr hos hgz hgo hG hCe hgs hgoes
    refine codeAny_builtin F.entry_extend_loop ?_
    rw [Around.under_plainId F.plain_extend_loop _]
    show wpAny _ A.in1 (pyNext (.ref G) >>= _) _ _ s
    refine wpAny_bind (wpAny_pyNext_gen (A := A.in1) hh (hlim.keeps hbase) hroom hG hgs (hgoes _ (fun b o _ e => e) ⟨_, hD⟩) (P := fun k s₀ s₁ => k = 0 ∧ Kept C itc N₀ s₀ s₁) (fun v s₁ gs' hv => ?_) (fun s₁ hp h' hk' => ?_))
    · rw [hk] at hv
      obtain ⟨⟨a, us, rfl, hlen, hPu, ha, ha0, hNa⟩, hs, hgo'⟩ := hv
      have hlive := hs.live
      have up := hs.keep
      obtain ⟨h₁, tk₁, rfl, _, _⟩ := hs
      have hgz' : (s.setGen g .running).gens.size = sB.gens.size + 1 := by simpa [Shared.setGen] using hgz
      have hD₁ : h₁.get? D = some (lobj acc.toArray c) := up D _ hDC (.inr (fun h => hi1 (by cases h; rfl))) hD
      have hSz : acc.toArray.size ≤ sizeLine := by rw [List.size_toArray, hacc]; exact Nat.le_trans hj (Nat.le_trans hmz (by decide))
      have oth : ∀ b o, b ≠ D → h₁.get? b = some o → (h₁.update D (Obj.mapSeq (·.push (.ref a)))).get? b = some o := fun b o hb e => (Heap.get?_update_other _ _ (Ne.symm hb)).trans e
      have haD : a ≠ D := fun h => by
        have : s.heap.get? a = none := ha0
        rw [h, hD] at this; cases this
      have haC : a ≠ C := fun h => by
        obtain ⟨o, e⟩ := hCe
        have : s.heap.get? a = none := ha0
        rw [h, e] at this; cases this
      have up' : ∀ b o, b ≠ C → b ≠ D → (b < N₀ ∨ o.cls ≠ .type itc) → s.heap.get? b = some o → (h₁.update D (Obj.mapSeq (·.push (.ref a)))).get? b = some o := fun b o hC hD hi e => oth b o hD (up b o hC hi e)
      have hgl : g < s.gens.size := by omega
      show wpAny _ A.in1 (updateSeq D (·.push (.ref a)) >>= _) _ _ _
      refine wpAny_bind ?_
      refine wpAny_updateSeq hD₁ rfl (wpAny_pure ⟨plainId_quiet F.plain_extend_loop _, ih (j + 1) _ (acc ++ [.ref a]) (c + 1) ((a, tobj us.toArray) :: own) gs' (by omega) (by omega) ?_ (by simp; omega) ?_ ?_ ?_ hdr hos ?_ ?_ ?_ ?_ ?_ ?_⟩)
        hSz (by show (acc.toArray.push (.ref a)).size ≤ sizeLine + 1; rw [Array.size_push]; exact Nat.succ_le_succ hSz)
      · show (h₁.update D (Obj.mapSeq (·.push (.ref a)))).get? D = _
        rw [Heap.get?_update_self _ hD₁ (by rw [mapSeq_push]; rfl), mapSeq_push, List.push_toArray]
      · intro i v hv
        rcases Nat.lt_or_ge i acc.length with h | h
        · rw [List.getElem?_append_left h] at hv
          obtain ⟨a', us', e1, e2, e3⟩ := hP i v hv
          exact ⟨a', us', e1, List.mem_cons_of_mem _ e2, e3⟩
        · rw [List.getElem?_append_right h] at hv
          rcases Nat.eq_or_lt_of_le h with h | h
          · rw [← h, Nat.sub_self] at hv
            cases hv
            refine ⟨a, us, rfl, List.mem_cons_self, hlen, fun j' u hu => ?_⟩
            have := hPu j' u hu
            have e : m - 1 - (k + 1 - 1) = i := by omega
            rwa [e] at this
          · rw [List.getElem?_eq_none (by simp; omega)] at hv; cases hv
      · intro p hp
        rcases List.mem_cons.mp hp with rfl | hp
        · exact ⟨oth _ _ haD ha, hNa, haC, haD, rfl⟩
        · obtain ⟨e1, e2, e3, e4, e5⟩ := hown p hp
          exact ⟨up' _ _ e3 e4 (.inr (fun h => hi2 (by rw [e5] at h; cases h; rfl))) e1, e2, e3, e4, e5⟩
      · intro b o e
        have hlt : b < N₀ := by rw [← hNB]; exact Heap.lt_size e
        exact up' b o (fun h => by rw [h] at hlt; exact Nat.lt_irrefl _ (Nat.lt_of_lt_of_le hlt hNC)) (fun h => by rw [h] at hlt; exact Nat.lt_irrefl _ (Nat.lt_of_lt_of_le hlt hND)) (.inl hlt) (hbase b o e)
      · simpa [Shared.setGen] using hgz
      · intro k hk
        have hkg : ¬ g = k := by omega
        simpa [Shared.setGen, hkg] using hgo k hk
      · obtain ⟨o, nm, qn, e1, e2, e3, e4⟩ := hG
        exact ⟨o, nm, qn, up' G o hGC hGD (.inr (fun h => hi3 (by rw [e2] at h; cases h; rfl))) e1, e2, e3, e4⟩
      · obtain ⟨o, e⟩ := hCe
        obtain ⟨o', e'⟩ := hlive C o e
        exact ⟨o', oth C o' (Ne.symm hDC) e'⟩
      · simp [Shared.setGen, hgl]
      · intro s'' hc hd
        have e : m - (j + 1) = k := by omega
        rw [e]
        exact hgo' s'' (fun b o hb e => hc b o hb (oth b o hb e)) hd
    · exact absurd hp.1 (by omega)
end
end

/-! ### G6 -/
section
open Sem (wp)
set_option maxRecDepth 100000
section
variable {w : World} {A : Around} {h₀ : Heap} {mean : ExcName → Option Value} {mg mb : Str → Option Value}

/-- what the drained list looks like, over the state sB before the generator was made -/
structure Drained (sB : Shared) (n m : Nat) (P : Nat → Value → Prop) (D : Addr) (s' : Shared) (acc : List Value) (c : Nat) (own : List (Addr × Obj)) : Prop where
  list : s'.heap.get? D = some (lobj acc.toArray c)
  len : acc.length = m
  pieces : PiecesAre n P own acc
  owned : ∀ p ∈ own, s'.heap.get? p.1 = some p.2 ∧ sB.heap.objs.size ≤ p.1 ∧ p.1 ≠ D
  keeps : ∀ b o, sB.heap.get? b = some o → s'.heap.get? b = some o
  drawn : s'.drawn = sB.drawn
  os : s'.os = sB.os
  size : s'.gens.size = sB.gens.size + 1
  gens : ∀ k, k < sB.gens.size → s'.gens[k]? = sB.gens[k]?
  last : s'.gens[sB.gens.size]? = some .finished
  new : sB.heap.objs.size ≤ D

set_option maxHeartbeats 4000000 in
theorem chop_list_gen {E : Value → Shared → Prop} {Q : Value → Shared → Prop} {seqv : Value} {itc : String} {N : Nat} {P : Nat → Value → Prop} {SeqSt : Heap → Prop} {fpS : List Addr} {itObj : Obj} {St : Addr → Nat → Heap → Prop} (S : SeqIter w seqv itc N P SeqSt fpS itObj St)
    (hh : A.handled = none) (hroom : A.depth < recursionLimit) (X₀ : (hd.heap_39 w.params).In h₀) (T : theTop mean mg mb h₀) (C G a : Addr) (g : Nat) (cd : Value) (nm : Str) (n m : Nat) (tn : Tok) (sB s : Shared) (hlim : sB.heap.NoLimit)
    (hi1 : itc ≠ "list") (hi2 : itc ≠ "tuple") (hi3 : itc ≠ "generator") (hn : 1 ≤ n) (hm : m = N / n) (hnb : n ≤ 1000) (hmz : m ≤ 1000) (hCf : C ∉ fpS) (hNC : sB.heap.objs.size ≤ C) (hGC : G ≠ C) (hN0 : h₀.objs.size ≤ sB.heap.objs.size)
    (mm : Str → Option Value) (Fm : Fr h₀ C s.heap mm) (hmn : mm (Str.ofString "n") = some (.int n tn)) (hms : mm (Str.ofString "seq") = some seqv) (hseq : SeqSt s.heap)
    (hbase : ∀ b o, sB.heap.get? b = some o → s.heap.get? b = some o) (hdr : s.drawn = sB.drawn) (hos : s.os = sB.os) (hgz : s.gens.size = sB.gens.size + 1) (hgo : ∀ k, k < sB.gens.size → s.gens[k]? = sB.gens[k]?) (hg : g = sB.gens.size)
    (hG : s.heap.IsGen G g) (hgs : s.gens[g]? = some (.fresh (.func chopBody (envOf nm chopScope C a cd)))) (hsz : sB.heap.objs.size ≤ s.heap.objs.size)
    (h : ∀ D s' acc c own, Drained sB n m P D s' acc c own → Q (.ref D) s') :
    wpAny (model theProg w) A (call (.type "list") [.ref G]) Q E s := by
  refine callType_codes (Q₁ := fun obj s₁ => obj = .ref s.heap.objs.size ∧ s₁ = { s with heap := s.heap.push { cls := .type "list", data := .seq #[] } }) F.called_list (F.typeCall_list_1 _) F.entry_list_init
    (code_list_new _ ⟨rfl, rfl⟩) fun obj s₁ h₁ => ?_
  obtain ⟨rfl, rfl⟩ := h₁
  have hD : (s.heap.push { cls := .type "list", data := .seq #[] }).get? s.heap.objs.size = some { cls := .type "list", data := .seq #[] } := Heap.get?_push_size _ rfl
  refine ⟨⟨_, hD, rfl⟩, F.args_list_init_2 _ _, ?_⟩
  have hGlt : G < s.heap.objs.size := let ⟨_, _, _, e, _⟩ := hG; Heap.lt_size e
  have hClt : C < s.heap.objs.size := Fm.ns.lt
  have hGD : G ≠ s.heap.objs.size := Nat.ne_of_lt hGlt
  have hCD : C ≠ s.heap.objs.size := Nat.ne_of_lt hClt
  have hfD : s.heap.objs.size ∉ fpS := fun hm => by
    obtain ⟨o, e⟩ := S.seqLive _ hseq _ hm
    exact absurd (Heap.lt_size e) (Nat.lt_irrefl _)
  have hD0 : h₀.get? s.heap.objs.size = none := by
    cases e : h₀.get? s.heap.objs.size with
    | none => rfl
    | some o => exact absurd (Nat.lt_of_lt_of_le (Heap.lt_size e) (Nat.le_trans hN0 hsz)) (Nat.lt_irrefl _)
  -- list.__init__: the items are laid by list.extend
  show wpAny _ A.in1.in1 (do let old ← Builtin.List.listItems (.ref s.heap.objs.size); Builtin.List.listUpdate (.ref s.heap.objs.size) (fun _ => #[]); letGo old.toList.reverse; Builtin.List.listExtendWith (.ref s.heap.objs.size) (.ref G) .none) _ _ _
  refine wpAny_bind ?_
  unfold Builtin.List.listItems
  refine wpAny_bind (wpAny_seqItems hD rfl (wpAny_pure ?_))
  show wpAny _ A.in1.in1 (updateSeq s.heap.objs.size (fun _ => #[]) >>= fun _ => letGo (#[] : Array Value).toList.reverse >>= fun _ => Builtin.List.listExtendWith (.ref s.heap.objs.size) (.ref G) .none) _ _ _
  refine wpAny_bind (wpAny_updateSeq hD rfl ?_)
  have hD₂ := Heap.get?_update_self (Obj.mapSeq (fun _ => (#[] : Array Value))) hD rfl
  have oth₂ : ∀ b o, b ≠ s.heap.objs.size → s.heap.get? b = some o → ((s.heap.push { cls := .type "list", data := .seq #[] }).update s.heap.objs.size (Obj.mapSeq (fun _ => (#[] : Array Value)))).get? b = some o :=
    fun b o hb e => (Heap.get?_update_other _ _ (Ne.symm hb)).trans (Heap.get?_push_of_some _ e)
  generalize hH₂ : (s.heap.push { cls := .type "list", data := .seq #[] }).update s.heap.objs.size (Obj.mapSeq (fun _ => (#[] : Array Value))) = H₂ at hD₂ oth₂ ⊢
  refine wpAny_bind (wpAny_letGo ?_)
  have hG₂ : H₂.IsGen G g := let ⟨o, nm, qn, e, r⟩ := hG; ⟨o, nm, qn, oth₂ _ _ hGD e, r⟩
  have hSG : s.heap.objs.size ≠ G := Ne.symm hGD
  unfold Builtin.List.listExtendWith
  have hT₂ : Shared.TypeIs { s with heap := H₂ } (.ref G) "generator" := hG₂.typeIs
  refine wpAny_bind (wpAny_typeOf hT₂ ?_)
  have h1 : Builtin.List.listSameRef (.ref s.heap.objs.size) (.ref G) = false := by simp [Builtin.List.listSameRef, hSG]
  have h2 : (Value.type "generator" == Value.type "list") = false := by decide
  have h3 : (Value.type "generator" == Value.type "tuple") = false := by decide
  simp only [h1, h2, h3, Bool.or_false, Bool.false_eq_true, if_false]
  refine wpAny_bind (wpAny_pyIter_gen hG₂ ?_)
  refine wpAny_bind (wpAny_holding ?_)
  unfold Builtin.List.listLengthHint
  refine wpAny_bind (wpAny_specialOf hT₂ F.gen_no_len ?_)
  show wpAny _ A.in1.in1 (specialOf (Value.ref G) (Str.ofString "__length_hint__") >>= _) _ _ _
  refine wpAny_bind (wpAny_specialOf hT₂ F.gen_no_hint ?_)
  refine wpAny_pure ?_
  show wpAny _ A.in1.in1 (rule "list.extend.makes-room" >>= fun _ => Builtin.List.listTouch (.ref s.heap.objs.size) >>= fun _ =>
    again (.builtin "list.extend.loop" ⟨[.ref s.heap.objs.size, .ref G, .none], []⟩)) _ _ _
  refine wpAny_bind (wpAny_rule ?_)
  refine wpAny_bind ?_
  show wpAny _ A.in1.in1 (updateSeq s.heap.objs.size (·.push .none) >>= fun _ => updateSeq s.heap.objs.size (·.pop)) _ _ _
  refine wpAny_bind (wpAny_updateSeq hD₂ rfl ?_)
  have hD₃ := Heap.get?_update_self (Obj.mapSeq (·.push Value.none)) hD₂ rfl
  refine wpAny_updateSeq (hz := by seq_fits) hD₃ rfl ?_
  have hD₄ := Heap.get?_update_self (Obj.mapSeq (·.pop)) hD₃ rfl
  have oth₄ : ∀ b o, b ≠ s.heap.objs.size → s.heap.get? b = some o → ((H₂.update s.heap.objs.size (Obj.mapSeq (·.push Value.none))).update s.heap.objs.size (Obj.mapSeq (·.pop))).get? b = some o :=
    fun b o hb e => (Heap.get?_update_other _ _ (Ne.symm hb)).trans ((Heap.get?_update_other _ _ (Ne.symm hb)).trans (oth₂ b o hb e))
  generalize hH₄ : (H₂.update s.heap.objs.size (Obj.mapSeq (·.push Value.none))).update s.heap.objs.size (Obj.mapSeq (·.pop)) = H₄ at hD₄ oth₄ ⊢
  have hb₄ : ∀ b o, sB.heap.get? b = some o → H₄.get? b = some o := fun b o e => oth₄ b o (Nat.ne_of_lt (Nat.lt_of_lt_of_le (Heap.lt_size e) hsz)) (hbase b o e)
  refine wpAny_pure ⟨plainId_quiet F.plain_extend_loop _, chop_drain (A := A.in1) C s.heap.objs.size G g itc sB.heap.objs.size n m P .none sB hh hroom hlim rfl hi1 hi2 hi3 (Ne.symm hCD) hGC hGD hsz hNC hmz
    (fun s' acc c own r1 r2 r3 r4 r5 r6 r7 r8 r9 r10 => ⟨rfl, h _ s' acc c own ⟨r1, r2, r3, fun p hp => ⟨(r4 p hp).1, (r4 p hp).2.1, (r4 p hp).2.2.2.1⟩, r5, r6, r7, r8, r9, r10, hsz⟩⟩) hg
    (m - 0) 0 { s with heap := H₄ } [] _ [] _ rfl (Nat.zero_le _) hD₄ rfl (fun i v hv => by simp at hv) (fun p hp => by simp at hp) hb₄ hdr hos hgz hgo
    (let ⟨o, nm, qn, e, r⟩ := hG; ⟨o, nm, qn, oth₄ _ _ hGD e, r⟩) (let ⟨o, e⟩ := ns_live Fm.ns; ⟨o, oth₄ _ _ hCD e⟩) hgs fun s'' hc hd => ⟨rfl, ?_⟩⟩
  have up : ∀ b o, b ≠ s.heap.objs.size → s.heap.get? b = some o → s''.heap.get? b = some o := fun b o hb e => hc b o hb (oth₄ b o hb e)
  rw [Nat.sub_zero]
  exact chop_seg (A := A.in1.in1.in1) S hh X₀ T C s.heap.objs.size a cd nm sB.heap.objs.size n m tn hn hm hnb hCf hfD hNC (Ne.symm hCD) hD0 hN0 s'' mm
    ⟨Fm.ns.at' fun o e => up _ o hCD e, fun b o e => up b o (fun h => by rw [h, hD0] at e; cases e) (Fm.keep b o e), Fm.above⟩ hmn hms (S.keep _ _ hseq fun b hb o e => up b o (fun h => hfD (h ▸ hb)) e) hd
end
end

/-! ### G7 -/
section
open Sem (wp)
set_option maxRecDepth 100000
theorem chop_fn (P : Params) : ∃ (qual : Str) (params : Arguments) (dV kV doc pm cdv ct oc : Value) (an od : Option Addr) (osl : Array (Option Value)),
    (hd.heap_39 P).lookup 21 = some ⟨oc, od, .func (fnOf (Str.ofString "choplist") qual params chopBody chopScope dV kV doc pm an cdv ct), osl⟩ ∧ codeIn (hd.heap_39 P) cdv qual = true ∧
    ∀ v1 v2, bindArgs (fnOf (Str.ofString "choplist") qual params chopBody chopScope dV kV doc pm an cdv ct) ⟨[v1, v2], []⟩ = pure [(Str.ofString "n", v1), (Str.ofString "seq", v2)] :=
  ⟨_, _, _, _, _, _, _, _, _, _, _, _, rfl, rfl, fun _ _ => rfl⟩

section
variable {w : World} {A : Around} {h₀ : Heap} {mean : ExcName → Option Value} {mg mb : Str → Option Value}

set_option maxHeartbeats 4000000 in
theorem chop_call {E : Value → Shared → Prop} {Q : Value → Shared → Prop} {s : Shared} {L : Addr} {mL : Str → Option Value} {seqv : Value} {itc : String} {N : Nat} {P : Nat → Value → Prop} {SeqSt : Heap → Prop} {fpS : List Addr} {itObj : Obj} {St : Addr → Nat → Heap → Prop} (S : SeqIter w seqv itc N P SeqSt fpS itObj St)
    (hh : A.handled = none) (hroom : A.depth < recursionLimit) (X₀ : (hd.heap_39 w.params).In h₀) (T : theTop mean mg mb h₀) (FL : Fr h₀ L s.heap mL) (n m : Nat) (tn : Tok) {pos : Pos} {env : Env}
    (hi1 : itc ≠ "list") (hi2 : itc ≠ "tuple") (hi3 : itc ≠ "generator") (hn : 1 ≤ n) (hm : m = N / n) (hnb : n ≤ 1000) (hmz : m ≤ 1000) (hseq : SeqSt s.heap)
    (h : ∀ D s' acc c own, Drained s n m P D s' acc c own → Q (.ref D) s') :
    wpAny (model theProg w) A (call (.ref 21) [.int n tn, seqv]) (fun v s₁ => wpAny (model theProg w) A (spliced (backTo pos (starEach [] env))) (fun vs s₂ => wpAny (model theProg w) A (call (.type "list") (v :: vs)) Q E s₂) E s₁) E s := by
  obtain ⟨qual, params, dV, kV, doc, pm, cdv, ct, oc, an, od, osl, hlook, hcode, hbind⟩ := chop_fn w.params
  have X := X₀.keeps FL.keep
  have hlim : s.heap.NoLimit := T.nolimit.keeps FL.keep
  have hLlt : L < s.heap.objs.size := FL.ns.lt
  have hN0 : h₀.objs.size ≤ s.heap.objs.size := Nat.le_trans FL.above (Nat.le_of_lt hLlt)
  refine wpAny_call (codeAny_call_generator hroom (X _ _ hlook) rfl rfl rfl rfl (codeRec_of X hcode) ?_)
  rw [hbind]
  refine wpAny_pure ?_
  refine wpAny_newFunctionEnv (show ∀ x ∈ chopScope.names, x.2 ≠ .cell by decide) (locs (by rfl)) (fun h₁ hns₁ hsb₁ => ?_) rfl
  have up₁ : ∀ b o, s.heap.get? b = some o → h₁.get? b = some o := fun b o e => hsb₁.extBut b o (Nat.ne_of_lt (Heap.lt_size e)) (Heap.get?_push_of_some _ e)
  refine ⟨hlim.keeps up₁, ?_⟩
  have hC₁ : s.heap.objs.size < h₁.objs.size := hns₁.lt
  have hfC : s.heap.objs.size ∉ fpS := fun hm => by
    obtain ⟨o, e⟩ := S.seqLive _ hseq _ hm
    exact absurd (Heap.lt_size e) (Nat.lt_irrefl _)
  show wpAny _ A (spliced (backTo pos (starEach [] env))) _ _ _
  refine wpAny_of_eq (a := []) (by rfl) ?_
  refine chop_list_gen S hh hroom X₀ T s.heap.objs.size h₁.objs.size 21 s.gens.size cdv qual n m tn s _ hlim hi1 hi2 hi3 hn hm hnb hmz hfC (Nat.le_refl _) (Nat.ne_of_gt hC₁) hN0
    (fun x => List.lookup x [(Str.ofString "n", Value.int (n : Int) tn), (Str.ofString "seq", seqv)].reverse) ?_ (by rfl) (by rfl) ?_ ?_ rfl rfl ?_ ?_ rfl ?_ ?_ ?_ h
  · exact ⟨hns₁.push _, fun b o e => Heap.get?_push_of_some _ (up₁ b o (FL.keep b o e)), hN0⟩
  · exact S.keep _ _ hseq fun b hb o e => Heap.get?_push_of_some _ (up₁ b o e)
  · exact fun b o e => Heap.get?_push_of_some _ (up₁ b o e)
  · show (s.gens.push _).size = _
    rw [Array.size_push]
  · intro k hk
    show (s.gens.push _)[k]? = _
    rw [Array.getElem?_push_lt hk, Array.getElem?_eq_getElem hk]
  · exact ⟨_, _, _, Heap.get?_push_size _ rfl, rfl, rfl, rfl⟩
  · show (s.gens.push _)[s.gens.size]? = _
    rw [Array.getElem?_push_size]
    rfl
  · show s.heap.objs.size ≤ (h₁.push _).objs.size
    rw [Heap.size_push]
    omega
end
end

/-! ### G8 -/
section
open Sem (wp)
set_option maxRecDepth 100000
theorem seq_bytes (w : World) (b : Array UInt8) (t : Tok) : SeqIter w (.bytes b t) "bytes_iterator" b.size (fun i v => ∃ c u, b[i]? = some c ∧ v = .int (c.toNat : Int) u) (fun _ => True) []
    { cls := .type "bytes_iterator", data := .fields #[.bytes b t, .int 0 0] } (fun I i h => KBw.IsBytesIter h I b t i) where
  iter := fun A E s Q _ h => KBw.pyIter_bytes h
  walks := fun I A' hA _ => KBw.walks hA I b t
  cls := fun I i h st => let ⟨o, e, c, _⟩ := st; ⟨o, e, c⟩
  live := fun I i h st b hb => let ⟨o, e, _⟩ := st; ⟨o, by rw [List.mem_singleton.mp hb]; exact e⟩
  start := fun h _ => ⟨_, Heap.get?_push_size _ rfl, rfl, rfl⟩
  keep := fun _ _ _ _ => trivial
  seqLive := fun _ _ b hb => by simp at hb
theorem seq_list (w : World) (l : Addr) (items : Array Value) : SeqIter w (.ref l) "list_iterator" items.size (fun i v => items[i]? = some v) (fun h => h.IsList l items) [l]
    { cls := .type "list_iterator", data := .fields #[.ref l, .int 0 0] } (fun I i h => h.IsListIter I l i ∧ h.IsList l items) where
  iter := fun A E s Q hl h => wpAny_pyIter_list hl h
  walks := fun I A' hA hI => Walks.list hA I l (fun e => hI (by rw [e]; exact List.mem_singleton.mpr rfl)) items
  cls := fun I i h st => let ⟨o, e, c, _⟩ := st.1; ⟨o, e, c⟩
  live := fun I i h st b hb => by
    rcases List.mem_cons.mp hb with rfl | hb
    · obtain ⟨o, e, _⟩ := st.1; exact ⟨o, e⟩
    · rw [List.mem_singleton.mp hb]; obtain ⟨o, e, _⟩ := st.2; exact ⟨o, e⟩
  start := fun h hl => ⟨⟨_, Heap.get?_push_size _ rfl, rfl, rfl⟩, hl.push _⟩
  keep := fun h h' hl hk => let ⟨o, e, r⟩ := hl; ⟨o, hk l (List.mem_singleton.mpr rfl) o e, r⟩
  seqLive := fun h hl b hb => let ⟨o, e, _⟩ := hl; ⟨o, by rw [List.mem_singleton.mp hb]; exact e⟩

section
variable {w : World} {A : Around} {h₀ : Heap} {mean : ExcName → Option Value} {mg mb : Str → Option Value} {sB s' : Shared} {n m : Nat} {P : Nat → Value → Prop} {D : Addr} {acc : List Value} {c : Nat} {own : List (Addr × Obj)}
theorem Drained.fr (d : Drained sB n m P D s' acc c own) {L : Addr} {mL : Str → Option Value} (F : Fr h₀ L sB.heap mL) : Fr h₀ L s'.heap mL := F.keeps d.keeps
theorem Drained.news (d : Drained sB n m P D s' acc c own) {L : Addr} {mL : Str → Option Value} {news : List (Addr × Obj)} (F : Fr h₀ L sB.heap mL) (N : News h₀ L sB.heap news) : News h₀ L s'.heap ((D, lobj acc.toArray c) :: (news ++ own)) := by
  have hL : L < sB.heap.objs.size := F.ns.lt
  have new : ∀ b, sB.heap.objs.size ≤ b → b ≠ L ∧ h₀.get? b = none := fun b hb => ⟨fun e => by rw [e] at hb; exact Nat.lt_irrefl _ (Nat.lt_of_lt_of_le hL hb), by
    cases e : h₀.get? b with
    | none => rfl
    | some o => exact absurd (Nat.lt_of_lt_of_le (Heap.lt_size (F.keep _ _ e)) hb) (Nat.lt_irrefl _)⟩
  intro p hp
  rcases List.mem_cons.mp hp with rfl | hp
  · exact ⟨d.list, new _ d.new⟩
  · rcases List.mem_append.mp hp with hp | hp
    · exact ⟨d.keeps _ _ (N p hp).1, (N p hp).2⟩
    · exact ⟨(d.owned p hp).1, new _ (d.owned p hp).2.1⟩
theorem Drained.bare (d : Drained sB n m P D s' acc c own) (hb : AllBare sB.gens) : AllBare s'.gens := by
  intro y hy
  obtain ⟨i, hi, rfl⟩ := Array.mem_iff_getElem.mp hy
  have hsz := d.size
  rcases Nat.lt_or_ge i sB.gens.size with h | h
  · have := d.gens i h
    rw [Array.getElem?_eq_getElem hi, Array.getElem?_eq_getElem h] at this
    rw [Option.some.inj this]
    exact hb _ (Array.getElem_mem h)
  · have e : i = sB.gens.size := by omega
    subst e
    have := d.last
    rw [Array.getElem?_eq_getElem hi] at this
    rw [Option.some.inj this]
    rfl
theorem Drained.state (d : Drained sB n m P D s' acc c own) : s' = { sB with heap := s'.heap, toks := s'.toks, gens := s'.gens } := by
  have h1 := d.drawn
  have h2 := d.os
  cases s'
  cases sB
  cases h1
  cases h2
  rfl
end
end

/-! ### N1 -/
section
open PySem.Calls
set_option maxRecDepth 100000
section
variable {prog : Program} {w : World} {M : Model} {A : Around} {E : Value → Shared → Prop} {s : Shared}
def bigS : PySem.Str := PySem.Str.ofString "big"
abbrev fbKw (u : Tok) : List (Str × Value) := [(Str.ofString "byteorder", .str bigS u), (Str.ofString "signed", .bool false)]

theorem grown_any {n k : Nat} {Q : Value → Shared → Prop} (hn : n < 256 ^ k) (hk : k ≤ 1000) (h : Q (.int (n : Int) s.toks) { s with toks := s.toks + 1 }) : wpAny M A (mkIntGrown (n : Int)) Q E s := by
  unfold mkIntGrown
  have hl : ¬ ((n : Int).natAbs.log2 ≥ bitsLine) := by
    rw [Int.natAbs_natCast]
    have hb : bitsLine = 134217728 := by decide
    by_cases hz : n = 0
    · subst hz
      rw [hb]
      decide
    · have h0 : (256 : Nat) ^ k = 2 ^ (8 * k) := by rw [Nat.pow_mul]
      have h1 := (Nat.log2_lt hz).mpr (h0 ▸ hn)
      omega
  rw [if_neg hl]
  exact wpAny_mkInt h

theorem tree_kw {b : Array UInt8} {t u : Tok} {P : Fin → Shared → Prop} (hl : b.size ≤ 1000) (h : P (.done (.ret (.int (KFB.value (KBw.bInts b)) s.toks))) { s with toks := s.toks + 1 }) :
    wpAny M A (Builtin.«int.from_bytes» ⟨[.type "int", .bytes b t], fbKw u⟩) P E s := by
  have hv : ((b.toList.foldl (fun (acc : Nat) (b : UInt8) => acc * 256 + b.toNat) 0 : Nat) : Int) = KFB.value (KBw.bInts b) := KFB.fold_cast b.toList 0
  have hn : b.toList.foldl (fun (acc : Nat) (b : UInt8) => acc * 256 + b.toNat) 0 < 256 ^ b.size := by
    have h1 := KFB.fold_lt b.toList 0
    rwa [Nat.zero_add, Nat.one_mul, Array.length_toList] at h1
  unfold Builtin.«int.from_bytes»
  refine wpAny_bind (wpAny_of_eq (a := true) KFB.type_int ?_)
  refine KFB.if_not rfl ?_
  refine wpAny_bind (wpAny_of_eq (a := true) F.conv_sub_int ?_)
  refine KFB.if_not rfl ?_
  refine wpAny_bind (wpAny_of_eq (a := [some (.bytes b t), some (.str bigS u), some (.bool false)]) (by kernel_rfl) ?_)
  refine wpAny_bind (wpAny_of_eq (a := bigS) (by kernel_rfl) ?_)
  refine wpAny_bind (wpAny_of_eq (a := false) rfl ?_)
  refine wpAny_bind (wpAny_of_eq (a := false) (by kernel_rfl) ?_)
  refine wpAny_bind (wpAny_of_eq (a := b) rfl ?_)
  show wpAny _ _ (mkIntGrown (b.toList.foldl (fun (acc : Int) (b : UInt8) => acc * 256 + (b.toNat : Int)) ((0 : Nat) : Int)) >>= fun v => _) _ _ _
  rw [KFB.foldI_eq]
  refine wpAny_bind (grown_any hn hl ?_)
  rw [hv]
  refine KFB.if_so (by decide +kernel) ?_
  exact wpAny_bind (wpAny_pure (wpAny_pure h))

theorem check_kw {b : Array UInt8} {t u : Tok} : checkBoundCall "int.from_bytes" ⟨[.type "int", .bytes b t], fbKw u⟩ = pure () := by kernel_rfl

theorem call_kw {x : Addr} {b : Array UInt8} {t u : Tok} {Q : Value → Shared → Prop} (ho : KFB.StandsAt x s.heap) (hl : b.size ≤ 1000)
    (h : Q (.int (KFB.value (KBw.bInts b)) s.toks) { s with toks := s.toks + 1 }) : wpAny (model prog w) A (call (.ref x) [.bytes b t] (fbKw u)) Q E s := by
  refine wpAny_call (codeAny_of_tree ?_)
  show wpAny _ A.in1 (callAny (.ref x) ⟨[.bytes b t], fbKw u⟩) _ _ s
  simp only [callAny]
  refine wpAny_bind (wpAny_load ho ?_)
  simp only [KFB.bound, show (Value.type "builtin_function_or_method" == Value.type "method" || Value.type "builtin_function_or_method" == Value.type "builtin_function_or_method" || Value.type "builtin_function_or_method" == Value.type "method-wrapper") = true by decide, if_true]
  refine KFB.if_so (by decide) ?_
  refine wpAny_bind (wpAny_of_eq (a := ()) check_kw ?_)
  refine wpAny_bind (wpAny_pure (wpAny_pure ?_))
  exact ⟨KFB.quiet_fb, codeAny_builtin KFB.entry_fb (tree_kw hl h)⟩

theorem keeps_bound {u : Addr} (h : Heap) (X : KFB.StandsAt u h) : ∃ k, (k = Keeper.frame ∨ k = Keeper.machine ∨ k = Keeper.boundFrame) ∧ Looks M h (keeperOf (.ref u)) k := by
  refine ⟨.machine, .inr (.inl rfl), ?_⟩
  exact (Looks.ld (part := none) X).andThen .now

theorem callWith_kw {h₀ : Heap} {L : Addr} {news : List (Addr × Obj)} {pos : Pos} {u : Addr} {first : List Value} {env : Env} {e : Expr} {rest : List Expr} {kws : List Keyword} {Q : Value → Shared → Prop} (_N : News h₀ L s.heap news) (_hm : (u, KFB.bound) ∈ news)
    (hall : (backToKw pos (keywordEach kws env)).all (·.1.isSome) = true)
    (h : wpAny M A (spliced (backTo pos (starEach (e :: rest) env))) (fun vs s₁ => wpAny M A (evalAll ((backToKw pos (keywordEach kws env)).map (·.2)))
      (fun ks s₂ => KFB.StandsAt u s₂.heap ∧ wpAny M A (call (.ref u) (first ++ vs) (((backToKw pos (keywordEach kws env)).filterMap (·.1)).zip ks)) Q E s₂) E s₁) E s)
    (hplain : ((backTo pos (starEach (e :: rest) env)).any (·.1) || (backToKw pos (keywordEach kws env)).any (·.1.isNone)) = false := by rfl) (he : starEach (e :: rest) env = (false, eval e env) :: starEach rest env := by rfl) :
    wpAny M A (callWith pos (.ref u) first (backTo pos (starEach (e :: rest) env)) (backToKw pos (keywordEach kws env))) Q E s :=
  callWith_of hplain keeps_bound (evalArgs_kw2 hall h he)
end
end

/-! ### N2 -/
section
open PySem.Calls
set_option maxRecDepth 100000
def lawDef : Stmt := PySem.Challenge.pw_co0035_01.main.body.getD 4 noStmt
def lawScope : Scope := defScope lawDef
def lawBody : List Stmt := defBody lawDef
abbrev lawEnv (L fa : Addr) (cd : Value) : Env := envOfC (Str.ofString "law") lawScope L fa cd
abbrev lawA (L fa : Addr) (cd : Value) : Around := callerA.deeper (lawEnv L fa cd)

local macro_rules | `(tactic| walk_at "callWith ref") => `(tactic| (k_here; kfb_any; k_dflt (refine' callWith_kw ?kfbN ?kfbM ?kA ?_; (case kfbN => k_asm); (case kfbM => k_mem); (case kA => rfl); k_whole)))
local macro_rules | `(tactic| walk_at "call ref") => `(tactic| (k_here; kfb_any; k_dflt (refine' call_kw ?kfbN ?kA ?_; (case kfbN => exact KFB.at_of (by k_asm) (by k_mem)); (case kA => assumption); k_whole)))
section
variable {w : World} {E : Value → Shared → Prop} {s : Shared} {h₀ : Heap} {mean : ExcName → Option Value} {mg mb : Str → Option Value} {L fa : Addr} {cd : Value} {m : Str → Option Value} {news : List (Addr × Obj)}
set_option maxHeartbeats 4000000 in
theorem nunpack_call {Q : Value → Shared → Prop} {b : Array UInt8} {t td : Tok} {d : Int} (K0 : Below callerA h₀ [] h₀) (X₀ : (hd.heap_39 w.params).In h₀) (T : theTop mean mg mb h₀) (F : Fr h₀ L s.heap m) (N : News h₀ L s.heap news) (hl : b.size ≤ 1000)
    (h : ∀ h' tk tv, Fr h₀ L h' m → News h₀ L h' news → Q (.int (if b.size = 0 then d else KFB.value (KBw.bInts b)) tv) { s with heap := h', toks := tk }) :
    wpAny (model theProg w) (lawA L fa cd) (call (.ref 29) [.bytes b t, .int d td]) Q E s := by
  refine wpAny_call ?_
  k_enter
  k_steps
  · have e : ¬ b.size = 0 := by omega
    rename News h₀ L _ ((_, KFB.bound) :: news) => kN
    rename Fr h₀ L _ m => kF
    have q := fun tk tv => h _ tk tv kF (fun p hp => kN p (List.mem_cons_of_mem _ hp))
    rw [if_neg e] at q
    exact q _ _
  · have e : b.size = 0 := by omega
    rename News h₀ L _ news => kN
    rename Fr h₀ L _ m => kF
    have q := fun tk tv => h _ tk tv kF kN
    rw [if_pos e] at q
    exact q _ _
set_option maxHeartbeats 4000000 in
theorem nunpack_call1 {Q : Value → Shared → Prop} {b : Array UInt8} {t : Tok} (K0 : Below callerA h₀ [] h₀) (X₀ : (hd.heap_39 w.params).In h₀) (T : theTop mean mg mb h₀) (F : Fr h₀ L s.heap m) (N : News h₀ L s.heap news) (hl : b.size ≤ 1000)
    (h : ∀ h' tk tv, Fr h₀ L h' m → News h₀ L h' news → Q (.int (KFB.value (KBw.bInts b)) tv) { s with heap := h', toks := tk }) :
    wpAny (model theProg w) (lawA L fa cd) (call (.ref 29) [.bytes b t]) Q E s := by
  refine wpAny_call ?_
  k_enter
  k_steps
  · have e : ¬ b.size = 0 := by omega
    rename News h₀ L _ ((_, KFB.bound) :: news) => kN
    rename Fr h₀ L _ m => kF
    have q := fun tk tv => h _ tk tv kF (fun p hp => kN p (List.mem_cons_of_mem _ hp))
    exact q _ _
  · have e : b.size = 0 := by omega
    rename News h₀ L _ news => kN
    rename Fr h₀ L _ m => kF
    have q := fun tk tv => h _ tk tv kF kN
    have e2 : KFB.value (KBw.bInts b) = 0 := by
      have : b = #[] := Array.eq_empty_of_size_eq_zero e
      rw [this]; rfl
    rw [e2] at q
    exact q _ _
end
end

/-! ### C1 -/
section
open PySem.Calls
set_option maxRecDepth 100000
def cmpRight : Expr → Expr
  | .Compare _ _ [r] _ => r
  | _ => .Constant .none 0 ⟨0, 0, 0, 0⟩
def compElt : Expr → Expr
  | .ListComp e _ _ _ => e
  | _ => .Constant .none 0 ⟨0, 0, 0, 0⟩
def compScope : Expr → Scope
  | .ListComp _ _ s _ => s
  | _ => { kind := .module, names := [], isGenerator := false, isCoroutine := false }
def compIter : Expr → Expr
  | .ListComp _ (g :: _) _ _ => g.iter
  | _ => .Constant .none 0 ⟨0, 0, 0, 0⟩
def exComp : Expr := cmpRight (ifTest (lawBody.getD 4 noStmt))
def exElt : Expr := compElt exComp
def outScope : Scope := compScope exComp
def callArg : Expr → Expr
  | .Call _ [a] _ _ => a
  | _ => .Constant .none 0 ⟨0, 0, 0, 0⟩
def exIn : Expr := callArg exElt
def inElt : Expr := compElt exIn
def inScope : Scope := compScope exIn
abbrev outCl (L c : Addr) : List (Str × Addr) := [(Str.ofString "k", c), (Str.ofString "size", L + 2), (Str.ofString "octets", L + 1)]
abbrev outEnv (L fa : Addr) (cd : Value) (c C : Addr) : Env := compEnvC outScope (outCl L c) C (lawEnv L fa cd)
theorem range_small {n : Int} (h1 : 0 ≤ n) (h4 : n ≤ 12) : Builtin.Range.small 0 n 1 = true ∧ Builtin.Range.rangeSize 0 n 1 = ((n.toNat : Nat) : Int) := by
  have : n = 0 ∨ n = 1 ∨ n = 2 ∨ n = 3 ∨ n = 4 ∨ n = 5 ∨ n = 6 ∨ n = 7 ∨ n = 8 ∨ n = 9 ∨ n = 10 ∨ n = 11 ∨ n = 12 := by omega
  rcases this with rfl | rfl | rfl | rfl | rfl | rfl | rfl | rfl | rfl | rfl | rfl | rfl | rfl <;> exact ⟨rfl, rfl⟩
section
variable {w : World} {A : Around} {E : Value → Shared → Prop} {s : Shared} {h₀ : Heap} {mean : ExcName → Option Value} {mg mb : Str → Option Value} {L fa c C : Addr} {cd : Value} {m : Str → Option Value} {news : List (Addr × Obj)}
set_option maxHeartbeats 4000000 in
theorem elt_walk {Q : Value → Shared → Prop} {ks : List Int} {n k : Int} {t tn tk : Tok} {oc oS oO : Obj} (hh : A.handled = none) (X₀ : (hd.heap_39 w.params).In h₀) (T : theTop mean mg mb h₀) (F : Fr h₀ L s.heap m)
    (N : News h₀ L s.heap ((c, oc) :: (L + 2, oS) :: (L + 1, oO) :: news)) (dc : oc.data = .cell (some (.int k tk))) (dS : oS.data = .cell (some (.int n tn))) (dO : oO.data = .cell (some (.bytes (byteArr ks) t)))
    (hk : KBa.In ks) (hks : ks.length ≤ 12) (hn : 1 ≤ n) (hn4 : n ≤ 4) (hk0 : 0 ≤ k) (hk1 : k < 13) (hin : n * k + n ≤ (ks.length : Int))
    (h : ∀ h' tk T (vs : List Value), Fr h₀ L h' m → News h₀ L h' ((T, tobj vs.toArray) :: (c, oc) :: (L + 2, oS) :: (L + 1, oO) :: news) → IntsAre vs ((rangeKs 0 n.toNat).map fun j => ks.getD (n * k + j).toNat 0) → Q (.ref T) { s with heap := h', toks := tk }) :
    wpAny (model theProg w) A (eval exElt (outEnv L fa cd c C)) Q E s := by
  have e : exElt = Expr.Call (Expr.Name (Str.ofString "tuple") _) [Expr.ListComp _ _ _ _] _ _ := rfl
  rw [e]
  k_steps
  refine LCg.CompSrc.range hh (by assumption) (by assumption) (by assumption) (range_small (by omega) (by omega)).1 (range_small (by omega) (by omega)).2 (Nat.le_trans (show n.toNat ≤ 4 by omega) (by decide)) ?_
  intro g
  refine kcf_range (fun j => ks.getD (n * k + j).toNat 0) ?_ ?_
  · intro j tj I oI C' oC D m₂ ys h₁ tk₁ E' hj0 hj1 hC hx F₁ N₁ off ne mk
    k_steps
    have hj2 : j < n := by rw [Int.toNat_of_nonneg (by omega)] at hj1; omega
    have hnk : 0 ≤ n * k := Int.mul_nonneg (by omega) hk0
    refine KBw.item_K (KBa.ints_make hk) (by omega) (by omega) (by omega) ?_
    intro t' k' _ _
    exact LCg.CompEnd.intro F₁ N₁ _ (fun p hp => hp) off trivial (kcf_el rfl rfl rfl)
  · intro ys hys D' h₂ tk₂ F₂ N₂ off₂
    k_steps
    rename News h₀ L _ ((_, tobj _) :: _) => N3
    refine h _ _ _ ys (by assumption) (fun p hp => N3 p ?_) hys
    rcases List.mem_cons.mp hp with rfl | hp
    · exact List.mem_cons_self
    · exact List.mem_cons_of_mem _ (List.mem_cons_of_mem _ hp)
end
end

/-! ### C2 -/
section
open PySem.Calls
set_option maxRecDepth 100000
abbrev outCl0 (L : Addr) : List (Str × Addr) := [(Str.ofString "size", L + 2), (Str.ofString "octets", L + 1)]
theorem out_closure (L fa : Addr) (cd : Value) : closureFor outScope (lawEnv L fa cd) = pure (outCl0 L) := by with_unfolding_all rfl
def exIter : Expr := compIter exComp
section
variable {w : World} {A : Around} {E : Value → Shared → Prop} {s : Shared} {h₀ : Heap} {mean : ExcName → Option Value} {mg mb : Str → Option Value} {L fa c C : Addr} {cd : Value} {m : Str → Option Value} {news : List (Addr × Obj)}
set_option maxHeartbeats 4000000 in
theorem iter_walk {Q : Value → Shared → Prop} {ks : List Int} {n : Int} {t tn : Tok} {oS oO : Obj} (hh : A.handled = none) (X₀ : (hd.heap_39 w.params).In h₀) (T : theTop mean mg mb h₀) (F : Fr h₀ L s.heap m)
    (N : News h₀ L s.heap ((L + 2, oS) :: (L + 1, oO) :: news)) (dS : oS.data = .cell (some (.int n tn))) (dO : oO.data = .cell (some (.bytes (byteArr ks) t)))
    (hk : KBa.In ks) (hks : ks.length ≤ 12) (hn : 1 ≤ n) (hn4 : n ≤ 4)
    (h : ∀ h' tk r t u v, Fr h₀ L h' m → News h₀ L h' ((L + 2, oS) :: (L + 1, oO) :: news) → IsRange h' r 0 ((ks.length / n.toNat : Nat) : Int) 1 t u v → Q (.ref r) { s with heap := h', toks := tk }) :
    wpAny (model theProg w) A (eval exIter (lawEnv L fa cd)) Q E s := by
  have e : exIter = Expr.Call (Expr.Name (Str.ofString "range") _) [_] _ _ := rfl
  rw [e]
  k_steps
  rename IsRange _ _ _ _ _ _ _ _ => hr
  have e2 : ((ks.length : Nat) : Int).fdiv n = ((ks.length / n.toNat : Nat) : Int) := by
    rw [Int.fdiv_eq_ediv_of_nonneg _ (by omega), Int.natCast_ediv, Int.toNat_of_nonneg (by omega)]
  rw [e2] at hr
  exact h _ _ _ _ _ _ (by assumption) (by assumption) hr

theorem newEnv_out {Q : Env → Shared → Prop} (h : Q { scope := outScope, locals := s.heap.objs.size, globals := mainGlobals, cells := (Str.ofString "k", s.heap.objs.size + 1) :: outCl0 L, qual := (lawEnv L fa cd).qual, func := none, code := cd, frame := some L, builtins := builtinsNs }
      { s with heap := (s.heap.push { cls := .type "dict", data := .dict #[] }).push { cls := .type "cell", data := .cell none } }) {M : Model} :
    wpAny M A (newFunctionEnv outScope mainGlobals (outCl0 L) [] (lawEnv L fa cd).qual none .none (some (lawEnv L fa cd))) Q E s := by
  simp only [newFunctionEnv, Option.isSome_some, if_true]
  refine wpAny_bind (wpAny_alloc ?_)
  refine wpAny_bind (wpAny_layCells _ (fun name kind cells => by cases hkc : kind == NameKind.cell <;> simp [hkc]) _ _ _ _ ?_)
  refine wpAny_bind (wpAny_pure ?_)
  have e1 : ∀ k, cellsFrom k outScope.names (outCl0 L) = (Str.ofString "k", k) :: outCl0 L := fun k => rfl
  have e2 : ∀ h : Heap, pushCells h outScope.names = h.push { cls := .type "cell", data := .cell none } := fun h => rfl
  rw [e1, e2]
  refine wpAny_pure ?_
  rw [show ({ s with heap := s.heap.push { cls := .type "dict", data := .dict #[] } } : Shared).heap.objs.size = s.heap.objs.size + 1 from Heap.size_push ..]
  exact h
end
end

/-! ### C3 -/
section
open PySem.Calls
set_option maxRecDepth 100000
/-- the pieces that the comprehension makes: tuples of ints -/
def Grp (n : Int) (ks : List Int) (own : List (Addr × Obj)) (vs : List Value) : Prop :=
  ∀ (i : Nat) (v : Value), vs[i]? = some v → ∃ (T : Addr) (us : List Value), v = .ref T ∧ (T, tobj us.toArray) ∈ own ∧ IntsAre us ((rangeKs 0 n.toNat).map fun j => ks.getD (n * (i : Int) + j).toNat 0)
theorem Grp.snoc {n : Int} {ks : List Int} {own : List (Addr × Obj)} {vs us : List Value} {T : Addr} (g : Grp n ks own vs) (hu : IntsAre us ((rangeKs 0 n.toNat).map fun j => ks.getD (n * (vs.length : Int) + j).toNat 0)) :
    Grp n ks ((T, tobj us.toArray) :: own) (vs ++ [.ref T]) := by
  intro i v hv
  rcases Nat.lt_or_ge i vs.length with h | h
  · rw [List.getElem?_append_left h] at hv
    obtain ⟨T', us', e1, e2, e3⟩ := g i v hv
    exact ⟨T', us', e1, List.mem_cons_of_mem _ e2, e3⟩
  · rw [List.getElem?_append_right h] at hv
    rcases Nat.eq_or_lt_of_le h with h | h
    · rw [← h, Nat.sub_self] at hv
      cases hv
      subst h
      exact ⟨T, us, rfl, List.mem_cons_self, hu⟩
    · rw [List.getElem?_eq_none (by simp; omega)] at hv; cases hv

theorem news_other {h₀ h h' : Heap} {L d : Addr} {news : List (Addr × Obj)} (N : News h₀ L h news) (hs : ∀ b o, b ≠ d → h.get? b = some o → h'.get? b = some o) (hne : ∀ p ∈ news, p.1 ≠ d) : News h₀ L h' news :=
  fun p hp => ⟨hs _ _ (hne p hp) (N p hp).1, (N p hp).2⟩
theorem fr_other {h₀ h h' : Heap} {L d : Addr} {m : Str → Option Value} (F : Fr h₀ L h m) (hs : ∀ b o, b ≠ d → h.get? b = some o → h'.get? b = some o) (hL : d ≠ L) (hd : h₀.get? d = none) : Fr h₀ L h' m :=
  ⟨F.ns.at' fun o e => hs L o (Ne.symm hL) e, fun b o e => hs b o (fun h => by rw [h, hd] at e; cases e) (F.keep b o e), F.above⟩
theorem addr_ne {h : Heap} {a b : Addr} {x y : Obj} (ha : h.get? a = some x) (hb : h.get? b = some y) (hxy : x ≠ y) : a ≠ b := fun e => by
  rw [e, hb] at ha
  exact hxy (Option.some.inj ha).symm
abbrev rit (x l : Int) : Obj := { cls := .type "range_iterator", dict := none, data := .fields #[rawInt x, rawInt l, rawInt 1], slots := #[] }

section
variable {w : World} {A : Around} {E : Value → Shared → Prop} {s : Shared} {h₀ : Heap} {mean : ExcName → Option Value} {mg mb : Str → Option Value} {L fa c C : Addr} {cd : Value} {m : Str → Option Value} {news : List (Addr × Obj)}
set_option maxHeartbeats 4000000 in
theorem comp_walk {Q : Value → Shared → Prop} {ks : List Int} {n : Int} {t tn : Tok} {oS oO : Obj} (hh : A.handled = none) (X₀ : (hd.heap_39 w.params).In h₀) (T : theTop mean mg mb h₀) (F : Fr h₀ L s.heap m)
    (N : News h₀ L s.heap ((L + 2, oS) :: (L + 1, oO) :: news)) (dS : oS.data = .cell (some (.int n tn))) (dO : oO.data = .cell (some (.bytes (byteArr ks) t)))
    (hk : KBa.In ks) (hks : ks.length ≤ 12) (hn : 1 ≤ n) (hn4 : n ≤ 4)
    (h : ∀ D h' tk vs own, Fr h₀ L h' m → News h₀ L h' ((D, LCg.lst vs) :: (L + 2, oS) :: (L + 1, oO) :: (news ++ own)) → vs.length = ks.length / n.toNat → Grp n ks own vs → (∀ p ∈ (L + 2, oS) :: (L + 1, oO) :: news, p.1 < D) → Q (.ref D) { s with heap := h', toks := tk }) :
    wpAny (model theProg w) A (eval exComp (lawEnv L fa cd)) Q E s := by
  have e : exComp = Expr.ListComp exElt [⟨Expr.Name (Str.ofString "k") _, exIter, [], 0⟩] outScope _ := rfl
  rw [e, eval_ListComp]
  refine wpAny_comprehension_free (use := none) rfl (by intro _; rfl) (out_closure L fa cd) rfl (by decide) ?_
  show wpAny _ A (eval exIter (lawEnv L fa cd)) _ _ _
  refine iter_walk hh X₀ T F N dS dO hk hks hn hn4 fun h₁ tk₁ r t₁ u₁ v₁ F₁ N₁ hr => ?_
  generalize hcnt : ks.length / n.toNat = cnt at hr h
  have hcnt12 : cnt ≤ 12 := by rw [← hcnt]; exact Nat.le_trans (Nat.div_le_self _ _) hks
  have hsz : Builtin.Range.rangeSize 0 (cnt : Int) 1 = (cnt : Int) := by
    have := (range_small (n := (cnt : Int)) (by omega) (by omega)).2
    rwa [Int.toNat_natCast] at this
  refine wpAny_pyIter_range hr (range_small (n := (cnt : Int)) (by omega) (by omega)).1 ?_
  rw [hsz]
  refine wpAny_newObj_type ?_
  refine newEnv_out ?_
  -- the addresses: I the range's iterator, then D the list, C the block's names, c the cell of k
  have base₁ : ∀ p ∈ (L + 2, oS) :: (L + 1, oO) :: news, p.1 < h₁.objs.size := fun p hp => Heap.lt_size (N₁ p hp).1
  have hLlt : L < h₁.objs.size := F₁.ns.lt
  have none₀ : ∀ b, h₁.objs.size ≤ b → h₀.get? b = none := fun b hb => by
    cases e : h₀.get? b with
    | none => rfl
    | some o => exact absurd (Nat.lt_of_lt_of_le (Heap.lt_size (F₁.keep _ _ e)) hb) (Nat.lt_irrefl _)
  generalize hI : h₁.objs.size = I at base₁ hLlt none₀ ⊢
  dsimp only
  have hDn : (h₁.push (rit 0 cnt)).objs.size = I + 1 := by rw [Heap.size_push, hI]
  generalize hH1 : h₁.push (rit 0 cnt) = H1 at hDn ⊢
  have it1 : H1.get? I = some (rit 0 cnt) := by rw [← hH1, ← hI]; exact Heap.get?_push_size _ rfl
  have old1 : ∀ b o, h₁.get? b = some o → H1.get? b = some o := fun b o e => hH1 ▸ Heap.get?_push_of_some _ e
  rw [hDn]
  have hCn : (H1.push { cls := .type "list", data := .seq ([] : List Value).toArray }).objs.size = I + 2 := by rw [Heap.size_push, hDn]
  generalize hH2 : H1.push { cls := .type "list", data := .seq ([] : List Value).toArray } = H2 at hCn ⊢
  have li2 : H2.get? (I + 1) = some (LCg.lst []) := by rw [← hH2, ← hDn]; exact Heap.get?_push_size _ rfl
  have old2 : ∀ b o, H1.get? b = some o → H2.get? b = some o := fun b o e => hH2 ▸ Heap.get?_push_of_some _ e
  rw [hCn]
  have hcn : (H2.push { cls := .type "dict", data := .dict #[] }).objs.size = I + 3 := by rw [Heap.size_push, hCn]
  generalize hH3 : H2.push { cls := .type "dict", data := .dict #[] } = H3 at hcn ⊢
  have di3 : H3.get? (I + 2) = some { cls := .type "dict", data := .dict #[] } := by rw [← hH3, ← hCn]; exact Heap.get?_push_size _ rfl
  have old3 : ∀ b o, H2.get? b = some o → H3.get? b = some o := fun b o e => hH3 ▸ Heap.get?_push_of_some _ e
  generalize hH4 : H3.push { cls := .type "cell", data := .cell none } = H4
  have ce4 : H4.get? (I + 3) = some { cls := .type "cell", data := .cell none } := by rw [← hH4, ← hcn]; exact Heap.get?_push_size _ rfl
  have old4 : ∀ b o, H3.get? b = some o → H4.get? b = some o := fun b o e => hH4 ▸ Heap.get?_push_of_some _ e
  have old : ∀ b o, h₁.get? b = some o → H4.get? b = some o := fun b o e => old4 _ _ (old3 _ _ (old2 _ _ (old1 _ _ e)))
  show codeAny _ A (.compStart (.ListComp exElt [⟨Expr.Name (Str.ofString "k") _, exIter, [], 0⟩] outScope _) 0 (.ref I) (.ref (I + 1)) (outEnv L fa cd (I + 3) (I + 2))) (compPost (model theProg w) A E none Q (.ref (I + 1)) (I + 2)) _
  have W := LCg.range_walks (prog := theProg) (w := w) (I := I) hh 0 cnt
  have hLI : ∀ k : Nat, I + k ≠ L := fun k e => Nat.lt_irrefl _ (Nat.lt_of_lt_of_le hLlt (e ▸ Nat.le_add_right I k))
  have oth0 : ∀ k : Nat, h₀.get? (I + k) = none := fun k => none₀ _ (Nat.le_add_right I k)
  have st0 : LCg.range_walks (prog := theProg) (w := w) (I := I) hh 0 cnt = W := rfl
  have loop : ∀ s₃ : Shared, s₃ = { s with heap := H4, toks := tk₁ } →
      codeAny (model theProg w) A (.compLoop (.ListComp exElt [⟨Expr.Name (Str.ofString "k") ⟨21, 73, 21, 74⟩, exIter, [], 0⟩] outScope ⟨21, 17, 21, 105⟩) 0 (.ref I) (.ref (I + 1)) (outEnv L fa cd (I + 3) (I + 2)))
        (compPost (model theProg w) A E none Q (.ref (I + 1)) (I + 2)) s₃ := by
    rintro s₃ rfl
    refine codeAny_compLoop_tests
      (fun kk s' => ∃ h' tk i vs own oc v₀, s' = { s with heap := h', toks := tk } ∧ i ≤ cnt ∧ kk = cnt + 1 - i ∧ vs.length = i ∧ h'.get? I = some (rit (0 + (i : Nat) * 1) ((cnt : Int) - (i : Nat))) ∧ Fr h₀ L h' m ∧
        News h₀ L h' ((I + 1, LCg.lst vs) :: (I + 3, oc) :: (I + 2, { cls := .type "dict", data := .dict #[] }) :: (L + 2, oS) :: (L + 1, oO) :: (news ++ own)) ∧ oc.data = .cell v₀ ∧ (∀ p ∈ own, ∃ us : List Value, p.2 = tobj us.toArray) ∧ Grp n ks own vs) ?_ (cnt + 1)
      ⟨H4, tk₁, 0, [], [], { cls := .type "cell", data := .cell none }, none, rfl, Nat.zero_le _, rfl, rfl, ?_, ?_, ?_, rfl, fun p hp => (by simp at hp), fun i v hv => (by simp at hv)⟩
    · rintro kk s' ⟨h', tk, i, vs, own, oc, v₀, rfl, hi, rfl, hvl, hit, F', N', dc, hown, hg⟩
      have objs : ∀ p ∈ own, h'.get? p.1 = some p.2 ∧ ∃ us : List Value, p.2 = tobj us.toArray := fun p hp => ⟨(N' p (by grind)).1, hown p hp⟩
      by_cases hlt : i < cnt
      · refine W.item i _ _ _ hlt hit fun v h₂ tk₂ hPv hit₂ hk₂ => ?_
        obtain ⟨t', rfl⟩ := hPv
        have hk₂' : ∀ b o, b ≠ I → h'.get? b = some o → h₂.get? b = some o := fun b o hb e => hk₂ b o (by simpa using hb) e
        have ownI : ∀ p ∈ own, p.1 ≠ I := fun p hp => by
          obtain ⟨e1, us, e2⟩ := objs p hp
          exact addr_ne e1 hit (by rw [e2]; simp)
        have N₂ := news_other N' hk₂' fun p hp => by
          simp only [List.mem_cons, List.mem_append] at hp
          rcases hp with rfl | rfl | rfl | rfl | rfl | hp | hp
          · exact Nat.succ_ne_self I
          · show I + 3 ≠ I; omega
          · show I + 2 ≠ I; omega
          · exact Nat.ne_of_lt (base₁ _ (by simp))
          · exact Nat.ne_of_lt (base₁ _ (by simp))
          · exact Nat.ne_of_lt (base₁ p (by simp [hp]))
          · exact ownI p hp
        have F₂ := fr_other F' hk₂' (hLI 0) (oth0 0)
        have hc₂ : h₂.get? (I + 3) = some oc := (N₂ (I + 3, oc) (by simp)).1
        refine wpAny_assign_Name (wpAny_storeName_cell (by rfl) (by rfl) (by rfl) ⟨oc, hc₂, dc⟩ fun h₃ hv₃ hs₃ => ?_)
        obtain ⟨oc', ec', dc'⟩ := hv₃
        have hs₃' : ∀ b o, b ≠ I + 3 → h₂.get? b = some o → h₃.get? b = some o := fun b o hb e => hs₃.extBut b o hb e
        have F₃ := fr_other F₂ hs₃' (hLI 3) (oth0 3)
        have it₃ : h₃.get? I = some (rit (0 + ((i + 1 : Nat) : Int) * 1) ((cnt : Int) - ((i + 1 : Nat) : Int))) := hs₃' _ _ (show I ≠ I + 3 by omega) hit₂
        have N₃ : News h₀ L h₃ ((I + 3, oc') :: (L + 2, oS) :: (L + 1, oO) :: ((I, rit (0 + ((i + 1 : Nat) : Int) * 1) ((cnt : Int) - ((i + 1 : Nat) : Int))) :: (I + 1, LCg.lst vs) :: (I + 2, { cls := .type "dict", data := .dict #[] }) :: (news ++ own))) := fun p hp => by
          simp only [List.mem_cons, List.mem_append] at hp
          rcases hp with rfl | rfl | rfl | rfl | rfl | rfl | hp | hp
          · exact ⟨ec', hLI 3, oth0 3⟩
          · have := N₂ (L + 2, oS) (by simp)
            exact ⟨hs₃' _ _ (Nat.ne_of_lt (Nat.lt_trans (base₁ (L + 2, oS) (by simp)) (by omega))) this.1, this.2⟩
          · have := N₂ (L + 1, oO) (by simp)
            exact ⟨hs₃' _ _ (Nat.ne_of_lt (Nat.lt_trans (base₁ (L + 1, oO) (by simp)) (by omega))) this.1, this.2⟩
          · exact ⟨it₃, hLI 0, oth0 0⟩
          · have := N₂ (I + 1, LCg.lst vs) (by simp)
            exact ⟨hs₃' _ _ (show I + 1 ≠ I + 3 by omega) this.1, this.2⟩
          · have := N₂ (I + 2, { cls := .type "dict", data := .dict #[] }) (by simp)
            exact ⟨hs₃' _ _ (show I + 2 ≠ I + 3 by omega) this.1, this.2⟩
          · have := N₂ p (by simp [hp])
            exact ⟨hs₃' _ _ (Nat.ne_of_lt (Nat.lt_trans (base₁ p (by simp [hp])) (by omega))) this.1, this.2⟩
          · have := N₂ p (by simp [hp])
            obtain ⟨us, e2⟩ := hown p hp
            exact ⟨hs₃' _ _ (addr_ne this.1 hc₂ (fun h => by rw [e2] at h; rw [← h] at dc; cases dc)) this.1, this.2⟩
        refine wpAny_tests_nil ?_
        simp only [if_true]
        refine elt_walk hh X₀ T F₃ N₃ dc' dS dO hk hks hn hn4 (by omega) (by omega) ?_ fun h₄ tk₄ T' us F₄ N₄ hus => ?_
        · have hnn : (n.toNat : Int) = n := Int.toNat_of_nonneg (by omega)
          have h1 : n.toNat * (i + 1) ≤ ks.length := by
            have : i + 1 ≤ ks.length / n.toNat := by omega
            rw [Nat.mul_comm]
            exact Nat.mul_le_of_le_div _ _ _ this
          have h2 : ((n.toNat * (i + 1) : Nat) : Int) ≤ (ks.length : Int) := by exact_mod_cast h1
          rw [Int.natCast_mul, hnn, Int.natCast_add, Int.mul_add] at h2
          rw [Int.zero_add]
          simpa using h2
        · have zD := (N₄ (I + 1, LCg.lst vs) (by simp)).1
          refine append_at (hsz := by show vs.toArray.size ≤ sizeLine; rw [List.size_toArray, hvl]; exact Nat.le_trans hi (Nat.le_trans hcnt12 (by decide))) zD fun h₅ hs₅ hD₅ => ?_
          rw [LCg.lst_snoc vs (.ref T')] at hD₅
          have hs₅' : ∀ b o, b ≠ I + 1 → h₄.get? b = some o → h₅.get? b = some o := fun b o hb e => hs₅.extBut b o hb e
          have ei : (0 + ((i : Nat) : Int)) = (vs.length : Int) := by rw [hvl]; omega
          rw [ei] at hus
          refine ⟨cnt + 1 - (i + 1), by omega, h₅, tk₄, i + 1, vs ++ [.ref T'], (T', tobj us.toArray) :: own, oc', _, rfl, hlt, rfl, by simp [hvl], ?_, fr_other F₄ hs₅' (hLI 1) (oth0 1), fun p hp => ?_, dc', fun p hp => ?_, Grp.snoc hg hus⟩
          · exact hs₅' _ _ (show I ≠ I + 1 by omega) (N₄ (I, rit (0 + ((i + 1 : Nat) : Int) * 1) ((cnt : Int) - ((i + 1 : Nat) : Int))) (by simp)).1
          · simp only [List.mem_cons, List.mem_append] at hp
            rcases hp with rfl | rfl | rfl | rfl | rfl | hp | rfl | hp
            · exact ⟨hD₅, hLI 1, oth0 1⟩
            · have := N₄ (I + 3, oc') (by simp)
              exact ⟨hs₅' _ _ (show I + 3 ≠ I + 1 by omega) this.1, this.2⟩
            · have := N₄ (I + 2, { cls := .type "dict", data := .dict #[] }) (by simp)
              exact ⟨hs₅' _ _ (show I + 2 ≠ I + 1 by omega) this.1, this.2⟩
            · have := N₄ (L + 2, oS) (by simp)
              exact ⟨hs₅' _ _ (Nat.ne_of_lt (Nat.lt_trans (base₁ (L + 2, oS) (by simp)) (by omega))) this.1, this.2⟩
            · have := N₄ (L + 1, oO) (by simp)
              exact ⟨hs₅' _ _ (Nat.ne_of_lt (Nat.lt_trans (base₁ (L + 1, oO) (by simp)) (by omega))) this.1, this.2⟩
            · have := N₄ p (by simp [hp])
              exact ⟨hs₅' _ _ (Nat.ne_of_lt (Nat.lt_trans (base₁ p (by simp [hp])) (by omega))) this.1, this.2⟩
            · have := N₄ (T', tobj us.toArray) (by simp)
              exact ⟨hs₅' _ _ (addr_ne this.1 zD (by simp)) this.1, this.2⟩
            · have := N₄ p (by simp [hp])
              obtain ⟨us', e2⟩ := hown p hp
              exact ⟨hs₅' _ _ (addr_ne this.1 zD (by rw [e2]; simp)) this.1, this.2⟩
          · rcases List.mem_cons.mp hp with rfl | hp
            · exact ⟨us, rfl⟩
            · exact hown p hp
      · obtain rfl : i = cnt := Nat.le_antisymm hi (Nat.not_lt.mp hlt)
        refine W.done _ _ _ hit fun h₂ tk₂ hk₂ => ?_
        have hk₂' : ∀ b o, b ≠ I → h'.get? b = some o → h₂.get? b = some o := fun b o hb e => hk₂ b o (by simpa using hb) e
        have hC := hk₂' _ _ (show I + 2 ≠ I by omega) (N' (I + 2, { cls := .type "dict", data := .dict #[] }) (by simp)).1
        refine ⟨fun _ => none, ⟨_, #[], 0, hC, rfl, by intro e he; simp at he, fun _ => rfl⟩, fun h₅ hs₅ => ?_⟩
        have hs₅' : ∀ b o, b ≠ I + 2 → h₂.get? b = some o → h₅.get? b = some o := fun b o hb e => hs₅.extBut b o hb e
        refine h (I + 1) h₅ tk₂ vs own (fr_other (fr_other F' hk₂' (hLI 0) (oth0 0)) hs₅' (hLI 2) (oth0 2)) (fun p hp => ?_) hvl hg fun p hp => Nat.lt_succ_of_lt (base₁ p hp)
        have key : ∀ q : Addr × Obj, q ∈ (I + 1, LCg.lst vs) :: (L + 2, oS) :: (L + 1, oO) :: (news ++ own) → h'.get? q.1 = some q.2 → q.1 ≠ I ∧ q.1 ≠ I + 2 := fun q hq e => by
          simp only [List.mem_cons, List.mem_append] at hq
          have small : q.1 < I → q.1 ≠ I ∧ q.1 ≠ I + 2 := fun h => ⟨Nat.ne_of_lt h, Nat.ne_of_lt (Nat.lt_trans h (by omega))⟩
          rcases hq with rfl | rfl | rfl | hq | hq
          · exact ⟨Nat.succ_ne_self I, show I + 1 ≠ I + 2 by omega⟩
          · exact small (base₁ _ (by simp))
          · exact small (base₁ _ (by simp))
          · exact small (base₁ q (by simp [hq]))
          · obtain ⟨us, e2⟩ := hown q hq
            exact ⟨addr_ne e hit (by rw [e2]; simp), addr_ne e (N' (I + 2, { cls := .type "dict", data := .dict #[] }) (by simp)).1 (by rw [e2]; simp)⟩
        have z := N' p (by simp only [List.mem_cons, List.mem_append] at hp ⊢; rcases hp with h | h | h | h | h <;> simp [h])
        have ne := key p hp z.1
        exact ⟨hs₅' _ _ ne.2 (hk₂' _ _ ne.1 z.1), z.2⟩
    · have := old4 _ _ (old3 _ _ (old2 _ _ it1))
      simpa using this
    · exact F₁.keeps old
    · intro p hp
      simp only [List.mem_cons, List.append_nil] at hp
      rcases hp with rfl | rfl | rfl | hp
      · exact ⟨old4 _ _ (old3 _ _ li2), hLI 1, oth0 1⟩
      · exact ⟨ce4, hLI 3, oth0 3⟩
      · exact ⟨old4 _ _ di3, hLI 2, oth0 2⟩
      · have := N₁ p (by simpa using hp)
        exact ⟨old _ _ this.1, this.2⟩
  exact codeAny_compStart_list (loop _ rfl) (W.self 0 _ _ _ (by have := old4 _ _ (old3 _ _ (old2 _ _ it1)); simpa using this) (loop _ rfl))
end
end

/-! ### S5 -/
section
open PySem.Calls
set_option maxRecDepth 100000
def pieceInts (n : Nat) (ks : List Int) (i : Nat) : List Int := (List.range n).map fun j => ks.getD (n * i + j) 0
def pieceDats (n : Nat) (ks : List Int) (m : Nat) : List Dat := (List.range m).map fun i => Dat.tuple ((pieceInts n ks i).map Dat.int)
theorem datAll_of {own : List (Addr × Obj)} : ∀ (acc : List Value) (f : Nat → Dat), (∀ (i : Nat) (v : Value), acc[i]? = some v → DatIn own v (f i)) → DatAll own acc ((List.range acc.length).map f)
  | [], _, _ => .nil
  | v :: r, f, h => by
    rw [List.length_cons, List.range_succ_eq_map, List.map_cons, List.map_map]
    exact .cons (h 0 v rfl) (datAll_of r (f ∘ Nat.succ) fun i u hu => h (i + 1) u hu)
theorem datAll_ints {own : List (Addr × Obj)} : ∀ {us : List Value} {l : List Int}, IntsAre us l → DatAll own us (l.map Dat.int)
  | [], [], _ => .nil
  | _ :: _, _ :: _, .cons k t r => .cons (.int k t) (datAll_ints r)
theorem pieces_dat {n m : Nat} {b : Array UInt8} {ks : List Int} {own : List (Addr × Obj)} {acc : List Value} (hb : KBw.bInts b = ks) (hm : acc.length = m)
    (h : PiecesAre n (fun i v => ∃ c u, b[i]? = some c ∧ v = .int (c.toNat : Int) u) own acc) : DatAll own acc (pieceDats n ks m) := by
  subst hm
  refine datAll_of acc _ fun i v hv => ?_
  obtain ⟨a, us, rfl, hm, hl, hp⟩ := h i v hv
  refine .tuple hm ?_
  unfold pieceInts
  rw [List.map_map, ← hl]
  refine datAll_of us _ fun j u hu => ?_
  obtain ⟨c, t, hc, rfl⟩ := hp j u hu
  have : ks[n * i + j]? = some (c.toNat : Int) := by rw [← hb]; exact KBw.ints_get hc
  show DatIn own _ (Dat.int (ks.getD (us.length * i + j) 0))
  rw [hl, List.getD_eq_getElem?_getD, this]
  exact .int _ _
theorem grp_dat {n : Nat} {ks : List Int} {m : Nat} {own : List (Addr × Obj)} {vs : List Value} (hm : vs.length = m) (h : Grp (n : Int) ks own vs) : DatAll own vs (pieceDats n ks m) := by
  subst hm
  refine datAll_of vs _ fun i v hv => ?_
  obtain ⟨T, us, rfl, hm, hi⟩ := h i v hv
  refine .tuple hm ?_
  have e : ((rangeKs 0 (n : Int).toNat).map fun j => ks.getD ((n : Int) * (i : Int) + j).toNat 0) = pieceInts n ks i := by
    unfold pieceInts rangeKs
    rw [Int.toNat_natCast, List.map_map]
    refine List.map_congr_left fun j _ => ?_
    show ks.getD ((n : Int) * (i : Int) + (0 + (j : Int))).toNat 0 = _
    congr 1
    omega
  rw [← e]
  exact datAll_ints hi
theorem dats_ok (n : Nat) (ks : List Int) (m : Nat) : ∀ d ∈ pieceDats n ks m, kqdOk 8 d = true := by
  intro d hd
  obtain ⟨i, _, rfl⟩ := List.mem_map.mp hd
  simp [kqdOk]

open Classical in
theorem ne_same {prog : Program} {w : World} {A : Around} {E : Value → Shared → Prop} {s : Shared} {h₀ : Heap} {L a b : Addr} {news n₁ n₂ : List (Addr × Obj)} {oa ob : Obj} {xs ys : List Value} {ka kb : Nat} {ds : List Dat} {Q : Value → Shared → Prop}
    (N : News h₀ L s.heap news) (ma : (a, oa) ∈ news) (ca : oa.cls = .type "list") (da : oa.data = .seq xs.toArray ka) (Da : DatAll n₁ xs ds) (sa : ∀ p ∈ n₁, p ∈ news)
    (mb : (b, ob) ∈ news) (cb : ob.cls = .type "list") (db : ob.data = .seq ys.toArray kb) (Db : DatAll n₂ ys ds) (sb : ∀ p ∈ n₂, p ∈ news)
    (ha : ∀ d ∈ ds, kqdOk 8 d = true) (hu : A.units + 64 < cLine) (h : Q (.bool false) s) : wpAny (model prog w) A (compareOp .NotEq (.ref a) (.ref b)) Q E s :=
  kqd_ne N ma ca da Da sa mb cb db Db sb ha ha hu (by rw [decide_eq_true rfl]; exact h)
def stIf5 : Stmt := lawBody.getD 4 noStmt
section
variable {w : World} {E : Value → Shared → Prop} {s : Shared} {h₀ : Heap} {mean : ExcName → Option Value} {mg mb : Str → Option Value} {L fa : Addr} {cd : Value} {m : Str → Option Value}
set_option maxHeartbeats 4000000 in
theorem st5 {Q : Flow → Shared → Prop} {ks : List Int} {nn : Nat} {t tn : Tok} {oS oO : Obj} {D : Addr} {acc : List Value} {c : Nat} {own : List (Addr × Obj)} (X₀ : (hd.heap_39 w.params).In h₀) (T : theTop mean mg mb h₀)
    (F : Fr h₀ L s.heap (fun y => if y = Str.ofString "pieces" then some (.ref D) else m y))
    (N : News h₀ L s.heap ((L + 2, oS) :: (L + 1, oO) :: ((D, lobj acc.toArray c) :: own))) (dS : oS.data = .cell (some (.int (nn : Int) tn))) (dO : oO.data = .cell (some (.bytes (byteArr ks) t)))
    (hk : KBa.In ks) (hks : ks.length ≤ 12) (hn : (1 : Int) ≤ nn) (hn4 : (nn : Int) ≤ 4) (hD : DatAll own acc (pieceDats nn ks (ks.length / nn)))
    (h : ∀ h' tk, Fr h₀ L h' (fun y => if y = Str.ofString "pieces" then some (.ref D) else m y) → News h₀ L h' ((L + 2, oS) :: (L + 1, oO) :: ((D, lobj acc.toArray c) :: own)) → Q .next { s with heap := h', toks := tk }) :
    wpAny (model theProg w) (lawA L fa cd) (exec stIf5 (lawEnv L fa cd)) Q E s := by
  have e : stIf5 = Stmt.If (Expr.Compare (Expr.Name (Str.ofString "pieces") _) [CmpOp.NotEq] [exComp] _) _ [] _ := rfl
  rw [e]
  k_steps
  refine comp_walk (by rfl) X₀ T F N dS dO hk hks hn hn4 fun D₂ h₂ tk₂ vs own₂ F₂ N₂ hl₂ hg₂ hlt₂ => ?_
  rw [Int.toNat_natCast] at hl₂
  refine ne_same N₂ (oa := lobj acc.toArray c) (ob := LCg.lst vs) (by simp) rfl rfl hD (fun p hp => by simp [hp]) (by simp) rfl rfl (grp_dat hl₂ hg₂) (fun p hp => by simp [hp]) (dats_ok _ _ _) (Nat.le_of_ble_eq_true rfl) ?_
  k_steps
  exact h _ _ F₂ fun p hp => N₂ p (by simp only [List.mem_cons, List.mem_append] at hp ⊢; rcases hp with h | h | h | h <;> simp [h])
end
end

/-! ### T1 -/
section
open PySem.Calls
open Sem (wp)
set_option maxRecDepth 100000
theorem bt_no_bytes : typeLookup (.type "tuple") "__bytes__" = pure none := by rw [typeLookup_type, builtinLookup_eq_fast]; kernel_rfl
theorem bt_no_index : typeLookup (.type "tuple") "__index__" = pure none := by rw [typeLookup_type, builtinLookup_eq_fast]; kernel_rfl
theorem bt_no_buffer : typeLookup (.type "tuple") "__buffer__" = pure none := by rw [typeLookup_type, builtinLookup_eq_fast]; kernel_rfl
theorem bt_split : splitId "tuple.__len__" = some ("tuple", "__len__") := by decide +kernel
theorem bt_sub : isSubtype (.type "tuple") (.type "tuple") = pure true := by rw [isSubtype_type]; kernel_rfl
theorem bt_slot_len : Slot "tuple" "__len__" "tuple.__len__" :=
  .of (owner := "tuple") (n := "__len__") (by rw [typeLookup_type, builtinLookup_eq_fast]; kernel_rfl) (by decide +kernel) (by decide +kernel) (by decide +kernel)
    (by first | exact .inl (by decide +kernel) | exact .inr (by decide +kernel)) (by rw [isSubtype_type]; kernel_rfl)
section
variable {prog : Program} {w : World} {A : Around} {E : Value → Shared → Prop} {s : Shared}
/-- the octets of a tuple of ints, laid one by one behind S -/
theorem bt_loop {R : Result → Shared → Prop} {t I S : Addr} {vs : List Value} {ns : List Int} (hh : A.handled = none) (hi : IntsAre vs ns) (hr : ∀ n ∈ ns, 0 ≤ n ∧ n < 256) (hz : ns.length ≤ sizeLine) (hIS : I ≠ S) (htI : t ≠ I) (htS : t ≠ S) :
    ∀ (k i : Nat) (s : Shared), ns.length - i = k → i ≤ ns.length → s.heap.IsTuple t vs.toArray → s.heap.IsTupleIter I t i → s.heap.get? S = some { cls := .type "bytearray", data := .bytearray (byteArr (ns.take i)) } →
      (∀ h' u k', (∀ b o, b ≠ I → b ≠ S → s.heap.get? b = some o → h'.get? b = some o) → R (.ok (.ret (.bytes (byteArr ns) u))) { s with heap := h', toks := k' }) →
      codeAny (model prog w) A (.builtin "bytes.__new__.loop" ⟨[.type "bytes", .ref I, .ref S], []⟩) R s := by
  have hlen : vs.length = ns.length := hi.length
  intro k
  induction k with
  | zero =>
    intro i s hk hle hl hit hS hR
    obtain rfl : i = ns.length := by omega
    refine codeAny_builtin F.bm_entry_loop ?_
    rw [Around.under_plainId F.bm_plain_loop _]
    show wpAny _ A.in1 (pyNext (.ref I) >>= _) _ _ s
    refine wpAny_bind (wpAny_pyNext_tuple_end hh hit hl (by simp [hlen]) fun h' he => ?_)
    have hS' := he S _ (Ne.symm hIS) hS
    rw [List.take_length] at hS'
    refine wpAny_bind ?_
    unfold Builtin.Bytes.payload Builtin.Bytes.payload?
    refine wpAny_bind (wpAny_bind (wpAny_load hS' (wpAny_pure (wpAny_pure ?_))))
    refine wpAny_bind (wpAny_mkBytes ?_ (by rw [byteArr_size]; exact hz))
    refine bm_if_true (by decide) ?_
    have fin := fun u k' => hR h' u k' fun b o hb _ e => he b o hb e
    first
      | exact wpAny_pure (fin _ _)
      | exact wpAny_bind (wpAny_pure (wpAny_pure (fin _ _)))
  | succ k ih =>
    intro i s hk hle hl hit hS hR
    have hlt : i < ns.length := by omega
    have hx : vs[i]? = some (vs[i]'(by omega)) := List.getElem?_eq_getElem (by omega)
    obtain ⟨n, u, he, hn⟩ := IntsAre.at hi i _ hx
    rw [he] at hx
    have hb := hr n (List.mem_of_getElem? hn)
    refine codeAny_builtin F.bm_entry_loop ?_
    rw [Around.under_plainId F.bm_plain_loop _]
    show wpAny _ A.in1 (pyNext (.ref I) >>= _) _ _ s
    refine wpAny_bind (wpAny_pyNext_tuple_item (x := .int n u) hit hl (by simpa using hx) fun h' hit' hs => ?_)
    have hS' := hs.extBut S _ (Ne.symm hIS) hS
    refine wpAny_bind (wpAny_holding (wpAny_of_eq (rfl : asIndex (.int n u) = pure n) (wpAny_bind (wpAny_letGo ?_))))
    refine bm_if_false (by simp only [Bool.or_eq_false_iff, decide_eq_false_iff_not]; omega) ?_
    refine wpAny_bind ?_
    show wpAny _ _ (updateBytearray S (·.push n.toNat.toUInt8)) _ _ _
    unfold updateBytearray
    refine wpAny_bind (wpAny_load hS' ?_)
    show wpAny _ _ (update S (Obj.mapBytearray (·.push n.toNat.toUInt8)) >>= fun _ => lookBehind S) _ _ _
    refine wpAny_bind (wpAny_update hS' ?_)
    have hS₂ : (h'.update S (Obj.mapBytearray (·.push n.toNat.toUInt8))).get? S = some { cls := .type "bytearray", data := .bytearray (byteArr (ns.take (i + 1))) } := by
      rw [byteArr_take hn]
      exact Heap.get?_update_self (Obj.mapBytearray (·.push n.toNat.toUInt8)) hS' rfl
    have up : ∀ b o, b ≠ I → b ≠ S → s.heap.get? b = some o → (h'.update S (Obj.mapBytearray (·.push n.toNat.toUInt8))).get? b = some o := fun b o hbI hbS e => (Heap.get?_update_other _ _ (Ne.symm hbS)).trans (hs.extBut b o hbI e)
    refine wpAny_lookBehind hS₂ ?_ ?_
    · show (if (byteArr (ns.take (i + 1))).size > sizeLine then some "bytearray:memory" else none) = none
      rw [if_neg (by rw [byteArr_size, List.length_take]; omega)]
    · refine wpAny_pure ⟨plainId_quiet F.bm_plain_loop _, ih (i + 1) { s with heap := h'.update S (Obj.mapBytearray (·.push n.toNat.toUInt8)) } (by omega) hlt ?_ ?_ hS₂ fun h3 u' k' hk3 => ?_⟩
      · exact (hl.extBut hs.extBut htI).extBut (Heap.SameBut.update ..).extBut htS
      · exact hit'.extBut (Heap.SameBut.update ..).extBut hIS
      · exact hR h3 u' k' fun b o hbI hbS e => hk3 b o hbI hbS (up b o hbI hbS e)

theorem bt_new {t : Addr} {vs : List Value} {ns : List Int} {Q : Value → Shared → Prop} (hh : A.handled = none) (hl : s.heap.IsTuple t vs.toArray) (hi : IntsAre vs ns) (hr : ∀ n ∈ ns, 0 ≤ n ∧ n < 256) (hz : ns.length ≤ sizeLine)
    (hQ : ∀ h' u k, (∀ b o, s.heap.get? b = some o → h'.get? b = some o) → Q (.bytes (byteArr ns) u) { s with heap := h', toks := k }) :
    codeAny (model prog w) A (.call (.builtin "bytes.__new__") ⟨[.type "bytes", .ref t], []⟩) (wants Q E) s := by
  refine codeAny_of_tree ?_
  show wpAny _ A.in1 (do checkBuiltinCall "bytes.__new__" ⟨[.type "bytes", .ref t], []⟩; again (.builtin "bytes.__new__" ⟨[.type "bytes", .ref t], []⟩)) _ _ s
  refine wpAny_bind (wpAny_of_eq (F.bm_newCall _) (wpAny_pure ⟨plainId_quiet F.bm_plain _, codeAny_builtin F.bm_entry ?_⟩))
  rw [Around.under_plainId F.bm_plain _]
  have hT : s.TypeIs (.ref t) "tuple" := hl.typeIs
  obtain ⟨ol, hol, hoc, nl, hod⟩ := id hl
  unfold Builtin.«bytes.__new__»
  refine wpAny_bind (wpAny_of_eq (a := true) rfl ?_)
  refine bm_if_false rfl ?_
  refine wpAny_bind (wpAny_of_eq F.bm_sub ?_)
  refine bm_if_false rfl ?_
  refine wpAny_bind (wpAny_of_eq (F.bm_bind _) ?_)
  refine wpAny_bind (wpAny_of_eq (a := ()) rfl ?_)
  refine wpAny_bind (wpAny_of_eq (a := ()) rfl ?_)
  refine bm_if_false rfl ?_
  refine wpAny_bind (wpAny_specialOf hT bt_no_bytes ?_)
  refine wpAny_bind (wpAny_bind ?_)
  show wpAny _ _ (load t >>= _) _ _ _
  refine wpAny_bind (wpAny_load hol ?_)
  rw [hod]
  refine wpAny_pure (wpAny_pure ?_)
  refine bm_if_false rfl ?_
  refine wpAny_bind (wpAny_specialOf hT bt_no_index ?_)
  refine bm_if_true rfl ?_
  first
    | show wpAny _ _ (Builtin.Bytes.buffer? "bytes.__new__" (.ref t) true >>= _) _ _ _
    | (refine wpAny_bind ?_; show wpAny _ _ (Builtin.Bytes.buffer? "bytes.__new__" (.ref t) true >>= _) _ _ _)
  refine wpAny_bind ?_
  unfold Builtin.Bytes.buffer?
  refine wpAny_bind (wpAny_specialOf hT bt_no_buffer ?_)
  refine wpAny_bind (wpAny_specialOf hT bt_no_buffer ?_)
  refine wpAny_pure ?_
  refine wpAny_bind (wpAny_tryCatch (wpAny_pyIter_tuple hl ?_))
  have hl₁ := hl.push { cls := .type "tuple_iterator", data := .fields #[.ref t, .int 0 0] }
  have hT₁ : ({ s with heap := s.heap.push { cls := .type "tuple_iterator", data := .fields #[.ref t, .int 0 0] } } : Shared).TypeIs (.ref t) "tuple" := Heap.IsTuple.typeIs (s := { s with heap := s.heap.push { cls := .type "tuple_iterator", data := .fields #[.ref t, .int 0 0] } }) hl₁
  refine wpAny_bind (wpAny_holding ?_)
  unfold Builtin.Bytes.lengthHint
  refine wpAny_bind (wpAny_specialOf hT₁ bt_slot_len.lookup ?_)
  dsimp only
  rw [bt_split]
  dsimp only
  refine wpAny_bind (wpAny_isInstance hT₁ bt_sub ?_)
  refine bm_if_false rfl ?_
  refine bm_if_true (by decide +kernel) ?_
  refine wpAny_pure ?_
  refine wpAny_bind ?_
  unfold Builtin.Bytes.newBytearray
  refine wpAny_newObj_type ?_ (Nat.zero_le _)
  have hlt : t < s.heap.objs.size := Heap.lt_size hol
  have hsz : (s.heap.push { cls := .type "tuple_iterator", data := .fields #[.ref t, .int 0 0] }).objs.size = s.heap.objs.size + 1 := Heap.size_push _ _
  have hI : ((s.heap.push { cls := .type "tuple_iterator", data := .fields #[.ref t, .int 0 0] }).push { cls := .type "bytearray", data := .bytearray #[] }).IsTupleIter s.heap.objs.size t 0 :=
    ⟨_, Heap.get?_push_of_some _ (Heap.get?_push_size _ rfl), rfl, rfl⟩
  have main := bt_loop (prog := prog) (w := w) (A := A) (R := wants Q E) (t := t) (I := s.heap.objs.size) (S := (s.heap.push { cls := .type "tuple_iterator", data := .fields #[.ref t, .int 0 0] }).objs.size) hh hi hr hz
    (by rw [hsz]; exact Nat.ne_of_lt (Nat.lt_succ_self _)) (Nat.ne_of_lt hlt) (by rw [hsz]; exact Nat.ne_of_lt (Nat.lt_succ_of_lt hlt))
    ns.length 0 { s with heap := (s.heap.push { cls := .type "tuple_iterator", data := .fields #[.ref t, .int 0 0] }).push { cls := .type "bytearray", data := .bytearray #[] } } rfl (Nat.zero_le _) (hl₁.push _) hI (Heap.get?_push_size _ rfl)
    fun h' u k hk => hQ h' u k fun b o e => hk b o (Nat.ne_of_lt (Heap.lt_size e)) (by rw [hsz]; exact Nat.ne_of_lt (Nat.lt_succ_of_lt (Heap.lt_size e))) (Heap.get?_push_of_some _ (Heap.get?_push_of_some _ e))
  first
    | exact wpAny_pure ⟨plainId_quiet F.bm_plain_loop _, main⟩
    | exact wpAny_pure (wpAny_pure ⟨plainId_quiet F.bm_plain_loop _, main⟩)

theorem call_bytes_tuple {t : Addr} {vs : List Value} {ns : List Int} {Q : Value → Shared → Prop} (hl : s.heap.IsTuple t vs.toArray) (hi : IntsAre vs ns) (hr : ∀ n ∈ ns, 0 ≤ n ∧ n < 256) (hz : ns.length ≤ sizeLine) (hh : A.handled = none)
    (hQ : ∀ h' u k, (∀ b o, s.heap.get? b = some o → h'.get? b = some o) → Q (.bytes (byteArr ns) u) { s with heap := h', toks := k }) : wpAny (model prog w) A (call (.type "bytes") [.ref t]) Q E s := by
  refine callType_codes (Q₁ := fun obj s₁ => s₁.TypeIs obj "bytes" ∧ Q obj s₁) F.bm_called (F.bm_typeCall _) F.entry_object_init
    (bt_new hh hl hi hr hz fun h' u k hk => ⟨PySem.W.typeIs_bytes _ _ _, hQ h' u k hk⟩) fun obj s₁ h₁ => ?_
  exact ⟨h₁.1, F.args_object_init_2 obj _, object_init_meets F.bm_called.init.lookup F.bm_called.made (by decide) prog w A.in1 _ s₁ ⟨h₁.1, rfl, h₁.2⟩⟩
end
end

/-! ### S7 -/
section
open PySem.Calls
set_option maxRecDepth 100000
def stFor7 : Stmt := lawBody.getD 6 noStmt
def st7 : Stmt := (forBody stFor7).getD 0 noStmt
theorem map_swap {x z : Str} {a b c : Option Value} {m : Str → Option Value} (hne : x ≠ z) :
    (fun y => if y = x then a else if y = z then b else if y = x then c else m y) = fun y => if y = z then b else if y = x then a else m y := by
  funext y
  by_cases h : y = x
  · subst h
    rw [if_pos rfl, if_neg hne, if_pos rfl]
  · rw [if_neg h, if_neg h, if_neg h]
theorem map_over {x : Str} {a b : Option Value} {k : Str → Option Value} : (fun y => if y = x then a else if y = x then b else k y) = fun y => if y = x then a else k y := by
  funext y
  by_cases h : y = x
  · rw [if_pos h, if_pos h]
  · rw [if_neg h, if_neg h, if_neg h]
theorem map_add {x : Str} {k : Str → Option Value} : (fun y => if y = x then k x else k y) = k := by
  funext y
  by_cases h : y = x
  · rw [if_pos h, h]
  · rw [if_neg h]
theorem mul_ok {v : Int} {k : Nat} (h1 : 1 ≤ k) (h : k ≤ 4) : IntMulOk v (256 ^ k) := by
  have : k = 1 ∨ k = 2 ∨ k = 3 ∨ k = 4 := by omega
  refine IntMulOk.of_right ?_
  rcases this with rfl | rfl | rfl | rfl <;> decide
section
variable {w : World} {E : Value → Shared → Prop} {s : Shared} {h₀ : Heap} {mean : ExcName → Option Value} {mg mb : Str → Option Value} {L fa : Addr} {cd : Value} {m : Str → Option Value}
local macro_rules | `(tactic| walk_at "call ref") => `(tactic| (k_here; k_dflt (refine' nunpack_call1 ?n1 ?n2 ?n3 ?n4 ?n5 ?n6 ?_; (case n1 => assumption); (case n2 => assumption); (case n3 => assumption); (case n4 => k_asm); (case n5 => k_asm); (case n6 => assumption); k_whole); intro h' tk' tv' F' N'; (try k_sweep)))
set_option maxHeartbeats 4000000 in
theorem turn7 {Q : Flow → Shared → Prop} {nn : Nat} {tn tv : Tok} {v : Int} {oS oO : Obj} {a : Addr} {us : List Value} {l : List Int} {rest : List (Addr × Obj)} (K0 : Below callerA h₀ [] h₀) (X₀ : (hd.heap_39 w.params).In h₀) (T : theTop mean mg mb h₀)
    (F : Fr h₀ L s.heap (fun y => if y = Str.ofString "piece" then some (.ref a) else if y = Str.ofString "number" then some (.int v tv) else m y))
    (N : News h₀ L s.heap ((L + 2, oS) :: (L + 1, oO) :: (a, tobj us.toArray) :: rest)) (dS : oS.data = .cell (some (.int (nn : Int) tn)))
    (hn : (1 : Int) ≤ nn) (hn4 : (nn : Int) ≤ 4) (hu : IntsAre us l) (hl : KBa.In l) (hl12 : l.length ≤ 12)
    (h : ∀ h' tk t', Fr h₀ L h' (fun y => if y = Str.ofString "piece" then some (.ref a) else if y = Str.ofString "number" then some (.int (v * 256 ^ nn + KFB.value l) t') else m y) → News h₀ L h' ((L + 2, oS) :: (L + 1, oO) :: (a, tobj us.toArray) :: rest) → Q .next { s with heap := h', toks := tk }) :
    wpAny (model theProg w) (lawA L fa cd) (exec st7 (lawEnv L fa cd)) Q E s := by
  have e : st7 = Stmt.Assign [Expr.Name (Str.ofString "number") _] (Expr.BinOp (Expr.BinOp _ _ _ _) _ (Expr.Call _ _ _ _) _) _ := rfl
  rw [e]
  k_steps
  refine PyProof.Rows.mul_int ?_ (hm := mul_ok (by omega) (by omega))
  k_steps
  have za := (N (a, tobj us.toArray) (by simp)).1
  refine call_bytes_tuple (s := { s with toks := _ }) ⟨_, za, rfl, _, rfl⟩ hu hl (Nat.le_trans hl12 (by decide)) (by rfl) fun h₂ u₂ tk₂ hk₂ => ?_
  have F₂ := F.keeps hk₂
  have N₂ := N.grown hk₂
  have hsz : (byteArr l).size ≤ 1000 := by rw [byteArr_size]; omega
  clear F N
  k_steps
  rename Fr h₀ L _ (fun y => if y = Str.ofString "number" then _ else _) => F5
  rw [Int.toNat_natCast, KBa.ints_make hl, map_swap (by decide)] at F5
  exact h _ _ _ F5 (by assumption)

/-- the value of a row by its pieces -/
def foldPieces (nn : Nat) (ls : List (List Int)) : Int := ls.foldl (fun v l => v * 256 ^ nn + KFB.value l) 0

def TupsAre (own : List (Addr × Obj)) (vs : List Value) (ls : List (List Int)) : Prop :=
  vs.length = ls.length ∧ ∀ (i : Nat) (v : Value), vs[i]? = some v → ∃ (a : Addr) (us : List Value) (l : List Int), v = .ref a ∧ (a, tobj us.toArray) ∈ own ∧ ls[i]? = some l ∧ IntsAre us l

theorem for7 {Q : Flow → Shared → Prop} {nn : Nat} {tn tv : Tok} {oS oO : Obj} {D : Addr} {acc : List Value} {c : Nat} {own : List (Addr × Obj)} {ls : List (List Int)} (K0 : Below callerA h₀ [] h₀) (X₀ : (hd.heap_39 w.params).In h₀) (T : theTop mean mg mb h₀)
    (F : Fr h₀ L s.heap (fun y => if y = Str.ofString "number" then some (.int 0 tv) else m y)) (hmp : m (Str.ofString "pieces") = some (.ref D))
    (N : News h₀ L s.heap ((L + 2, oS) :: (L + 1, oO) :: (D, lobj acc.toArray c) :: own)) (dS : oS.data = .cell (some (.int (nn : Int) tn)))
    (hn : (1 : Int) ≤ nn) (hn4 : (nn : Int) ≤ 4) (hT : TupsAre own acc ls) (hl : ∀ l ∈ ls, KBa.In l ∧ l.length ≤ 12)
    (h : ∀ h' tk t' pv, Fr h₀ L h' (fun y => if y = Str.ofString "piece" then pv else if y = Str.ofString "number" then some (.int (foldPieces nn ls) t') else m y) → News h₀ L h' ((L + 2, oS) :: (L + 1, oO) :: (D, lobj acc.toArray c) :: own) → Q .next { s with heap := h', toks := tk }) :
    wpAny (model theProg w) (lawA L fa cd) (exec stFor7 (lawEnv L fa cd)) Q E s := by
  have e : stFor7 = Stmt.For (Expr.Name (Str.ofString "piece") _) (Expr.Name (Str.ofString "pieces") _) [st7] [] _ := rfl
  rw [e]
  refine wpAny_For (nameX_L F (by show (if Str.ofString "pieces" = Str.ofString "number" then _ else m (Str.ofString "pieces")) = _; rw [if_neg (by decide)]; exact hmp) ?_)
  have hD : s.heap.IsList D acc.toArray := ⟨_, (N (D, lobj acc.toArray c) (by simp)).1, rfl, _, rfl⟩
  refine wpAny_pyIter_list hD ?_
  have base₁ : ∀ p ∈ (L + 2, oS) :: (L + 1, oO) :: (D, lobj acc.toArray c) :: own, p.1 < s.heap.objs.size := fun p hp => Heap.lt_size (N p hp).1
  have hLlt : L < s.heap.objs.size := F.ns.lt
  have hI0 : h₀.get? s.heap.objs.size = none := by
    cases e : h₀.get? s.heap.objs.size with
    | none => rfl
    | some o => exact absurd (Heap.lt_size (F.keep _ _ e)) (Nat.lt_irrefl _)
  have hIL : s.heap.objs.size ≠ L := Nat.ne_of_gt hLlt
  refine codeAny_forLoop_any
    (fun kk s' => ∃ h' tk i v t pv oI, s' = { s with heap := h', toks := tk } ∧ i ≤ ls.length ∧ kk = ls.length + 1 - i ∧ v = foldPieces nn (ls.take i) ∧
      Fr h₀ L h' (fun y => if y = Str.ofString "piece" then pv else if y = Str.ofString "number" then some (.int v t) else m y) ∧
      News h₀ L h' ((s.heap.objs.size, oI) :: (L + 2, oS) :: (L + 1, oO) :: (D, lobj acc.toArray c) :: own) ∧ oI.cls = .type "list_iterator" ∧ oI.data = .fields #[.ref D, .int i 0]) ?_ (ls.length + 1)
    ⟨_, s.toks, 0, 0, tv, (if Str.ofString "piece" = Str.ofString "number" then some (.int 0 tv) else m (Str.ofString "piece")), { cls := .type "list_iterator", data := .fields #[.ref D, .int 0 0] }, rfl, Nat.zero_le _, rfl, rfl, ?_, ?_, rfl, rfl⟩
  · rintro kk s' ⟨h', tk, i, v, t, pv, oI, rfl, hi, rfl, hv, F', N', cI, dI⟩
    have hit : h'.IsListIter s.heap.objs.size D i := ⟨oI, (N' (s.heap.objs.size, oI) (by simp)).1, cI, dI⟩
    have hD' : h'.IsList D acc.toArray := ⟨_, (N' (D, lobj acc.toArray c) (by simp)).1, rfl, _, rfl⟩
    by_cases hlt : i < ls.length
    · have hx : acc[i]? = some (acc[i]'(by rw [hT.1]; exact hlt)) := List.getElem?_eq_getElem _
      obtain ⟨a, us, l, ha, hm, hl', hu⟩ := hT.2 i _ hx
      rw [ha] at hx
      refine wpAny_pyNext_list_item hit hD' (by simpa using hx) fun h₁ hit₁ hs₁ => ?_
      refine wpAny_of_eq (rfl : letOwnedTupleGo (.Name _ _) (.ref _) _ = pure ()) ?_
      obtain ⟨oI', eI', cI', dI'⟩ := hit₁
      have F₁ : Fr h₀ L h₁ _ := F'.change hs₁ hIL hI0
      have N₁ : News h₀ L h₁ ((L + 2, oS) :: (L + 1, oO) :: (a, tobj us.toArray) :: ((s.heap.objs.size, oI') :: (D, lobj acc.toArray c) :: own)) := fun p hp => by
        have other : p ∈ (L + 2, oS) :: (L + 1, oO) :: (D, lobj acc.toArray c) :: own → h₁.get? p.1 = some p.2 ∧ p.1 ≠ L ∧ h₀.get? p.1 = none := fun hp => by
          have z := N' p (List.mem_cons_of_mem _ hp)
          exact ⟨hs₁.extBut _ _ (Nat.ne_of_lt (base₁ p hp)) z.1, z.2⟩
        simp only [List.mem_cons] at hp
        rcases hp with rfl | rfl | rfl | rfl | rfl | hp
        · exact other (by simp)
        · exact other (by simp)
        · exact other (by simp [hm])
        · exact ⟨eI', hIL, hI0⟩
        · exact other (by simp)
        · exact other (by simp [hp])
      refine wpAny_assign_Name (storeX_L F₁ N₁ fun h₂ F₂ N₂ => ?_)
      rw [map_over] at F₂
      have hli := hl l (List.mem_of_getElem? hl')
      refine wpAny_execs_cons (turn7 K0 X₀ T F₂ N₂ dS hn hn4 hu hli.1 hli.2 fun h₃ tk₃ t₃ F₃ N₃ => ?_)
      refine wpAny_execs_nil ?_
      refine ⟨ls.length + 1 - (i + 1), by omega, h₃, tk₃, i + 1, _, t₃, _, oI', rfl, hlt, rfl, ?_, F₃, fun p hp => ?_, cI', dI'⟩
      · rw [List.take_add_one, hl', hv]
        unfold foldPieces
        rw [List.foldl_append]
        rfl
      · refine N₃ p ?_
        simp only [List.mem_cons] at hp ⊢
        rcases hp with h | h | h | h | h <;> simp [h]
    · obtain rfl : i = ls.length := Nat.le_antisymm hi (Nat.not_lt.mp hlt)
      refine wpAny_pyNext_list_end (by rfl) hit hD' (by simp [hT.1]) fun h₁ he₁ => ?_
      refine wpAny_execs_nil ?_
      rw [List.take_length] at hv
      subst hv
      refine h h₁ tk t pv ⟨F'.ns.extBut he₁ (Ne.symm hIL), fun b o e => he₁ b o (fun h => by rw [h, hI0] at e; cases e) (F'.keep b o e), F'.above⟩ fun p hp => ?_
      have z := N' p (List.mem_cons_of_mem _ hp)
      exact ⟨he₁ _ _ (Nat.ne_of_lt (base₁ p hp)) z.1, z.2⟩
  · have := F.push { cls := .type "list_iterator", data := .fields #[.ref D, .int 0 0] }
    rw [← map_add (x := Str.ofString "piece") (k := fun y => if y = Str.ofString "number" then some (.int 0 tv) else m y)] at this
    exact this
  · intro p hp
    rcases List.mem_cons.mp hp with rfl | hp
    · exact ⟨Heap.get?_push_size _ rfl, hIL, hI0⟩
    · exact ⟨Heap.get?_push_of_some _ (N p hp).1, (N p hp).2⟩
end
end

/-! ### S8 -/
section
open PySem.Calls
set_option maxRecDepth 100000
def st8 : Stmt := lawBody.getD 7 noStmt
def st9 : Stmt := lawBody.getD 8 noStmt
def st10 : Stmt := lawBody.getD 9 noStmt
theorem bytes_some {wb : Array UInt8} (h : (wb.toList != (#[] : Array UInt8).toList) = true) : ¬ wb.size = 0 := fun e => by
  have : wb = #[] := Array.eq_empty_of_size_eq_zero e
  subst this
  simp at h
theorem bytes_none {wb : Array UInt8} (h : (wb.toList != (#[] : Array UInt8).toList) = false) : wb.size = 0 := by
  have : wb.toList = [] := by simpa using h
  rw [← Array.length_toList, this]; rfl
section
variable {w : World} {E : Value → Shared → Prop} {s : Shared} {h₀ : Heap} {mean : ExcName → Option Value} {mg mb : Str → Option Value} {L fa : Addr} {cd : Value} {m : Str → Option Value}
set_option maxHeartbeats 4000000 in
theorem do8 {Q : Flow → Shared → Prop} {nn : Nat} {tn t tv : Tok} {v : Int} {ks : List Int} {oS oO : Obj} {D : Addr} {acc : List Value} {c : Nat} {own : List (Addr × Obj)} {pv : Option Value} (X₀ : (hd.heap_39 w.params).In h₀) (T : theTop mean mg mb h₀)
    (F : Fr h₀ L s.heap (fun y => if y = Str.ofString "piece" then pv else if y = Str.ofString "number" then some (.int v tv) else if y = Str.ofString "pieces" then some (.ref D) else m y))
    (N : News h₀ L s.heap ((L + 2, oS) :: (L + 1, oO) :: (D, lobj acc.toArray c) :: own)) (dS : oS.data = .cell (some (.int (nn : Int) tn))) (dO : oO.data = .cell (some (.bytes (byteArr ks) t)))
    (hn : (1 : Int) ≤ nn) (hn4 : (nn : Int) ≤ 4) (hk : KBa.In ks) (hks : ks.length ≤ 12) (hac : acc.length = ks.length / nn) (hac12 : acc.length ≤ 12)
    (h : ∀ h' tk wb tw, KBw.bInts wb = ks.take (nn * acc.length) → Fr h₀ L h' (fun y => if y = Str.ofString "whole" then some (.bytes wb tw) else if y = Str.ofString "piece" then pv else if y = Str.ofString "number" then some (.int v tv) else if y = Str.ofString "pieces" then some (.ref D) else m y) →
      News h₀ L h' ((L + 2, oS) :: (L + 1, oO) :: (D, lobj acc.toArray c) :: own) → Q .next { s with heap := h', toks := tk }) :
    wpAny (model theProg w) (lawA L fa cd) (exec st8 (lawEnv L fa cd)) Q E s := by
  have e : st8 = Stmt.Assign [Expr.Name (Str.ofString "whole") _] (Expr.Subscript _ (Expr.Slice _ _ _ _) _) _ := rfl
  rw [e]
  k_steps
  refine len_list ⟨_, (N (D, lobj acc.toArray c) (by simp)).1, rfl, _, rfl⟩ (by rw [List.size_toArray]; omega) ?_
  rw [List.size_toArray]
  k_steps
  rename KBw.bInts _ = _ => hb
  have e2 : ((nn : Int) * (acc.length : Int)) = ((nn * acc.length : Nat) : Int) := by rw [Int.natCast_mul]
  rw [e2, clipAt_nat, ← List.take_eq_take_min] at hb
  exact h _ _ _ _ hb (by assumption) (by assumption)

local macro_rules | `(tactic| walk_at "call ref") => `(tactic| (k_here; k_dflt (first
  | (refine' nunpack_call1 ?n1 ?n2 ?n3 ?n4 ?n5 ?n6 ?_; (case n1 => assumption); (case n2 => assumption); (case n3 => assumption); (case n4 => k_asm); (case n5 => k_asm); (case n6 => first | assumption | decide); k_whole; intro h' tk' tv' F' N')
  | (refine' nunpack_call ?n1 ?n2 ?n3 ?n4 ?n5 ?n6 ?_; (case n1 => assumption); (case n2 => assumption); (case n3 => assumption); (case n4 => k_asm); (case n5 => k_asm); (case n6 => first | assumption | decide); k_whole; intro h' tk' tv' F' N')); (try k_sweep)))
set_option maxHeartbeats 4000000 in
theorem do9 {Q : Flow → Shared → Prop} {tw tv : Tok} {v : Int} {wb : Array UInt8} {news : List (Addr × Obj)} (K0 : Below callerA h₀ [] h₀) (X₀ : (hd.heap_39 w.params).In h₀) (T : theTop mean mg mb h₀)
    (F : Fr h₀ L s.heap (fun y => if y = Str.ofString "whole" then some (.bytes wb tw) else if y = Str.ofString "number" then some (.int v tv) else m y))
    (N : News h₀ L s.heap news) (hw : wb.size ≤ 1000) (hv : v = KFB.value (KBw.bInts wb))
    (h : ∀ h' tk, Fr h₀ L h' (fun y => if y = Str.ofString "whole" then some (.bytes wb tw) else if y = Str.ofString "number" then some (.int v tv) else m y) → News h₀ L h' news → Q .next { s with heap := h', toks := tk }) :
    wpAny (model theProg w) (lawA L fa cd) (exec st9 (lawEnv L fa cd)) Q E s := by
  have e : st9 = Stmt.If _ _ [] _ := rfl
  rw [e]
  k_steps
  · exfalso
    rename (_ != _) = true => ha
    rename _ ≠ v => hne
    rw [if_neg (bytes_some ha)] at hne
    exact hne hv.symm
  · exact h _ _ (by assumption) (by assumption)
  · exfalso
    rename (_ != _) = false => ha
    rename _ ≠ (77 : Int) => hne
    rw [if_pos (bytes_none ha)] at hne
    exact hne rfl
  · exact h _ _ (by assumption) (by assumption)

end
end

/-! ### S10 -/
section
open PySem.Calls
set_option maxRecDepth 100000
theorem value_zeros (k : Nat) : KFB.value (List.replicate k 0) = 0 := by
  unfold KFB.value
  induction k with
  | zero => rfl
  | succ k ih => rw [List.replicate_succ, List.foldl_cons]; exact ih
theorem value_append (l r : List Int) : KFB.value (l ++ r) = r.foldl (fun a k => a * 256 + k) (KFB.value l) := by
  unfold KFB.value
  rw [List.foldl_append]
theorem value_tail {size : Nat} (k : Nat) (ks : List Int) (hs : size = ks.length) :
    KFB.value (List.replicate k 0 ++ ks ++ List.map (fun c : UInt8 => ((c.toNat : Nat) : Int)) [1]) = (if size = 0 then 0 else KFB.value ks) * 256 + 1 := by
  have e : (if size = 0 then 0 else KFB.value ks) = KFB.value ks := by
    split
    · rename_i h
      have : ks = [] := List.eq_nil_of_length_eq_zero (by omega)
      rw [this]; rfl
    · rfl
  rw [e, value_append, value_append, value_zeros]
  rfl
section
variable {w : World} {E : Value → Shared → Prop} {s : Shared} {h₀ : Heap} {mean : ExcName → Option Value} {mg mb : Str → Option Value} {L fa : Addr} {cd : Value} {m : Str → Option Value}
local macro_rules | `(tactic| walk_at "call ref") => `(tactic| (k_here; k_dflt (first
  | (refine' nunpack_call1 ?n1 ?n2 ?n3 ?n4 ?n5 ?n6 ?_; (case n1 => assumption); (case n2 => assumption); (case n3 => assumption); (case n4 => k_asm); (case n5 => k_asm); (case n6 => first | assumption | decide); k_whole; intro h' tk' tv' F' N')
  | (refine' nunpack_call ?n1 ?n2 ?n3 ?n4 ?n5 ?n6 ?_; (case n1 => assumption); (case n2 => assumption); (case n3 => assumption); (case n4 => k_asm); (case n5 => k_asm); (case n6 => first | assumption | decide); k_whole; intro h' tk' tv' F' N')); (try k_sweep)))
set_option maxHeartbeats 4000000 in
theorem do10 {Q : Flow → Shared → Prop} {t ta : Tok} {a : Int} {ks : List Int} {oO : Obj} {news : List (Addr × Obj)} (K0 : Below callerA h₀ [] h₀) (X₀ : (hd.heap_39 w.params).In h₀) (T : theTop mean mg mb h₀)
    (F : Fr h₀ L s.heap (fun y => if y = Str.ofString "a" then some (.int a ta) else m y))
    (N : News h₀ L s.heap ((L + 1, oO) :: news)) (dO : oO.data = .cell (some (.bytes (byteArr ks) t))) (hk : KBa.In ks) (hks : ks.length ≤ 12)
    (h : ∀ h' tk, Fr h₀ L h' (fun y => if y = Str.ofString "a" then some (.int a ta) else m y) → News h₀ L h' ((L + 1, oO) :: news) → Q .next { s with heap := h', toks := tk }) :
    wpAny (model theProg w) (lawA L fa cd) (exec st10 (lawEnv L fa cd)) Q E s := by
  have e : st10 = Stmt.If _ _ [] _ := rfl
  rw [e]
  k_steps
  have z0 : 0 ≤ ((if a < 0 then -a else a).fmod 3) := Int.fmod_nonneg_of_pos _ (by decide)
  have z3 : ((if a < 0 then -a else a).fmod 3) < 3 := Int.fmod_lt_of_pos _ (by decide)
  generalize ((if a < 0 then -a else a).fmod 3) = z at z0 z3 ⊢
  refine bytes_mul_any (b := [0]) (by simp) (by omega) (by omega) (by decide) fun t₂ tk₂ => ?_
  have hz : KBw.bInts (((List.replicate z.toNat [(0 : UInt8)]).flatten).toArray) = List.replicate z.toNat 0 := by
    rw [KBw.ints_list]
    generalize z.toNat = k
    induction k with
    | zero => rfl
    | succ k ih => rw [List.replicate_succ, List.flatten_cons, List.map_append, ih, List.replicate_succ]; rfl
  generalize ((List.replicate z.toNat [(0 : UInt8)]).flatten).toArray = zb at hz ⊢
  walk1
  refine KBa.add_K hz (KBa.ints_make hk) (by rw [List.length_replicate]; omega) fun t₃ tk₃ hz₃ => ?_
  generalize zb ++ byteArr ks = zc at hz₃ ⊢
  walk1
  refine KBa.add_K hz₃ (KBw.ints_list [1]) (by simp only [List.length_append, List.length_replicate, List.length_map, List.length_cons, List.length_nil]; omega) fun t₄ tk₄ hz₄ => ?_
  generalize zc ++ _ = zd at hz₄ ⊢
  have hzd : zd.size ≤ 1000 := by
    rw [← KBw.ints_length, hz₄]
    simp only [List.length_append, List.length_replicate, List.length_map, List.length_cons, List.length_nil]
    omega
  have hks1 : (byteArr ks).size ≤ 1000 := by rw [byteArr_size]; omega
  k_steps
  · exfalso
    rename KFB.value _ ≠ _ => hne
    refine hne ?_
    rw [hz₄, KBa.ints_make hk]
    exact value_tail _ ks (byteArr_size ks)
  · exact h _ _ (by assumption) (by assumption)
end
end

/-! ### S12 -/
section
open PySem.Calls
set_option maxRecDepth 100000
def st11 : Stmt := lawBody.getD 10 noStmt
def st12 : Stmt := lawBody.getD 11 noStmt
def st13 : Stmt := lawBody.getD 12 noStmt
def whileBody : Stmt → List Stmt
  | .While _ b _ _ => b
  | _ => []
def whileTest : Stmt → Expr
  | .While t _ _ _ => t
  | _ => .Constant .none 0 ⟨0, 0, 0, 0⟩
theorem map_four {x z : Str} {a b c d : Option Value} {m : Str → Option Value} :
    (fun y => if y = x then a else if y = z then b else if y = z then c else if y = x then d else m y) = fun y => if y = x then a else if y = z then b else m y := by
  funext y
  by_cases h : y = x
  · rw [if_pos h, if_pos h]
  · rw [if_neg h, if_neg h, if_neg h]
    by_cases h' : y = z
    · rw [if_pos h', if_pos h']
    · rw [if_neg h', if_neg h', if_neg h']
theorem map_four' {x z : Str} {a b c d : Option Value} {m : Str → Option Value} :
    (fun y => if y = x then a else if y = z then b else if y = x then c else if y = z then d else m y) = fun y => if y = x then a else if y = z then b else m y := by
  funext y
  by_cases h : y = x
  · rw [if_pos h, if_pos h]
  · rw [if_neg h, if_neg h, if_neg h]
    by_cases h' : y = z
    · rw [if_pos h', if_pos h']
    · rw [if_neg h', if_neg h', if_neg h']
theorem fold_from : ∀ (l : List Int) (d : Int), l.foldl (fun a k => a * 256 + k) d = d * 256 ^ l.length + l.foldl (fun a k => a * 256 + k) 0
  | [], d => by simp
  | k :: l, d => by
    rw [List.foldl_cons, List.foldl_cons, fold_from l (d * 256 + k), fold_from l (0 * 256 + k), List.length_cons, Int.pow_succ, Int.add_mul, Int.mul_assoc, Int.mul_comm 256]
    simp only [Int.zero_mul, Int.zero_add]
    omega
theorem value_cons (d : Int) (l : List Int) : KFB.value (d :: l) = d * 256 ^ l.length + KFB.value l := by
  unfold KFB.value
  rw [List.foldl_cons, fold_from]
  simp
def Digits (V v : Int) (l : List Int) : Prop := 0 ≤ v ∧ v * 256 ^ l.length + KFB.value l = V ∧ KBa.In l ∧ v < 256 ^ (20 - l.length) ∧ l.length ≤ 20
theorem digits_step {V v : Int} {l : List Int} (h : Digits V v l) (hv : 0 < v) : l.length < 20 ∧ Digits V (v.fdiv 256) (v.fmod 256 :: l) := by
  obtain ⟨h0, h1, h2, h3, h4⟩ := h
  have hlt : l.length < 20 := by
    rcases Nat.lt_or_ge l.length 20 with h | h
    · exact h
    · have e : 20 - l.length = 0 := by omega
      rw [e] at h3
      simp at h3
      omega
  have f0 : 0 ≤ v.fmod 256 := Int.fmod_nonneg_of_pos _ (by decide)
  have f1 : v.fmod 256 < 256 := Int.fmod_lt_of_pos _ (by decide)
  have fd : v.fdiv 256 * 256 + v.fmod 256 = v := by have := Int.mul_fdiv_add_fmod v 256; omega
  generalize v.fmod 256 = r at f0 f1 fd ⊢
  generalize v.fdiv 256 = q at fd ⊢
  subst fd
  refine ⟨hlt, by omega, ?_, ?_, ?_, by rw [List.length_cons]; omega⟩
  · rw [value_cons, List.length_cons, Int.pow_succ, ← h1, Int.add_mul, Int.mul_assoc q, Int.mul_comm 256]
    omega
  · intro n hn
    rcases List.mem_cons.mp hn with rfl | hn
    · exact ⟨f0, f1⟩
    · exact h2 n hn
  · have e : 20 - l.length = (20 - (l.length + 1)) + 1 := by omega
    rw [e, Int.pow_succ] at h3
    rw [List.length_cons]
    generalize (256 : Int) ^ (20 - (l.length + 1)) = P at h3 ⊢
    omega
section
variable {w : World} {E : Value → Shared → Prop} {s : Shared} {h₀ : Heap} {mean : ExcName → Option Value} {mg mb : Str → Option Value} {L fa : Addr} {cd : Value} {m : Str → Option Value}
set_option maxHeartbeats 4000000 in
theorem do11 {Q : Flow → Shared → Prop} {ta : Tok} {a : Int} {news : List (Addr × Obj)} (X₀ : (hd.heap_39 w.params).In h₀) (T : theTop mean mg mb h₀)
    (F : Fr h₀ L s.heap (fun y => if y = Str.ofString "a" then some (.int a ta) else m y)) (N : News h₀ L s.heap news)
    (h : ∀ h' tk tv R, Fr h₀ L h' (fun y => if y = Str.ofString "value" then some (.int ((if a < 0 then -a else a).fmod (256 ^ 20)) tv) else if y = Str.ofString "row" then some (.ref R) else if y = Str.ofString "a" then some (.int a ta) else m y) →
      News h₀ L h' ((R, lobj #[] 0) :: news) → Q .next { s with heap := h', toks := tk }) :
    wpAny (model theProg w) (lawA L fa cd) (exec st11 (lawEnv L fa cd)) Q E s := by
  have e : st11 = Stmt.Assign [Expr.Tuple _ _ _] (Expr.Tuple _ _ _) _ := rfl
  rw [e]
  k_steps
  rename News h₀ L _ _ => N5
  exact h _ _ _ _ (by assumption) fun p hp => N5 p (List.mem_cons_of_mem _ hp)
set_option maxHeartbeats 4000000 in
theorem turn12 {Q : Flow → Shared → Prop} {tv : Tok} {v : Int} {R : Addr} {us : List Value} {l : List Int} {c : Nat} {news : List (Addr × Obj)} (X₀ : (hd.heap_39 w.params).In h₀) (T : theTop mean mg mb h₀)
    (F : Fr h₀ L s.heap (fun y => if y = Str.ofString "value" then some (.int v tv) else if y = Str.ofString "row" then some (.ref R) else m y)) (N : News h₀ L s.heap ((R, lobj us.toArray c) :: news)) (hu : IntsAre us l) (hl : l.length ≤ 20) (hv : 0 ≤ v)
    (h : ∀ h' tk tv R us, IntsAre us (v.fmod 256 :: l) → Fr h₀ L h' (fun y => if y = Str.ofString "value" then some (.int (v.fdiv 256) tv) else if y = Str.ofString "row" then some (.ref R) else m y) → News h₀ L h' ((R, lobj us.toArray 0) :: news) → Q .next { s with heap := h', toks := tk }) :
    wpAny (model theProg w) (lawA L fa cd) (execs (whileBody st12) (lawEnv L fa cd)) Q E s := by
  have e : whileBody st12 = [Stmt.Assign [Expr.Name (Str.ofString "row") _] _ _, Stmt.Assign [Expr.Name (Str.ofString "value") _] _ _] := rfl
  rw [e]
  k_steps
  rename News h₀ L _ _ => N5
  rename Fr h₀ L _ (fun y => if y = Str.ofString "value" then _ else _) => F5
  rw [map_four'] at F5
  refine h _ _ _ _ _ (by assumption) F5 fun p hp => N5 p ?_
  rcases List.mem_cons.mp hp with rfl | hp
  · exact List.mem_cons_self
  · exact List.mem_cons_of_mem _ (List.mem_cons_of_mem _ (List.mem_cons_of_mem _ hp))
set_option maxHeartbeats 4000000 in
theorem test12 {Q : Bool → Shared → Prop} {tv : Tok} {v : Int} (X₀ : (hd.heap_39 w.params).In h₀)
    (F : Fr h₀ L s.heap (fun y => if y = Str.ofString "value" then some (.int v tv) else m y))
    (h : ∀ tk, Q (decide (0 < v)) { s with toks := tk }) :
    wpAny (model theProg w) (lawA L fa cd) (isTrue (whileTest st12) (lawEnv L fa cd) (eval (whileTest st12) (lawEnv L fa cd))) Q E s := by
  have e : whileTest st12 = Expr.Compare _ [CmpOp.Gt] _ _ := rfl
  rw [e]
  k_steps
  exact h _
end
end

/-! ### S13 -/
section
open PySem.Calls
set_option maxRecDepth 100000
theorem value_ite {size : Nat} (ks : List Int) (hs : size = ks.length) : (if size = 0 then 0 else KFB.value ks) = KFB.value ks := by
  split
  · rename_i h
    have : ks = [] := List.eq_nil_of_length_eq_zero (by omega)
    rw [this]; rfl
  · rfl
section
variable {w : World} {E : Value → Shared → Prop} {s : Shared} {h₀ : Heap} {mean : ExcName → Option Value} {mg mb : Str → Option Value} {L fa : Addr} {cd : Value} {m : Str → Option Value}
theorem do12 {Q : Flow → Shared → Prop} {tv : Tok} {V : Int} {R : Addr} {news : List (Addr × Obj)} (X₀ : (hd.heap_39 w.params).In h₀) (T : theTop mean mg mb h₀) (hV : Digits V V [])
    (F : Fr h₀ L s.heap (fun y => if y = Str.ofString "value" then some (.int V tv) else if y = Str.ofString "row" then some (.ref R) else m y)) (N : News h₀ L s.heap ((R, lobj #[] 0) :: news))
    (h : ∀ h' tk tv R us l, IntsAre us l → KFB.value l = V → KBa.In l → l.length ≤ 20 → Fr h₀ L h' (fun y => if y = Str.ofString "value" then some (.int 0 tv) else if y = Str.ofString "row" then some (.ref R) else m y) → News h₀ L h' ((R, lobj us.toArray 0) :: news) → Q .next { s with heap := h', toks := tk }) :
    wpAny (model theProg w) (lawA L fa cd) (exec st12 (lawEnv L fa cd)) Q E s := by
  have e : st12 = Stmt.While (whileTest st12) (whileBody st12) [] _ := rfl
  rw [e]
  refine wpAny_While (codeAny_whileLoop
    (fun kk s' => ∃ h' tk v tv R us l, s' = { s with heap := h', toks := tk } ∧ IntsAre us l ∧ Digits V v l ∧ kk = 20 - l.length ∧
      Fr h₀ L h' (fun y => if y = Str.ofString "value" then some (.int v tv) else if y = Str.ofString "row" then some (.ref R) else m y) ∧ News h₀ L h' ((R, lobj us.toArray 0) :: news)) ?_ 20
    ⟨s.heap, s.toks, V, tv, R, [], [], rfl, .nil, hV, rfl, F, N⟩)
  rintro kk s' ⟨h', tk, v, tv', R', us, l, rfl, hu, hd, rfl, F', N'⟩
  refine test12 X₀ F' fun tk₁ => ?_
  by_cases hv : 0 < v
  · rw [decide_eq_true hv]
    rw [if_pos rfl]
    obtain ⟨hlt, hd'⟩ := digits_step hd hv
    refine turn12 X₀ T F' N' hu hd.2.2.2.2 hd.1 fun h₂ tk₂ tv₂ R₂ us₂ hu₂ F₂ N₂ => ?_
    exact ⟨20 - (v.fmod 256 :: l).length, by rw [List.length_cons]; omega, h₂, tk₂, _, tv₂, R₂, us₂, _, rfl, hu₂, hd', rfl, F₂, N₂⟩
  · rw [decide_eq_false hv]
    rw [if_neg Bool.false_ne_true]
    refine wpAny_execs_nil ?_
    obtain ⟨d0, d1, d2, d3, d4⟩ := hd
    obtain rfl : v = 0 := by omega
    exact h _ _ _ _ us l hu (by simpa using d1) d2 d4 F' N'

local macro_rules | `(tactic| walk_at "call ref") => `(tactic| (k_here; k_dflt (first
  | (refine' nunpack_call1 ?n1 ?n2 ?n3 ?n4 ?n5 ?n6 ?_; (case n1 => assumption); (case n2 => assumption); (case n3 => assumption); (case n4 => k_asm); (case n5 => k_asm); (case n6 => first | assumption | decide); k_whole; intro h' tk' tv' F' N')
  | (refine' nunpack_call ?n1 ?n2 ?n3 ?n4 ?n5 ?n6 ?_; (case n1 => assumption); (case n2 => assumption); (case n3 => assumption); (case n4 => k_asm); (case n5 => k_asm); (case n6 => first | assumption | decide); k_whole; intro h' tk' tv' F' N')); (try k_sweep)))
set_option maxHeartbeats 4000000 in
theorem do13 {Q : Flow → Shared → Prop} {ta : Tok} {a : Int} {R : Addr} {us : List Value} {l : List Int} {c : Nat} {news : List (Addr × Obj)} (K0 : Below callerA h₀ [] h₀) (X₀ : (hd.heap_39 w.params).In h₀) (T : theTop mean mg mb h₀)
    (F : Fr h₀ L s.heap (fun y => if y = Str.ofString "row" then some (.ref R) else if y = Str.ofString "a" then some (.int a ta) else m y)) (N : News h₀ L s.heap ((R, lobj us.toArray c) :: news))
    (hu : IntsAre us l) (hl : l.length ≤ 20) (hk : KBa.In l) (hv : KFB.value l = (if a < 0 then -a else a).fmod (256 ^ 20))
    (h : ∀ h' tk, Fr h₀ L h' (fun y => if y = Str.ofString "row" then some (.ref R) else if y = Str.ofString "a" then some (.int a ta) else m y) → News h₀ L h' ((R, lobj us.toArray c) :: news) → Q .next { s with heap := h', toks := tk }) :
    wpAny (model theProg w) (lawA L fa cd) (exec st13 (lawEnv L fa cd)) Q E s := by
  have e : st13 = Stmt.If _ _ [] _ := rfl
  rw [e]
  have hsz : (byteArr l).size ≤ 1000 := by rw [byteArr_size]; omega
  k_steps
  · exfalso
    rename ite _ _ _ ≠ _ => hne
    refine hne ?_
    rw [KBa.ints_make hk, value_ite l (byteArr_size l)]
    exact hv
  · exact h _ _ (by assumption) (by assumption)
end
end

/-! ### S14 -/
section
open PySem.Calls
set_option maxRecDepth 100000
def st14 : Stmt := lawBody.getD 13 noStmt
theorem tup_at {A : Around} {s : Shared} {l b : Addr} {items items2 : Array Value} (hl : s.heap.IsTuple l items) (hb : s.heap.IsTuple b items2) (hu : A.units < cLine) (hsz : items.size = items2.size)
    (he : ∀ j (h1 : j < items.size) (h2 : j < items2.size), SeqAt.EqAt A.in1 s items[j] items2[j] true) : SeqAt.EqAt A s (.ref l) (.ref b) true := by
  by_cases e : l = b
  · subst e; exact SeqAt.EqAt.same _
  · refine SeqAt.EqAt.of_refs e ?_
    have := SeqAt.RcAt.tuples (e := fun _ => true) hl hb hu he
    have e2 : ((List.range (min items.size items2.size)).all (fun _ => true) && items.size == items2.size) = true := by simp [hsz]
    rwa [e2] at this
section
variable {w : World} {E : Value → Shared → Prop} {s : Shared} {h₀ : Heap} {mean : ExcName → Option Value} {mg mb : Str → Option Value} {L fa : Addr} {cd : Value} {m : Str → Option Value}
set_option maxHeartbeats 4000000 in
theorem do14 {Q : Flow → Shared → Prop} {ta t : Tok} {a : Int} {ks : List Int} {oO : Obj} {news : List (Addr × Obj)} (X₀ : (hd.heap_39 w.params).In h₀) (T : theTop mean mg mb h₀)
    (F : Fr h₀ L s.heap (fun y => if y = Str.ofString "a" then some (.int a ta) else m y)) (N : News h₀ L s.heap ((L + 1, oO) :: news)) (dO : oO.data = .cell (some (.bytes (byteArr ks) t))) (hb : AllBare s.gens)
    (h : ∀ s', (∀ b o, h₀.get? b = some o → s'.heap.get? b = some o) → AllBare s'.gens → s'.drawn = s.drawn → s'.os = s.os → Q (.ret (.bool true)) s') :
    wpAny (model theProg w) (lawA L fa cd) (exec st14 (lawEnv L fa cd)) Q E s := by
  have e : st14 = Stmt.Return (some (Expr.Compare _ [CmpOp.Eq] _ _)) _ := rfl
  rw [e]
  k_steps
  rename News h₀ L _ ((_, W.listOf _ 0) :: _) => N1
  rename Fr h₀ L _ _ => F1
  have hl := (N1 _ List.mem_cons_self).1
  refine chop_call (seq_list w _ #[Value.int a ta, Value.bytes (byteArr ks) t, Value.none, Value.str (Str.ofString "x") _, Value.int 5 _]) (A := lawA L fa cd) (by rfl) (by k_room) X₀ T F1 2 2 _ (by decide) (by decide) (by decide) (by decide) (by simp) (by decide) (by decide) ⟨_, hl, rfl, _, rfl⟩ fun D s' acc c own d => ?_
  have F2 := d.fr F1
  have N2 := d.news F1 N1
  have hbare := d.bare hb
  have hdr := d.drawn
  have hos := d.os
  have hpc := d.pieces
  have hln := d.len
  clear d hl F1 N1
  iterate 18 walk1
  rename Fr h₀ L _ _ => F3
  rename News h₀ L _ _ => N3
  refine newList_N F3 N3 (fun h₄ F₄ N₄ => ?_)
  obtain ⟨v0, v1, rfl⟩ : ∃ v0 v1, acc = [v0, v1] := by
    match acc, hln with
    | [v0, v1], _ => exact ⟨v0, v1, rfl⟩
  obtain ⟨a0, us0, rfl, hm0, hl0, hp0⟩ := hpc 0 v0 rfl
  obtain ⟨a1, us1, rfl, hm1, hl1, hp1⟩ := hpc 1 v1 rfl
  obtain ⟨x0, x1, rfl⟩ : ∃ x0 x1, us0 = [x0, x1] := by
    match us0, hl0 with
    | [x0, x1], _ => exact ⟨x0, x1, rfl⟩
  obtain ⟨y0, y1, rfl⟩ : ∃ y0 y1, us1 = [y0, y1] := by
    match us1, hl1 with
    | [y0, y1], _ => exact ⟨y0, y1, rfl⟩
  have e0 := hp0 0 x0 rfl
  have e1 := hp0 1 x1 rfl
  have e2 := hp1 0 y0 rfl
  have e3 := hp1 1 y1 rfl
  simp at e0 e1 e2 e3
  subst e0 e1 e2 e3
  refine SeqAt.eq_listAt (e := fun _ => true) ⟨_, (N₄ (D, _) (List.mem_cons_of_mem _ (List.mem_cons_of_mem _ (List.mem_cons_of_mem _ List.mem_cons_self)))).1, rfl, _, rfl⟩ ⟨_, (N₄ _ List.mem_cons_self).1, rfl, _, rfl⟩ rfl (Nat.le_of_ble_eq_true rfl) (fun j h1 h2 => ?_) ?_
  · have hj : j = 0 ∨ j = 1 := by simp at h1; omega
    rcases hj with rfl | rfl
    · refine tup_at (items := #[Value.int a ta, Value.bytes (byteArr ks) t]) (items2 := #[Value.int a ta, Value.bytes (byteArr ks) t]) ⟨_, (N₄ _ (List.mem_cons_of_mem _ (List.mem_cons_of_mem _ (List.mem_cons_of_mem _ (List.mem_cons_of_mem _ (List.mem_append_right _ hm0)))))).1, rfl, _, rfl⟩ ⟨_, (N₄ _ (List.mem_cons_of_mem _ (List.mem_cons_of_mem _ List.mem_cons_self))).1, rfl, _, rfl⟩ (Nat.le_of_ble_eq_true rfl) rfl (fun j h1 h2 => SeqAt.EqAt.same _)
    · refine tup_at (items := #[Value.none, Value.str (Str.ofString "x") _]) (items2 := #[Value.none, Value.str (Str.ofString "x") _]) ⟨_, (N₄ _ (List.mem_cons_of_mem _ (List.mem_cons_of_mem _ (List.mem_cons_of_mem _ (List.mem_cons_of_mem _ (List.mem_append_right _ hm1)))))).1, rfl, _, rfl⟩ ⟨_, (N₄ _ (List.mem_cons_of_mem _ List.mem_cons_self)).1, rfl, _, rfl⟩ (Nat.le_of_ble_eq_true rfl) rfl (fun j h1 h2 => ?_)
      have hj : j = 0 ∨ j = 1 := by simp at h1; omega
      rcases hj with rfl | rfl
      · exact SeqAt.EqAt.same _
      · have := SeqAt.EqAt.str_str (A := (lawA L fa cd).in1.in1) (s := { s' with heap := h₄, toks := s'.toks + 1 }) (Str.ofString "x") (s.toks + 1) (Str.ofString "x") s'.toks
        simpa using this
  · exact h _ F₄.keep hbare hdr hos
end
end

/-! ### S4 -/
section
open PySem.Calls
set_option maxRecDepth 100000
def st4 : Stmt := lawBody.getD 3 noStmt
def pieceList (nn : Nat) (ks : List Int) (m : Nat) : List (List Int) := (List.range m).map (pieceInts nn ks)
theorem intsAre_of : ∀ (us : List Value) (f : Nat → Int), (∀ (j : Nat) (u : Value), us[j]? = some u → ∃ t, u = .int (f j) t) → IntsAre us ((List.range us.length).map f)
  | [], _, _ => .nil
  | v :: r, f, h => by
    rw [List.length_cons, List.range_succ_eq_map, List.map_cons, List.map_map]
    obtain ⟨t, rfl⟩ := h 0 v rfl
    exact .cons _ t (intsAre_of r (f ∘ Nat.succ) fun j u hu => h (j + 1) u hu)
theorem pieces_tups {n m : Nat} {b : Array UInt8} {ks : List Int} {own : List (Addr × Obj)} {acc : List Value} (hb : KBw.bInts b = ks) (hm : acc.length = m)
    (h : PiecesAre n (fun i v => ∃ c u, b[i]? = some c ∧ v = .int (c.toNat : Int) u) own acc) : TupsAre own acc (pieceList n ks m) := by
  refine ⟨by rw [hm]; simp [pieceList], fun i v hv => ?_⟩
  obtain ⟨a, us, rfl, hm', hl, hp⟩ := h i v hv
  have hi : i < m := by
    rw [← hm]
    exact (List.getElem?_eq_some_iff.mp hv).1
  refine ⟨a, us, pieceInts n ks i, rfl, hm', by simp [pieceList, hi], ?_⟩
  unfold pieceInts
  rw [← hl]
  refine intsAre_of us _ fun j u hu => ?_
  obtain ⟨c, t, hc, rfl⟩ := hp j u hu
  have : ks[n * i + j]? = some (c.toNat : Int) := by rw [← hb]; exact KBw.ints_get hc
  refine ⟨t, ?_⟩
  rw [hl, List.getD_eq_getElem?_getD, this]
  rfl
theorem pieces_in {n m : Nat} {ks : List Int} (hk : KBa.In ks) (hn : n ≤ 4) : ∀ l ∈ pieceList n ks m, KBa.In l ∧ l.length ≤ 12 := by
  intro l hl
  obtain ⟨i, _, rfl⟩ := List.mem_map.mp hl
  refine ⟨fun x hx => ?_, by simp [pieceInts]; omega⟩
  obtain ⟨j, _, rfl⟩ := List.mem_map.mp hx
  exact KBw.getD_in hk
theorem piece_eq {n : Nat} {ks : List Int} {i : Nat} (h : n * (i + 1) ≤ ks.length) : pieceInts n ks i = (ks.drop (n * i)).take n := by
  rw [Nat.mul_succ] at h
  refine List.ext_getElem? fun j => ?_
  unfold pieceInts
  rcases Nat.lt_or_ge j n with hj | hj
  · rw [List.getElem?_map, List.getElem?_range hj, List.getElem?_take_of_lt hj, List.getElem?_drop, Option.map_some, List.getD_eq_getElem?_getD, List.getElem?_eq_getElem (by omega)]
    rfl
  · rw [List.getElem?_eq_none (by simp; omega), List.getElem?_eq_none (by simp; omega)]
theorem value_app (l r : List Int) : KFB.value (l ++ r) = KFB.value l * 256 ^ r.length + KFB.value r := by
  rw [value_append, fold_from]; rfl
theorem fold_value {n : Nat} {ks : List Int} : ∀ m, n * m ≤ ks.length → foldPieces n (pieceList n ks m) = KFB.value (ks.take (n * m))
  | 0, _ => by simp [pieceList, foldPieces, KFB.value]
  | m + 1, h => by
    have h' : n * m ≤ ks.length := Nat.le_trans (Nat.mul_le_mul_left n (Nat.le_succ m)) h
    have ih := fold_value m h'
    have e : pieceList n ks (m + 1) = pieceList n ks m ++ [pieceInts n ks m] := by
      unfold pieceList; rw [List.range_succ, List.map_append]; rfl
    have e2 : ks.take (n * (m + 1)) = ks.take (n * m) ++ (ks.drop (n * m)).take n := by rw [Nat.mul_succ, List.take_add]
    have e3 : ((ks.drop (n * m)).take n).length = n := by
      rw [List.length_take, List.length_drop]
      rw [Nat.mul_succ] at h
      omega
    rw [e2, value_app, e3, ← ih, e, ← piece_eq h]
    unfold foldPieces
    rw [List.foldl_append]
    rfl

section
variable {w : World} {E : Value → Shared → Prop} {s : Shared} {h₀ : Heap} {mean : ExcName → Option Value} {mg mb : Str → Option Value} {L fa : Addr} {cd : Value} {m : Str → Option Value}
set_option maxHeartbeats 4000000 in
theorem do4 {Q : Flow → Shared → Prop} {nn : Nat} {tn t : Tok} {ks : List Int} {oS oO : Obj} (X₀ : (hd.heap_39 w.params).In h₀) (T : theTop mean mg mb h₀)
    (F : Fr h₀ L s.heap m) (N : News h₀ L s.heap [(L + 2, oS), (L + 1, oO)]) (dS : oS.data = .cell (some (.int (nn : Int) tn))) (dO : oO.data = .cell (some (.bytes (byteArr ks) t)))
    (hn : 1 ≤ nn) (hn4 : nn ≤ 4) (hks : ks.length ≤ 12) (hb : AllBare s.gens)
    (h : ∀ s' D acc c own, Fr h₀ L s'.heap (fun y => if y = Str.ofString "pieces" then some (.ref D) else m y) → News h₀ L s'.heap ((L + 2, oS) :: (L + 1, oO) :: (D, lobj acc.toArray c) :: own) → acc.length = ks.length / nn →
      PiecesAre nn (fun i v => ∃ c u, (byteArr ks)[i]? = some c ∧ v = .int (c.toNat : Int) u) own acc → AllBare s'.gens → s'.os = s.os → Q .next s') :
    wpAny (model theProg w) (lawA L fa cd) (exec st4 (lawEnv L fa cd)) Q E s := by
  have e : st4 = Stmt.Assign [Expr.Name (Str.ofString "pieces") _] _ _ := rfl
  rw [e]
  k_steps
  refine chop_call (seq_bytes w (byteArr ks) t) (A := lawA L fa cd) (by rfl) (by k_room) X₀ T F nn (ks.length / nn) _ (by decide) (by decide) (by decide) hn (by rw [byteArr_size]) (by omega) (Nat.le_trans (Nat.div_le_self _ _) (by omega)) trivial fun D s' acc c own d => ?_
  have F2 := d.fr F
  have N2 := d.news F N
  refine storeX_L F2 N2 fun h' F3 N3 => ?_
  exact h _ D acc c own F3 (fun p hp => N3 p (by simp only [List.mem_cons, List.mem_append] at hp ⊢; rcases hp with h | h | h | h <;> simp [h])) d.len d.pieces (d.bare hb) d.os
end
end

/-! ### R1 -/
section
open PySem.Calls
set_option maxRecDepth 100000
def st6 : Stmt := lawBody.getD 5 noStmt
abbrev put (x : String) (v : Option Value) (m : Str → Option Value) : Str → Option Value := fun y => if y = Str.ofString x then v else m y
theorem put_same {x : String} {v : Option Value} {m : Str → Option Value} : put x v m (Str.ofString x) = v := if_pos rfl
theorem put_ne {x z : String} {v : Option Value} {m : Str → Option Value} (h : Str.ofString z ≠ Str.ofString x) : put x v m (Str.ofString z) = m (Str.ofString z) := if_neg h
theorem one_key {x : String} {v : Option Value} {m : Str → Option Value} (h : m (Str.ofString x) = v) : put x v m = m := by
  funext y
  unfold put
  split
  · rename_i e; rw [e, h]
  · rfl
section
variable {w : World} {E : Value → Shared → Prop} {s : Shared} {h₀ : Heap} {mean : ExcName → Option Value} {mg mb : Str → Option Value} {L fa : Addr} {cd : Value} {m : Str → Option Value}
set_option maxHeartbeats 4000000 in
theorem do6 {Q : Flow → Shared → Prop} {news : List (Addr × Obj)} (F : Fr h₀ L s.heap m) (N : News h₀ L s.heap news) (X₀ : (hd.heap_39 w.params).In h₀)
    (h : ∀ h' tk tv, Fr h₀ L h' (put "number" (some (.int 0 tv)) m) → News h₀ L h' news → Q .next { s with heap := h', toks := tk }) :
    wpAny (model theProg w) (lawA L fa cd) (exec st6 (lawEnv L fa cd)) Q E s := by
  have e : st6 = Stmt.Assign [Expr.Name (Str.ofString "number") _] _ _ := rfl
  rw [e]
  k_steps
  exact h _ _ _ (by assumption) (by assumption)

theorem rest {Q : Flow → Shared → Prop} {nn : Nat} {tn t ta : Tok} {a : Int} {ks : List Int} {oS oO : Obj} (K0 : Below callerA h₀ [] h₀) (X₀ : (hd.heap_39 w.params).In h₀) (T : theTop mean mg mb h₀)
    (F : Fr h₀ L s.heap m) (ha : m (Str.ofString "a") = some (.int a ta)) (N : News h₀ L s.heap [(L + 2, oS), (L + 1, oO)]) (dS : oS.data = .cell (some (.int (nn : Int) tn))) (dO : oO.data = .cell (some (.bytes (byteArr ks) t)))
    (hn : 1 ≤ nn) (hn4 : nn ≤ 4) (hk : KBa.In ks) (hks : ks.length ≤ 12) (hb : AllBare s.gens)
    (h : ∀ s', (∀ b o, h₀.get? b = some o → s'.heap.get? b = some o) → AllBare s'.gens → s'.os = s.os → Q (.ret (.bool true)) s') :
    wpAny (model theProg w) (lawA L fa cd) (execs (lawBody.drop 3) (lawEnv L fa cd)) Q E s := by
  have e : lawBody.drop 3 = [st4, stIf5, st6, stFor7, st8, st9, st10, st11, st12, st13, st14] := rfl
  rw [e]
  refine wpAny_execs_cons (do4 X₀ T F N dS dO hn hn4 hks hb fun s₁ D acc c own F₁ N₁ hl₁ hp₁ hb₁ hos₁ => ?_)
  have hm12 : ks.length / nn ≤ 12 := Nat.le_trans (Nat.div_le_self _ _) hks
  have hbi := KBa.ints_make hk
  have hn' : (1 : Int) ≤ nn := by omega
  have hn4' : (nn : Int) ≤ 4 := by omega
  refine wpAny_execs_cons (st5 X₀ T F₁ N₁ dS dO hk hks hn' hn4' (pieces_dat hbi hl₁ hp₁) fun h₂ tk₂ F₂ N₂ => ?_)
  refine wpAny_execs_cons (do6 F₂ N₂ X₀ fun h₃ tk₃ tv₃ F₃ N₃ => ?_)
  refine wpAny_execs_cons (for7 K0 X₀ T F₃ (put_same (x := "pieces")) N₃ dS hn' hn4' (pieces_tups hbi hl₁ hp₁) (pieces_in hk hn4) fun h₄ tk₄ tv₄ pv F₄ N₄ => ?_)
  refine wpAny_execs_cons (do8 X₀ T F₄ N₄ dS dO hn' hn4' hk hks hl₁ (by omega) fun h₅ tk₅ wb tw hw F₅ N₅ => ?_)
  have hle : nn * (ks.length / nn) ≤ ks.length := Nat.mul_div_le _ _
  rw [hl₁] at hw
  have hwn : wb.size ≤ 1000 := by
    rw [← KBw.ints_length, hw, List.length_take]
    omega
  -- the names of the frame, from here on as one map
  generalize hm5 : (fun y => if y = Str.ofString "whole" then some (Value.bytes wb tw) else if y = Str.ofString "piece" then pv else if y = Str.ofString "number" then some (.int (foldPieces nn (pieceList nn ks (ks.length / nn))) tv₄) else if y = Str.ofString "pieces" then some (.ref D) else m y) = m5 at F₅
  have k5w : m5 (Str.ofString "whole") = some (.bytes wb tw) := by rw [← hm5]; rfl
  have k5n : m5 (Str.ofString "number") = some (.int (foldPieces nn (pieceList nn ks (ks.length / nn))) tv₄) := by rw [← hm5]; rfl
  have k5a : m5 (Str.ofString "a") = some (.int a ta) := by
    rw [← hm5]
    show put "whole" _ (put "piece" _ (put "number" _ (put "pieces" _ m))) (Str.ofString "a") = _
    rw [put_ne (by decide), put_ne (by decide), put_ne (by decide), put_ne (by decide)]
    exact ha
  clear hm5 F₁ F₂ F₃ F₄ F N₁ N₂ N₃ N₄ N
  have e9 : put "whole" (some (.bytes wb tw)) (put "number" (some (.int (foldPieces nn (pieceList nn ks (ks.length / nn))) tv₄)) m5) = m5 := by rw [one_key k5n, one_key k5w]
  refine wpAny_execs_cons (do9 K0 X₀ T (e9 ▸ F₅) N₅ hwn (by rw [hw]; exact fold_value _ hle) fun h₆ tk₆ F₆ N₆ => ?_)
  replace F₆ : Fr h₀ L h₆ m5 := e9 ▸ F₆
  have e10 : put "a" (some (.int a ta)) m5 = m5 := one_key k5a
  have sub : ∀ {hp : Heap}, News h₀ L hp ((L + 2, oS) :: (L + 1, oO) :: (D, lobj acc.toArray c) :: own) → News h₀ L hp [(L + 1, oO)] := fun N p hp => N p (by rw [List.mem_singleton.mp hp]; simp)
  refine wpAny_execs_cons (do10 K0 X₀ T (e10 ▸ F₆) (sub N₆) dO hk hks fun h₇ tk₇ F₇ N₇ => ?_)
  refine wpAny_execs_cons (do11 X₀ T F₇ N₇ fun h₈ tk₈ tv₈ R₈ F₈ N₈ => ?_)
  generalize hV : (if a < 0 then -a else a).fmod (256 ^ 20) = V at F₈
  have hV0 : Digits V V [] := by
    have v0 : 0 ≤ V := by rw [← hV]; exact Int.fmod_nonneg_of_pos _ (by decide)
    have v1 : V < 256 ^ 20 := by rw [← hV]; exact Int.fmod_lt_of_pos _ (by decide)
    exact ⟨v0, by simp [KFB.value], fun n hn => (by simp at hn), v1, by simp⟩
  refine wpAny_execs_cons (do12 X₀ T hV0 F₈ N₈ fun h₉ tk₉ tv₉ R₉ us l hu hvl hkl hll F₉ N₉ => ?_)
  generalize hm9 : (fun y => if y = Str.ofString "value" then some (Value.int 0 tv₉) else if y = Str.ofString "row" then some (.ref R₉) else if y = Str.ofString "a" then some (.int a ta) else m5 y) = m9 at F₉
  have k9r : m9 (Str.ofString "row") = some (.ref R₉) := by rw [← hm9]; rfl
  have k9a : m9 (Str.ofString "a") = some (.int a ta) := by rw [← hm9]; rfl
  clear hm9
  have e13 : put "row" (some (.ref R₉)) (put "a" (some (.int a ta)) m9) = m9 := by rw [one_key k9a, one_key k9r]
  refine wpAny_execs_cons (do13 K0 X₀ T (e13 ▸ F₉) N₉ hu hll hkl (by rw [hvl, hV]) fun h₁₀ tk₁₀ F₁₀ N₁₀ => ?_)
  replace F₁₀ : Fr h₀ L h₁₀ m9 := e13 ▸ F₁₀
  have e14 : put "a" (some (.int a ta)) m9 = m9 := one_key k9a
  refine wpAny_execs_cons (do14 (news := []) X₀ T (e14 ▸ F₁₀) (fun p hp => N₁₀ p (List.mem_cons_of_mem _ hp)) dO hb₁ fun s' hkeep hbare _ hos => ?_)
  exact h s' hkeep hbare (hos.trans hos₁)
end
end

/-! ### R2 -/
section
open PySem.Calls
set_option maxRecDepth 100000
def st1 : Stmt := lawBody.getD 0 noStmt
def st2 : Stmt := lawBody.getD 1 noStmt
def st3 : Stmt := lawBody.getD 2 noStmt
section
variable {w : World} {E : Value → Shared → Prop} {s : Shared} {h₀ : Heap} {mean : ExcName → Option Value} {mg mb : Str → Option Value} {L fa : Addr} {cd : Value} {m : Str → Option Value}
set_option maxHeartbeats 4000000 in
theorem do1 {Q : Flow → Shared → Prop} {news : List (Addr × Obj)} {l : Addr} {vs : List Value} {ns : List Int} (X₀ : (hd.heap_39 w.params).In h₀) (T : theTop mean mg mb h₀) (hl : h₀.IsList l vs.toArray) (hi : IntsAre vs ns) (hlen : ns.length ≤ 63)
    (F : Fr h₀ L s.heap (fun y => if y = Str.ofString "script" then some (.ref l) else m y)) (N : News h₀ L s.heap news)
    (h : ∀ h' tk a ta, Fr h₀ L h' (fun y => if y = Str.ofString "a" then some (.int a ta) else if y = Str.ofString "script" then some (.ref l) else m y) → News h₀ L h' news → Q .next { s with heap := h', toks := tk }) :
    wpAny (model theProg w) (lawA L fa cd) (exec st1 (lawEnv L fa cd)) Q E s := by
  have e : st1 = Stmt.Assign [Expr.Name (Str.ofString "a") _] _ _ := rfl
  rw [e]
  k_steps
  · rename News h₀ L _ _ => N5
    exact h _ _ _ _ (by assumption) fun p hp => N5 p (List.mem_cons_of_mem _ hp)
  · rename Fr h₀ L _ _ => F5
    rename News h₀ L _ _ => N5
    rename decide _ = false => hne
    have hn0 : ns ≠ [] := of_decide_eq_false hne
    have hl5 : Heap.IsList _ l vs.toArray := let ⟨o, e, r⟩ := hl; ⟨o, F5.keep _ _ e, r⟩
    cases hi with
    | nil => exact absurd rfl hn0
    | cons n t hi' =>
      refine item_listL hl5 (by decide) (by decide) (rfl : _ = some (Value.int n t)) ?_
      k_steps
      rename News h₀ L _ _ => N6
      exact h _ _ _ _ (by assumption) fun p hp => N6 p (List.mem_cons_of_mem _ hp)

set_option maxHeartbeats 4000000 in
theorem do2 {Q : Flow → Shared → Prop} {oS oO : Obj} {v₀ : Option Value} {ta : Tok} {a : Int} {l : Addr} {vs : List Value} {ns : List Int} (X₀ : (hd.heap_39 w.params).In h₀) (T : theTop mean mg mb h₀) (hl : h₀.IsList l vs.toArray) (hi : IntsAre vs ns) (hlen : ns.length ≤ 63)
    (F : Fr h₀ L s.heap (fun y => if y = Str.ofString "a" then some (.int a ta) else if y = Str.ofString "script" then some (.ref l) else m y)) (N : News h₀ L s.heap [(L + 2, oS), (L + 1, oO)]) (dO : oO.data = .cell v₀)
    (h : ∀ h' tk oO' ks t, KBa.In ks → ks.length ≤ 12 → oO'.data = .cell (some (.bytes (byteArr ks) t)) → Fr h₀ L h' (fun y => if y = Str.ofString "a" then some (.int a ta) else if y = Str.ofString "script" then some (.ref l) else m y) → News h₀ L h' [(L + 2, oS), (L + 1, oO')] → Q .next { s with heap := h', toks := tk }) :
    wpAny (model theProg w) (lawA L fa cd) (exec st2 (lawEnv L fa cd)) Q E s := by
  have e : st2 = Stmt.Assign [Expr.Name (Str.ofString "octets") _] _ _ := rfl
  rw [e]
  k_steps
  rename KBa.In _ => K5
  rename News h₀ L _ _ => N5
  exact h _ _ _ _ _ K5 (by simp only [List.length_map, List.length_take, List.length_drop]; omega) (by assumption) (by assumption) fun p hp => N5 p (List.mem_cons_of_mem _ (List.mem_cons_of_mem _ hp))

set_option maxHeartbeats 4000000 in
theorem do3 {Q : Flow → Shared → Prop} {oS oO : Obj} {v₀ : Option Value} {ta : Tok} {a : Int} {l : Addr} (X₀ : (hd.heap_39 w.params).In h₀) (T : theTop mean mg mb h₀)
    (F : Fr h₀ L s.heap (fun y => if y = Str.ofString "a" then some (.int a ta) else if y = Str.ofString "script" then some (.ref l) else m y)) (N : News h₀ L s.heap [(L + 2, oS), (L + 1, oO)]) (dS : oS.data = .cell v₀)
    (h : ∀ h' tk oS' (nn : Nat) tn, 1 ≤ nn → nn ≤ 4 → oS'.data = .cell (some (.int (nn : Int) tn)) → Fr h₀ L h' (fun y => if y = Str.ofString "a" then some (.int a ta) else if y = Str.ofString "script" then some (.ref l) else m y) → News h₀ L h' [(L + 2, oS'), (L + 1, oO)] → Q .next { s with heap := h', toks := tk }) :
    wpAny (model theProg w) (lawA L fa cd) (exec st3 (lawEnv L fa cd)) Q E s := by
  have e : st3 = Stmt.Assign [Expr.Name (Str.ofString "size") _] _ _ := rfl
  rw [e]
  k_steps
  rename News h₀ L _ _ => N5
  rename _ = Data.cell (some (Value.int _ _)) => d5
  have f0 := Int.fmod_nonneg_of_pos ((if a < 0 then -a else a).fdiv 3) (by decide : (0 : Int) < 4)
  have f1 := Int.fmod_lt_of_pos ((if a < 0 then -a else a).fdiv 3) (by decide : (0 : Int) < 4)
  have en : 1 + ((if a < 0 then -a else a).fdiv 3).fmod 4 = ((1 + ((if a < 0 then -a else a).fdiv 3).fmod 4).toNat : Int) := by omega
  rw [en] at d5
  exact h _ _ _ (1 + ((if a < 0 then -a else a).fdiv 3).fmod 4).toNat _ (by omega) (by omega) d5 (by assumption) N5
end
end

/-! ### M1 -/
section
open PySem.Calls
set_option maxRecDepth 100000
theorem law_walk {w : World} {E : Value → Shared → Prop} {s : Shared} {h₀ : Heap} {mean : ExcName → Option Value} {mg mb : Str → Option Value} {L fa : Addr} {cd : Value} {m : Str → Option Value} {Q : Flow → Shared → Prop}
    {oS oO : Obj} {v₀ v₁ : Option Value} {l : Addr} {vs : List Value} {ns : List Int} (K0 : Below callerA h₀ [] h₀) (X₀ : (hd.heap_39 w.params).In h₀) (T : theTop mean mg mb h₀) (hl : h₀.IsList l vs.toArray) (hi : IntsAre vs ns) (hlen : ns.length ≤ 63)
    (F : Fr h₀ L s.heap m) (hm : m (Str.ofString "script") = some (.ref l)) (N : News h₀ L s.heap [(L + 2, oS), (L + 1, oO)]) (dS : oS.data = .cell v₀) (dO : oO.data = .cell v₁) (hb : AllBare s.gens)
    (h : ∀ s', (∀ b o, h₀.get? b = some o → s'.heap.get? b = some o) → AllBare s'.gens → s'.os = s.os → Q (.ret (.bool true)) s') :
    wpAny (model theProg w) (lawA L fa cd) (execs lawBody (lawEnv L fa cd)) Q E s := by
  have e : lawBody = st1 :: st2 :: st3 :: lawBody.drop 3 := rfl
  rw [e]
  replace F : Fr h₀ L s.heap (put "script" (some (.ref l)) m) := (one_key hm).symm ▸ F
  refine wpAny_execs_cons (do1 X₀ T hl hi hlen F N fun h₁ tk₁ a ta F₁ N₁ => ?_)
  refine wpAny_execs_cons (do2 X₀ T hl hi hlen F₁ N₁ dO fun h₂ tk₂ oO' ks t hk hks dO' F₂ N₂ => ?_)
  refine wpAny_execs_cons (do3 X₀ T F₂ N₂ dS fun h₃ tk₃ oS' nn tn hn hn4 dS' F₃ N₃ => ?_)
  exact rest K0 X₀ T F₃ (put_same (x := "a")) N₃ dS' dO' hn hn4 hk hks hb h
end
end Mine

set_option maxRecDepth 100000 in
set_option maxHeartbeats 8000000 in
theorem PySem.Challenge.cw_co0035_01_holds : PySem.Challenge.rw_co0035_01.Holds := by
  refine Mine.hd ?_
  k_fill
  intro w s₀ s₁ mg mb G Y fa o pm cd doc dV kV ho hd hcd hD hmg hg args vals as hpre hlay hrd hwl hlo
  have KX := kIn_of Y
  have X := (Ground.X G).1
  have V := (Ground.X G).2
  have GL := glob_more (Ground.glob G (by first | k_qdec | decide +kernel) (by first | k_qdec | decide +kernel)) V
  refine Ground.open G ?_
  intro T B D TE TW
  try (refine guard_noD D (by decide +kernel) ?_; clear D)
  obtain ⟨_, _, M⟩ := bmod_of_top T
  have TA := at_of_top T
  clear hmg
  wrow_args hpre hlay hrd hwl hlo
  refine enter_call ?_
  w_top on
  have K0 := below_caller (Top.heap T)
  w_call any ho hd hcd hD T F
  clear hd TA
  k_drop
  rename IntsAre _ _ => hI
  rename Heap.IsList _ _ _ => hL
  rename News _ _ _ _ => N5
  rename ¬ (_ < _) => hlen
  rename _ = Data.cell (bindC _ _ _ (Str.ofString "octets")) => dO
  rename _ = Data.cell (bindC _ _ _ (Str.ofString "size")) => dS
  refine Mine.law_walk K0 KX T hL hI (by omega) F rfl N5 dS dO (.of_eq hg) fun s' hkeep hbare hos => ?_
  exact ⟨.inl ⟨_, _, [], rfl, fun _ => rfl, ReadsW.bool true, (by first | rfl | wrow_post), fun _ => ⟨List.nodup_nil, fun _ hm => nomatch hm⟩⟩, .of_keep hkeep, hos, hbare⟩
