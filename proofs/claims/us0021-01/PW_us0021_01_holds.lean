import PyProof.Rows.All
import Wide.All
import OpenK.AllK
import Wide.FinOn
import Lean
import PySem.Challenge.RW_us0021_01
set_option Elab.async false
set_option linter.all false
set_option pp.deepTerms false
set_option pp.deepTerms.threshold 6
set_option pp.proofs false

section
open PySem PySem.W PyProof.Rows
set_option maxRecDepth 100000
set_option maxHeartbeats 8000000
namespace Mine
open_top hd for PySem.Challenge.rw_us0021_01
end Mine
end

section
local macro_rules | `(tactic| walk_at "serves nothing") => `(tactic| skip)
local macro_rules | `(tactic| walk_at "serves nothing") => `(tactic| skip)
local macro_rules | `(tactic| walk_at "serves nothing") => `(tactic| skip)
local macro_rules | `(tactic| walk_at "serves nothing") => `(tactic| skip)
local macro_rules | `(tactic| walk_at "serves nothing") => `(tactic| skip)
local macro_rules | `(tactic| walk_at "serves nothing") => `(tactic| skip)
local macro_rules | `(tactic| walk_at "serves nothing") => `(tactic| skip)
local macro_rules | `(tactic| walk_at "serves nothing") => `(tactic| skip)
local macro_rules | `(tactic| walk_at "serves nothing") => `(tactic| skip)
local macro_rules | `(tactic| walk_at "serves nothing") => `(tactic| skip)
theorem Mine.reset1 : True := by
  w_top off
  first | (walk1; done) | exact True.intro
set_option maxRecDepth 100000
namespace Mine
open PySem PySem.W PySem.Calls PyProof.Rows

abbrev Le (h h' : Heap) : Prop := ∀ b o, h.get? b = some o → h'.get? b = some o

/-- what a quiet step does: everything that stood stands, the generators stay bare -/
def HideP (p : Prop) : Prop := p
theorem hideP {p : Prop} (h : HideP p) : p := h
structure Kp (s s' : Shared) : Prop where
  le : Le s.heap s'.heap
  os : s'.os = s.os
  bare : AllBare s.gens → AllBare s'.gens

theorem Kp.refl (s : Shared) : Kp s s := ⟨fun _ _ e => e, rfl, id⟩
theorem Kp.trans {a b c : Shared} (x : Kp a b) (y : Kp b c) : Kp a c := ⟨fun _ _ e => y.le _ _ (x.le _ _ e), y.os.trans x.os, fun g => y.bare (x.bare g)⟩

/-- room enough for n more levels -/
structure Rm (n : Nat) (A : Around) : Prop where
  hd : A.handled = none
  dp : A.depth + n ≤ 600
  un : A.units + 10 * n ≤ 9000

theorem Rm.in1 {n : Nat} {A : Around} (r : Rm (n + 1) A) : Rm n A.in1 := ⟨r.hd, by have := r.dp; simp only [Around.in1_depth]; omega, by have := r.un; simp only [Around.in1_units]; omega⟩
theorem Rm.deeper {n : Nat} {A : Around} (r : Rm (n + 1) A) (env : Env) : Rm n (A.deeper env) := ⟨r.hd, by have := r.dp; show A.depth + 1 + n ≤ 600; omega, by have := r.un; simp only [Around.deeper_units]; omega⟩
theorem Rm.less {n m : Nat} {A : Around} (r : Rm n A) (h : m ≤ n) : Rm m A := ⟨r.hd, by have := r.dp; omega, by have := r.un; omega⟩
theorem Rm.room {n : Nat} {A : Around} (r : Rm n A) : A.depth < recursionLimit := by have := r.dp; show A.depth < 1000; omega
theorem Rm.units {n : Nat} {A : Around} (r : Rm n A) : A.units < cLine := by have := r.un; show A.units < 9900; omega

section
variable {prog : Program} {w : World} {A : Around} {s : Shared} {K : Frag}
  {R : Result → Shared → Prop} {name qual : Str} {params : Arguments} {body : List Stmt} {scope : Scope} {dV kV doc pm cdv ct oc : Value} {an od : Option Addr} {osl : Array (Option Value)} {f : Addr} {args : Args} {binds : List (Str × Value)}

/-- a call of one of the text's own defs, its body walked under a frame of its own -/
theorem call0 (X : K.In s.heap) (hlim : s.heap.NoLimit) (hroom : A.depth < recursionLimit)
    (ho : K.lookup f = some ⟨oc, od, .func (fnOf name qual params body scope dV kV doc pm an cdv ct), osl⟩) (hcd : codeIn K cdv qual = true)
    (hbind : BindsTo s (fnOf name qual params body scope dV kV doc pm an cdv ct) args binds) (hloc : ∀ y ∈ binds, scope.names.lookup y.1 = some .local)
    (hcell : ∀ x ∈ scope.names, x.2 ≠ .cell) (hco : scope.isCoroutine = false) (hgen : scope.isGenerator = false) (hk : scope.kind = .function)
    (h : ∀ L h₁, Fr s.heap L h₁ (fun y => binds.reverse.lookup y) → 
      wpAny (model prog w) (A.deeper (envOf qual scope L f cdv)) (execs body (envOf qual scope L f cdv))
        (fun fl s' => R (.ok (.ret (match fl with | .ret v => v | _ => .none))) s') (fun _ _ => False)
        { s with heap := h₁, toks := s.toks + binds.length }) :
    codeAny (model prog w) A (.call (.ref f) args) R s := by
  refine codeAny_call_def (fd := fnOf name qual params body scope dV kV doc pm an cdv ct) (body := body) (binds := binds) hroom (X _ _ ho) rfl hlim (codeRec_of X hcd) rfl hbind hcell hloc (fun h₁ hns hk₁ => ?_) hco hgen hk
  exact wpAny_mono (h s.heap.objs.size h₁ ⟨hns, hk₁, Nat.le_refl _⟩) (fun _ _ x => x) (fun _ _ x => x.elim)
end
end Mine
end

section
theorem Mine.reset2 : True := by
  w_top off
  first | (walk1; done) | exact True.intro
set_option maxRecDepth 100000
namespace Mine
open PySem PySem.W PySem.Calls PyProof.Rows

/-! generators: one turn of a for loop inside a generator's body -/
section
variable {prog : Program} {w : World} {A : Around} {R : GenEnd} {Y : Protocol} {n : Nat} {s₀ : Shared} {fs : List Frame} {s : Shared} {env : Env}

def flowK (target : Expr) (it : Value) (body orelse : List Stmt) (env : Env) : Flow → Sem Fin
  | .next | .cont => .pure (.again (.forLoop target it body orelse env))
  | .brk => .pure (.done .next)
  | .ret v => .pure (.done (.ret v))

theorem seg_turnT {I : Addr} {fp wr : List Addr} {N : Nat} {Pt : Nat → Array Value → Prop} {St : Nat → Heap → Prop} {Mid : Nat → Addr → Heap → Prop} {elts : List Expr} {k : Nat} {tpos : Pos} {body orelse : List Stmt}
    (W : WalksT prog w (A.over (.forLoop (.Tuple elts k tpos) (.ref I) body orelse env) fs) I fp wr N Pt St Mid) {i : Nat} (hi : i < N) (hst : St i s.heap)
    (h : ∀ T vals h' tk, Pt i vals → h'.IsTuple T vals → St (i + 1) h' → (∀ b o, b ∉ wr → s.heap.get? b = some o → h'.get? b = some o) →
      ∀ E, wpAny (model prog w) (A.over (.forLoop (.Tuple elts k tpos) (.ref I) body orelse env) fs) (assign (.Tuple elts k tpos) env (.ref T))
        (fun _ s₂ => ∀ H gd lv, gd false = false → Seg (model prog w) A R Y n s₀ (.forLoop (.Tuple elts k tpos) (.ref I) body orelse env) ((execs body env).wrap (flowK (.Tuple elts k tpos) (.ref I) body orelse env) H gd lv) fs s₂) E { s with heap := h', toks := tk }) :
    Seg (model prog w) A R Y n s₀ (.forLoop (.Tuple elts k tpos) (.ref I) body orelse env) ((model prog w).den (.forLoop (.Tuple elts k tpos) (.ref I) body orelse env)) fs s := by
  show Seg _ A R Y n s₀ _ ((forTurn (.Tuple elts k tpos) (.ref I) body orelse env).onRaise (fun x => do noteFrame x env; theTreesLotGoes x)) fs s
  unfold forTurn
  rw [Sem.onRaise_eq_wrap]
  refine seg_bind_wrap (wpAny_standAt ?_)
  refine seg_bind_wrap (wpAny_onRaise (W.item i s _ _ hi hst fun T vals h' tk hP _ hT hM hk => ?_))
  refine seg_bind_wrap (W.go elts k tpos i T _ _ _ hM fun h₂ hst₂ hk₂ => ?_)
  have hT₂ : h₂.IsTuple T vals := by
    obtain ⟨o, ho, r⟩ := hT
    exact ⟨o, hk₂ _ _ (W.apart _ _ _ hM) ho, r⟩
  refine seg_bind_wrap (wpAny_mono (h T vals h₂ tk hP hT₂ hst₂ (fun b o hb e => hk₂ b o hb (hk b o hb e)) _) (fun _ s₃ h₃ => ?_) fun _ _ x => x)
  rw [Sem.bind_eq_wrap', Sem.wrap_wrap]
  rw [Sem.wrap_congr (execs body env) _ _ (K' := flowK (.Tuple elts k tpos) (.ref I) body orelse env) (fun f => by cases f <;> rfl) (fun e => rfl)]
  exact h₃ _ _ _ rfl

theorem seg_doneT {I : Addr} {fp wr : List Addr} {N : Nat} {Pt : Nat → Array Value → Prop} {St : Nat → Heap → Prop} {Mid : Nat → Addr → Heap → Prop} {elts : List Expr} {k : Nat} {tpos : Pos} {body : List Stmt}
    (W : WalksT prog w (A.over (.forLoop (.Tuple elts k tpos) (.ref I) body [] env) fs) I fp wr N Pt St Mid) (hst : St N s.heap)
    (h : ∀ h' tk, (∀ b o, b ∉ wr → s.heap.get? b = some o → h'.get? b = some o) →
      Seg (model prog w) A R Y n s₀ (.block [] env) (leafOf (.ok .next)) fs { s with heap := h', toks := tk }) :
    Seg (model prog w) A R Y n s₀ (.forLoop (.Tuple elts k tpos) (.ref I) body [] env) ((model prog w).den (.forLoop (.Tuple elts k tpos) (.ref I) body [] env)) fs s := by
  show Seg _ A R Y n s₀ _ ((forTurn (.Tuple elts k tpos) (.ref I) body [] env).onRaise (fun x => do noteFrame x env; theTreesLotGoes x)) fs s
  unfold forTurn
  rw [Sem.onRaise_eq_wrap]
  refine seg_bind_wrap (wpAny_standAt ?_)
  refine seg_bind_wrap (wpAny_onRaise (W.done s _ _ hst fun h' tk hk => ?_))
  refine seg_again rfl ?_
  exact h h' tk hk
end

section
variable {M : Model} {A : Around} {R : GenEnd} {Y : Protocol} {n : Nat} {s₀ : Shared} {c : Code} {fs : List Frame} {s : Shared} {env : Env}
  {K : Flow → Sem Fin} {H : Value → Sem Fin} {gd : Bool → Bool} {lv : List Value → List Value}

theorem seg_If {test : Expr} {body orelse : List Stmt} {pos : Pos}
    (h : ∀ E, wpAny M (A.over c fs) (isTrue test env (eval test env)) (fun b s' => Seg M A R Y n s₀ c ((execs (if b = true then body else orelse) env).wrap K H gd lv) fs s') E s) :
    Seg M A R Y n s₀ c ((exec (.If test body orelse pos) env).wrap K H gd lv) fs s := by
  refine seg_at ?_
  show Seg M A R Y n s₀ c ((isTrue test env (eval test env) >>= fun b => if b = true then execs body env else execs orelse env).wrap K H gd lv) fs s
  refine seg_bind_wrap (wpAny_mono (h _) (fun b s' hb => ?_) fun _ _ x => x)
  cases b
  · exact hb
  · exact hb

theorem seg_exec {st : Stmt}
    (h : ∀ E, wpAny M (A.over c fs) (exec st env) (fun f s' => Seg M A R Y n s₀ c (K f) fs s') E s) : Seg M A R Y n s₀ c ((exec st env).wrap K H gd lv) fs s :=
  seg_wrap (h _)

theorem seg_For {target iter : Expr} {body orelse : List Stmt} {pos : Pos}
    (hi : ∀ x, foldedSetIterable iter env x = pure x)
    (h : ∀ E, wpAny M (A.over c fs) (eval iter env) (fun x s' => wpAny M (A.over c fs) (pyIter x) (fun it s₂ => ∀ (p : Pos) (k : Result → Sem Fin), (∀ f, k (.ok f) = K f) → 
      Seg M A R Y n s₀ (.forLoop target it body orelse env) (M.den (.forLoop target it body orelse env)) (.ret k none (gd false) (lv []) c p [] :: fs) s₂) E s') E s) :
    Seg M A R Y n s₀ c ((exec (.For target iter body orelse pos) env).wrap K H gd lv) fs s := by
  refine seg_at ?_
  show Seg M A R Y n s₀ c ((eval iter env >>= fun v => foldedSetIterable iter env v >>= fun x => standAt iter.pos >>= fun _ => holding [x] (pyIter x) >>= fun it => runOwn (.forLoop target it body orelse env) env).wrap K H gd lv) fs s
  refine seg_bind_wrap (wpAny_mono (h _) (fun x s' hx => ?_) fun _ _ x => x)
  rw [hi]
  refine seg_bind_wrap (wpAny_pure ?_)
  refine seg_bind_wrap (wpAny_standAt ?_)
  refine seg_bind_wrap (wpAny_holding (wpAny_mono hx (fun it s₂ h₂ => ?_) fun _ _ x => x))
  refine seg_call fun p => h₂ p _ fun f => ?_
  rfl
end
end Mine
end

section
local macro_rules | `(tactic| walk_at "serves nothing") => `(tactic| skip)
local macro_rules | `(tactic| walk_at "serves nothing") => `(tactic| skip)
local macro_rules | `(tactic| walk_at "serves nothing") => `(tactic| skip)
local macro_rules | `(tactic| walk_at "serves nothing") => `(tactic| skip)
local macro_rules | `(tactic| walk_at "serves nothing") => `(tactic| skip)
local macro_rules | `(tactic| walk_at "serves nothing") => `(tactic| skip)
local macro_rules | `(tactic| walk_at "serves nothing") => `(tactic| skip)
local macro_rules | `(tactic| walk_at "serves nothing") => `(tactic| skip)
local macro_rules | `(tactic| walk_at "serves nothing") => `(tactic| skip)
local macro_rules | `(tactic| walk_at "serves nothing") => `(tactic| skip)
theorem Mine.reset3 : True := by
  w_top off
  first | (walk1; done) | exact True.intro
set_option maxRecDepth 100000
set_option maxHeartbeats 1000000
namespace Mine
open PySem PySem.W PySem.Calls PyProof.Rows

def stAt (b : List Stmt) (i : Nat) : Stmt := b.getD i (.Pass ⟨0, 0, 0, 0⟩)
def bodyOf : Stmt → List Stmt
  | .FunctionDef _ _ b _ _ _ _ _ _ _ => b
  | .ClassDef _ _ _ b _ _ _ _ _ _ _ => b
  | .For _ _ b _ _ => b
  | _ => []
def scopeOf : Stmt → Scope
  | .FunctionDef _ _ _ _ _ _ s _ _ _ => s
  | _ => { kind := .function, names := [], isGenerator := false, isCoroutine := false, more := [] }
def targetOf : Stmt → Expr
  | .For t _ _ _ _ => t
  | _ => .Constant .none 0 ⟨0, 0, 0, 0⟩
def mainSt (i : Nat) : Stmt := stAt PySem.Challenge.pw_us0021_01.main.body i

abbrev genBody := bodyOf (mainSt 3)
abbrev genScope := scopeOf (mainSt 3)
abbrev genFor := stAt genBody 2

theorem bs_eq : Str.ofString "\\" = ⟨#[92]⟩ := by decide +kernel

def Tok1 (t : List Nat) : Prop := (∃ c, t = [c] ∧ c ≠ 92) ∨ ∃ c, t = [92, c]

def itemsOf : Nat → List (List Nat) → List (Int × Str)
  | _, [] => []
  | p, t :: T => (((p + t.length - 1 : Nat) : Int), ⟨t.toArray⟩) :: itemsOf (p + t.length) T

theorem itemsOf_length : ∀ p T, (itemsOf p T).length = T.length
  | _, [] => rfl
  | p, t :: T => by simp [itemsOf, itemsOf_length]

theorem draws_str {prog : Program} {w : World} {A : Around} (hh : A.handled = none) (it : Addr) (x : Str) (t : Tok) :
    Draws prog w A it [it] x.cps.size (fun i v => ∃ c u, x.cps[i]? = some c ∧ v = .str ⟨#[c]⟩ u) (fun i h => h.IsStrIter it (strIterType x) x t i) := by
  unfold strIterType
  split
  · exact Draws.strAscii hh it x t
  · exact Draws.strWide hh it x t

def genY (its : List (Int × Str)) (L e it : Addr) : Protocol := fun n s₀ v s₁ kap =>
  (∃ p c a t1 t2, n < its.length ∧ its[its.length - 1 - n]? = some (p, c) ∧ v = .ref a ∧ s₁.heap.get? a = some { cls := .type "tuple", data := .seq #[.int p t1, .str c t2] }) ∧
  GenSince L [e, it] s₀ s₁ ∧ (∀ b ∈ [L, e, it], ∃ o, s₁.heap.get? b = some o) ∧ ∀ s'' : Shared, (∀ b ∈ [L, e, it], ∀ o, s₁.heap.get? b = some o → s''.heap.get? b = some o) → kap (.send .none) s''
def genP (L e it : Addr) (n : Nat) (s₀ s₁ : Shared) : Prop := n = 0 ∧ GenSince L [e, it] s₀ s₁
def genR (L e it : Addr) : GenEnd := fun n s₀ r s₁ => r = .ok (.ret .none) ∧ genP L e it n s₀ s₁

section
variable {w : World} {A : Around} {s : Shared} {f L e it : Addr} {cd : Value} {x : Str} {tx : Tok} {its : List (Int × Str)} {m : Str → Option Value}

abbrev genEnv (L f : Addr) (cd : Value) : Env := envOf "_iter_escaped_chars" genScope L f cd
abbrev genLoop (L f e : Addr) (cd : Value) : Code := .forLoop (targetOf genFor) (.ref e) (bodyOf genFor) [] (genEnv L f cd)

theorem gen_loop {prog : Program} (hh : A.handled = none) (hLe : L ≠ e) (hLi : L ≠ it) (hei : e ≠ it)
    {k : Result → Sem PySem.Fin} {l : List Value} {c : Code} {p₁ : Pos}
    (hend : ∀ (s₀ s : Shared) m, s.heap.Ns L m → m "escape" = some (.bool false) → GenSince L [e, it] s₀ s →
      Seg (model prog w) A (genR L e it) (genY its L e it) 0 s₀ (.block [] (genEnv L f cd)) (leafOf (.ok .next)) [.ret k none false l c p₁ []] s) :
    ∀ (T : List (List Nat)) (p : Nat) (dn : List (Int × Str)) (s₀ s : Shared) (old : Value) m, (∀ t ∈ T, Tok1 t) → x.cps.toList.drop p = T.flatten → p ≤ x.cps.size → its = dn ++ itemsOf p T →
      IsEnum s.heap e it p old → s.heap.IsStrIter it (strIterType x) x tx p → s.heap.Ns L m → m "escape" = some (.bool false) → GenSince L [e, it] s₀ s →
      Seg (model prog w) A (genR L e it) (genY its L e it) T.length s₀ (genLoop L f e cd) ((model prog w).den (genLoop L f e cd)) [.ret k none false l c p₁ []] s := by
  have W : ∀ c', WalksT prog w (A.over c' [.ret k none false l c p₁ []]) e (e :: [it]) [e, it] x.cps.size
      (fun i vals => ∃ t v, (∃ c u, x.cps[i]? = some c ∧ v = .str ⟨#[c]⟩ u) ∧ vals = #[.int i t, v])
      (fun i h => (∃ old, IsEnum h e it i old) ∧ h.IsStrIter it (strIterType x) x tx i)
      (fun i T h => (∃ x, IsEnumOut h e it ((i : Int) + 1) x T) ∧ h.IsStrIter it (strIterType x) x tx (i + 1) ∧ T ≠ e ∧ T ≠ it) := fun c' =>
    WalksT.enumerateD (draws_str (A := (A.over c' [.ret k none false l c p₁ []]).in1) hh it x tx) e hei (by simpa using hei) (by simp)
  have there : ∀ (h : Heap) {m : Str → Option Value} {i : Int} {old : Value} {k : Nat}, h.Ns L m → IsEnum h e it i old → h.IsStrIter it (strIterType x) x tx k → ∀ o' : Obj, ∀ b ∈ [L, e, it], ∃ o, (h.push o').get? b = some o := by
    intro h m i old k hn he hit o' b hb
    obtain ⟨o, _, _, ho, _⟩ := hn
    obtain ⟨o₂, ho₂, _⟩ := hit
    rcases List.mem_cons.mp hb with rfl | hb
    · exact ⟨_, Heap.get?_push_of_some _ ho⟩
    rcases List.mem_cons.mp hb with rfl | hb
    · exact ⟨_, Heap.get?_push_of_some _ he⟩
    · rw [List.mem_singleton.mp hb]; exact ⟨_, Heap.get?_push_of_some _ ho₂⟩
  have turn : ∀ (n p c₀ : Nat) (s₀ s : Shared) (old : Value) m, x.cps[p]? = some c₀ → IsEnum s.heap e it p old → s.heap.IsStrIter it (strIterType x) x tx p → s.heap.Ns L m → GenSince L [e, it] s₀ s →
      (∀ (s' : Shared) m' t u old', s'.heap.Ns L m' → m' "pos" = some (.int p t) → m' "ch" = some (.str ⟨#[c₀]⟩ u) → m' "escape" = m "escape" → IsEnum s'.heap e it ((p + 1 : Nat) : Int) old' →
        s'.heap.IsStrIter it (strIterType x) x tx (p + 1) → GenSince L [e, it] s₀ s' → ∀ H gd lv, gd false = false →
        Seg (model prog w) A (genR L e it) (genY its L e it) n s₀ (genLoop L f e cd) ((execs (bodyOf genFor) (genEnv L f cd)).wrap (flowK (targetOf genFor) (.ref e) (bodyOf genFor) [] (genEnv L f cd)) H gd lv) [.ret k none false l c p₁ []] s') →
      Seg (model prog w) A (genR L e it) (genY its L e it) n s₀ (genLoop L f e cd) ((model prog w).den (genLoop L f e cd)) [.ret k none false l c p₁ []] s := by
    intro n p c₀ s₀ s old m hc he hit hn hs h
    have hlt : p < x.cps.size := (Array.getElem?_eq_some_iff.mp hc).1
    refine seg_turnT (W _) hlt ⟨⟨_, he⟩, hit⟩ fun a vals h' tk hP ha hst hk E => ?_
    obtain ⟨t, v, ⟨c₁, u, hc₁, rfl⟩, rfl⟩ := hP
    obtain rfl : c₁ = c₀ := Option.some.inj (hc₁.symm.trans hc)
    obtain ⟨⟨old', he'⟩, hit'⟩ := hst
    have hn' := hn.at' fun o ho => hk _ o (by simp [hLe, hLi]) ho
    refine wpAny_assign_Tuple hh ha rfl rfl fun h₂ hx₂ => ?_
    replace hx₂ : ∀ b o, h'.get? b = some o → h₂.get? b = some o := fun b o ho => hx₂ b o (Nat.ne_of_lt (Heap.lt_size ho)) ho
    show wpAny _ _ (do holding [_] (assign (.Name "pos" _) _ (.int p t)); do holding [] (assign (.Name "ch" _) _ _); pure ()) _ _ _
    refine wpAny_bind (wpAny_holding (wpAny_assign_Name (wpAny_storeName_local rfl (hn'.keeps hx₂) (fun h₃ hn₃ hs₃ => ?_))))
    refine wpAny_bind (wpAny_holding (wpAny_assign_Name (wpAny_storeName_local rfl hn₃ (fun h₄ hn₄ hs₄ => wpAny_pure ?_))))
    have up : ∀ b o, b ≠ L → h'.get? b = some o → h₄.get? b = some o := fun b o hb ho => hs₄.extBut b o hb (hs₃.extBut b o hb (hx₂ b o ho))
    refine h _ _ t u old' hn₄ rfl rfl rfl (up _ _ (Ne.symm hLe) he') (by obtain ⟨o, ho, r⟩ := hit'; exact ⟨o, up _ _ (Ne.symm hLi) ho, r⟩) (hs.step fun b o hb hw ho => up _ _ hb (hk _ _ hw ho))
  intro T
  induction T with
  | nil =>
    intro p dn s₀ s old m _ hx hp hits he hit hn hm hs
    have hpx : p = x.cps.size := by
      have : (x.cps.toList.drop p).length = 0 := by rw [hx]; rfl
      rw [List.length_drop, Array.length_toList] at this
      omega
    subst hpx
    refine seg_doneT (W _) ⟨⟨_, he⟩, hit⟩ fun h' tk hk => ?_
    refine hend _ _ m (hn.at' fun o ho => hk _ o (by simp [hLe, hLi]) ho) hm (hs.step fun b o _ hb ho => hk b o hb ho)
  | cons t T ih =>
    intro p dn s₀ s old m hT hx hp hits he hit hn hm hs
    have ht := hT t (List.mem_cons_self ..)
    have hT' : ∀ t ∈ T, Tok1 t := fun a ha => hT a (List.mem_cons_of_mem _ ha)
    have hxi : ∀ i, x.cps[p + i]? = (t ++ T.flatten)[i]? := fun i => by
      rw [← Array.getElem?_toList, ← List.getElem?_drop, hx]; rfl
    have hlen : its.length - 1 - T.length = dn.length := by
      rw [hits, List.length_append, itemsOf_length]; simp only [List.length_cons]; omega
    have hget : its[its.length - 1 - T.length]? = (itemsOf p (t :: T)).head? := by
      rw [hlen, hits, List.getElem?_append_right (Nat.le_refl _), Nat.sub_self]; rfl
    have hlt : T.length < its.length := by
      rw [hits, List.length_append, itemsOf_length]; simp only [List.length_cons]; omega
    rcases ht with ⟨c₀, rfl, hc₀⟩ | ⟨c₀, rfl⟩
    · have hpx : p < x.cps.size := (Array.getElem?_eq_some_iff.mp (hxi 0)).1
      refine turn _ p c₀ s₀ s old m (hxi 0) he hit hn hs fun s' m' t u old' hn' hpos hch hesc he' hit' hs' H gd lv hgd => ?_
      refine seg_execs_cons (seg_If fun E => ?_)
      refine isTrue_plain (wpAny_Name (wpAny_loadName_local rfl rfl hn' (hesc.trans hm) (wpAny_truthy_bool ?_)))
      rw [if_neg Bool.false_ne_true]
      refine seg_execs_cons (seg_If fun E => ?_)
      refine wpAny_isTrue_Compare1 (wpAny_Name (wpAny_loadName_local rfl rfl hn' hch (Constant_str (P.eq_str (wpAny_truthy_bool ?_)))))
      rw [if_neg (by rw [bs_eq]; simpa using hc₀)]
      refine seg_execs_cons (seg_Expr_Yield rfl hgd rfl ?_)
      refine wpAny_Tuple (wpAny_items_cons (wpAny_Name (wpAny_loadName_local rfl rfl hn' hpos (wpAny_items_cons (wpAny_Name (wpAny_loadName_local rfl rfl hn' hch (wpAny_items_nil ⟨by show (2 : Nat) ≤ sizeLine; decide, fun kap hk => ?_⟩)))))))
      refine ⟨⟨_, _, _, t, u, hlt, hget, rfl, Heap.get?_push_size _ rfl⟩, ?_, ?_, fun s'' hal => hk _ _ ?_⟩
      · exact hs'.step fun b o _ _ ho => Heap.get?_push_of_some _ ho
      · exact there _ hn' he' hit' _
      refine seg_again rfl (ih (p + 1) (dn ++ [((p : Int), ⟨#[c₀]⟩)]) s'' s'' old' m' hT' ?_ hpx ?_ ?_ ?_ ?_ (hesc.trans hm) (GenSince.refl ..))
      · rw [← List.drop_drop, hx]; rfl
      · rw [hits, List.append_assoc]; rfl
      · exact hal _ (by simp) _ (Heap.get?_push_of_some _ he')
      · obtain ⟨o, ho, r⟩ := hit'; exact ⟨o, hal _ (by simp) _ (Heap.get?_push_of_some _ ho), r⟩
      · exact hn'.at' fun o ho => hal _ (by simp) _ (Heap.get?_push_of_some _ ho)
    · have hpx : p + 1 < x.cps.size := (Array.getElem?_eq_some_iff.mp (hxi 1)).1
      refine turn _ p 92 s₀ s old m (hxi 0) he hit hn hs fun s' m' t u old' hn' hpos hch hesc he' hit' hs' H gd lv hgd => ?_
      refine seg_execs_cons (seg_If fun E => ?_)
      refine isTrue_plain (wpAny_Name (wpAny_loadName_local rfl rfl hn' (hesc.trans hm) (wpAny_truthy_bool ?_)))
      rw [if_neg Bool.false_ne_true]
      refine seg_execs_cons (seg_If fun E => ?_)
      refine wpAny_isTrue_Compare1 (wpAny_Name (wpAny_loadName_local rfl rfl hn' hch (Constant_str (P.eq_str (wpAny_truthy_bool ?_)))))
      rw [if_pos (by rw [bs_eq]; rfl)]
      refine seg_execs_cons (seg_exec fun E => ?_)
      refine wpAny_Assign_Name (wpAny_Constant_bool (wpAny_storeName_local rfl hn' fun h₂ hn₂ hs₂ => ?_))
      have up₂ : ∀ b o, b ≠ L → s'.heap.get? b = some o → h₂.get? b = some o := fun b o hb ho => hs₂.extBut b o hb ho
      refine seg_again rfl (turn _ (p + 1) c₀ s₀ _ old' _ (hxi 1) (up₂ _ _ (Ne.symm hLe) he') (by obtain ⟨o, ho, r⟩ := hit'; exact ⟨o, up₂ _ _ (Ne.symm hLi) ho, r⟩) hn₂ (hs'.step fun b o hb _ ho => up₂ b o hb ho)
        fun s₃ m₃ t₃ u₃ old₃ hn₃ hpos₃ hch₃ hesc₃ he₃ hit₃ hs₃ H gd lv hgd => ?_)
      refine seg_execs_cons (seg_If fun E => ?_)
      refine isTrue_plain (wpAny_Name (wpAny_loadName_local rfl rfl hn₃ (hesc₃.trans rfl) (wpAny_truthy_bool ?_)))
      rw [if_pos rfl]
      refine seg_execs_cons (seg_Expr_Yield rfl hgd rfl ?_)
      refine wpAny_Tuple (wpAny_items_cons (wpAny_Name (wpAny_loadName_local rfl rfl hn₃ hpos₃ (wpAny_items_cons (wpAny_BinOp (Constant_str (wpAny_Name (wpAny_loadName_local rfl rfl hn₃ hch₃ (SB.add (fun t' k' => ?_) ?hsz)))))))))
      case hsz => show (1 : Nat) + 1 ≤ sizeLine; decide
      refine wpAny_items_nil ⟨by show (2 : Nat) ≤ sizeLine; decide, fun kap hk => ?_⟩
      refine ⟨⟨_, _, _, t₃, t', hlt, hget, rfl, Heap.get?_push_size _ rfl⟩, ?_, ?_, fun s'' hal => hk _ _ ?_⟩
      · exact hs₃.step fun b o _ _ ho => Heap.get?_push_of_some _ ho
      · exact there _ hn₃ he₃ hit₃ _
      have hn'' : s''.heap.Ns L m₃ := hn₃.at' fun o ho => hal _ (by simp) _ (Heap.get?_push_of_some _ ho)
      refine seg_execs_cons (seg_exec fun E => ?_)
      refine wpAny_Assign_Name (wpAny_Constant_bool (wpAny_storeName_local rfl hn'' fun h₄ hn₄ hs₄ => ?_))
      have up₄ : ∀ b ∈ [L, e, it], ∀ o, b ≠ L → s₃.heap.get? b = some o → h₄.get? b = some o := fun b hb o hbL ho => hs₄.extBut b o hbL (hal b hb _ (Heap.get?_push_of_some _ ho))
      refine seg_again rfl (ih (p + 2) (dn ++ [(((p + 1 : Nat) : Int), ⟨#[92, c₀]⟩)]) s'' _ old₃ _ hT' ?_ hpx ?_ ?_ ?_ hn₄ rfl ((GenSince.refl ..).step fun b o hb _ ho => hs₄.extBut b o hb ho))
      · rw [← List.drop_drop, hx]; rfl
      · rw [hits, List.append_assoc]; rfl
      · exact up₄ _ (by simp) _ (Ne.symm hLe) he₃
      · obtain ⟨o, ho, r⟩ := hit₃; exact ⟨o, up₄ _ (by simp) _ (Ne.symm hLi) ho, r⟩
end
end Mine
end

section
theorem Mine.reset4 : True := by
  w_top off
  first | (walk1; done) | exact True.intro
set_option maxRecDepth 100000
set_option maxHeartbeats 8000000
namespace Mine
open PySem PySem.W PySem.Calls PyProof.Rows
theorem fill : PySem.Challenge.rw_us0021_01.foot = PySem.Challenge.rw_us0021_01.foot ∧ hd.heap_39 = hd.heap_39 := by
  k_fill
  exact ⟨rfl, rfl⟩

theorem gen_start {prog : Program} {w : World} {A : Around} {s : Shared} {h₀ : Heap} {f L : Addr} {cd : Value} {x : Str} {tx : Tok} {p : Program} {loose : List Str} {mean : ExcName → Option Value} {mg mb : Str → Option Value}
    (X : (hd.heap_39 w.params).In h₀) (T : Top p loose mean mg mb h₀) (hh : A.handled = none) (F : Fr h₀ L s.heap (fun y => [(("addr" : Str), Value.str x tx)].reverse.lookup y))
    (W : List (List Nat)) (hW : ∀ t ∈ W, Tok1 t) (hx : x.cps.toList = W.flatten) :
    Seg (model prog w) A (genR L (s.heap.objs.size + 1) s.heap.objs.size) (genY (itemsOf 0 W) L (s.heap.objs.size + 1) s.heap.objs.size) W.length s (.func genBody (genEnv L f cd)) ((model prog w).den (.func genBody (genEnv L f cd))) [] s := by
  refine seg_func ?_
  refine seg_execs_cons (seg_exec fun E => ?_)
  refine wpAny_Assign_Name (wpAny_Constant_int (wpAny_storeName_local rfl F.ns fun h₁ hn₁ hs₁ => ?_))
  have F₁ := F.set hn₁ hs₁
  refine seg_execs_cons (seg_exec fun E => ?_)
  refine wpAny_Assign_Name (wpAny_Constant_bool (wpAny_storeName_local rfl F₁.ns fun h₂ hn₂ hs₂ => ?_))
  have F₂ := F₁.set hn₂ hs₂
  have hsz : h₂.objs.size = s.heap.objs.size := hs₂.1.trans hs₁.1
  have up₂ : ∀ b o, b ≠ L → s.heap.get? b = some o → h₂.get? b = some o := fun b o hb ho => hs₂.extBut b o hb (hs₁.extBut b o hb ho)
  clear F F₁
  refine seg_execs_cons (seg_For (fun _ => rfl) fun E => ?_)
  have N : News h₀ L h₂ [] := News.nil
  unfold genEnv genScope
  k_steps
  refine call_enumerate_str fun h₃ he₃ hit₃ hsz₃ hk₃ => ?_
  replace he₃ : IsEnum h₃ (h₂.objs.size + 1) h₂.objs.size 0 .none := he₃
  replace hit₃ : h₃.IsStrIter h₂.objs.size (strIterType x) x tx 0 := hit₃
  replace hsz₃ : h₃.objs.size = h₂.objs.size + 2 := hsz₃
  replace hk₃ : ∀ b o, h₂.get? b = some o → h₃.get? b = some o := hk₃
  rw [hsz] at he₃ hit₃ hsz₃
  have hL : L < s.heap.objs.size := by rw [← hsz]; exact F₂.ns.lt
  show wpAny (model prog w) _ (pyIter (.ref (h₂.objs.size + 1))) _ E { s with heap := h₃, toks := _ }
  rw [hsz]
  refine (WalksT.enumerateD (draws_str (A := (Around.over A _ []).in1) hh s.heap.objs.size x tx) (s.heap.objs.size + 1) (Nat.succ_ne_self _) (by simp) (by simp)).self 0 _ _ _ ⟨⟨_, he₃⟩, hit₃⟩ ?_
  intro p₁ k hk
  refine gen_loop hh (Nat.ne_of_lt (Nat.lt_succ_of_lt hL)) (Nat.ne_of_lt hL) (Nat.succ_ne_self _) ?_ W 0 [] s _ .none (fun y => if y = "escape" then some (.bool false) else if y = "pos" then some (.int 0 s.toks) else [(("addr" : Str), Value.str x tx)].reverse.lookup y)
    hW hx (Nat.zero_le _) rfl he₃ hit₃ (F₂.ns.keeps hk₃) rfl ((GenSince.refl ..).step fun b o hb _ ho => hk₃ _ _ (up₂ b o hb ho))
  intro s₀ s₁ m₁ hn₁ hm₁ hs₁
  refine seg_leaf _ ?_
  rw [hk]
  refine seg_execs_cons (seg_If fun E => ?_)
  refine isTrue_plain (wpAny_Name (wpAny_loadName_local rfl rfl hn₁ hm₁ (wpAny_truthy_bool ?_)))
  rw [if_neg Bool.false_ne_true]
  exact seg_end (.ok (.ret .none)) ⟨rfl, rfl, hs₁⟩
end Mine
end

section
local macro_rules | `(tactic| walk_at "serves nothing") => `(tactic| skip)
local macro_rules | `(tactic| walk_at "serves nothing") => `(tactic| skip)
local macro_rules | `(tactic| walk_at "serves nothing") => `(tactic| skip)
local macro_rules | `(tactic| walk_at "serves nothing") => `(tactic| skip)
local macro_rules | `(tactic| walk_at "serves nothing") => `(tactic| skip)
local macro_rules | `(tactic| walk_at "serves nothing") => `(tactic| skip)
local macro_rules | `(tactic| walk_at "serves nothing") => `(tactic| skip)
local macro_rules | `(tactic| walk_at "serves nothing") => `(tactic| skip)
local macro_rules | `(tactic| walk_at "serves nothing") => `(tactic| skip)
local macro_rules | `(tactic| walk_at "serves nothing") => `(tactic| skip)
theorem Mine.reset5 : True := by
  w_top off
  first | (walk1; done) | exact True.intro
set_option maxRecDepth 100000
set_option maxHeartbeats 8000000
namespace Mine
open PySem PySem.W PySem.Calls PyProof.Rows
theorem fill2 : PySem.Challenge.rw_us0021_01.foot = PySem.Challenge.rw_us0021_01.foot ∧ hd.heap_39 = hd.heap_39 := by
  k_fill
  exact ⟨rfl, rfl⟩

section
variable {prog : Program} {w : World} {A : Around} {s : Shared} {K : Frag}
  {R : Result → Shared → Prop} {name qual : Str} {params : Arguments} {body : List Stmt} {scope : Scope} {dV kV doc pm cdv ct oc : Value} {an od : Option Addr} {osl : Array (Option Value)} {f : Addr} {args : Args} {binds : List (Str × Value)}

theorem call_gen0 (X : K.In s.heap) (hlim : s.heap.NoLimit) (hroom : A.depth < recursionLimit)
    (ho : K.lookup f = some ⟨oc, od, .func (fnOf name qual params body scope dV kV doc pm an cdv ct), osl⟩) (hcd : codeIn K cdv qual = true)
    (hbind : bindArgs (fnOf name qual params body scope dV kV doc pm an cdv ct) args = pure binds) (hloc : ∀ y ∈ binds, scope.names.lookup y.1 = some .local)
    (hcell : ∀ x ∈ scope.names, x.2 ≠ .cell) (hco : scope.isCoroutine = false) (hgen : scope.isGenerator = true) (hk : scope.kind = .function)
    (h : ∀ h₁ k n1 n2, Fr s.heap s.heap.objs.size h₁ (fun y => binds.reverse.lookup y) → h₁.objs.size = s.heap.objs.size + 1 → 
      R (.ok (.ret (.ref (s.heap.objs.size + 1)))) { s with gens := s.gens.push (.fresh (.func body (envOf qual scope s.heap.objs.size f cdv))), toks := k, heap := h₁.push { cls := .type "generator", data := .fields #[.int s.gens.size 0, n1, n2] } }) :
    codeAny (model prog w) A (.call (.ref f) args) R s := by
  refine codeAny_call_generator hroom (X _ _ ho) rfl hco hgen rfl (codeRec_of X hcd) ?_
  rw [hbind]
  refine wpAny_pure (wpAny_newFunctionEnv hcell hloc (fun h₁ hns hsb => ⟨hlim.fresh _ hsb, ?_⟩) hk)
  have hsz : h₁.objs.size = s.heap.objs.size + 1 := by rw [hsb.1]; simp [Heap.push]
  have := h h₁ (s.toks + binds.length + 1 + 1) (.str name (s.toks + binds.length)) (.str qual (s.toks + binds.length + 1)) ⟨hns, fun b o e => hsb.extBut b o (Nat.ne_of_lt (Heap.lt_size e)) (Heap.get?_push_of_some _ e), Nat.le_refl _⟩ hsz
  rw [← hsz] at this
  exact this
end

abbrev SS := Int × Option Int × List Str
def stripStep (x : Str) (σ : SS) (i : Int × Str) : SS :=
  if i.2 == "\"" then match σ.2.1 with
    | none => (σ.1, some i.1, σ.2.2)
    | some q => (i.1 + 1, none, if σ.1 == q then σ.2.2 else σ.2.2 ++ [Txt.slice x (some σ.1) (some q)])
  else σ
def stripEnd (x : Str) (σ : SS) : List Str := if σ.1 < x.length then σ.2.2 ++ [Txt.slice x (some σ.1) none] else σ.2.2
def stripVal (x : Str) (its : List (Int × Str)) : Str := Txt.join "" (stripEnd x (its.foldl (stripStep x) (0, none, [])))

theorem letOwned_gen {M : Model} {A : Around} {E : Value → Shared → Prop} {s : Shared} {g a : Addr} {fs : Array Value} {elts : List Expr} {k : Nat} {pos : Pos} {Q : Unit → Shared → Prop}
    (h : s.heap.get? g = some { cls := .type "generator", data := .fields fs }) (hQ : Q () s) : wpAny M A (letOwnedTupleGo (.Tuple elts k pos) (.ref g) (.ref a)) Q E s := by
  unfold letOwnedTupleGo
  refine wpAny_bind (wpAny_load h ?_)
  show wpAny _ A (if (["enumerate", "zip", "dict_itemiterator", "dict_reverseitemiterator", "odict_iterator", "itertools.zip_longest", "itertools.pairwise"].contains "generator" && _) = true then _ else _) Q E s
  rw [if_neg (by simp)]
  exact wpAny_pure hQ

theorem frCast {h₀ h : Heap} {L : Addr} {m m' : Str → Option Value} (F : Fr h₀ L h m) (e : ∀ y, m y = m' y) : Fr h₀ L h m' := (funext e : m = m') ▸ F

theorem setGen_push {s : Shared} {gs : GenState} {gens : Array GenState} {x : GenState} (h : s.gens = gens.push gs) : s.setGen gens.size x = { s with gens := gens.push x } := by
  simp only [Shared.setGen, h]
  congr 1
  apply Array.ext'
  simp [Array.toList_setIfInBounds]

def optI : Option Int → Tok → Value
  | none, _ => .none
  | some i, t => .int i t

theorem strip_bound (x : Str) : ∀ (its : List (Int × Str)) (σ : SS) (n : Nat), (∀ y ∈ σ.2.2, y.length ≤ x.length) → σ.2.2.length ≤ n →
    (∀ y ∈ (its.foldl (stripStep x) σ).2.2, y.length ≤ x.length) ∧ (its.foldl (stripStep x) σ).2.2.length ≤ n + its.length
  | [], σ, n, h, hn => ⟨h, by simpa using hn⟩
  | i :: its, σ, n, h, hn => by
    have key : (∀ y ∈ (stripStep x σ i).2.2, y.length ≤ x.length) ∧ (stripStep x σ i).2.2.length ≤ n + 1 := by
      unfold stripStep
      split
      · split
        · exact ⟨h, by simpa using Nat.le_succ_of_le hn⟩
        · dsimp only
          split
          · exact ⟨h, Nat.le_succ_of_le hn⟩
          · refine ⟨fun y hy => ?_, by simpa using hn⟩
            rcases List.mem_append.mp hy with hy | hy
            · exact h y hy
            · rw [List.mem_singleton.mp hy]; exact Txt.slice_le _ _ _
      · exact ⟨h, Nat.le_succ_of_le hn⟩
    have := strip_bound x its (stripStep x σ i) (n + 1) key.1 key.2
    refine ⟨this.1, ?_⟩
    have h2 := this.2
    simp only [List.foldl_cons, List.length_cons]
    omega

theorem sum_le_of {f : Str → Nat} {B : Nat} : ∀ (l : List Str), (∀ y ∈ l, f y ≤ B) → (l.map f).sum ≤ l.length * B
  | [], _ => by simp
  | a :: l, h => by
    have h1 := h a (List.mem_cons_self ..)
    have h2 := sum_le_of l fun y hy => h y (List.mem_cons_of_mem _ hy)
    simp only [List.map_cons, List.sum_cons, List.length_cons]
    rw [Nat.add_mul]; omega

theorem toks_le : ∀ (W : List (List Nat)), (∀ t ∈ W, Tok1 t) → W.length ≤ W.flatten.length
  | [], _ => by simp
  | t :: W, h => by
    have h1 : 1 ≤ t.length := by rcases h t (List.mem_cons_self ..) with ⟨c, rfl, _⟩ | ⟨c, rfl⟩ <;> simp
    have h2 := toks_le W fun y hy => h y (List.mem_cons_of_mem _ hy)
    simp only [List.flatten_cons, List.length_append, List.length_cons]; omega

structure StripJ (prog : Program) (w : World) (A : Around) (s : Shared) (L D g Lg e it : Addr) (gobj : Obj) (x : Str) (tx : Tok) (its : List (Int × Str)) (i : Nat) (s' : Shared) : Prop where
  le : i ≤ its.length
  ex : ∃ h' tk gs vp vc t1 t2 ys n, s' = { s with heap := h', gens := s.gens.push gs, toks := tk } ∧
    Fr s.heap L h' (fun y => if y = "ch" then vc else if y = "pos" then vp else if y = "result" then some (.ref D) else
      if y = "open_pos" then some (optI (((its.take i).foldl (stripStep x) (0, none, [])).2.1) t1) else if y = "start" then some (.int ((its.take i).foldl (stripStep x) (0, none, [])).1 t2) else
      [(("addr" : Str), Value.str x tx)].reverse.lookup y) ∧
    News s.heap L h' [(D, PySem.W.listOf ys.toArray n), (g, gobj)] ∧ StrsAre ys ((its.take i).foldl (stripStep x) (0, none, [])).2.2 ∧
    gs.Goes (model prog w) A.in1 (genR Lg e it) (genY its Lg e it) (its.length - i) (.send .none) { s' with gens := s.gens.push .running }

theorem strip_call {prog : Program} {w : World} {A : Around} {s : Shared} {p : Program} {loose : List Str} {mean : ExcName → Option Value} {mg mb : Str → Option Value}
  (X : (hd.heap_39 w.params).In s.heap) (T : Top p loose mean mg mb s.heap) (r : Rm 10 A) {x : Str} {tx : Tok} (hlen : x.length ≤ 1000)
  (hq : 34 ∈ x.cps.toList) (W : List (List Nat)) (hW : ∀ t ∈ W, Tok1 t) (hx : x.cps.toList = W.flatten)
  {R : Result → Shared → Prop} (hR : ∀ s' t, Kp s s' → R (.ok (.ret (.str (stripVal x (itemsOf 0 W)) t))) s') : codeAny (model prog w) A (.call (.ref 52) ⟨[.str x tx], []⟩) R s := by
  have hWl : W.length ≤ 1000 := by
    have h1 := toks_le W hW
    rw [← hx, Array.length_toList] at h1
    exact Nat.le_trans h1 hlen
  refine' call0 X T.nolimit r.room ?k6 ?k7 ?k9 ?kB ?c5 ?c2 ?c3 ?c4 ?_
  case k6 => k_is
  case k7 => k_is
  case k9 => exact BindsTo.of_eq rfl
  case kB => exact locs rfl
  case c5 => decide
  case c2 => exact rfl
  case c3 => exact rfl
  case c4 => exact rfl
  intro L h₁ F
  have N : News s.heap L h₁ [] := News.nil
  k_steps
  · rename_i hcon
    exfalso
    have := StrLaws.found_one x 34
    rw [show (⟨#[34]⟩ : Str) = Str.ofString "\"" from by decide +kernel, hcon] at this
    simp [hq] at this
  rename_i D _ _ h₃ F₃ N₃
  obtain ⟨t0, F₃⟩ : ∃ t0, Fr s.heap L h₃ (fun y => if y = "result" then some (.ref D) else if y = "open_pos" then some .none else if y = "start" then some (.int 0 t0) else [(("addr" : Str), Value.str x tx)].reverse.lookup y) := ⟨_, F₃⟩
  refine wpAny_For ?_
  k_steps
  refine wpAny_call ?_
  refine' call_gen0 (Frag.In.keeps X F₃.keep) (T.nolimit.keeps F₃.keep) (r.deeper _).room ?k6 ?k7 ?kb ?kB ?c5 ?c2 ?c3 ?c4 ?_
  case k6 => k_is
  case k7 => k_is
  case kb => exact rfl
  case kB => exact locs rfl
  case c5 => decide
  case c2 => exact rfl
  case c3 => exact rfl
  case c4 => exact rfl
  intro h₄ k₄ n1 n2 F₄ hsz₄
  dsimp only
  have hg₀ : h₃.objs.size + 1 = h₄.objs.size := hsz₄.symm
  have hG : (h₄.push { cls := .type "generator", data := .fields #[.int s.gens.size 0, n1, n2] }).get? (h₃.objs.size + 1) = some { cls := .type "generator", data := .fields #[.int s.gens.size 0, n1, n2] } := by
    rw [hg₀]; exact Heap.get?_push_size _ rfl
  refine wpAny_pyIter_gen (g := s.gens.size) ⟨_, _, _, hG, rfl, rfl, rfl⟩ ?_
  generalize hgo : ({ cls := .type "generator", data := .fields #[.int s.gens.size 0, n1, n2] } : Obj) = gobj at hG ⊢
  have F₅ : Fr s.heap L (h₄.push gobj) _ := (F₃.after F₄.keep).push gobj
  have hL3 : L < h₃.objs.size := F₃.ns.lt
  have hLg : L ≠ h₃.objs.size := Nat.ne_of_lt hL3
  have hfree : ∀ b, h₃.objs.size ≤ b → s.heap.get? b = none := fun b hb => by
    cases hq' : s.heap.get? b with
    | none => rfl
    | some o => exact absurd (Nat.lt_of_lt_of_le (Heap.lt_size (F₃.keep _ _ hq')) hb) (Nat.lt_irrefl _)
  have hD3 : @LT.lt Nat _ D h₃.objs.size := Heap.lt_size (N₃ _ (.head _)).1
  have N₅ : News s.heap L (h₄.push gobj) [(D, PySem.W.listOf #[] 0), (h₃.objs.size + 1, gobj)] := by
    intro p hp
    rcases List.mem_cons.mp hp with rfl | hp
    · exact ⟨Heap.get?_push_of_some _ (F₄.keep _ _ (N₃ _ (.head _)).1), (N₃ _ (.head _)).2⟩
    · rw [List.mem_singleton.mp hp]
      refine ⟨?_, Nat.ne_of_gt (Nat.lt_succ_of_lt hL3), hfree _ (Nat.le_succ _)⟩
      exact hG
  refine codeAny_forLoop_any (fun k s' => ∃ i, k = (itemsOf 0 W).length - i ∧
    StripJ prog w (A.deeper (envOf "_strip_quoted_realnames" (scopeOf (mainSt 4)) L 52 (.ref 51))) s L D (h₃.objs.size + 1) h₃.objs.size (h₃.objs.size + 3) (h₃.objs.size + 2) gobj x tx (itemsOf 0 W) i s') ?turn _ ⟨0, rfl, Nat.zero_le _, ?init⟩
  case init =>
    refine ⟨h₄.push gobj, k₄, _, none, none, 0, t0, [], 0, rfl, frCast F₅ ?_, N₅, .nil, ?_⟩
    · intro y
      by_cases h1 : y = "ch"
      · subst h1; rfl
      by_cases h2 : y = "pos"
      · subst h2; rfl
      rw [if_neg h1, if_neg h2]; rfl
    · refine ⟨rfl, ?_⟩
      have hsz₅ : (h₄.push gobj).objs.size = h₃.objs.size + 2 := by simp [Heap.push, hsz₄]
      have G := gen_start (prog := prog) (w := w) (A := (A.deeper (envOf "_strip_quoted_realnames" (scopeOf (mainSt 4)) L 52 (.ref 51))).in1) (s := { s with heap := h₄.push gobj, gens := s.gens.push .running, toks := k₄ }) (f := 45) (cd := .ref 44)
        (Frag.In.keeps X F₃.keep) (T.keeps F₃.keep) r.hd (F₄.push gobj) W hW hx
      rw [show ({ s with heap := h₄.push gobj, gens := s.gens.push .running, toks := k₄ } : Shared).heap.objs.size = h₃.objs.size + 2 from hsz₅, ← itemsOf_length 0 W] at G
      exact G
  case turn =>
    rintro k s' ⟨i, rfl, hi, H, tk, gs, vp, vc, t1, t2, ys, nl, rfl, F, N, hl, hgs⟩
    refine wpAny_pyNext_gen (P := genP h₃.objs.size (h₃.objs.size + 3) (h₃.objs.size + 2)) (Y := genY (itemsOf 0 W) h₃.objs.size (h₃.objs.size + 3) (h₃.objs.size + 2)) (n := (itemsOf 0 W).length - i) (gs := gs) (g := s.gens.size)
      (r.deeper _).hd (T.nolimit.keeps F.keep) (r.deeper _).room ⟨gobj, n1, n2, (N _ (.tail _ (.head _))).1, by rw [← hgo], by rw [← hgo], by rw [← hgo]⟩ (by simp) ?_ ?hY ?hP
    · rw [setGen_push rfl]; exact hgs
    case hP =>
      rintro s₁ ⟨hn0, hs₁⟩ h' hk'
      rw [setGen_push rfl] at hs₁
      obtain ⟨H₁, tk₁, rfl, hk₁⟩ := hs₁
      rw [setGen_push rfl]
      have hi' : i = (itemsOf 0 W).length := by omega
      subst hi'
      rw [List.take_length] at hl F
      generalize hσ : (itemsOf 0 W).foldl (stripStep x) (0, none, []) = σ at hl F
      obtain ⟨st, op, ps⟩ := σ
      dsimp only at hl F hk'
      have hne : ∀ b, b < h₃.objs.size → b ≠ h₃.objs.size ∧ b ∉ [h₃.objs.size + 3, h₃.objs.size + 2] := fun b hb =>
        ⟨Nat.ne_of_lt hb, by simp only [List.mem_cons, List.not_mem_nil, or_false]; omega⟩
      have F' : Fr s.heap L h' _ := ⟨F.ns.at' fun o ho => hk' _ _ (hk₁ _ o (hne _ hL3).1 (hne _ hL3).2 ho), fun b o ho => by
        have hb : b < h₃.objs.size := Heap.lt_size (F₃.keep _ _ ho)
        exact hk' _ _ (hk₁ b o (hne _ hb).1 (hne _ hb).2 (F.keep _ _ ho)), F.above⟩
      have N' : News s.heap L h' [(D, PySem.W.listOf ys.toArray nl)] := by
        intro p hp
        rw [List.mem_singleton.mp hp]
        exact ⟨hk' _ _ (hk₁ _ _ (hne _ hD3).1 (hne _ hD3).2 (N _ (.head _)).1), (N _ (.head _)).2⟩
      dsimp only
      refine wpAny_execs_nil ?_
      dsimp only
      clear F₃ F₄ F₅ N₃ N₅ N F hgs hG hk₁ hk'
      have hb := strip_bound x (itemsOf 0 W) (0, none, []) 0 (by simp) (by simp)
      rw [hσ, itemsOf_length] at hb
      obtain ⟨hb1, hb2⟩ := hb
      dsimp only at hb1 hb2
      have fin : ∀ (H : Heap) (ys' : List Value) (nl' : Nat) tk (t : Tok), (∀ b o, s.heap.get? b = some o → H.get? b = some o) → News s.heap L H [(D, PySem.W.listOf ys'.toArray nl')] → StrsAre ys' (stripEnd x (st, op, ps)) →
          wpAny (model prog w) (A.deeper (envOf "_strip_quoted_realnames" (scopeOf (mainSt 4)) L 52 (.ref 51))) (call (.builtin "str.join") [.str "" t, .ref D]) (fun v s' => R (.ok (.ret v)) s') (fun _ _ => False)
            { s with heap := H, gens := s.gens.push .finished, toks := tk } := by
        intro H ys' nl' tk t hkH N hys
        refine join_listC (D := D) (items := ys'.toArray) (ys := stripEnd x (st, op, ps)) ⟨_, (N _ (.head _)).1, rfl, _, rfl⟩ (by simpa using hys) (by show (0 : Nat) ≤ 64; decide) ?_ fun t' k => ?_
        · have hall : ∀ y ∈ stripEnd x (st, op, ps), y.length ≤ 1000 := by
            unfold stripEnd
            intro y hy
            split at hy
            · rcases List.mem_append.mp hy with hy | hy
              · exact Nat.le_trans (hb1 y hy) hlen
              · rw [List.mem_singleton.mp hy]; exact Nat.le_trans (Txt.slice_le _ _ _) hlen
            · exact Nat.le_trans (hb1 y hy) hlen
          have hcount : (stripEnd x (st, op, ps)).length ≤ 1001 := by
            unfold stripEnd
            split
            · simp only [List.length_append, List.length_singleton]; omega
            · show ps.length ≤ 1001; omega
          have h1 := sum_le_of (f := fun x => x.length) _ hall
          omega
        · have := hR { s with heap := H, gens := s.gens.push .finished, toks := k } t' ⟨hkH, rfl, fun hb => hb.push rfl⟩
          unfold stripVal at this
          rw [hσ] at this
          exact this
      k_steps
      · rename st < _ => hst
        rename Fr _ _ _ _ => FH
        rename News _ _ _ _ => NH
        rw [List.push_toArray] at NH
        refine fin _ _ _ _ _ FH.keep NH ?_
        unfold stripEnd
        rw [if_pos (by simpa using hst)]
        exact StrsAre.append' hl (.cons _ _ .nil)
      · rename_i hst
        refine fin h' _ _ _ _ F'.keep N' ?_
        unfold stripEnd
        rw [if_neg (by simpa using hst)]
        exact hl
    case hY =>
      rintro v s₁ gs' ⟨⟨pp, c, a, u1, u2, hlt, hget, rfl, ha⟩, hs₁, hth, hgo'⟩
      rw [setGen_push rfl] at hs₁
      obtain ⟨H₁, tk₁, rfl, hk₁⟩ := hs₁
      rcases Nat.lt_or_eq_of_le hi with hi' | hi'
      case inr =>
        have := hgo' _ fun _ _ _ h => h
        rw [hi', Nat.sub_self] at this
        exact this.elim
      obtain ⟨nn, hnn⟩ : ∃ nn, (itemsOf 0 W).length - i = nn + 1 := ⟨(itemsOf 0 W).length - i - 1, by omega⟩
      have hget' : (itemsOf 0 W)[i]? = some (pp, c) := by
        rw [← hget]; congr 1; omega
      rw [setGen_push rfl]
      have hne : ∀ b, b < h₃.objs.size → b ≠ h₃.objs.size ∧ b ∉ [h₃.objs.size + 3, h₃.objs.size + 2] := fun b hb =>
        ⟨Nat.ne_of_lt hb, by simp only [List.mem_cons, List.not_mem_nil, or_false]; omega⟩
      have F₁ : Fr s.heap L H₁ _ := ⟨F.ns.at' fun o ho => hk₁ _ o (hne _ hL3).1 (hne _ hL3).2 ho, fun b o ho => by
        have hb : b < h₃.objs.size := Heap.lt_size (F₃.keep _ _ ho)
        exact hk₁ b o (hne _ hb).1 (hne _ hb).2 (F.keep _ _ ho), F.above⟩
      have hG₁ : H₁.get? (h₃.objs.size + 1) = some gobj := hk₁ _ _ (Nat.succ_ne_self _) (by simp) (N _ (.tail _ (.head _))).1
      have hD₁ : H₁.get? D = some (PySem.W.listOf ys.toArray nl) := hk₁ _ _ (hne _ hD3).1 (hne _ hD3).2 (N _ (.head _)).1
      refine letOwned_gen (by rw [← hgo] at hG₁; exact hG₁) ?_
      refine wpAny_assign_Tuple (r.deeper _).hd ⟨_, ha, rfl, _, rfl⟩ rfl rfl fun h₆ hx₆ => ?_
      replace hx₆ : ∀ b o, H₁.get? b = some o → h₆.get? b = some o := fun b o ho => hx₆ b o (Nat.ne_of_lt (Heap.lt_size ho)) ho
      have F₆ := F₁.after hx₆
      show wpAny _ _ (do holding [_] (assign (.Name "pos" _) _ (.int pp u1)); do holding [] (assign (.Name "ch" _) _ _); pure ()) _ _ _
      refine wpAny_bind (wpAny_holding (wpAny_assign_Name (wpAny_storeName_local rfl F₆.ns (fun h₇ hn₇ hs₇ => ?_))))
      have F₇ := F₆.set hn₇ hs₇
      refine wpAny_bind (wpAny_holding (wpAny_assign_Name (wpAny_storeName_local rfl F₇.ns (fun h₈ hn₈ hs₈ => wpAny_pure ?_))))
      have F₈ := F₇.set hn₈ hs₈
      have up : ∀ b o, b ≠ L → H₁.get? b = some o → h₈.get? b = some o := fun b o hb ho => hs₈.extBut b o hb (hs₇.extBut b o hb (hx₆ b o ho))
      obtain ⟨o1, ho1⟩ := hth h₃.objs.size (by simp)
      obtain ⟨o2, ho2⟩ := hth (h₃.objs.size + 3) (by simp)
      obtain ⟨o3, ho3⟩ := hth (h₃.objs.size + 2) (by simp)
      have N₈ : News s.heap L h₈ [(D, PySem.W.listOf ys.toArray nl), (h₃.objs.size + 1, gobj), (h₃.objs.size, o1), (h₃.objs.size + 3, o2), (h₃.objs.size + 2, o3)] := by
        intro p hp
        simp only [List.mem_cons, List.not_mem_nil, or_false] at hp
        rcases hp with rfl | rfl | rfl | rfl | rfl
        · exact ⟨up _ _ (N _ (.head _)).2.1 hD₁, (N _ (.head _)).2⟩
        · exact ⟨up _ _ (Nat.ne_of_gt (Nat.lt_succ_of_lt hL3)) hG₁, Nat.ne_of_gt (Nat.lt_succ_of_lt hL3), hfree _ (Nat.le_succ _)⟩
        · exact ⟨up _ _ (Ne.symm hLg) ho1, Ne.symm hLg, hfree _ (Nat.le_refl _)⟩
        · exact ⟨up _ _ (Nat.ne_of_gt (Nat.lt_add_right 3 hL3)) ho2, Nat.ne_of_gt (Nat.lt_add_right 3 hL3), hfree _ (Nat.le_add_right _ 3)⟩
        · exact ⟨up _ _ (Nat.ne_of_gt (Nat.lt_add_right 2 hL3)) ho3, Nat.ne_of_gt (Nat.lt_add_right 2 hL3), hfree _ (Nat.le_add_right _ 2)⟩
      clear F₇ F₆ F₁ F₃ F₄ F₅ N₃ N₅ N F hgs hG hk₁
      have hfold : (itemsOf 0 W).take (i + 1) = (itemsOf 0 W).take i ++ [(pp, c)] := by
        rw [List.take_add_one, hget']; rfl
      have hb := strip_bound x ((itemsOf 0 W).take i) (0, none, []) 0 (by simp) (by simp)
      generalize hσ : ((itemsOf 0 W).take i).foldl (stripStep x) (0, none, []) = σ at hl F₈ hb
      rw [List.length_take, itemsOf_length] at hb
      have hb2 := hb.2
      clear hb
      rw [hnn] at hgo'
      have hnn' : (itemsOf 0 W).length - (i + 1) = nn := by omega
      have leaf : ∀ (H : Heap) tk t1 t2 (σ' : SS) ys' nl', stripStep x σ (pp, c) = σ' →
          Fr s.heap L H (fun y => if y = "ch" then some (.str c u2) else if y = "pos" then some (.int pp u1) else if y = "result" then some (.ref D) else
            if y = "open_pos" then some (optI σ'.2.1 t1) else if y = "start" then some (.int σ'.1 t2) else [(("addr" : Str), Value.str x tx)].reverse.lookup y) →
          News s.heap L H [(D, PySem.W.listOf ys'.toArray nl'), (h₃.objs.size + 1, gobj), (h₃.objs.size, o1), (h₃.objs.size + 3, o2), (h₃.objs.size + 2, o3)] → StrsAre ys' σ'.2.2 →
          StripJ prog w (A.deeper (envOf "_strip_quoted_realnames" (scopeOf (mainSt 4)) L 52 (.ref 51))) s L D (h₃.objs.size + 1) h₃.objs.size (h₃.objs.size + 3) (h₃.objs.size + 2) gobj x tx (itemsOf 0 W) (i + 1) { s with heap := H, gens := s.gens.push gs', toks := tk } := by
        intro H tk t1 t2 σ' ys' nl' hσ' FH NH hys
        refine ⟨hi', H, tk, gs', some (.int pp u1), some (.str c u2), t1, t2, ys', nl', rfl, ?_, fun p hp => NH p ?_, ?_, ?_⟩
        · rw [hfold, List.foldl_append, hσ]
          show Fr s.heap L H fun y => if y = "ch" then _ else if y = "pos" then _ else if y = "result" then _ else if y = "open_pos" then some (optI (stripStep x σ (pp, c)).2.1 t1) else if y = "start" then some (.int (stripStep x σ (pp, c)).1 t2) else _
          rw [hσ']; exact FH
        · simp only [List.mem_cons, List.not_mem_nil, or_false] at hp ⊢
          rcases hp with rfl | rfl <;> simp
        · rw [hfold, List.foldl_append, hσ]
          show StrsAre ys' (stripStep x σ (pp, c)).2.2
          rw [hσ']; exact hys
        · rw [hnn']
          refine hgo' _ fun b hb o ho => ?_
          simp only [List.mem_cons, List.not_mem_nil, or_false] at hb
          rcases hb with rfl | rfl | rfl
          · rw [← Option.some.inj (ho1.symm.trans ho)]; exact (NH (h₃.objs.size, o1) (by simp)).1
          · rw [← Option.some.inj (ho2.symm.trans ho)]; exact (NH (h₃.objs.size + 3, o2) (by simp)).1
          · rw [← Option.some.inj (ho3.symm.trans ho)]; exact (NH (h₃.objs.size + 2, o3) (by simp)).1
      refine wpAny_mono (Q := fun f s₃ => f = .next ∧ StripJ prog w (A.deeper (envOf "_strip_quoted_realnames" (scopeOf (mainSt 4)) L 52 (.ref 51))) s L D (h₃.objs.size + 1) h₃.objs.size (h₃.objs.size + 3) (h₃.objs.size + 2) gobj x tx (itemsOf 0 W) (i + 1) s₃) ?_ (fun f s₃ hf => ?_) fun _ _ x => x
      rotate_left
      · obtain ⟨rfl, hJ⟩ := hf
        exact ⟨_, by omega, i + 1, rfl, hJ⟩
      obtain ⟨st, op, ps⟩ := σ
      dsimp only at hl F₈ hb2
      cases op with
      | none =>
        unfold optI at F₈
        dsimp only at F₈
        k_steps
        · rename (c == _) = true => hc
          rename Fr _ _ _ _ => FF
          rename News _ _ _ _ => NN
          exact leaf _ _ u1 t2 (st, some pp, ps) ys nl (by unfold stripStep; rw [if_pos hc]) (frCast FF (by
            intro y
            by_cases e1 : y = "ch"
            · subst e1; rfl
            by_cases e2 : y = "pos"
            · subst e2; rfl
            by_cases e3 : y = "result"
            · subst e3; rfl
            by_cases e4 : y = "open_pos"
            · subst e4; rfl
            by_cases e5 : y = "start"
            · subst e5; rfl
            simp only [if_neg e1, if_neg e2, if_neg e3, if_neg e4, if_neg e5])) NN hl
        · rename (c == _) = false => hc
          rename Fr _ _ _ _ => FF
          rename News _ _ _ _ => NN
          exact leaf _ _ t1 t2 (st, none, ps) ys nl (by unfold stripStep; rw [if_neg (by rw [hc]; exact Bool.false_ne_true)]) (frCast FF (by
            intro y
            by_cases e1 : y = "ch"
            · subst e1; rfl
            by_cases e2 : y = "pos"
            · subst e2; rfl
            by_cases e3 : y = "result"
            · subst e3; rfl
            by_cases e4 : y = "open_pos"
            · subst e4; rfl
            by_cases e5 : y = "start"
            · subst e5; rfl
            simp only [if_neg e1, if_neg e2, if_neg e3, if_neg e4, if_neg e5])) NN hl
      | some q =>
        unfold optI at F₈
        dsimp only at F₈
        k_steps
        · rename (c == _) = true => hc
          rename st ≠ q => hne'
          rename Fr _ _ _ _ => FF
          rename News _ _ _ _ => NN
          rw [List.push_toArray] at NN
          exact leaf _ _ 0 _ (pp + 1, none, ps ++ [Txt.slice x (some st) (some q)]) (ys ++ [_]) _ (by unfold stripStep; rw [if_pos hc]; dsimp only; rw [if_neg (by simpa using hne')]) (frCast FF (by
            intro y
            by_cases e1 : y = "ch"
            · subst e1; rfl
            by_cases e2 : y = "pos"
            · subst e2; rfl
            by_cases e3 : y = "result"
            · subst e3; rfl
            by_cases e4 : y = "open_pos"
            · subst e4; rfl
            by_cases e5 : y = "start"
            · subst e5; rfl
            simp only [if_neg e1, if_neg e2, if_neg e3, if_neg e4, if_neg e5])) NN (StrsAre.append' hl (.cons _ _ .nil))
        · rename (c == _) = true => hc
          rename st = q => hne'
          rename Fr _ _ _ _ => FF
          rename News _ _ _ _ => NN
          exact leaf _ _ 0 _ (pp + 1, none, ps) ys nl (by unfold stripStep; rw [if_pos hc]; dsimp only; rw [if_pos (by simpa using hne')]) (frCast FF (by
            intro y
            by_cases e1 : y = "ch"
            · subst e1; rfl
            by_cases e2 : y = "pos"
            · subst e2; rfl
            by_cases e3 : y = "result"
            · subst e3; rfl
            by_cases e4 : y = "open_pos"
            · subst e4; rfl
            by_cases e5 : y = "start"
            · subst e5; rfl
            simp only [if_neg e1, if_neg e2, if_neg e3, if_neg e4, if_neg e5])) NN hl
        · rename (c == _) = false => hc
          rename Fr _ _ _ _ => FF
          rename News _ _ _ _ => NN
          exact leaf _ _ t1 t2 (st, some q, ps) ys nl (by unfold stripStep; rw [if_neg (by rw [hc]; exact Bool.false_ne_true)]) (frCast FF (by
            intro y
            by_cases e1 : y = "ch"
            · subst e1; rfl
            by_cases e2 : y = "pos"
            · subst e2; rfl
            by_cases e3 : y = "result"
            · subst e3; rfl
            by_cases e4 : y = "open_pos"
            · subst e4; rfl
            by_cases e5 : y = "start"
            · subst e5; rfl
            simp only [if_neg e1, if_neg e2, if_neg e3, if_neg e4, if_neg e5])) NN hl

end Mine
end

section
theorem Mine.reset6 : True := by
  w_top off
  first | (walk1; done) | exact True.intro
set_option maxRecDepth 100000
set_option maxHeartbeats 1000000
namespace Mine
open PySem PySem.W PySem.Calls PyProof.Rows

def uc : Nat → List Nat
  | 0 => [97]
  | 1 => [98]
  | 2 => [92, 34]
  | _ => [92, 92]
def un (k : Nat) : Str := ⟨(uc k).toArray⟩
def enc (f : List Nat) : List Nat := f.flatMap uc
def encS (f : List Nat) : Str := ⟨(enc f).toArray⟩

theorem enc_append (f g : List Nat) : enc (f ++ g) = enc f ++ enc g := by simp [enc]
theorem enc_flatten (f : List Nat) : (f.map uc).flatten = enc f := by simp [enc, List.flatMap]
theorem encS_len (f : List Nat) : (encS f).length = (enc f).length := by simp [encS, Str.length]
theorem uc_tok (k : Nat) : Tok1 (uc k) := by
  unfold uc
  split
  · exact .inl ⟨97, rfl, by decide⟩
  · exact .inl ⟨98, rfl, by decide⟩
  · exact .inr ⟨34, rfl⟩
  · exact .inr ⟨92, rfl⟩
theorem uc_len (k : Nat) : 1 ≤ (uc k).length ∧ (uc k).length ≤ 2 := by
  unfold uc; split <;> simp
theorem enc_len_le : ∀ f : List Nat, (enc f).length ≤ 2 * f.length
  | [] => by simp [enc]
  | k :: f => by
    have h1 := (uc_len k).2
    have h2 := enc_len_le f
    simp only [enc, List.flatMap_cons, List.length_append, List.length_cons] at *
    omega

theorem ofString_empty : Str.ofString "" = ⟨#[]⟩ := by decide +kernel
theorem ofString_quote : Str.ofString "\"" = ⟨#[34]⟩ := by decide +kernel

theorem glued_fold : ∀ (l : List Str) (acc : Array Nat), (l.foldl (fun acc p => acc ++ (Str.ofString "").cps ++ p.cps) acc) = acc ++ (l.flatMap (·.cps.toList)).toArray
  | [], acc => by simp
  | p :: l, acc => by
    rw [List.foldl_cons, glued_fold l, ofString_empty]
    apply Array.ext'
    simp

theorem join_cps (l : List Str) : Txt.join "" l = ⟨(l.flatMap (·.cps.toList)).toArray⟩ := by
  show Builtin.Str.glued (Str.ofString "") l = _
  unfold Builtin.Str.glued
  rw [glued_fold]
  cases l with
  | nil => rfl
  | cons a l =>
    congr 1
    apply Array.ext'
    simp

theorem join_un (f : List Nat) : Txt.join "" (f.map un) = encS f := by
  rw [join_cps]
  simp only [encS, enc, un, List.flatMap_map]

theorem itemsOf_append : ∀ (A B : List (List Nat)) (p : Nat), itemsOf p (A ++ B) = itemsOf p A ++ itemsOf (p + A.flatten.length) B
  | [], B, p => by simp [itemsOf]
  | t :: A, B, p => by
    simp only [List.cons_append, itemsOf, List.flatten_cons, List.length_append]
    rw [itemsOf_append A B, Nat.add_assoc]

theorem uc_ne (k : Nat) : ((⟨(uc k).toArray⟩ : Str) == "\"") = false := by
  rw [ofString_quote]
  unfold uc
  split <;> decide

theorem fold_units (x : Str) : ∀ (f : List Nat) (p : Nat) (σ : SS), (itemsOf p (f.map uc)).foldl (stripStep x) σ = σ
  | [], _, _ => rfl
  | k :: f, p, σ => by
    simp only [List.map_cons, itemsOf, List.foldl_cons]
    rw [show stripStep x σ _ = σ from by unfold stripStep; rw [if_neg (by rw [uc_ne]; exact Bool.false_ne_true)]]
    exact fold_units x f _ σ

def toks3 (f1 f2 f3 : List Nat) : List (List Nat) := f1.map uc ++ [[34]] ++ f2.map uc ++ [[34]] ++ f3.map uc

theorem toks3_ok (f1 f2 f3 : List Nat) : ∀ t ∈ toks3 f1 f2 f3, Tok1 t := by
  intro t ht
  unfold toks3 at ht
  simp only [List.mem_append, List.mem_map, List.mem_singleton] at ht
  rcases ht with (((⟨k, _, rfl⟩ | rfl) | ⟨k, _, rfl⟩) | rfl) | ⟨k, _, rfl⟩
  · exact uc_tok k
  · exact .inl ⟨34, rfl, by decide⟩
  · exact uc_tok k
  · exact .inl ⟨34, rfl, by decide⟩
  · exact uc_tok k

theorem toks3_flat (f1 f2 f3 : List Nat) : (toks3 f1 f2 f3).flatten = enc f1 ++ [34] ++ enc f2 ++ [34] ++ enc f3 := by
  simp only [toks3, List.flatten_append, enc_flatten, List.flatten_singleton]

theorem strip_val (f1 f2 f3 : List Nat) (x : Str) (hx : x.cps.toList = enc f1 ++ [34] ++ enc f2 ++ [34] ++ enc f3) :
    stripVal x (itemsOf 0 (toks3 f1 f2 f3)) = encS (f1 ++ f3) := by
  have hlen : x.length = (enc f1).length + 1 + (enc f2).length + 1 + (enc f3).length := by
    show x.cps.size = _
    rw [← Array.length_toList, hx]; simp; omega
  unfold stripVal toks3
  rw [itemsOf_append, itemsOf_append, itemsOf_append, itemsOf_append]
  simp only [List.foldl_append, fold_units, itemsOf, List.foldl_cons, List.foldl_nil, List.flatten_append, enc_flatten, List.flatten_singleton, List.length_append, List.length_singleton, Nat.zero_add]
  have q : ((⟨[34].toArray⟩ : Str) == "\"") = true := by rw [ofString_quote]; rfl
  have e1 : stripStep x (0, none, []) ((((enc f1).length + 1 - 1 : Nat) : Int), ⟨[34].toArray⟩) = (0, some ((enc f1).length : Int), []) := by
    unfold stripStep
    rw [if_pos q]
    simp
  rw [e1]
  have e2 : stripStep x (0, some ((enc f1).length : Int), []) ((((enc f1).length + 1 + (enc f2).length + 1 - 1 : Nat) : Int), ⟨[34].toArray⟩) =
      ((((enc f1).length + 1 + (enc f2).length + 1 : Nat) : Int), none, if (0 : Int) == ((enc f1).length : Int) then [] else [Txt.slice x (some 0) (some ((enc f1).length : Int))]) := by
    unfold stripStep
    rw [if_pos q]
    simp
  rw [e2]
  rw [join_cps]
  have s1 : Txt.slice x (some 0) (some ((enc f1).length : Int)) = ⟨(enc f1).toArray⟩ := by
    have := slice_closesL (x := x) (i := 0) (j := ((enc f1).length : Int)) (by omega) (by omega) (by rw [hlen]; omega)
    rw [eq_of_beq this, hx]
    simp
  have s2 : Txt.slice x (some (((enc f1).length + 1 + (enc f2).length + 1 : Nat) : Int)) none = ⟨(enc f3).toArray⟩ := by
    have := slice_closes_fromL (x := x) (i := (((enc f1).length + 1 + (enc f2).length + 1 : Nat) : Int)) (b := (x.length : Int)) (by omega) (by rw [hlen]; omega) rfl
    rw [eq_of_beq this, hx, hlen]
    congr 2
    have h1 : (((enc f1).length + 1 + (enc f2).length + 1 : Nat) : Int).toNat = (enc f1 ++ [34] ++ enc f2 ++ [34]).length := by simp; omega
    rw [h1, List.drop_left]
    rw [List.take_of_length_le]
    simp; omega
  unfold stripEnd
  dsimp only
  congr 1
  rw [s1, s2, enc_append]
  split
  · rename_i hlt
    split
    · rename_i h0
      have : enc f1 = [] := List.length_eq_zero_iff.mp (by have := eq_of_beq h0; omega)
      simp [this]
    · simp
  · rename_i hlt
    have h3 : enc f3 = [] := List.length_eq_zero_iff.mp (by rw [hlen] at hlt; omega)
    split
    · rename_i h0
      have : enc f1 = [] := List.length_eq_zero_iff.mp (by have := eq_of_beq h0; omega)
      simp [this, h3]
    · simp [h3]
end Mine
end

section
local macro_rules | `(tactic| walk_at "serves nothing") => `(tactic| skip)
local macro_rules | `(tactic| walk_at "serves nothing") => `(tactic| skip)
local macro_rules | `(tactic| walk_at "serves nothing") => `(tactic| skip)
local macro_rules | `(tactic| walk_at "serves nothing") => `(tactic| skip)
local macro_rules | `(tactic| walk_at "serves nothing") => `(tactic| skip)
local macro_rules | `(tactic| walk_at "serves nothing") => `(tactic| skip)
local macro_rules | `(tactic| walk_at "serves nothing") => `(tactic| skip)
local macro_rules | `(tactic| walk_at "serves nothing") => `(tactic| skip)
local macro_rules | `(tactic| walk_at "serves nothing") => `(tactic| skip)
local macro_rules | `(tactic| walk_at "serves nothing") => `(tactic| skip)
theorem Mine.reset7 : True := by
  w_top off
  first | (walk1; done) | exact True.intro
set_option maxRecDepth 100000
set_option maxHeartbeats 1000000
namespace Mine
open PySem PySem.W PySem.Calls PyProof.Rows

theorem slice_sub (a b : Option Expr) (pos : Pos) (l k : Addr) : subscripted (.Slice a b none pos) false (.ref l) (.ref k) = operate [.ref k, .ref l] (getItem (.ref l) (.ref k)) := by with_unfolding_all rfl
theorem name_go (x : Str) (px : Pos) (l : Addr) (r : Value) : letTemporaryGo (.Name x px) (.ref l) r = pure () := by with_unfolding_all rfl

section
variable {prog : Program} {w : World} {A : Around} {E : Value → Shared → Prop} {s : Shared} {h₀ : Heap} {L l : Addr} {m : Str → Option Value} {news : List (Addr × Obj)} {x : Str} {px pos : Pos} {a b : Option Expr} {its : Array Value} {vl vu : Value} {lo hi : Option Int} {Q : Value → Shared → Prop}
theorem sliceN (F : Fr h₀ L s.heap m) (N : News h₀ L s.heap news) (hl : s.heap.IsList l its) (pl : IsPart vl lo) (pu : IsPart vu hi) (hz : its.size ≤ sizeLine)
    (h : ∀ D h', Fr h₀ L h' m → News h₀ L h' ((D, PySem.W.listOf (slicePick its lo hi none) 0) :: news) → (∀ p ∈ news, p.1 < D) → Q (.ref D) { s with heap := h' }) :
    wpAny (model prog w) A (subscriptTail (.Name x px) (.Slice a b none pos) (.ref l) (.ref s.heap.objs.size)) Q E { s with heap := s.heap.push { cls := .type "slice", data := .fields #[vl, vu, .none] } } :=
  kmk_slice F N hl pl pu h (slice_sub ..) (fun r => name_go x px l r) hz
end
end Mine
end

section
theorem Mine.reset8 : True := by
  w_top off
  first | (walk1; done) | exact True.intro
set_option maxRecDepth 100000
set_option maxHeartbeats 8000000
namespace Mine
open PySem PySem.W PySem.Calls PyProof.Rows
theorem fill3 : PySem.Challenge.rw_us0021_01.foot = PySem.Challenge.rw_us0021_01.foot ∧ hd.heap_39 = hd.heap_39 := by
  k_fill
  exact ⟨rfl, rfl⟩

local macro_rules | `(tactic| walk_at "subscriptTail Name Slice ref ref") => `(tactic| (k_here; (with_reducible rename Fr _ _ _ _ => F'); (with_reducible rename News _ _ _ _ => N'); (refine' sliceN (s := ⟨_, _, _, _, _⟩) F' N' ?l ?p ?q ?z ?_); (case l => is_list); (case p => kmk_part); (case q => kmk_part); (case z => (exact Nat.le_trans (by assumption) (by decide))); intro D' h' F' N' l1; (try k_lt l1)))
local macro_rules | `(tactic| walk_at "binaryOp Add ref ref") => `(tactic| refine hideP ?_)

theorem left_call {prog : Program} {w : World} {A : Around} {s : Shared} {p : Program} {loose : List Str} {mean : ExcName → Option Value} {mg mb : Str → Option Value}
  (X : (hd.heap_39 w.params).In s.heap) (T : Top p loose mean mg mb s.heap) (r : Rm 11 A) {u : Addr} {items : Array Value} {f : List Nat} {b z : Nat} {tb tz : Tok}
  (hl : s.heap.IsList u items) (hy : StrsAre items.toList (f.map un)) (hlen : f.length ≤ 7)
  {R : Result → Shared → Prop} (hR : ∀ s' t, Kp s s' → R (.ok (.ret (.str (encS (f.take b ++ f.drop (b + z))) t))) s') :
  codeAny (model prog w) A (.call (.ref 232) ⟨[.ref u, .int b tb, .int z tz], []⟩) R s := by
  refine' call0 X T.nolimit r.room ?k6 ?k7 ?k9 ?kB ?c5 ?c2 ?c3 ?c4 ?_
  case k6 => k_is
  case k7 => k_is
  case k9 => exact BindsTo.of_eq rfl
  case kB => exact locs rfl
  case c5 => decide
  case c2 => exact rfl
  case c3 => exact rfl
  case c4 => exact rfl
  intro L h₁ F
  have N : News s.heap L h₁ [] := News.nil
  have hul : u < s.heap.objs.size := by obtain ⟨o, ho, _⟩ := hl; exact Heap.lt_size ho
  have hsz : items.size = f.length := by rw [← Array.length_toList, hy.len_eq, List.length_map]
  have pk : ∀ a c, (slicePick items a c none).size ≤ 7 := fun a c => Nat.le_trans (slicePick_size_le ..) (by rw [hsz]; exact hlen)
  have hz7 : items.size ≤ 7 := by omega
  k_steps
  unfold HideP
  refine add_arrays (hsz := ?z) (by assumption) (by assumption) (by is_list) (by is_list) ?_
  case z =>
    have e1 := pk none (some (b : Int))
    have e2 := pk (some (b : Int)) (some ((b : Int) + (z : Int)))
    have e3 := pk (some ((b : Int) + (z : Int))) none
    refine Nat.le_trans (m := 60) ?_ (by decide)
    simp only [List.size_toArray, List.length_append, Array.length_toList, List.length_cons, List.length_nil]
    omega
  intro h2 F2 N2
  k_steps
  unfold HideP
  refine add_arrays (hsz := ?z) (by assumption) (by assumption) (by is_list) (by is_list) ?_
  case z =>
    have e1 := pk none (some (b : Int))
    have e2 := pk (some (b : Int)) (some ((b : Int) + (z : Int)))
    have e3 := pk (some ((b : Int) + (z : Int))) none
    refine Nat.le_trans (m := 60) ?_ (by decide)
    simp only [List.size_toArray, List.length_append, Array.length_toList, List.length_cons, List.length_nil]
    omega
  intro h3 F3 N3
  k_steps
  unfold HideP
  refine add_arrays (hsz := ?z) (by assumption) (by assumption) (by is_list) (by is_list) ?_
  case z =>
    have e1 := pk none (some (b : Int))
    have e2 := pk (some (b : Int)) (some ((b : Int) + (z : Int)))
    have e3 := pk (some ((b : Int) + (z : Int))) none
    refine Nat.le_trans (m := 60) ?_ (by decide)
    simp only [List.size_toArray, List.length_append, Array.length_toList, List.length_cons, List.length_nil]
    omega
  intro h4 F4 N4
  k_steps
  unfold HideP
  refine add_arrays (hsz := ?z) (by assumption) (by assumption) (by is_list) (by is_list) ?_
  case z =>
    have e1 := pk none (some (b : Int))
    have e2 := pk (some (b : Int)) (some ((b : Int) + (z : Int)))
    have e3 := pk (some ((b : Int) + (z : Int))) none
    refine Nat.le_trans (m := 60) ?_ (by decide)
    simp only [List.size_toArray, List.length_append, Array.length_toList, List.length_cons, List.length_nil]
    omega
  intro h5 F5 N5
  k_steps
  have ey : (f.map un).length = f.length := List.length_map ..
  have h1 : StrsAre (slicePick items none (some (b : Int)) none).toList ((f.take b).map un) := by
    rw [slicePick_upto', List.map_take]; exact hy.take' b
  have h3 : StrsAre (slicePick items (some ((b : Int) + (z : Int))) none none).toList ((f.drop (b + z)).map un) := by
    rw [show (b : Int) + (z : Int) = ((b + z : Nat) : Int) from by omega, slicePick_from', List.map_drop]; exact hy.drop' _
  obtain ⟨mid, hmid, h2⟩ : ∃ mid : List Nat, mid.length ≤ 7 ∧ StrsAre (slicePick items (some (b : Int)) (some ((b : Int) + (z : Int))) none).toList (mid.map un) := by
    rw [slicePick_plain]
    have key : ∀ c1 c2, ∃ mid : List Nat, mid.length ≤ 7 ∧ StrsAre ((items.toList.drop c1).take c2) (mid.map un) := fun c1 c2 =>
      ⟨(f.drop c1).take c2, by rw [List.length_take, List.length_drop]; omega, by rw [List.map_take, List.map_drop]; exact (hy.drop' _).take' _⟩
    exact key _ _
  have hun : ∀ (g : List Nat), (∀ y ∈ g.map un, y.length ≤ 2) := fun g y hy => by
    obtain ⟨k, _, rfl⟩ := List.mem_map.mp hy
    exact (uc_len k).2
  generalize hys : (f.take b).map un ++ [Str.ofString "\""] ++ mid.map un ++ [Str.ofString "\""] ++ (f.drop (b + z)).map un = ys
  have hj : (Txt.join "" ys).cps.toList = enc (f.take b) ++ [34] ++ enc mid ++ [34] ++ enc (f.drop (b + z)) := by
    rw [← hys, join_cps]
    simp only [List.flatMap_append, List.flatMap_map, List.flatMap_singleton, ofString_quote]
    rfl
  have hall : ∀ y ∈ ys, y.length ≤ 2 := by
    rw [← hys]
    intro y hy
    simp only [List.mem_append, List.mem_singleton] at hy
    rcases hy with (((hy | rfl) | hy) | rfl) | hy
    · exact hun _ y hy
    · rw [ofString_quote]; decide
    · exact hun _ y hy
    · rw [ofString_quote]; decide
    · exact hun _ y hy
  have hcnt : ys.length ≤ 30 := by
    rw [← hys]
    simp only [List.length_append, List.length_map, List.length_cons, List.length_nil, List.length_take, List.length_drop]
    omega
  have hsum := sum_le_of (f := fun x => x.length) ys hall
  have hjl : (Txt.join "" ys).length ≤ 1000 := by
    show (Txt.join "" ys).cps.size ≤ 1000
    rw [← Array.length_toList, hj]
    have e1 := enc_len_le (f.take b)
    have e2 := enc_len_le mid
    have e3 := enc_len_le (f.drop (b + z))
    simp only [List.length_append, List.length_cons, List.length_nil, List.length_take, List.length_drop] at *
    omega
  refine join_listC (ys := ys) (by is_list) ?hJ (by show (0 : Nat) ≤ 64; decide) ?hS ?_
  case hJ => rw [← hys]; exact (((h1.append' (.cons _ _ .nil)).append' h2).append' (.cons _ _ .nil)).append' h3
  case hS => omega
  intro tj kj
  k_steps
  rename Fr _ _ _ _ => FF
  refine wpAny_call (strip_call (Frag.In.keeps X FF.keep) (T.keeps FF.keep) (r.deeper _) hjl ?hq (toks3 (f.take b) mid (f.drop (b + z))) (toks3_ok _ _ _) (hj.trans (toks3_flat _ _ _).symm) fun s' t hk => ?_)
  case hq => rw [hj]; simp
  rw [strip_val _ _ _ _ hj]
  exact hR s' t ⟨fun c o e => hk.le _ _ (FF.keep _ _ e), hk.os, hk.bare⟩
end Mine
end

section
local macro_rules | `(tactic| walk_at "serves nothing") => `(tactic| skip)
local macro_rules | `(tactic| walk_at "serves nothing") => `(tactic| skip)
local macro_rules | `(tactic| walk_at "serves nothing") => `(tactic| skip)
local macro_rules | `(tactic| walk_at "serves nothing") => `(tactic| skip)
local macro_rules | `(tactic| walk_at "serves nothing") => `(tactic| skip)
local macro_rules | `(tactic| walk_at "serves nothing") => `(tactic| skip)
local macro_rules | `(tactic| walk_at "serves nothing") => `(tactic| skip)
local macro_rules | `(tactic| walk_at "serves nothing") => `(tactic| skip)
local macro_rules | `(tactic| walk_at "serves nothing") => `(tactic| skip)
local macro_rules | `(tactic| walk_at "serves nothing") => `(tactic| skip)
theorem Mine.reset9 : True := by
  w_top off
  first | (walk1; done) | exact True.intro
set_option maxRecDepth 100000
set_option maxHeartbeats 1000000
namespace Mine
open PySem PySem.W PySem.Calls PyProof.Rows

structure Sh (s s' : Shared) : Prop where
  os : s'.os = s.os
  bare : AllBare s.gens → AllBare s'.gens
theorem Sh.refl (s : Shared) : Sh s s := ⟨rfl, id⟩
theorem Sh.trans {a b c : Shared} (x : Sh a b) (y : Sh b c) : Sh a c := ⟨y.os.trans x.os, fun g => y.bare (x.bare g)⟩
theorem Kp.sh {a b : Shared} (x : Kp a b) : Sh a b := ⟨x.os, x.bare⟩
theorem Sh.heap {s : Shared} {h : Heap} {t : Nat} : Sh s { s with heap := h, toks := t } := ⟨rfl, id⟩

/-- what the body of a loop must leave for the next turn (a structure, so that the walk stops at it) -/
structure Nxt (h₀ : Heap) (L : Addr) (s : Shared) (J : (Str → Option Value) → List (Addr × Obj) → Prop) (io : Addr × Obj) (s₃ : Shared) : Prop where
  ex : ∃ m₂ news₂, J m₂ news₂ ∧ Sh s s₃ ∧ Fr h₀ L s₃.heap m₂ ∧ News h₀ L s₃.heap (io :: news₂)

section
variable {prog : Program} {w : World} {A : Around} {E : Value → Shared → Prop} {s : Shared} {env : Env} {R : Result → Shared → Prop} {x : Str} {px : Pos} {body : List Stmt} {h₀ : Heap} {m : Str → Option Value} {news : List (Addr × Obj)}

theorem loopN {I : Addr} {fp : List Addr} {n : Nat} {P : Nat → Value → Prop} {St : Nat → Heap → Prop} (W : Walks prog w A I fp [I] n P St) {fix : List (Addr × Obj)}
    (hx : env.kindOf x = some .local) (hp : (env.scope.kind == .class || (env.scope.kind == .module && env.locals != env.globals)) = false)
    (hIL : I ≠ env.locals) (hI0 : h₀.get? I = none) (hfp : ∀ b ∈ fp, b = I ∨ ∃ o, (b, o) ∈ fix) (hlive : ∀ i h, St i h → ∃ o, h.get? I = some o)
    (Inv : Nat → (Str → Option Value) → List (Addr × Obj) → Prop)
    (hfixL : ∀ p ∈ fix, p.1 ≠ I ∧ p.1 ≠ env.locals)
    (hfix : ∀ i m₁ news₁ h, Inv i m₁ news₁ → Fr h₀ env.locals h m₁ → News h₀ env.locals h news₁ → ∀ p ∈ fix, h.get? p.1 = some p.2)
    (hn : ∀ i m₁ news₁, Inv i m₁ news₁ → ∀ p ∈ news₁, p.1 ≠ I)
    (h0 : Inv 0 m news) (hst : St 0 s.heap) (F : Fr h₀ env.locals s.heap m) (N : News h₀ env.locals s.heap news)
    (turn : ∀ i v o s₁ m₁ news₁, i < n → P i v → Inv i m₁ news₁ → Sh s s₁ → Fr h₀ env.locals s₁.heap (fun y => if y = x then some v else m₁ y) → News h₀ env.locals s₁.heap ((I, o) :: news₁) →
      wpAny (model prog w) A (execs body env) (fun f s₃ => match f with
        | .next | .cont => Nxt h₀ env.locals s (Inv (i + 1)) (I, o) s₃
        | .brk => R (.ok .next) s₃
        | .ret v => R (.ok (.ret v)) s₃) (fun _ _ => False) s₁)
    (done : ∀ s₃ m₃ news₃, Inv n m₃ news₃ → Sh s s₃ → Fr h₀ env.locals s₃.heap m₃ → News h₀ env.locals s₃.heap news₃ → R (.ok .next) s₃) :
    codeAny (model prog w) A (.forLoop (.Name x px) (.ref I) body [] env) R s := by
  refine codeAny_forLoop_any (fun k s' => ∃ i m₁ news₁, k = n - i ∧ i ≤ n ∧ Inv i m₁ news₁ ∧ St i s'.heap ∧ Sh s s' ∧ Fr h₀ env.locals s'.heap m₁ ∧ News h₀ env.locals s'.heap news₁) ?_ n
    ⟨0, m, news, rfl, Nat.zero_le _, h0, hst, Sh.refl _, F, N⟩
  rintro k s' ⟨i, m₁, news₁, rfl, hi, hI, hst', hsh, F', N'⟩
  have moveF : ∀ h', (∀ b o, b ∉ [I] → s'.heap.get? b = some o → h'.get? b = some o) → Fr h₀ env.locals h' m₁ := fun h' hk =>
    ⟨F'.ns.at' fun o ho => hk _ _ (by simpa using Ne.symm hIL) ho, fun b o ho => hk _ _ (fun hb => by rw [List.mem_singleton.mp hb, hI0] at ho; cases ho) (F'.keep _ _ ho), F'.above⟩
  have moveN : ∀ h', (∀ b o, b ∉ [I] → s'.heap.get? b = some o → h'.get? b = some o) → News h₀ env.locals h' news₁ := fun h' hk p hp =>
    ⟨hk _ _ (by simpa using hn _ _ _ hI p hp) (N' p hp).1, (N' p hp).2⟩
  rcases Nat.lt_or_eq_of_le hi with hlt | rfl
  · refine W.item i s' _ _ hlt hst' fun v h₁ tk hP hst₁ hk₁ => ?_
    refine wpAny_of_eq (rfl : letOwnedTupleGo (.Name x px) (.ref I) v = pure ()) ?_
    have F₁ := moveF h₁ hk₁
    have N₁ := moveN h₁ hk₁
    refine wpAny_assign_Name (wpAny_storeName_local hx F₁.ns (fun h₂ hn₂ hs₂ => ?_) hp)
    have F₂ := F₁.set hn₂ hs₂
    have N₂ := N₁.set hs₂
    obtain ⟨o, ho⟩ := hlive _ _ hst₁
    have ho₂ : h₂.get? I = some o := hs₂.extBut I o hIL ho
    have N₃ : News h₀ env.locals h₂ ((I, o) :: news₁) := fun p hp => by
      rcases List.mem_cons.mp hp with rfl | hp
      · exact ⟨ho₂, hIL, hI0⟩
      · exact N₂ p hp
    have hst₂ : St (i + 1) h₂ := W.frame _ _ _ hst₁ fun b hb o' ho' => by
      rcases hfp b hb with rfl | ⟨o₁, hm⟩
      · exact hs₂.extBut b o' hIL ho'
      · exact hs₂.extBut b o' (hfixL _ hm).2 ho'
    refine wpAny_mono (turn i v o _ m₁ news₁ hlt hP hI (hsh.trans Sh.heap) F₂ N₃) (fun f s₃ h₃ => ?_) fun _ _ e => e.elim
    have again : (∃ m₂ news₂, Inv (i + 1) m₂ news₂ ∧ Sh s s₃ ∧ Fr h₀ env.locals s₃.heap m₂ ∧ News h₀ env.locals s₃.heap ((I, o) :: news₂)) →
        ∃ m' < n - i, ∃ i m₁ news₁, m' = n - i ∧ i ≤ n ∧ Inv i m₁ news₁ ∧ St i s₃.heap ∧ Sh s s₃ ∧ Fr h₀ env.locals s₃.heap m₁ ∧ News h₀ env.locals s₃.heap news₁ := by
      rintro ⟨m₂, news₂, hI₂, hsh₂, F₃, N₃'⟩
      have N₄ : News h₀ env.locals s₃.heap news₂ := fun p hp => N₃' p (.tail _ hp)
      refine ⟨n - (i + 1), by omega, i + 1, m₂, news₂, rfl, hlt, hI₂, W.frame _ _ _ hst₂ fun b hb o' ho' => ?_, hsh₂, F₃, N₄⟩
      rcases hfp b hb with rfl | ⟨o₁, hm⟩
      · have : o = o' := Option.some.inj (ho₂.symm.trans ho')
        subst this
        exact (N₃' _ (.head _)).1
      · have e1 := hs₂.extBut _ _ (hfixL _ hm).2 (hfix _ _ _ _ hI F₁ N₁ _ hm)
        have : o₁ = o' := Option.some.inj (e1.symm.trans ho')
        subst this
        exact hfix _ _ _ _ hI₂ F₃ N₄ _ hm
    cases f with
    | next => exact again h₃.ex
    | cont => exact again h₃.ex
    | brk => exact h₃
    | ret v => exact h₃
  · refine W.done s' _ _ hst' fun h₁ tk hk₁ => wpAny_execs_nil ?_
    exact done _ _ _ hI (hsh.trans Sh.heap) (moveF h₁ hk₁) (moveN h₁ hk₁)

theorem loop_range (hh : A.handled = none) {r : Addr} {a b c : Int} {t u v : Tok} {k : Nat} (hr : IsRange s.heap r a b c t u v) (hsmall : Builtin.Range.small a b c = true) (hk : Builtin.Range.rangeSize a b c = k)
    (hx : env.kindOf x = some .local) (hp : (env.scope.kind == .class || (env.scope.kind == .module && env.locals != env.globals)) = false)
    (Inv : Nat → (Str → Option Value) → List (Addr × Obj) → Prop) (h0 : Inv 0 m news) (F : Fr h₀ env.locals s.heap m) (N : News h₀ env.locals s.heap news)
    (hn : ∀ i m₁ news₁, Inv i m₁ news₁ → ∀ p ∈ news₁, p.1 ≠ s.heap.objs.size)
    (turn : ∀ i t o s₁ m₁ news₁, i < k → Inv i m₁ news₁ → Sh s s₁ → Fr h₀ env.locals s₁.heap (fun y => if y = x then some (.int (a + i * c) t) else m₁ y) → News h₀ env.locals s₁.heap ((s.heap.objs.size, o) :: news₁) →
      wpAny (model prog w) A (execs body env) (fun f s₃ => match f with
        | .next | .cont => Nxt h₀ env.locals s (Inv (i + 1)) (s.heap.objs.size, o) s₃
        | .brk => R (.ok .next) s₃
        | .ret v => R (.ok (.ret v)) s₃) (fun _ _ => False) s₁)
    (done : ∀ s₃ m₃ news₃, Inv k m₃ news₃ → Sh s s₃ → Fr h₀ env.locals s₃.heap m₃ → News h₀ env.locals s₃.heap news₃ → R (.ok .next) s₃) :
    wpAny (model prog w) A (pyIter (.ref r)) (fun it s₂ => codeAny (model prog w) A (.forLoop (.Name x px) it body [] env) R s₂) E s := by
  refine wpAny_pyIter_range hr hsmall ?_
  have hL : env.locals < s.heap.objs.size := F.ns.lt
  refine loopN (Walks.range hh s.heap.objs.size a c k) (fix := []) hx hp (Nat.ne_of_gt hL) ?_ (fun b hb => .inl (List.mem_singleton.mp hb)) (fun i h hst => ⟨_, hst⟩) Inv (by simp) (by simp) hn h0 ?_ (F.push _)
    (fun p hp => ⟨Heap.get?_push_of_some _ (N p hp).1, (N p hp).2⟩) ?_ ?_
  · cases hq : h₀.get? s.heap.objs.size with
    | none => rfl
    | some o' => exact absurd (Heap.lt_size (F.keep _ _ hq)) (Nat.lt_irrefl _)
  · show (s.heap.push _).get? s.heap.objs.size = _
    rw [Heap.get?_push_size _ rfl, hk]
    simp
  · rintro i v o s₁ m₁ news₁ hi ⟨t, rfl⟩ hI hsh F₁ N₁
    refine wpAny_mono (turn i t o s₁ m₁ news₁ hi hI (Sh.heap.trans hsh) F₁ N₁) (fun f s₃ h₃ => ?_) fun _ _ e => e
    cases f with
    | next => obtain ⟨m₂, news₂, a1, a2, a3, a4⟩ := h₃; exact ⟨m₂, news₂, a1, ⟨a2.os, a2.bare⟩, a3, a4⟩
    | cont => obtain ⟨m₂, news₂, a1, a2, a3, a4⟩ := h₃; exact ⟨m₂, news₂, a1, ⟨a2.os, a2.bare⟩, a3, a4⟩
    | brk => exact h₃
    | ret v => exact h₃
  · intro s₃ m₃ news₃ hI hsh F₃ N₃
    exact done s₃ m₃ news₃ hI ⟨hsh.os, hsh.bare⟩ F₃ N₃

theorem loop_list (hh : A.handled = none) {l : Addr} {ob : Obj} {items : Array Value} {k : Nat} (hob : s.heap.get? l = some ob) (hc : ob.cls = .type "list") (hd : ob.data = .seq items k)
    (hx : env.kindOf x = some .local) (hp : (env.scope.kind == .class || (env.scope.kind == .module && env.locals != env.globals)) = false) (hlL : l ≠ env.locals)
    (Inv : Nat → (Str → Option Value) → List (Addr × Obj) → Prop) (h0 : Inv 0 m news) (F : Fr h₀ env.locals s.heap m) (N : News h₀ env.locals s.heap news)
    (hn : ∀ i m₁ news₁, Inv i m₁ news₁ → ∀ p ∈ news₁, p.1 ≠ s.heap.objs.size)
    (hfix : ∀ i m₁ news₁ h, Inv i m₁ news₁ → Fr h₀ env.locals h m₁ → News h₀ env.locals h news₁ → h.get? l = some ob)
    (turn : ∀ i v o s₁ m₁ news₁, items[i]? = some v → Inv i m₁ news₁ → Sh s s₁ → Fr h₀ env.locals s₁.heap (fun y => if y = x then some v else m₁ y) → News h₀ env.locals s₁.heap ((s.heap.objs.size, o) :: news₁) →
      wpAny (model prog w) A (execs body env) (fun f s₃ => match f with
        | .next | .cont => Nxt h₀ env.locals s (Inv (i + 1)) (s.heap.objs.size, o) s₃
        | .brk => R (.ok .next) s₃
        | .ret v => R (.ok (.ret v)) s₃) (fun _ _ => False) s₁)
    (done : ∀ s₃ m₃ news₃, Inv items.size m₃ news₃ → Sh s s₃ → Fr h₀ env.locals s₃.heap m₃ → News h₀ env.locals s₃.heap news₃ → R (.ok .next) s₃) :
    wpAny (model prog w) A (pyIter (.ref l)) (fun it s₂ => codeAny (model prog w) A (.forLoop (.Name x px) it body [] env) R s₂) E s := by
  have hl : s.heap.IsList l items := ⟨ob, hob, hc, k, hd⟩
  refine wpAny_pyIter_list hl ?_
  have hL : env.locals < s.heap.objs.size := F.ns.lt
  have hls : l < s.heap.objs.size := Heap.lt_size hob
  have hne : l ≠ s.heap.objs.size := Nat.ne_of_lt hls
  refine loopN (Walks.list hh s.heap.objs.size l hne items) (fix := [(l, ob)]) hx hp (Nat.ne_of_gt hL) ?_ (fun b hb => ?_) (fun i h hst => let ⟨o, ho, _⟩ := hst.1; ⟨o, ho⟩) Inv ?_ ?_ hn h0 ?_ (F.push _)
    (fun p hp => ⟨Heap.get?_push_of_some _ (N p hp).1, (N p hp).2⟩) ?_ ?_
  · cases hq : h₀.get? s.heap.objs.size with
    | none => rfl
    | some o' => exact absurd (Heap.lt_size (F.keep _ _ hq)) (Nat.lt_irrefl _)
  · rcases List.mem_cons.mp hb with rfl | hb
    · exact .inl rfl
    · rw [List.mem_singleton.mp hb]; exact .inr ⟨ob, .head _⟩
  · intro p hp; rw [List.mem_singleton.mp hp]; exact ⟨hne, hlL⟩
  · intro i m₁ news₁ h hI F₁ N₁ p hp; rw [List.mem_singleton.mp hp]; exact hfix i m₁ news₁ h hI F₁ N₁
  · exact ⟨⟨_, Heap.get?_push_size _ rfl, rfl, rfl⟩, hl.push _⟩
  · rintro i v o s₁ m₁ news₁ hi hv hI hsh F₁ N₁
    refine wpAny_mono (turn i v o s₁ m₁ news₁ hv hI (Sh.heap.trans hsh) F₁ N₁) (fun f s₃ h₃ => ?_) fun _ _ e => e
    cases f with
    | next => obtain ⟨m₂, news₂, a1, a2, a3, a4⟩ := h₃; exact ⟨m₂, news₂, a1, ⟨a2.os, a2.bare⟩, a3, a4⟩
    | cont => obtain ⟨m₂, news₂, a1, a2, a3, a4⟩ := h₃; exact ⟨m₂, news₂, a1, ⟨a2.os, a2.bare⟩, a3, a4⟩
    | brk => exact h₃
    | ret v => exact h₃
  · intro s₃ m₃ news₃ hI hsh F₃ N₃
    exact done s₃ m₃ news₃ hI ⟨hsh.os, hsh.bare⟩ F₃ N₃
end
end Mine
end

section
theorem Mine.reset10 : True := by
  w_top off
  first | (walk1; done) | exact True.intro
set_option maxRecDepth 100000
set_option maxHeartbeats 8000000
namespace Mine
open PySem PySem.W PySem.Calls PyProof.Rows
theorem fill4 : PySem.Challenge.rw_us0021_01.foot = PySem.Challenge.rw_us0021_01.foot ∧ hd.heap_39 = hd.heap_39 := by
  k_fill
  exact ⟨rfl, rfl⟩

section
variable {prog : Program} {w : World} {A : Around} {E : Value → Shared → Prop} {s : Shared} {h₀ : Heap} {L : Addr} {m : Str → Option Value} {news : List (Addr × Obj)} {Q : Value → Shared → Prop}
theorem split_conc {x y U V : Str} {t u : Tok} (hF : Fr h₀ L s.heap m) (hN : News h₀ L s.heap news) (hy : (y.length == 0) = false) (hs : Txt.split x y = [U, V])
    (h : ∀ D tU tV h' k, Fr h₀ L h' m → News h₀ L h' ((D, PySem.W.listOf #[.str U tU, .str V tV] 0) :: news) → (∀ p ∈ news, p.1 < D) → Q (.ref D) { s with heap := h', toks := k }) (hsz : x.length + 2 ≤ sizeLine) :
    wpAny (model prog w) A (call (.builtin "str.split") [.str x t, .str y u]) Q E s := by
  refine splitN1A hF hN hy (fun l h' k e _ _ _ F N => ?_) hsz
  rw [hs] at e
  match l, e with
  | [(a, ta), (b, tb)], e =>
    simp only [List.map_cons, List.map_nil, List.cons.injEq, and_true] at e
    obtain ⟨rfl, rfl⟩ := e
    exact h _ ta tb h' k F N fun p hp => Heap.lt_size (hN p hp).1
end

theorem find_empty (g : Str) (i : Nat) (hi : i ≤ g.length) : Txt.find3 g "" (i : Int) = (i : Int) := by
  have e0 : (Str.ofString "").length = 0 := by rw [ofString_empty]; rfl
  have hf : fromIndex g.length (i : Int) = i := by unfold fromIndex; rw [if_neg (by omega)]; omega
  have hat : StrLaws.At g "" g.length i := by
    refine ⟨by rw [e0]; exact hi, ?_⟩
    rw [ofString_empty]
    show (g.cps.extract i (i + 0) == #[]) = true
    have : g.cps.extract i (i + 0) = #[] := by apply Array.ext'; simp
    rw [this]; rfl
  unfold Txt.find3
  rw [hf]
  rcases StrLaws.occ_head_from g "" i 1 (Nat.le_refl _) with ⟨h1, h2⟩ | ⟨k, r, h1, h2, h3, h4⟩
  · exact absurd hat (h2 i (Nat.le_refl _))
  · rw [h1]
    have : k = i := by
      rcases Nat.lt_or_eq_of_le h2 with hlt | he
      · exact absurd hat (h4 i (Nat.le_refl _) hlt)
      · exact he.symm
    subst this; rfl

theorem gives_find4 (x y : Str) (i : Int) (t u v z : Tok) : Gives (Builtin.«str.find» ⟨[.str x t, .str y u, .int i v, .int (x.length : Int) z], []⟩) (.int (Txt.find3 x y i)) := by
  show Gives (match Builtin.Str.occurrences x y (fromIndex x.length i) (min (max 0 (if (x.length : Int) < 0 then (x.length : Int) + x.length else (x.length : Int))).toNat x.length) 1 with | k :: _ => retInt k | [] => (do rule "str.find.not-found"; retInt (-1))) _
  have e : min (max 0 (if (x.length : Int) < 0 then (x.length : Int) + x.length else (x.length : Int))).toNat x.length = x.length := by
    rw [if_neg (by omega)]; omega
  rw [e]
  unfold Txt.find3
  cases Builtin.Str.occurrences x y (fromIndex x.length i) x.length 1 with
  | nil => exact .rule (.of_eq rfl)
  | cons k _ => exact .of_eq rfl

theorem find4 {prog : Program} {w : World} {A : Around} {E : Value → Shared → Prop} {s : Shared} {x y : Str} {t u v z : Tok} {i : Int} {Q : Value → Shared → Prop}
    (hq : Q (.int (Txt.find3 x y i) s.toks) { s with toks := s.toks + 1 }) : wpAny (model prog w) A (call (.builtin "str.find") [.str x t, .str y u, .int i v, .int (x.length : Int) z]) Q E s :=
  call_gives F.slot_str_find (typeIs_str _ _ _) F.entry_str_find (F.args_str_find_4 _ _ _ _) (gives_find4 x y i t u v z) hq

theorem find4_empty {prog : Program} {w : World} {A : Around} {E : Value → Shared → Prop} {s : Shared} {x : Str} {t u v z : Tok} {i : Nat} {Q : Value → Shared → Prop} (hi : i ≤ x.length)
    (hq : Q (.int (i : Int) s.toks) { s with toks := s.toks + 1 }) : wpAny (model prog w) A (call (.builtin "str.find") [.str x t, .str "" u, .int (i : Int) v, .int (x.length : Int) z]) Q E s :=
  find4 (by rw [find_empty x i hi]; exact hq)

local macro_rules | `(tactic| walk_at "exec For Name Name cons nil") => `(tactic| refine hideP ?_)
local macro_rules | `(tactic| walk_at "call builtin:str.find") => `(tactic| refine find4_empty (by assumption) ?_)
local macro_rules | `(tactic| walk_at "call builtin:str.split") => `(tactic| (refine split_conc (by assumption) (by assumption) (by decide +kernel) (by assumption) ?_ (by assumption); intro D' tU' tV' h' k' F' N' l1))

abbrev ellM (y g : Str) (ty tg : Tok) (n : Int) (D : Addr) (te ts : Tok) (vw : Value) : Str → Option Value := fun z =>
  if z = "w" then some vw else if z = "startpos" then some (.int n ts) else if z = "endpos" then some (.int (g.length : Int) te) else
    if z = "ws" then some (.ref D) else [(("want" : Str), Value.str y ty), (("got" : Str), Value.str g tg)].reverse.lookup z

theorem ell_for {prog : Program} {w : World} {A : Around} {s : Shared} {p : Program} {loose : List Str} {mean : ExcName → Option Value} {mg mb : Str → Option Value} {h₀ : Heap} {L : Addr}
  (X : (hd.heap_39 w.params).In h₀) (T : Top p loose mean mg mb h₀) (hh : A.handled = none) {y g : Str} {ty tg te ts : Tok} {n : Nat} {D D2 : Addr} {vw : Value} {tup : Obj} {items : Array Value} {nl : Nat}
  (hg : g.length ≤ 1000) (hn : n ≤ g.length) (hall : ∀ (i : Nat) (v : Value), items[i]? = some v → ∃ t, v = Value.str "" t)
  (FF : Fr h₀ L s.heap (ellM y g ty tg (n : Int) D te ts vw)) (NN : News h₀ L s.heap [(D2, tup), (D, PySem.W.listOf items nl)])
  {Q : Flow → Shared → Prop} {E : Value → Shared → Prop} (hQ : ∀ s₃ vw ts, Sh s s₃ → Fr h₀ L s₃.heap (ellM y g ty tg (n : Int) D te ts vw) → Q .next s₃) :
  wpAny (model prog w) A (exec (stAt (bodyOf (mainSt 10)) 9) (envOf "_ellipsis_match" (scopeOf (mainSt 10)) L 77 (.ref 76))) Q E s := by
  refine wpAny_For (ld FF rfl ?_)
  refine' loop_list (env := envOf "_ellipsis_match" (scopeOf (mainSt 10)) L 77 (.ref 76)) ?hh ?hob ?hc ?hd rfl rfl ?hlL
    (fun i m₁ news₁ => news₁ = [(D2, tup), (D, PySem.W.listOf items nl)] ∧ ∃ vw ts, m₁ = ellM y g ty tg (n : Int) D te ts vw) ?h0 ?F ?N ?_ ?_ ?_ ?_
  case hh => exact hh
  case hob => exact (NN _ (.tail _ (.head _))).1
  case hc => exact rfl
  case hd => exact rfl
  case hlL => exact (NN _ (.tail _ (.head _))).2.1
  case F => exact FF
  case N => exact NN
  case h0 => exact ⟨rfl, _, _, rfl⟩
  · rintro i m₁ news₁ ⟨rfl, _⟩ p hp
    exact Nat.ne_of_lt (Heap.lt_size (NN p hp).1)
  · rintro i m₁ news₁ h ⟨rfl, _⟩ _ N₁
    exact (N₁ _ (.tail _ (.head _))).1
  · rintro i v o s₁ m₁ news₁ hv ⟨rfl, vw, ts, rfl⟩ hsh F₁ N₁
    obtain ⟨tV, rfl⟩ := hall i v hv
    show wpAny _ _ (execs (bodyOf (stAt (bodyOf (mainSt 10)) 9)) _) _ _ _
    unfold stAt mainSt bodyOf
    k_steps
    rename Fr _ _ _ _ => FF'
    rename News _ _ _ _ => NN'
    exact ⟨ellM y g ty tg (n : Int) D te _ _, _, ⟨rfl, _, _, rfl⟩, ⟨hsh.os, hsh.bare⟩, frCast FF' (by
      intro z
      by_cases e1 : z = "w"
      · subst e1; rfl
      by_cases e2 : z = "startpos"
      · subst e2; rfl
      by_cases e3 : z = "endpos"
      · subst e3; rfl
      by_cases e4 : z = "ws"
      · subst e4; rfl
      simp only [if_neg e1, if_neg e2, if_neg e3, if_neg e4]
      try rfl), NN'⟩
  · rintro s₃ m₃ news₃ ⟨rfl, vw, ts, rfl⟩ hsh F₃ N₃
    exact hQ s₃ vw ts hsh F₃

theorem ell_call {prog : Program} {w : World} {A : Around} {s : Shared} {p : Program} {loose : List Str} {mean : ExcName → Option Value} {mg mb : Str → Option Value}
  (X : (hd.heap_39 w.params).In s.heap) (T : Top p loose mean mg mb s.heap) (r : Rm 10 A) {y g U : Str} {ty tg : Tok}
  (hU : U.length ≤ 1000) (hg : g.length ≤ 1000) (hy : y.length ≤ 1000) (hc : Txt.contains y "..." = true)
  (hs : Txt.split y "..." = [U, ""])
  {R : Result → Shared → Prop} (hR : ∀ s', Kp s s' → R (.ok (.ret (.bool (Txt.startswith g U)))) s') :
  codeAny (model prog w) A (.call (.ref 77) ⟨[.str y ty, .str g tg], []⟩) R s := by
  refine' call0 X T.nolimit r.room ?k6 ?k7 ?k9 ?kB ?c5 ?c2 ?c3 ?c4 ?_
  case k6 => k_is
  case k7 => k_is
  case k9 => exact BindsTo.of_eq rfl
  case kB => exact locs rfl
  case c5 => decide
  case c2 => exact rfl
  case c3 => exact rfl
  case c4 => exact rfl
  intro L h₁ F
  have N : News s.heap L h₁ [] := News.nil
  have hh : A.handled = none := r.hd
  have hy2 : y.length + 2 ≤ sizeLine := Nat.le_trans (Nat.add_le_add_right hy 2) (by decide)
  k_steps
  · rename (Builtin.Str.occurrences _ _ _ _ _).isEmpty = true => hcc
    unfold Txt.contains at hc
    rw [hcc] at hc
    cases hc
  · rename Fr _ _ _ _ => FF
    rename News _ _ _ _ => NN
    refine unpackItemsN_ FF NN ⟨_, (NN _ (.head _)).1, rfl, _, rfl⟩ hh rfl fun h2 F2 N2 => ?_
    clear FF NN
    k_steps
    · rename Txt.startswith g U = true => hst
      rename (g.length : Int) < _ => hlt
      exfalso
      unfold Txt.startswith at hst
      simp only [Bool.and_eq_true, decide_eq_true_eq] at hst
      omega
    · rename Fr _ _ _ _ => FF
      rename News _ _ _ _ => NN
      rename Txt.startswith g U = true => hst
      have hUg : U.length ≤ g.length := by
        rename ¬ (g.length : Int) < _ => hlt
        omega
      obtain ⟨D, D2, te, ts, vw, tup, tV, nl, FF, NN⟩ : ∃ (D D2 : Addr) (te ts : Tok) (vw : Value) (tup : Obj) (tV : Tok) (nl : Nat), Fr s.heap L _ (ellM y g ty tg (U.length : Int) D te ts vw) ∧
          News s.heap L _ [(D2, tup), (D, PySem.W.listOf #[.str "" tV] nl)] := ⟨_, _, _, _, _, _, _, _, frCast FF (by
      intro z
      by_cases e1 : z = "w"
      · subst e1; rfl
      by_cases e2 : z = "startpos"
      · subst e2; rfl
      by_cases e3 : z = "endpos"
      · subst e3; rfl
      by_cases e4 : z = "ws"
      · subst e4; rfl
      simp only [if_neg e1, if_neg e2, if_neg e3, if_neg e4]
      try rfl), NN⟩
      unfold HideP
      refine ell_for X T (A := A.deeper _) hh hg hUg (fun i v hv => ?_) FF NN fun s₃ vw ts hsh F₃ => ?_
      · have hi : i = 0 := Nat.lt_one_iff.mp (Array.getElem?_eq_some_iff.mp hv).1
        subst hi
        exact ⟨tV, (Option.some.inj hv).symm⟩
      · clear FF NN
        k_steps
        have := hR s₃ ⟨F₃.keep, hsh.os, hsh.bare⟩
        rw [hst] at this
        exact this
    · rename Txt.startswith g U = false => hst
      rename Fr _ _ _ _ => FF
      show R (.ok (.ret (.bool false))) _
      rw [← hst]
      exact hR _ ⟨FF.keep, rfl, id⟩
    · rename Fr _ _ _ _ => FF
      rename News _ _ _ _ => NN
      rename (U.length : Int) = 0 => hU0
      have hU0 : U = Str.ofString "" := by
        rw [ofString_empty]
        have : U.cps.size = 0 := by have h := hU0; simp only [Str.length] at h; omega
        obtain ⟨c⟩ := U
        congr 1
        exact Array.eq_empty_of_size_eq_zero this
      subst hU0
      obtain ⟨D, D2, te, ts, vw, tup, tU, tV, nl, FF, NN⟩ : ∃ (D D2 : Addr) (te ts : Tok) (vw : Value) (tup : Obj) (tU tV : Tok) (nl : Nat), Fr s.heap L _ (ellM y g ty tg ((0 : Nat) : Int) D te ts vw) ∧
          News s.heap L _ [(D2, tup), (D, PySem.W.listOf #[.str "" tU, .str "" tV] nl)] := ⟨_, _, _, _, _, _, _, _, _, frCast FF (by
      intro z
      by_cases e1 : z = "w"
      · subst e1; rfl
      by_cases e2 : z = "startpos"
      · subst e2; rfl
      by_cases e3 : z = "endpos"
      · subst e3; rfl
      by_cases e4 : z = "ws"
      · subst e4; rfl
      simp only [if_neg e1, if_neg e2, if_neg e3, if_neg e4]
      try rfl), NN⟩
      unfold HideP
      refine ell_for X T (A := A.deeper _) hh hg (Nat.zero_le _) (fun i v hv => ?_) FF NN fun s₃ vw ts hsh F₃ => ?_
      · have hi : i < 2 := (Array.getElem?_eq_some_iff.mp hv).1
        match i, hi, hv with
        | 0, _, hv => exact ⟨tU, (Option.some.inj hv).symm⟩
        | 1, _, hv => exact ⟨tV, (Option.some.inj hv).symm⟩
      · clear FF NN
        k_steps
        have := hR s₃ ⟨F₃.keep, hsh.os, hsh.bare⟩
        rw [show Txt.startswith g "" = true from by
          unfold Txt.startswith
          rw [ofString_empty]
          show (decide (0 + 0 ≤ g.length) && (g.cps.extract 0 (0 + 0) == #[])) = true
          have : g.cps.extract 0 (0 + 0) = #[] := by apply Array.ext'; simp
          rw [this]; simp] at this
        exact this
end Mine
end

section
local macro_rules | `(tactic| walk_at "serves nothing") => `(tactic| skip)
local macro_rules | `(tactic| walk_at "serves nothing") => `(tactic| skip)
local macro_rules | `(tactic| walk_at "serves nothing") => `(tactic| skip)
local macro_rules | `(tactic| walk_at "serves nothing") => `(tactic| skip)
local macro_rules | `(tactic| walk_at "serves nothing") => `(tactic| skip)
local macro_rules | `(tactic| walk_at "serves nothing") => `(tactic| skip)
local macro_rules | `(tactic| walk_at "serves nothing") => `(tactic| skip)
local macro_rules | `(tactic| walk_at "serves nothing") => `(tactic| skip)
local macro_rules | `(tactic| walk_at "serves nothing") => `(tactic| skip)
local macro_rules | `(tactic| walk_at "serves nothing") => `(tactic| skip)
theorem Mine.reset11 : True := by
  w_top off
  first | (walk1; done) | exact True.intro
set_option maxRecDepth 100000
set_option maxHeartbeats 1000000
namespace Mine
open PySem PySem.W PySem.Calls PyProof.Rows

/-- what an element's (or a test's) evaluation must leave (a structure, so that the walk stops at it) -/
structure CNx (h₀ : Heap) (L : Addr) (s : Shared) (m : Str → Option Value) (news : List (Addr × Obj)) (J : Prop) (s₃ : Shared) : Prop where
  j : J
  sh : Sh s s₃
  fr : Fr h₀ L s₃.heap m
  nw : News h₀ L s₃.heap news

section
variable {prog : Program} {w : World} {A : Around} {E : Value → Shared → Prop} {s : Shared} {env : Env} {x : Str} {px : Pos} {h₀ : Heap} {m : Str → Option Value} {news : List (Addr × Obj)}

theorem compN {I : Addr} {fp : List Addr} {n : Nat} {P : Nat → Value → Prop} {St : Nat → Heap → Prop} (W : Walks prog w A I fp [I] n P St) (hsz : n ≤ sizeLine) {fix : List (Addr × Obj)}
    {elt iter : Expr} {ifs : List Expr} {scope : Scope} {cl : List (Str × Addr)} {pos : Pos} {L : Addr} {Q : Value → Shared → Prop}
    (hcell : ∀ y ∈ scope.names, y.2 ≠ .cell) (hkind : scope.kind = .function) (hx : scope.names.lookup x = some .local)
    (hIL : I ≠ L) (hI0 : h₀.get? I = none) (hIlt : I < s.heap.objs.size) (hfp : ∀ b ∈ fp, b = I ∨ ∃ o, (b, o) ∈ fix) (hlive : ∀ i h, St i h → ∃ o, h.get? I = some o)
    (hfixI : ∀ p ∈ fix, p.1 ≠ I) (hfix : ∀ h, Fr h₀ L h m → News h₀ L h news → ∀ p ∈ fix, h.get? p.1 = some p.2)
    (hn : ∀ p ∈ news, p.1 ≠ I)
    (Acc : Nat → List Value → Prop) (h0 : Acc 0 []) (hst : St 0 s.heap) (F : Fr h₀ L s.heap m) (N : News h₀ L s.heap news)
    (turn : ∀ i v ys nn s₁ oC oI mC C, i < n → P i v → Acc i ys → ys.length ≤ i → Sh s s₁ → LCg.NsObj oC mC → mC x = some v → C = s.heap.objs.size + 1 →
      Fr h₀ L s₁.heap m → News h₀ L s₁.heap ((C, oC) :: (I, oI) :: (s.heap.objs.size, PySem.W.listOf ys.toArray nn) :: news) →
      wpAny (model prog w) A (forIn ifs true fun c r => if r = true then do let ok ← isTrue c (compEnvC scope cl C env) (eval c (compEnvC scope cl C env)); pure (ForInStep.yield ok) else pure (ForInStep.yield r))
        (fun ok s₂ => if ok = true then wpAny (model prog w) A (eval elt (compEnvC scope cl C env)) (fun y s₃ => CNx h₀ L s m ((C, oC) :: (I, oI) :: (s.heap.objs.size, PySem.W.listOf ys.toArray nn) :: news) (Acc (i + 1) (ys ++ [y])) s₃) (fun _ _ => False) s₂
          else CNx h₀ L s m ((C, oC) :: (I, oI) :: (s.heap.objs.size, PySem.W.listOf ys.toArray nn) :: news) (Acc (i + 1) ys) s₂) (fun _ _ => False) s₁)
    (done : ∀ s₃ ys nn, Acc n ys → Sh s s₃ → Fr h₀ L s₃.heap m → News h₀ L s₃.heap ((s.heap.objs.size, PySem.W.listOf ys.toArray nn) :: news) → Q (.ref s.heap.objs.size) s₃) :
    wpAny (model prog w) A (newList []) (fun acc s₃ => wpAny (model prog w) A (newFunctionEnv scope env.globals cl [] env.qual none .none (some env)) (fun cenv s₄ =>
      codeAny (model prog w) A (.compStart (.ListComp elt [⟨.Name x px, iter, ifs, 0⟩] scope pos) 0 (.ref I) acc { cenv with scope := relabel scope env }) (compPost (model prog w) A E none Q acc cenv.locals) s₄) E s₃) E s := by
  refine wpAny_newObj_type (wpAny_newFunctionEnv hcell (by intro y hy; simp at hy) (fun h₁ hns₁ hsb₁ => ?_) hkind)
  dsimp only at hns₁ hsb₁ ⊢
  generalize hH2 : s.heap.push { cls := .type "list", dict := none, data := .seq ([] : List Value).toArray } = H2 at hns₁ hsb₁ ⊢
  have hC : H2.objs.size = s.heap.objs.size + 1 := by rw [← hH2, Heap.size_push]
  generalize hCC : H2.objs.size = C at hns₁ hsb₁ hC ⊢
  have hLs : L < s.heap.objs.size := F.ns.lt
  have hDC : s.heap.objs.size ≠ C := by rw [hC]; exact Nat.ne_of_lt (Nat.lt_succ_self _)
  have hCs : ∀ b o, s.heap.get? b = some o → b ≠ C := fun b o e => by rw [hC]; exact Nat.ne_of_lt (Nat.lt_succ_of_lt (Heap.lt_size e))
  have hIC : I ≠ C := by rw [hC]; exact Nat.ne_of_lt (Nat.lt_succ_of_lt hIlt)
  have hID : I ≠ s.heap.objs.size := Nat.ne_of_lt hIlt
  have hLC : L ≠ C := by rw [hC]; exact Nat.ne_of_lt (Nat.lt_succ_of_lt hLs)
  have hLD : L ≠ s.heap.objs.size := Nat.ne_of_lt hLs
  have fresh₀ : ∀ a, s.heap.objs.size ≤ a → h₀.get? a = none := fun a ha => by
    cases e : h₀.get? a with
    | none => rfl
    | some o' => exact absurd (Heap.lt_size (F.keep _ _ e)) (Nat.not_lt.mpr ha)
  have hC0 : h₀.get? C = none := fresh₀ _ (by rw [hC]; exact Nat.le_succ _)
  have hD0 : h₀.get? s.heap.objs.size = none := fresh₀ _ (Nat.le_refl _)
  have old : ∀ b o, s.heap.get? b = some o → h₁.get? b = some o := fun b o e => hsb₁.extBut b o (hCs b o e) (Heap.get?_push_of_some _ (hH2 ▸ Heap.get?_push_of_some _ e))
  have hacc : h₁.get? s.heap.objs.size = some (PySem.W.listOf #[] 0) := hsb₁.extBut _ _ hDC (Heap.get?_push_of_some _ (hH2 ▸ Heap.get?_push_size _ rfl))
  have hst₁ : St 0 h₁ := W.frame _ _ _ hst fun b _ o e => old b o e
  have F₁ : Fr h₀ L h₁ m := F.after old
  have hnC : ∀ p ∈ news, p.1 ≠ C := fun p hp => hCs _ _ (N p hp).1
  have hnD : ∀ p ∈ news, p.1 ≠ s.heap.objs.size := fun p hp => Nat.ne_of_lt (Heap.lt_size (N p hp).1)
  have hfixC : ∀ p ∈ fix, p.1 ≠ C := fun p hp => hCs _ _ (hfix _ F N p hp)
  have hfixD : ∀ p ∈ fix, p.1 ≠ s.heap.objs.size := fun p hp => Nat.ne_of_lt (Heap.lt_size (hfix _ F N p hp))
  have loop : ∀ s₃ : Shared, s₃ = { s with heap := h₁, toks := s.toks + ([] : List (Str × Value)).length } →
      codeAny (model prog w) A (.compLoop (.ListComp elt [⟨.Name x px, iter, ifs, 0⟩] scope pos) 0 (.ref I) (.ref s.heap.objs.size) (compEnvC scope cl C env))
        (compPost (model prog w) A E none Q (.ref s.heap.objs.size) C) s₃ := by
    rintro s₃ rfl
    refine codeAny_compLoop_tests (fun k s' => ∃ i ys nn mC, k = n - i ∧ i ≤ n ∧ Acc i ys ∧ ys.length ≤ i ∧ St i s'.heap ∧ Sh s s' ∧ Fr h₀ L s'.heap m ∧
      News h₀ L s'.heap ((s.heap.objs.size, PySem.W.listOf ys.toArray nn) :: news) ∧ s'.heap.Ns C mC) ?_ n ⟨0, [], 0, _, rfl, Nat.zero_le _, h0, Nat.le_refl _, hst₁, Sh.heap, F₁, ?_, hns₁⟩
    rotate_left
    · intro p hp
      rcases List.mem_cons.mp hp with rfl | hp
      · exact ⟨hacc, Ne.symm hLD, hD0⟩
      · exact ⟨old _ _ (N p hp).1, (N p hp).2⟩
    rintro k s' ⟨i, ys, nn, mC, rfl, hi, hA, hlen, hst', hsh, F', N', hnC'⟩
    have moveF : ∀ h', (∀ b o, b ∉ [I] → s'.heap.get? b = some o → h'.get? b = some o) → Fr h₀ L h' m := fun h' hk =>
      ⟨F'.ns.at' fun o ho => hk _ _ (by simpa using Ne.symm hIL) ho, fun b o ho => hk _ _ (fun hb => by rw [List.mem_singleton.mp hb, hI0] at ho; cases ho) (F'.keep _ _ ho), F'.above⟩
    have hnI : ∀ p ∈ (s.heap.objs.size, PySem.W.listOf ys.toArray nn) :: news, p.1 ≠ I := fun p hp => by
      rcases List.mem_cons.mp hp with rfl | hp
      · exact Ne.symm hID
      · exact hn p hp
    have moveN : ∀ h', (∀ b o, b ∉ [I] → s'.heap.get? b = some o → h'.get? b = some o) → News h₀ L h' ((s.heap.objs.size, PySem.W.listOf ys.toArray nn) :: news) := fun h' hk p hp =>
      ⟨hk _ _ (by simpa using hnI p hp) (N' p hp).1, (N' p hp).2⟩
    rcases Nat.lt_or_eq_of_le hi with hlt | rfl
    · refine W.item i s' _ _ hlt hst' fun v h₂ tk hP hst₂ hk₂ => ?_
      have F₂ := moveF h₂ hk₂
      have N₂ := moveN h₂ hk₂
      have hnC₂ : h₂.Ns C mC := hnC'.at' fun o ho => hk₂ _ _ (by simpa using Ne.symm hIC) ho
      refine wpAny_assign_Name (wpAny_storeName_local (lookup_relabel_local hx) hnC₂ (fun h₃ hn₃ hs₃ => ?_) (by simp [compEnvC, relabel, hkind]))
      replace hs₃ : Heap.SameBut C h₂ h₃ := hs₃
      obtain ⟨oC, hoC, hC3⟩ := LCg.ns_obj hn₃
      replace hoC : h₃.get? C = some oC := hoC
      obtain ⟨oI, hoI⟩ := hlive _ _ hst₂
      have hoI₃ : h₃.get? I = some oI := hs₃.extBut _ _ hIC hoI
      have up : ∀ b o, b ≠ C → h₂.get? b = some o → h₃.get? b = some o := fun b o hb e => hs₃.extBut b o hb e
      have F₃ : Fr h₀ L h₃ m := ⟨F₂.ns.at' fun o ho => up _ _ hLC ho, fun b o ho => up _ _ (fun hb => by rw [hb, hC0] at ho; cases ho) (F₂.keep _ _ ho), F₂.above⟩
      have N₃ : News h₀ L h₃ ((C, oC) :: (I, oI) :: (s.heap.objs.size, PySem.W.listOf ys.toArray nn) :: news) := by
        intro p hp
        rcases List.mem_cons.mp hp with rfl | hp
        · exact ⟨hoC, Ne.symm hLC, hC0⟩
        rcases List.mem_cons.mp hp with rfl | hp
        · exact ⟨hoI₃, hIL, hI0⟩
        · refine ⟨up _ _ ?_ (N₂ p hp).1, (N₂ p hp).2⟩
          rcases List.mem_cons.mp hp with rfl | hp
          · exact hDC
          · exact hnC p hp
      have hst₃ : St (i + 1) h₃ := W.frame _ _ _ hst₂ fun b hb o' ho' => by
        rcases hfp b hb with rfl | ⟨o₁, hm⟩
        · exact up _ _ hIC ho'
        · exact up _ _ (hfixC _ hm) ho'
      have again : ∀ s₄ : Shared, Sh s s₄ → Fr h₀ L s₄.heap m → News h₀ L s₄.heap ((C, oC) :: (I, oI) :: news) → St (i + 1) s₄.heap ∧ ∃ mC', s₄.heap.Ns C mC' := by
        intro s₄ _ F₄ N₄
        refine ⟨W.frame _ _ _ hst₃ fun b hb o' ho' => ?_, _, hC3.ns (N₄ _ (.head _)).1⟩
        rcases hfp b hb with rfl | ⟨o₁, hm⟩
        · have : oI = o' := Option.some.inj (hoI₃.symm.trans ho')
          subst this
          exact (N₄ _ (.tail _ (.head _))).1
        · have e1 := up _ _ (hfixC _ hm) (hfix _ F₂ (fun p hp => N₂ p (.tail _ hp)) _ hm)
          have : o₁ = o' := Option.some.inj (e1.symm.trans ho')
          subst this
          exact hfix _ F₄ (fun p hp => N₄ p (.tail _ (.tail _ hp))) _ hm
      refine wpAny_mono (turn i v ys nn _ oC oI _ C hlt hP hA hlen (hsh.trans Sh.heap) hC3 (by simp) hC F₃ N₃) (fun ok s₄ h₄ => ?_) fun _ _ e => e.elim
      cases ok with
      | true =>
        rw [if_pos rfl] at h₄ ⊢
        refine wpAny_mono h₄ (fun y s₅ h₅ => ?_) fun _ _ e => e.elim
        obtain ⟨hA₅, hsh₅, F₅, N₅⟩ := h₅
        have hD₅ := (N₅ _ (.tail _ (.tail _ (.head _)))).1
        refine PyProof.Rows.append_at (its := ys.toArray) (n := nn) (hsz := by rw [List.size_toArray]; exact Nat.le_trans hlen (Nat.le_trans hi hsz)) hD₅ fun h₆ hs₆ ho₆ => ?_
        replace hs₆ : Heap.SameBut s.heap.objs.size s₅.heap h₆ := hs₆
        have up₆ : ∀ b o, b ≠ s.heap.objs.size → s₅.heap.get? b = some o → h₆.get? b = some o := fun b o hb e => hs₆.extBut b o hb e
        have F₆ : Fr h₀ L h₆ m := ⟨F₅.ns.at' fun o ho => up₆ _ _ hLD ho, fun b o ho => up₆ _ _ (fun hb => by rw [hb, hD0] at ho; cases ho) (F₅.keep _ _ ho), F₅.above⟩
        have N₆ : News h₀ L h₆ ((C, oC) :: (I, oI) :: news) := by
          intro p hp
          have hm : p ∈ (C, oC) :: (I, oI) :: (s.heap.objs.size, PySem.W.listOf ys.toArray nn) :: news := by
            rcases List.mem_cons.mp hp with rfl | hp
            · exact .head _
            rcases List.mem_cons.mp hp with rfl | hp
            · exact .tail _ (.head _)
            · exact .tail _ (.tail _ (.tail _ hp))
          refine ⟨up₆ _ _ ?_ (N₅ p hm).1, (N₅ p hm).2⟩
          rcases List.mem_cons.mp hp with rfl | hp
          · exact Ne.symm hDC
          rcases List.mem_cons.mp hp with rfl | hp
          · exact hID
          · exact hnD p hp
        obtain ⟨hst₆, mC₆, hn₆⟩ := again { s₅ with heap := h₆ } ⟨hsh₅.os, hsh₅.bare⟩ F₆ N₆
        refine ⟨n - (i + 1), by omega, i + 1, ys ++ [y], nn + 1, mC₆, rfl, hlt, hA₅, by simp; exact hlen, hst₆, ⟨hsh₅.os, hsh₅.bare⟩, F₆, fun p hp => ?_, hn₆⟩
        rcases List.mem_cons.mp hp with rfl | hp
        · refine ⟨?_, Ne.symm hLD, hD0⟩
          rw [← List.push_toArray]; exact ho₆
        · exact N₆ p (.tail _ (.tail _ hp))
      | false =>
        rw [if_neg Bool.false_ne_true] at h₄ ⊢
        obtain ⟨hA₅, hsh₅, F₅, N₅⟩ := h₄
        have N₆ : News h₀ L s₄.heap ((C, oC) :: (I, oI) :: news) := by
          intro p hp
          rcases List.mem_cons.mp hp with rfl | hp
          · exact N₅ _ (.head _)
          rcases List.mem_cons.mp hp with rfl | hp
          · exact N₅ _ (.tail _ (.head _))
          · exact N₅ _ (.tail _ (.tail _ (.tail _ hp)))
        obtain ⟨hst₆, mC₆, hn₆⟩ := again s₄ hsh₅ F₅ N₆
        exact ⟨n - (i + 1), by omega, i + 1, ys, nn, mC₆, rfl, hlt, hA₅, Nat.le_succ_of_le hlen, hst₆, hsh₅, F₅, fun p hp => N₅ p (.tail _ (.tail _ hp)), hn₆⟩
    · refine W.done s' _ _ hst' fun h₂ tk hk₂ => ?_
      have F₂ := moveF h₂ hk₂
      have N₂ := moveN h₂ hk₂
      have hnC₂ : h₂.Ns C mC := hnC'.at' fun o ho => hk₂ _ _ (by simpa using Ne.symm hIC) ho
      refine ⟨mC, hnC₂, fun h₃ hs₃ => ?_⟩
      have up : ∀ b o, b ≠ C → h₂.get? b = some o → h₃.get? b = some o := fun b o hb e => hs₃.extBut b o hb e
      refine done _ ys nn hA (hsh.trans Sh.heap) ⟨F₂.ns.at' fun o ho => up _ _ hLC ho, fun b o ho => up _ _ (fun hb => by rw [hb, hC0] at ho; cases ho) (F₂.keep _ _ ho), F₂.above⟩ fun p hp => ⟨up _ _ ?_ (N₂ p hp).1, (N₂ p hp).2⟩
      rcases List.mem_cons.mp hp with rfl | hp
      · exact hDC
      · exact hnC p hp
  exact codeAny_compStart_list (loop _ rfl) (W.self 0 _ _ _ hst₁ (loop _ rfl))
end
end Mine
end

section
theorem Mine.reset12 : True := by
  w_top off
  first | (walk1; done) | exact True.intro
set_option maxRecDepth 100000
set_option maxHeartbeats 1000000
namespace Mine
open PySem PySem.W PySem.Calls PyProof.Rows

def compBlock (prog : Program) (w : World) (A : Around) (E : Value → Shared → Prop) (env : Env) (elt iter : Expr) (x : Str) (px : Pos) (ifs : List Expr) (scope : Scope) (cl : List (Str × Addr)) (pos : Pos) (Q : Value → Shared → Prop) (it : Value) (s : Shared) : Prop :=
  wpAny (model prog w) A (newList []) (fun acc s₃ => wpAny (model prog w) A (newFunctionEnv scope env.globals cl [] env.qual none .none (some env)) (fun cenv s₄ =>
      codeAny (model prog w) A (.compStart (.ListComp elt [⟨.Name x px, iter, ifs, 0⟩] scope pos) 0 it acc { cenv with scope := relabel scope env }) (compPost (model prog w) A E none Q acc cenv.locals) s₄) E s₃) E s

section
variable {prog : Program} {w : World} {A : Around} {E : Value → Shared → Prop} {s : Shared} {env : Env} {x : Str} {px : Pos} {h₀ : Heap} {m : Str → Option Value} {news : List (Addr × Obj)}
  {elt iter : Expr} {ifs : List Expr} {scope : Scope} {cl : List (Str × Addr)} {pos : Pos} {L : Addr} {Q : Value → Shared → Prop}

theorem evalComp (hclos : closureFor scope env = pure cl) (hkind : scope.kind = .function) (hnames : ∀ y ∈ scope.names, y.2 = .local → scope.names.lookup y.1 = some .local)
    (h : wpAny (model prog w) A (eval iter env) (fun xv s₁ => wpAny (model prog w) A (pyIter xv) (fun it s₂ => compBlock prog w A E env elt iter x px ifs scope cl pos Q it s₂) E s₁) E s)
    (hs : ∀ x, foldedSetIterable iter env x = pure x := by intro _; rfl) :
    wpAny (model prog w) A (eval (.ListComp elt [⟨.Name x px, iter, ifs, 0⟩] scope pos) env) Q E s := by
  rw [eval_ListComp]
  exact wpAny_comprehension_free (use := none) rfl hs hclos hkind hnames h

theorem comp_range (hh : A.handled = none) {r : Addr} {a b c : Int} {t u v : Tok} {k : Nat} (hr : IsRange s.heap r a b c t u v) (hsmall : Builtin.Range.small a b c = true) (hk : Builtin.Range.rangeSize a b c = k) (hsz : k ≤ sizeLine)
    (hcell : ∀ y ∈ scope.names, y.2 ≠ .cell) (hkind : scope.kind = .function) (hx : scope.names.lookup x = some .local)
    (Acc : Nat → List Value → Prop) (h0 : Acc 0 []) (F : Fr h₀ L s.heap m) (N : News h₀ L s.heap news)
    (turn : ∀ i t ys nn s₁ oC oI mC C I D, i < k → Acc i ys → ys.length ≤ i → Sh s s₁ → LCg.NsObj oC mC → mC x = some (.int (a + i * c) t) → (∀ p ∈ news, @LT.lt Nat _ p.1 I) → @LT.lt Nat _ I D → @LT.lt Nat _ D C →
      Fr h₀ L s₁.heap m → News h₀ L s₁.heap ((C, oC) :: (I, oI) :: (D, PySem.W.listOf ys.toArray nn) :: news) →
      wpAny (model prog w) A (forIn ifs true fun c r => if r = true then do let ok ← isTrue c (compEnvC scope cl C env) (eval c (compEnvC scope cl C env)); pure (ForInStep.yield ok) else pure (ForInStep.yield r))
        (fun ok s₂ => if ok = true then wpAny (model prog w) A (eval elt (compEnvC scope cl C env)) (fun y s₃ => CNx h₀ L s m ((C, oC) :: (I, oI) :: (D, PySem.W.listOf ys.toArray nn) :: news) (Acc (i + 1) (ys ++ [y])) s₃) (fun _ _ => False) s₂
          else CNx h₀ L s m ((C, oC) :: (I, oI) :: (D, PySem.W.listOf ys.toArray nn) :: news) (Acc (i + 1) ys) s₂) (fun _ _ => False) s₁)
    (done : ∀ s₃ ys nn D, Acc k ys → Sh s s₃ → (∀ p ∈ news, @LT.lt Nat _ p.1 D) → Fr h₀ L s₃.heap m → News h₀ L s₃.heap ((D, PySem.W.listOf ys.toArray nn) :: news) → Q (.ref D) s₃) :
    wpAny (model prog w) A (pyIter (.ref r)) (fun it s₂ => compBlock prog w A E env elt iter x px ifs scope cl pos Q it s₂) E s := by
  refine wpAny_pyIter_range hr hsmall ?_
  have hL : L < s.heap.objs.size := F.ns.lt
  have hI0 : h₀.get? s.heap.objs.size = none := by
    cases hq : h₀.get? s.heap.objs.size with
    | none => rfl
    | some o' => exact absurd (Heap.lt_size (F.keep _ _ hq)) (Nat.lt_irrefl _)
  have hpush : ∀ o : Obj, (s.heap.push o).objs.size = s.heap.objs.size + 1 := fun o => Heap.size_push ..
  have hlt : ∀ p ∈ news, @LT.lt Nat _ p.1 s.heap.objs.size := fun p hp => Heap.lt_size (N p hp).1
  unfold compBlock
  refine compN (Walks.range hh s.heap.objs.size a c k) hsz (fix := []) hcell hkind hx (Nat.ne_of_gt hL) hI0 (by rw [hpush]; exact Nat.lt_succ_self _) (fun b hb => .inl (List.mem_singleton.mp hb)) (fun i h hst => ⟨_, hst⟩) (by simp) (by simp)
    (fun p hp => Nat.ne_of_lt (hlt p hp)) Acc h0 ?_ (F.push _) (fun p hp => ⟨Heap.get?_push_of_some _ (N p hp).1, (N p hp).2⟩) ?_ ?_
  · show (s.heap.push _).get? s.heap.objs.size = _
    rw [Heap.get?_push_size _ rfl, hk]
    simp
  · rintro i v ys nn s₁ oC oI mC C hi ⟨t, rfl⟩ hA hlen hsh hns hx' hC F₁ N₁
    refine wpAny_mono (turn i t ys nn s₁ oC oI mC C s.heap.objs.size _ hi hA hlen (Sh.heap.trans hsh) hns hx' hlt (by rw [hpush]; exact Nat.lt_succ_self _) (by rw [hC]; exact Nat.lt_succ_self _) F₁ N₁) (fun ok s₂ h₂ => ?_) fun _ _ e => e
    cases ok with
    | true => exact wpAny_mono h₂ (fun y s₃ h₃ => ⟨h₃.j, ⟨h₃.sh.os, h₃.sh.bare⟩, h₃.fr, h₃.nw⟩) fun _ _ e => e
    | false => exact ⟨h₂.j, ⟨h₂.sh.os, h₂.sh.bare⟩, h₂.fr, h₂.nw⟩
  · intro s₃ ys nn hA hsh F₃ N₃
    exact done s₃ ys nn _ hA ⟨hsh.os, hsh.bare⟩ (fun p hp => Nat.lt_trans (hlt p hp) (by rw [hpush]; exact Nat.lt_succ_self _)) F₃ N₃

theorem comp_list (hh : A.handled = none) {l : Addr} {ob : Obj} {items : Array Value} {k : Nat} (hob : s.heap.get? l = some ob) (hc : ob.cls = .type "list") (hd : ob.data = .seq items k) (hsz : items.size ≤ sizeLine)
    (hcell : ∀ y ∈ scope.names, y.2 ≠ .cell) (hkind : scope.kind = .function) (hx : scope.names.lookup x = some .local)
    (Acc : Nat → List Value → Prop) (h0 : Acc 0 []) (F : Fr h₀ L s.heap m) (N : News h₀ L s.heap news)
    (hfix : ∀ h, Fr h₀ L h m → News h₀ L h news → h.get? l = some ob)
    (turn : ∀ i v ys nn s₁ oC oI mC C I D, items[i]? = some v → Acc i ys → ys.length ≤ i → Sh s s₁ → LCg.NsObj oC mC → mC x = some v → (∀ p ∈ news, @LT.lt Nat _ p.1 I) → @LT.lt Nat _ I D → @LT.lt Nat _ D C →
      Fr h₀ L s₁.heap m → News h₀ L s₁.heap ((C, oC) :: (I, oI) :: (D, PySem.W.listOf ys.toArray nn) :: news) →
      wpAny (model prog w) A (forIn ifs true fun c r => if r = true then do let ok ← isTrue c (compEnvC scope cl C env) (eval c (compEnvC scope cl C env)); pure (ForInStep.yield ok) else pure (ForInStep.yield r))
        (fun ok s₂ => if ok = true then wpAny (model prog w) A (eval elt (compEnvC scope cl C env)) (fun y s₃ => CNx h₀ L s m ((C, oC) :: (I, oI) :: (D, PySem.W.listOf ys.toArray nn) :: news) (Acc (i + 1) (ys ++ [y])) s₃) (fun _ _ => False) s₂
          else CNx h₀ L s m ((C, oC) :: (I, oI) :: (D, PySem.W.listOf ys.toArray nn) :: news) (Acc (i + 1) ys) s₂) (fun _ _ => False) s₁)
    (done : ∀ s₃ ys nn D, Acc items.size ys → Sh s s₃ → (∀ p ∈ news, @LT.lt Nat _ p.1 D) → Fr h₀ L s₃.heap m → News h₀ L s₃.heap ((D, PySem.W.listOf ys.toArray nn) :: news) → Q (.ref D) s₃) :
    wpAny (model prog w) A (pyIter (.ref l)) (fun it s₂ => compBlock prog w A E env elt iter x px ifs scope cl pos Q it s₂) E s := by
  have hl : s.heap.IsList l items := ⟨ob, hob, hc, k, hd⟩
  refine wpAny_pyIter_list hl ?_
  have hL : L < s.heap.objs.size := F.ns.lt
  have hI0 : h₀.get? s.heap.objs.size = none := by
    cases hq : h₀.get? s.heap.objs.size with
    | none => rfl
    | some o' => exact absurd (Heap.lt_size (F.keep _ _ hq)) (Nat.lt_irrefl _)
  have hne : l ≠ s.heap.objs.size := Nat.ne_of_lt (Heap.lt_size hob)
  have hpush : ∀ o : Obj, (s.heap.push o).objs.size = s.heap.objs.size + 1 := fun o => Heap.size_push ..
  have hlt : ∀ p ∈ news, @LT.lt Nat _ p.1 s.heap.objs.size := fun p hp => Heap.lt_size (N p hp).1
  unfold compBlock
  refine compN (Walks.list hh s.heap.objs.size l hne items) hsz (fix := [(l, ob)]) hcell hkind hx (Nat.ne_of_gt hL) hI0 (by rw [hpush]; exact Nat.lt_succ_self _) (fun b hb => ?_) (fun i h hst => let ⟨o, ho, _⟩ := hst.1; ⟨o, ho⟩) ?_ ?_
    (fun p hp => Nat.ne_of_lt (hlt p hp)) Acc h0 ?_ (F.push _) (fun p hp => ⟨Heap.get?_push_of_some _ (N p hp).1, (N p hp).2⟩) ?_ ?_
  · rcases List.mem_cons.mp hb with rfl | hb
    · exact .inl rfl
    · rw [List.mem_singleton.mp hb]; exact .inr ⟨ob, .head _⟩
  · intro p hp; rw [List.mem_singleton.mp hp]; exact hne
  · intro h F₁ N₁ p hp; rw [List.mem_singleton.mp hp]; exact hfix h F₁ N₁
  · exact ⟨⟨_, Heap.get?_push_size _ rfl, rfl, rfl⟩, hl.push _⟩
  · rintro i v ys nn s₁ oC oI mC C hi hv hA hlen hsh hns hx' hC F₁ N₁
    refine wpAny_mono (turn i v ys nn s₁ oC oI mC C s.heap.objs.size _ hv hA hlen (Sh.heap.trans hsh) hns hx' hlt (by rw [hpush]; exact Nat.lt_succ_self _) (by rw [hC]; exact Nat.lt_succ_self _) F₁ N₁) (fun ok s₂ h₂ => ?_) fun _ _ e => e
    cases ok with
    | true => exact wpAny_mono h₂ (fun y s₃ h₃ => ⟨h₃.j, ⟨h₃.sh.os, h₃.sh.bare⟩, h₃.fr, h₃.nw⟩) fun _ _ e => e
    | false => exact ⟨h₂.j, ⟨h₂.sh.os, h₂.sh.bare⟩, h₂.fr, h₂.nw⟩
  · intro s₃ ys nn hA hsh F₃ N₃
    exact done s₃ ys nn _ hA ⟨hsh.os, hsh.bare⟩ (fun p hp => Nat.lt_trans (hlt p hp) (by rw [hpush]; exact Nat.lt_succ_self _)) F₃ N₃
end

section
variable {prog : Program} {w : World} {A : Around} {s : Shared} {K : Frag}
  {R : Result → Shared → Prop} {name qual : Str} {params : Arguments} {body : List Stmt} {scope : Scope} {dV kV doc pm cdv ct oc : Value} {an od : Option Addr} {osl : Array (Option Value)} {f : Addr} {args : Args} {binds : List (Str × Value)}

/-- a call of one of the text's own defs that has cells -/
theorem call0C (X : K.In s.heap) (hlim : s.heap.NoLimit) (hroom : A.depth < recursionLimit)
    (ho : K.lookup f = some ⟨oc, od, .func (fnOf name qual params body scope dV kV doc pm an cdv ct), osl⟩) (hcd : codeIn K cdv qual = true)
    (hbind : BindsTo s (fnOf name qual params body scope dV kV doc pm an cdv ct) args binds)
    (hkind : ∀ n, ∀ x ∈ binds, scope.names.lookup x.1 = some .local ∨ (scope.names.lookup x.1 = some .cell ∧ ((cellsFrom n scope.names []).lookup x.1).isSome = true))
    (hnd : ((cellsFrom 0 scope.names []).map (·.1)).Nodup)
    (hco : scope.isCoroutine = false) (hgen : scope.isGenerator = false) (hk : scope.kind = .function)
    (h : ∀ L h₁ tk cells, Fr s.heap L h₁ (bindL (envOfC qual scope L f cdv).kindOf binds fun _ => none) → News s.heap L h₁ cells →
      CellsAre (bindC (envOfC qual scope L f cdv).kindOf binds fun _ => none) (cellsFrom (L + 1) scope.names []) cells →
      wpAny (model prog w) (A.deeper (envOfC qual scope L f cdv)) (execs body (envOfC qual scope L f cdv))
        (fun fl s' => R (.ok (.ret (match fl with | .ret v => v | _ => .none))) s') (fun _ _ => False) { s with heap := h₁, toks := tk }) :
    codeAny (model prog w) A (.call (.ref f) args) R s := by
  refine codeAny_call_function hroom (X _ _ ho) rfl hco hgen rfl (codeRec_of X hcd) (hbind _ _ _ _ ?_)
  refine wpAny_newFunctionEnv_cells hk (hkind _) fun env' he s' x => ?_
  subst he
  refine ⟨hlim.keeps x.toInCall.keep, codeAny_func ?_⟩
  obtain ⟨h₁, tk, rfl, _⟩ := x.done
  have hk₁ := x.toInCall.keep
  obtain ⟨cells, NC, Y⟩ := Cl.news (h₀ := s.heap) (Nat.le_refl _) fun n c hm => ⟨x.cell n c (lookup_of_mem_nodup (cellsFrom_names scope.names 0 (s.heap.objs.size + 1) [] [] rfl ▸ hnd) hm), x.above n c hm⟩
  exact wpAny_mono (h s.heap.objs.size h₁ tk cells ⟨x.toInCall.ns, hk₁, Nat.le_refl _⟩ NC Y) (fun _ _ y => y) (fun _ _ y => y.elim)
end
end Mine
end

section
local macro_rules | `(tactic| walk_at "serves nothing") => `(tactic| skip)
local macro_rules | `(tactic| walk_at "serves nothing") => `(tactic| skip)
local macro_rules | `(tactic| walk_at "serves nothing") => `(tactic| skip)
local macro_rules | `(tactic| walk_at "serves nothing") => `(tactic| skip)
local macro_rules | `(tactic| walk_at "serves nothing") => `(tactic| skip)
local macro_rules | `(tactic| walk_at "serves nothing") => `(tactic| skip)
local macro_rules | `(tactic| walk_at "serves nothing") => `(tactic| skip)
local macro_rules | `(tactic| walk_at "serves nothing") => `(tactic| skip)
local macro_rules | `(tactic| walk_at "serves nothing") => `(tactic| skip)
local macro_rules | `(tactic| walk_at "serves nothing") => `(tactic| skip)
theorem Mine.reset13 : True := by
  w_top off
  first | (walk1; done) | exact True.intro
set_option maxRecDepth 100000
set_option maxHeartbeats 1000000
namespace Mine
open PySem PySem.W PySem.Calls PyProof.Rows

structure NxtC (h₀ : Heap) (L : Addr) (s : Shared) (J : (Str → Option Value) → List (Addr × Obj) → Prop) (I : Addr) (o : Obj) (c : Addr) (s₃ : Shared) : Prop where
  ex : ∃ m₂ news₂ oc v₀, J m₂ news₂ ∧ oc.data = .cell v₀ ∧ Sh s s₃ ∧ Fr h₀ L s₃.heap m₂ ∧ News h₀ L s₃.heap ((I, o) :: (c, oc) :: news₂)

section
variable {prog : Program} {w : World} {A : Around} {E : Value → Shared → Prop} {s : Shared} {env : Env} {R : Result → Shared → Prop} {x : Str} {px : Pos} {body : List Stmt} {h₀ : Heap} {m : Str → Option Value} {news : List (Addr × Obj)}

theorem loop_rangeC (hh : A.handled = none) {r : Addr} {a b cc : Int} {t u v : Tok} {k : Nat} (hr : IsRange s.heap r a b cc t u v) (hsmall : Builtin.Range.small a b cc = true) (hk : Builtin.Range.rangeSize a b cc = k)
    {c : Addr} {oc : Obj} {v₀ : Option Value} (hke : env.scope.kind = .function) (hx : env.kindOf x = some .cell) (hc : env.cells.lookup x = some c) (hoc : oc.data = .cell v₀)
    (Inv : Nat → (Str → Option Value) → List (Addr × Obj) → Prop) (h0 : Inv 0 m news) (F : Fr h₀ env.locals s.heap m) (N : News h₀ env.locals s.heap ((c, oc) :: news))
    (hn : ∀ i m₁ news₁, Inv i m₁ news₁ → ∀ p ∈ news₁, p.1 ≠ s.heap.objs.size ∧ p.1 ≠ c)
    (turn : ∀ i t o oc s₁ m₁ news₁, i < k → Inv i m₁ news₁ → Sh s s₁ → oc.data = .cell (some (.int (a + i * cc) t)) → Fr h₀ env.locals s₁.heap m₁ → News h₀ env.locals s₁.heap ((s.heap.objs.size, o) :: (c, oc) :: news₁) →
      wpAny (model prog w) A (execs body env) (fun f s₃ => match f with
        | .next | .cont => NxtC h₀ env.locals s (Inv (i + 1)) s.heap.objs.size o c s₃
        | .brk => R (.ok .next) s₃
        | .ret v => R (.ok (.ret v)) s₃) (fun _ _ => False) s₁)
    (done : ∀ s₃ m₃ news₃ oc v₀, Inv k m₃ news₃ → Sh s s₃ → oc.data = .cell v₀ → Fr h₀ env.locals s₃.heap m₃ → News h₀ env.locals s₃.heap ((c, oc) :: news₃) → R (.ok .next) s₃) :
    wpAny (model prog w) A (pyIter (.ref r)) (fun it s₂ => codeAny (model prog w) A (.forLoop (.Name x px) it body [] env) R s₂) E s := by
  refine wpAny_pyIter_range hr hsmall ?_
  generalize hI : s.heap.objs.size = I at hn turn
  have hL : env.locals < I := hI ▸ F.ns.lt
  have hIL : I ≠ env.locals := Nat.ne_of_gt hL
  have hcI : c ≠ I := hI ▸ Nat.ne_of_lt (Heap.lt_size (N _ (.head _)).1)
  have hcL : c ≠ env.locals := (N _ (.head _)).2.1
  have hc0 : h₀.get? c = none := (N _ (.head _)).2.2
  have hI0 : h₀.get? I = none := by
    cases hq : h₀.get? I with
    | none => rfl
    | some o' => exact absurd (Heap.lt_size (F.keep _ _ hq)) (hI ▸ Nat.lt_irrefl _)
  have W : Walks prog w A I [I] [I] k _ _ := Walks.range hh I a cc k
  have hst : IsRangeIter (s.heap.push { cls := .type "range_iterator", data := .fields #[rawInt a, rawInt (Builtin.Range.rangeSize a b cc), rawInt cc] }) I (a + (0 : Nat) * cc) ((k : Int) - (0 : Nat)) cc := by
    show (s.heap.push _).get? I = _
    rw [← hI, Heap.get?_push_size _ rfl, hk]
    simp
  refine codeAny_forLoop_any (fun k' s' => ∃ i m₁ news₁ oc v₀, k' = k - i ∧ i ≤ k ∧ Inv i m₁ news₁ ∧ oc.data = .cell v₀ ∧ IsRangeIter s'.heap I (a + (i : Nat) * cc) ((k : Int) - (i : Nat)) cc ∧ Sh s s' ∧ Fr h₀ env.locals s'.heap m₁ ∧ News h₀ env.locals s'.heap ((c, oc) :: news₁)) ?_ k
    ⟨0, m, news, oc, v₀, rfl, Nat.zero_le _, h0, hoc, hst, Sh.heap, F.push _, fun p hp => ⟨Heap.get?_push_of_some _ (N p hp).1, (N p hp).2⟩⟩
  rintro k' s' ⟨i, m₁, news₁, oc, v₀, rfl, hi, hInv, hoc, hst', hsh, F', N'⟩
  have hnI : ∀ p ∈ (c, oc) :: news₁, p.1 ≠ I := fun p hp => by
    rcases List.mem_cons.mp hp with rfl | hp
    · exact hcI
    · exact (hn _ _ _ hInv p hp).1
  have moveF : ∀ h', (∀ b o, b ∉ [I] → s'.heap.get? b = some o → h'.get? b = some o) → Fr h₀ env.locals h' m₁ := fun h' hk =>
    ⟨F'.ns.at' fun o ho => hk _ _ (by simpa using Ne.symm hIL) ho, fun b o ho => hk _ _ (fun hb => by rw [List.mem_singleton.mp hb, hI0] at ho; cases ho) (F'.keep _ _ ho), F'.above⟩
  have moveN : ∀ h', (∀ b o, b ∉ [I] → s'.heap.get? b = some o → h'.get? b = some o) → News h₀ env.locals h' ((c, oc) :: news₁) := fun h' hk p hp =>
    ⟨hk _ _ (by simpa using hnI p hp) (N' p hp).1, (N' p hp).2⟩
  rcases Nat.lt_or_eq_of_le hi with hlt | rfl
  · refine W.item i s' _ _ hlt hst' fun v h₁ tk hP hst₁ hk₁ => ?_
    obtain ⟨tv, rfl⟩ := hP
    refine wpAny_of_eq (rfl : letOwnedTupleGo (.Name x px) (.ref I) _ = pure ()) ?_
    have F₁ := moveF h₁ hk₁
    have N₁ := moveN h₁ hk₁
    refine wpAny_assign_Name (wpAny_storeName_cell hke hx hc ⟨oc, (N₁ _ (.head _)).1, hoc⟩ fun h₂ hv₂ hs₂ => ?_)
    obtain ⟨oc', hoc', hd'⟩ := hv₂
    have up : ∀ b o, b ≠ c → h₁.get? b = some o → h₂.get? b = some o := fun b o hb e => hs₂.extBut b o hb e
    have F₂ : Fr h₀ env.locals h₂ m₁ := ⟨F₁.ns.at' fun o ho => up _ _ (Ne.symm hcL) ho, fun b o ho => up _ _ (fun hb => by rw [hb, hc0] at ho; cases ho) (F₁.keep _ _ ho), F₁.above⟩
    obtain ⟨oI, hoI, heI⟩ : ∃ oI, h₂.get? I = some oI ∧ ∀ h : Heap, h.get? I = some oI → IsRangeIter h I (a + ((i + 1 : Nat) : Nat) * cc) ((k : Int) - ((i + 1 : Nat) : Nat)) cc := ⟨_, up _ _ (Ne.symm hcI) hst₁, fun h e => e⟩
    have N₂ : News h₀ env.locals h₂ ((I, oI) :: (c, oc') :: news₁) := fun p hp => by
      rcases List.mem_cons.mp hp with rfl | hp
      · exact ⟨hoI, hIL, hI0⟩
      rcases List.mem_cons.mp hp with rfl | hp
      · exact ⟨hoc', hcL, hc0⟩
      · exact ⟨up _ _ (hn _ _ _ hInv p hp).2 (N₁ p (.tail _ hp)).1, (N₁ p (.tail _ hp)).2⟩
    refine wpAny_mono (turn i tv oI oc' _ m₁ news₁ hlt hInv (hsh.trans ⟨rfl, id⟩) hd' F₂ N₂) (fun f s₃ h₃ => ?_) fun _ _ e => e.elim
    have again : NxtC h₀ env.locals s (Inv (i + 1)) I oI c s₃ → ∃ m' < k - i, ∃ i m₁ news₁ oc v₀, m' = k - i ∧ i ≤ k ∧ Inv i m₁ news₁ ∧ oc.data = .cell v₀ ∧ IsRangeIter s₃.heap I (a + (i : Nat) * cc) ((k : Int) - (i : Nat)) cc ∧ Sh s s₃ ∧ Fr h₀ env.locals s₃.heap m₁ ∧ News h₀ env.locals s₃.heap ((c, oc) :: news₁) := by
      rintro ⟨m₂, news₂, oc₂, v₂, hI₂, hd₂, hsh₂, F₃, N₃⟩
      exact ⟨k - (i + 1), by omega, i + 1, m₂, news₂, oc₂, v₂, rfl, hlt, hI₂, hd₂, heI _ (N₃ _ (.head _)).1, hsh₂, F₃, fun p hp => N₃ p (.tail _ hp)⟩
    cases f with
    | next => exact again h₃
    | cont => exact again h₃
    | brk => exact h₃
    | ret v => exact h₃
  · refine W.done s' _ _ hst' fun h₁ tk hk₁ => wpAny_execs_nil ?_
    exact done _ _ _ oc v₀ hInv (hsh.trans Sh.heap) hoc (moveF h₁ hk₁) (moveN h₁ hk₁)
end

/-! names inside a comprehension's block -/
section
variable {M : Model} {A : Around} {E : Value → Shared → Prop} {s : Shared} {h₀ : Heap} {L C : Addr} {scope : Scope} {cl : List (Str × Addr)} {env : Env} {x : Str} {pos : Pos} {v : Value} {Q : Value → Shared → Prop} {news : List (Addr × Obj)} {oC : Obj} {mC : Str → Option Value} {c : Addr} {o : Obj}
theorem nameCL (N : News h₀ L s.heap news) (hC : LCg.NsObj oC mC) (hm : (C, oC) ∈ news) (hv : mC x = some v) (h : Q v s)
    (hk : (compEnvC scope cl C env).scope.kind = .function) (hx : (compEnvC scope cl C env).kindOf x = some .local) (hd : (x == ("__debug__" : Str)) = false := by decide) :
    wpAny M A (eval (.Name x pos) (compEnvC scope cl C env)) Q E s := wpAny_Name (wpAny_loadName_local hk hx (hC.ns (N _ hm).1) hv h) hd
end

section
variable {prog : Program} {w : World} {A : Around} {E : Value → Shared → Prop} {s : Shared} {h₀ : Heap} {L : Addr} {m : Str → Option Value} {news : List (Addr × Obj)} {Q : Value → Shared → Prop}
theorem News.le (N : News h₀ L s.heap news) {h' : Heap} (hk : ∀ b o, s.heap.get? b = some o → h'.get? b = some o) : News h₀ L h' news := fun p hp => ⟨hk _ _ (N p hp).1, (N p hp).2⟩
theorem maxN {a b : Int} {t u : Tok} (hh : A.handled = none) (F : Fr h₀ L s.heap m) (N : News h₀ L s.heap news)
    (h : ∀ h' tk tv, Fr h₀ L h' m → News h₀ L h' news → Q (.int (max a b) tv) { s with heap := h', toks := tk }) : wpAny (model prog w) A (call (.builtin "max") [.int a t, .int b u]) Q E s := by
  refine max_two_ints hh fun h' tk hk => ?_
  by_cases hc : b > a
  · rw [if_pos hc]; have := h h' tk u (F.after hk) (Mine.News.le N hk); rwa [show max a b = b from by omega] at this
  · rw [if_neg hc]; have := h h' tk t (F.after hk) (Mine.News.le N hk); rwa [show max a b = a from by omega] at this
theorem minN {a b : Int} {t u : Tok} (hh : A.handled = none) (F : Fr h₀ L s.heap m) (N : News h₀ L s.heap news)
    (h : ∀ h' tk tv, Fr h₀ L h' m → News h₀ L h' news → Q (.int (min a b) tv) { s with heap := h', toks := tk }) : wpAny (model prog w) A (call (.builtin "min") [.int a t, .int b u]) Q E s := by
  refine min_two_ints hh fun h' tk hk => ?_
  by_cases hc : b < a
  · rw [if_pos hc]; have := h h' tk u (F.after hk) (Mine.News.le N hk); rwa [show min a b = b from by omega] at this
  · rw [if_neg hc]; have := h h' tk t (F.after hk) (Mine.News.le N hk); rwa [show min a b = a from by omega] at this
end

theorem rangeN {a b : Nat} (ha : a ≤ 1000) (hb : b ≤ 1000) : Builtin.Range.small (a : Int) (b : Int) 1 = true ∧ Builtin.Range.rangeSize (a : Int) (b : Int) 1 = ((b - a : Nat) : Int) := by
  refine ⟨small_one (by omega) (by omega) (by omega) (by omega), ?_⟩
  rw [rangeSize_one]
  split <;> omega

section
variable {prog : Program} {w : World} {A : Around} {E : Value → Shared → Prop} {s : Shared} {env : Env} {x : Str} {px : Pos} {h₀ : Heap} {m : Str → Option Value} {news : List (Addr × Obj)}
  {elt iter : Expr} {ifs : List Expr} {scope : Scope} {cl : List (Str × Addr)} {pos : Pos} {L : Addr} {Q : Value → Shared → Prop}

theorem comp_rangeN (hh : A.handled = none) {r : Addr} {a b : Nat} {a' b' : Int} {t u v : Tok} (hr : IsRange s.heap r a' b' 1 t u v) (ea : a' = (a : Int)) (eb : b' = (b : Int)) (ha : a ≤ 1000) (hb : b ≤ 1000)
    (hcell : ∀ y ∈ scope.names, y.2 ≠ .cell) (hkind : scope.kind = .function) (hx : scope.names.lookup x = some .local)
    (Acc : Nat → List Value → Prop) (h0 : Acc 0 []) (F : Fr h₀ L s.heap m) (N : News h₀ L s.heap news)
    (turn : ∀ i t ys nn s₁ oC oI mC C I D, i < b - a → Acc i ys → ys.length ≤ i → Sh s s₁ → LCg.NsObj oC mC → mC x = some (.int ((a + i : Nat) : Int) t) → (∀ p ∈ news, @LT.lt Nat _ p.1 I) → @LT.lt Nat _ I D → @LT.lt Nat _ D C →
      Fr h₀ L s₁.heap m → News h₀ L s₁.heap ((C, oC) :: (I, oI) :: (D, PySem.W.listOf ys.toArray nn) :: news) →
      wpAny (model prog w) A (forIn ifs true fun c r => if r = true then do let ok ← isTrue c (compEnvC scope cl C env) (eval c (compEnvC scope cl C env)); pure (ForInStep.yield ok) else pure (ForInStep.yield r))
        (fun ok s₂ => if ok = true then wpAny (model prog w) A (eval elt (compEnvC scope cl C env)) (fun y s₃ => CNx h₀ L s m ((C, oC) :: (I, oI) :: (D, PySem.W.listOf ys.toArray nn) :: news) (Acc (i + 1) (ys ++ [y])) s₃) (fun _ _ => False) s₂
          else CNx h₀ L s m ((C, oC) :: (I, oI) :: (D, PySem.W.listOf ys.toArray nn) :: news) (Acc (i + 1) ys) s₂) (fun _ _ => False) s₁)
    (done : ∀ s₃ ys nn D, Acc (b - a) ys → Sh s s₃ → (∀ p ∈ news, @LT.lt Nat _ p.1 D) → Fr h₀ L s₃.heap m → News h₀ L s₃.heap ((D, PySem.W.listOf ys.toArray nn) :: news) → Q (.ref D) s₃) :
    wpAny (model prog w) A (pyIter (.ref r)) (fun it s₂ => compBlock prog w A E env elt iter x px ifs scope cl pos Q it s₂) E s := by
  subst ea eb
  refine comp_range hh hr (rangeN ha hb).1 (rangeN ha hb).2 (Nat.le_trans (Nat.sub_le ..) (Nat.le_trans hb (by decide))) hcell hkind hx Acc h0 F N ?_ done
  intro i t ys nn s₁ oC oI mC C I D h1 h2 h3 h4 h5 h6
  exact turn i t ys nn s₁ oC oI mC C I D h1 h2 h3 h4 h5 (h6.trans (by congr 2; omega))
end

section
variable {prog : Program} {w : World} {A : Around} {E : Value → Shared → Prop} {s : Shared} {env : Env} {R : Result → Shared → Prop} {x : Str} {px : Pos} {body : List Stmt} {h₀ : Heap} {m : Str → Option Value} {news : List (Addr × Obj)}
theorem loop_rangeCN (hh : A.handled = none) {r : Addr} {a b : Nat} {a' b' : Int} {t u v : Tok} (hr : IsRange s.heap r a' b' 1 t u v) (ea : a' = (a : Int)) (eb : b' = (b : Int)) (ha : a ≤ 1000) (hb : b ≤ 1000)
    {c : Addr} {oc : Obj} {v₀ : Option Value} (hke : env.scope.kind = .function) (hx : env.kindOf x = some .cell) (hc : env.cells.lookup x = some c) (hoc : oc.data = .cell v₀)
    (Inv : Nat → (Str → Option Value) → List (Addr × Obj) → Prop) (h0 : Inv 0 m news) (F : Fr h₀ env.locals s.heap m) (N : News h₀ env.locals s.heap ((c, oc) :: news))
    (hn : ∀ i m₁ news₁, Inv i m₁ news₁ → ∀ p ∈ news₁, p.1 ≠ s.heap.objs.size ∧ p.1 ≠ c)
    (turn : ∀ i t o oc s₁ m₁ news₁, i < b - a → Inv i m₁ news₁ → Sh s s₁ → oc.data = .cell (some (.int ((a + i : Nat) : Int) t)) → Fr h₀ env.locals s₁.heap m₁ → News h₀ env.locals s₁.heap ((s.heap.objs.size, o) :: (c, oc) :: news₁) →
      wpAny (model prog w) A (execs body env) (fun f s₃ => match f with
        | .next | .cont => NxtC h₀ env.locals s (Inv (i + 1)) s.heap.objs.size o c s₃
        | .brk => R (.ok .next) s₃
        | .ret v => R (.ok (.ret v)) s₃) (fun _ _ => False) s₁)
    (done : ∀ s₃ m₃ news₃ oc v₀, Inv (b - a) m₃ news₃ → Sh s s₃ → oc.data = .cell v₀ → Fr h₀ env.locals s₃.heap m₃ → News h₀ env.locals s₃.heap ((c, oc) :: news₃) → R (.ok .next) s₃) :
    wpAny (model prog w) A (pyIter (.ref r)) (fun it s₂ => codeAny (model prog w) A (.forLoop (.Name x px) it body [] env) R s₂) E s := by
  subst ea eb
  refine loop_rangeC hh hr (rangeN ha hb).1 (rangeN ha hb).2 hke hx hc hoc Inv h0 F N hn ?_ done
  intro i t o oc s₁ m₁ news₁ h1 h2 h3 h4
  exact turn i t o oc s₁ m₁ news₁ h1 h2 h3 (h4.trans (by congr 3; omega))
theorem loop_rangeN (hh : A.handled = none) {r : Addr} {a b : Nat} {a' b' : Int} {t u v : Tok} (hr : IsRange s.heap r a' b' 1 t u v) (ea : a' = (a : Int)) (eb : b' = (b : Int)) (ha : a ≤ 1000) (hb : b ≤ 1000)
    (hx : env.kindOf x = some .local) (hp : (env.scope.kind == .class || (env.scope.kind == .module && env.locals != env.globals)) = false)
    (Inv : Nat → (Str → Option Value) → List (Addr × Obj) → Prop) (h0 : Inv 0 m news) (F : Fr h₀ env.locals s.heap m) (N : News h₀ env.locals s.heap news)
    (hn : ∀ i m₁ news₁, Inv i m₁ news₁ → ∀ p ∈ news₁, p.1 ≠ s.heap.objs.size)
    (turn : ∀ i t o s₁ m₁ news₁, i < b - a → Inv i m₁ news₁ → Sh s s₁ → Fr h₀ env.locals s₁.heap (fun y => if y = x then some (.int ((a + i : Nat) : Int) t) else m₁ y) → News h₀ env.locals s₁.heap ((s.heap.objs.size, o) :: news₁) →
      wpAny (model prog w) A (execs body env) (fun f s₃ => match f with
        | .next | .cont => Nxt h₀ env.locals s (Inv (i + 1)) (s.heap.objs.size, o) s₃
        | .brk => R (.ok .next) s₃
        | .ret v => R (.ok (.ret v)) s₃) (fun _ _ => False) s₁)
    (done : ∀ s₃ m₃ news₃, Inv (b - a) m₃ news₃ → Sh s s₃ → Fr h₀ env.locals s₃.heap m₃ → News h₀ env.locals s₃.heap news₃ → R (.ok .next) s₃) :
    wpAny (model prog w) A (pyIter (.ref r)) (fun it s₂ => codeAny (model prog w) A (.forLoop (.Name x px) it body [] env) R s₂) E s := by
  subst ea eb
  refine loop_range hh hr (rangeN ha hb).1 (rangeN ha hb).2 hx hp Inv h0 F N hn ?_ done
  intro i t o s₁ m₁ news₁ h1 h2 h3 h4
  refine turn i t o s₁ m₁ news₁ h1 h2 h3 ?_
  rw [show ((a + i : Nat) : Int) = (a : Int) + i * 1 from by omega]
  exact h4
end
end Mine
end

section
theorem Mine.reset14 : True := by
  w_top off
  first | (walk1; done) | exact True.intro
set_option maxRecDepth 100000
set_option maxHeartbeats 8000000
namespace Mine
open PySem PySem.W PySem.Calls PyProof.Rows
theorem fill5 : PySem.Challenge.rw_us0021_01.foot = PySem.Challenge.rw_us0021_01.foot ∧ hd.heap_39 = hd.heap_39 := by
  k_fill
  exact ⟨rfl, rfl⟩
local macro_rules | `(tactic| walk_at "exec For Name Call cons nil") => `(tactic| refine hideP ?_)
local macro_rules | `(tactic| walk_at "eval ListComp") => `(tactic| refine hideP ?_)
local macro_rules | `(tactic| walk_at "eval Name") => `(tactic| refine nameCL (by assumption) (by assumption) (by k_mem) (by assumption) ?_ (by rfl) (by rfl))
local macro_rules | `(tactic| walk_at "eval Name") => `(tactic| refine lcf_cell (by assumption) (by rfl) (by k_mem) (by assumption) ?_ (by rfl) (by rfl))
local macro_rules | `(tactic| walk_at "eval Name") => `(tactic| refine lcf_free (by assumption) (by rfl) (by k_mem) (by assumption) ?_ (by rfl) (by rfl))

local macro_rules | `(tactic| walk_at "call builtin:max") => `(tactic| ((with_reducible show wpAny _ _ (call (Value.builtin "max") [Value.int _ _, Value.int _ _]) _ _ _); refine maxN (by assumption) (by assumption) (by assumption) ?_; intro h' tk' tv' F' N'; k_sweep))
local macro_rules | `(tactic| walk_at "call builtin:min") => `(tactic| ((with_reducible show wpAny _ _ (call (Value.builtin "min") [Value.int _ _, Value.int _ _]) _ _ _); refine minN (by assumption) (by assumption) (by assumption) ?_; intro h' tk' tv' F' N'; k_sweep))

abbrev locM (cut : Nat) (tc : Tok) : Str → Option Value := fun z => if z = "cut" then some (.int cut tc) else none

def fi (f : List Nat) (i : Nat) : Nat := f.getD i 0
theorem fi_int (f : List Nat) (i : Nat) : (f.map fun (n : Nat) => (n : Int)).getD i 0 = (fi f i : Int) := by
  unfold fi
  rw [List.getD_eq_getElem?_getD, List.getElem?_map, List.getD_eq_getElem?_getD]
  cases f[i]? <;> rfl
def locB (f : List Nat) (cut st : Nat) : Bool := (List.range (min cut (f.length - st) - (cut - st))).all fun q => fi f (cut - st + q) == fi f (cut - st + q + st)
theorem locB_iff {f : List Nat} {cut st : Nat} : locB f cut st = true ↔ ∀ q, q < min cut (f.length - st) - (cut - st) → fi f (cut - st + q) = fi f (cut - st + q + st) := by
  unfold locB
  simp only [List.all_eq_true, List.mem_range, beq_iff_eq]

theorem loc_body {prog : Program} {w : World} {A : Around} {s : Shared} {p : Program} {loose : List Str} {mean : ExcName → Option Value} {mg mb : Str → Option Value} {h₀ : Heap} {L u : Addr} {vs : List Value} {f : List Nat}
  (X : (hd.heap_39 w.params).In h₀) (T : Top p loose mean mg mb h₀) (r : Rm 5 A) (hl : h₀.IsList u vs.toArray) (hi : IntsAre vs (f.map fun (n : Nat) => (n : Int))) (hlen : f.length ≤ 7) {cut i : Nat} {tc t : Tok} {I : Addr} {o o1 o2 : Obj} (hil : i < f.length) (hc : cut ≤ f.length)
  (F : Fr h₀ L s.heap (locM cut tc)) (N : News h₀ L s.heap [(I, o), (L + 2, o2), (L + 1, o1)]) (d2 : o2.data = .cell (some (.int ((i : Int) + 1) t))) (d1 : o1.data = .cell (some (.ref u))) (hIL : @LT.lt Nat _ (L + 2) I)
  {Q : Flow → Shared → Prop} {E : Value → Shared → Prop}
  (hbad : locB f cut (i + 1) = false → ∀ s₃, Sh s s₃ → Fr h₀ L s₃.heap (locM cut tc) → News h₀ L s₃.heap [(I, o), (L + 2, o2), (L + 1, o1)] → Q .next s₃)
  (hgood : locB f cut (i + 1) = true → ∀ s₃, Sh s s₃ → Fr h₀ L s₃.heap (locM cut tc) → Q (.ret (.int ((i : Int) + 1) t)) s₃) : wpAny (model prog w) A (exec (stAt (bodyOf (stAt (bodyOf (mainSt 20)) 0)) 0) (envOfC "_law_local" (scopeOf (mainSt 20)) L 244 (.ref 243))) Q E s := by
  conv in (exec _ _) => arg 1; whnf
  have hh : A.handled = none := r.hd
  k_steps
  unfold HideP
  refine evalComp (cl := [(Str.ofString "step", L + 2), (Str.ofString "figures", L + 1)]) rfl rfl (by decide) ?_
  k_steps
  rename (Heap.get? _ _ = some { cls := .type "range", dict := none, data := _, slots := _ }) => hr
  rename Fr _ _ _ _ => FF
  rename News _ _ _ _ => NN
  refine comp_rangeN (a := cut - (i + 1)) (b := min cut (f.length - (i + 1))) hh hr (by omega) (by simp only [List.length_map]; omega) (by omega) (by omega) (by decide) rfl rfl
    (fun j ys => ys = [] ↔ ∀ q, q < j → fi f (cut - (i + 1) + q) = fi f (cut - (i + 1) + q + (i + 1))) (by simp) FF NN ?_ ?_
  · intro j tj ys nn s₁ oC oI mC C I' D hj hA hlen' hsh hC hmC hlt hID hDC F₁ N₁
    refine wpAny_tests_one ?_
    have e1 : ∀ q : Nat, ((q : Int)).toNat = q := fun q => Int.toNat_natCast q
    have e2 : (((cut - (i + 1) + j : Nat) : Int) + ((i : Int) + 1)).toNat = cut - (i + 1) + j + (i + 1) := by omega
    k_steps
    · rename (List.getD _ _ _ ≠ List.getD _ _ _) => hne
      rw [fi_int, fi_int, e1, e2] at hne
      refine ⟨?_, ⟨hsh.os, hsh.bare⟩, F₁, N₁⟩
      constructor
      · intro h; simp at h
      · intro h; exact absurd (congrArg Int.ofNat (h j (Nat.lt_succ_self j))) hne
    · rename (List.getD _ _ _ = List.getD _ _ _) => hne
      rw [fi_int, fi_int, e1, e2] at hne
      refine ⟨?_, ⟨hsh.os, hsh.bare⟩, F₁, N₁⟩
      constructor
      · intro h q hq
        rcases Nat.lt_succ_iff_lt_or_eq.mp hq with hq | rfl
        · exact hA.mp h q hq
        · exact Int.ofNat.inj hne
      · intro h; exact hA.mpr fun q hq => h q (Nat.lt_succ_of_lt hq)
  · intro s₃ ys nn D hA hsh hlt F₃ N₃
    rw [← locB_iff] at hA
    cases ys with
    | nil =>
      have hB := hA.mp rfl
      k_steps
      rename News _ _ _ _ => N₄
      refine SeqAt.eq_listAt (items := #[]) (items2 := #[]) (e := fun _ => true) ⟨_, (N₄ _ (.tail _ (.head _))).1, rfl, _, rfl⟩ ⟨_, (N₄ _ (.head _)).1, rfl, _, rfl⟩ rfl r.units (fun j h1 => absurd h1 (Nat.not_lt_zero _)) ?_
      k_steps
      rename Fr _ _ _ _ => F₄
      exact hgood hB _ ⟨hsh.os, hsh.bare⟩ F₄
    | cons y ys =>
      have hB : locB f cut (i + 1) = false := by
        cases h : locB f cut (i + 1) with
        | false => rfl
        | true => cases hA.mpr h
      k_steps
      rename News _ _ _ _ => N₄
      refine SeqAt.eq_list_lengthsAt (items := (y :: ys).toArray) (items2 := #[]) ⟨_, (N₄ _ (.tail _ (.head _))).1, rfl, _, rfl⟩ ⟨_, (N₄ _ (.head _)).1, rfl, _, rfl⟩ (by simp) r.units ?_
      k_steps
      rename Fr _ _ _ _ => F₄
      exact hbad hB _ ⟨hsh.os, hsh.bare⟩ F₄ fun p hp => N₄ p (.tail _ (.tail _ hp))

theorem loc_call {prog : Program} {w : World} {A : Around} {s : Shared} {p : Program} {loose : List Str} {mean : ExcName → Option Value} {mg mb : Str → Option Value} {u : Addr} {vs : List Value} {f : List Nat}
  (X : (hd.heap_39 w.params).In s.heap) (T : Top p loose mean mg mb s.heap) (r : Rm 6 A) (hl : s.heap.IsList u vs.toArray) (hi : IntsAre vs (f.map fun (n : Nat) => (n : Int))) (hlen : f.length ≤ 7) {cut : Nat} {tc : Tok} (hc : cut ≤ f.length) (hpos : 0 < f.length)
  {R : Result → Shared → Prop} (hR : ∀ st, 1 ≤ st → st ≤ f.length → locB f cut st = true → (∀ q, 1 ≤ q → q < st → locB f cut q = false) → ∀ s' t, Kp s s' → R (.ok (.ret (.int (st : Int) t))) s') :
  codeAny (model prog w) A (.call (.ref 244) ⟨[.ref u, .int cut tc], []⟩) R s := by
  refine' call0C X T.nolimit r.room ?k6 ?k7 ?k9 ?kB ?kN ?c2 ?c3 ?c4 ?_
  case k6 => k_is
  case k7 => k_is
  case k9 => exact BindsTo.of_eq rfl
  case kB => exact kindsX rfl
  case kN => decide
  case c2 => exact rfl
  case c3 => exact rfl
  case c4 => exact rfl
  intro L h₁ tk cells F N Y
  have hh : A.handled = none := r.hd
  obtain ⟨o2, o1, rfl, d2, d1⟩ := CellsAre.two (n := "step") (n' := "figures") (c := L + 2) (c' := L + 1) Y
  replace d2 : o2.data = .cell none := d2
  replace d1 : o1.data = .cell (some (.ref u)) := d1
  replace F : Fr s.heap L h₁ (locM cut tc) := F
  replace N : News s.heap L h₁ [(L + 2, o2), (L + 1, o1)] := N
  clear Y
  k_steps
  unfold HideP
  refine wpAny_For ?_
  k_steps
  rename (Heap.get? _ _ = some { cls := .type "range", dict := none, data := _, slots := _ }) => hr
  rename Fr _ _ _ _ => FF
  rename News _ _ _ _ => NN
  refine' loop_rangeCN (a := 1) (b := f.length + 1) (env := envOfC "_law_local" (scopeOf (mainSt 20)) L 244 (.ref 243)) (x := "step") (c := L + 2) (oc := o2) (A := A.deeper _) hh ?hr rfl ?eb (by decide) (by omega) rfl rfl rfl d2
    (fun i m₁ news₁ => m₁ = locM cut tc ∧ news₁ = [(L + 1, o1)] ∧ ∀ q, 1 ≤ q → q ≤ i → locB f cut q = false) ⟨rfl, rfl, fun q h1 h2 => by omega⟩ ?FF ?NN ?_ ?_ ?_
  case hr => exact hr
  case FF => exact FF
  case NN => exact NN
  case eb =>
    have e : (f.map fun (n : Nat) => (n : Int)).length = f.length := List.length_map ..
    rw [e]; rfl
  · rintro i m₁ news₁ ⟨rfl, rfl, _⟩ p hp
    rw [List.mem_singleton.mp hp]
    exact ⟨Nat.ne_of_lt (Heap.lt_size (NN _ (.tail _ (.head _))).1), Nat.ne_of_lt (Nat.lt_succ_self _)⟩
  · rintro i t o oc s₁ m₁ news₁ hi' ⟨rfl, rfl, hI⟩ hsh hoc F₁ N₁
    rw [show ((1 + i : Nat) : Int) = (i : Int) + 1 from by omega] at hoc
    have hil : i < f.length := by omega
    refine wpAny_execs_cons (loc_body X T (r.deeper _) hl hi hlen hil hc F₁ N₁ hoc d1 (Heap.lt_size (NN _ (.head _)).1) (fun hB s₃ hsh₃ F₃ N₃ => ?_) fun hB s₃ hsh₃ F₃ => ?_)
    · refine wpAny_execs_nil ⟨_, _, _, _, ⟨rfl, rfl, fun q h1 h2 => ?_⟩, hoc, hsh.trans hsh₃, F₃, N₃⟩
      rcases Nat.lt_or_eq_of_le h2 with h2 | rfl
      · exact hI q h1 (Nat.le_of_lt_succ h2)
      · exact hB
    · have h := hR (i + 1) (by omega) (by omega) hB (fun q h1 h2 => hI q h1 (by omega)) s₃ t ⟨F₃.keep, (hsh.trans hsh₃).os, (hsh.trans hsh₃).bare⟩
      exact h
  · rintro s₃ m₃ news₃ oc v₀ ⟨rfl, rfl, hI⟩ hsh hoc F₃ N₃
    exfalso
    have h := hI f.length (by omega) (by omega)
    have h2 : locB f cut f.length = true := locB_iff.mpr fun q hq => by omega
    rw [h2] at h
    cases h
end Mine
end

section
local macro_rules | `(tactic| walk_at "serves nothing") => `(tactic| skip)
local macro_rules | `(tactic| walk_at "serves nothing") => `(tactic| skip)
local macro_rules | `(tactic| walk_at "serves nothing") => `(tactic| skip)
local macro_rules | `(tactic| walk_at "serves nothing") => `(tactic| skip)
local macro_rules | `(tactic| walk_at "serves nothing") => `(tactic| skip)
local macro_rules | `(tactic| walk_at "serves nothing") => `(tactic| skip)
local macro_rules | `(tactic| walk_at "serves nothing") => `(tactic| skip)
local macro_rules | `(tactic| walk_at "serves nothing") => `(tactic| skip)
local macro_rules | `(tactic| walk_at "serves nothing") => `(tactic| skip)
local macro_rules | `(tactic| walk_at "serves nothing") => `(tactic| skip)
theorem Mine.reset15 : True := by
  w_top off
  first | (walk1; done) | exact True.intro
set_option maxRecDepth 100000
set_option maxHeartbeats 4000000
namespace Mine
open PySem PySem.W PySem.Calls PyProof.Rows PySem.Builtin.Re
open Sem (wp)

theorem plainAttrs_pattern : PlainAttrs "re.Pattern" :=
  ⟨⟨"object.__getattribute__", by rw [typeLookup_type, builtinLookup_eq_fast]; kernel_rfl, by decide +kernel⟩, by rw [typeLookup_type, builtinLookup_eq_fast]; kernel_rfl⟩
theorem slot_pattern_search : Slot "re.Pattern" "search" "re.Pattern.search" :=
  .of (owner := "re.Pattern") (n := "search") (by rw [typeLookup_type, builtinLookup_eq_fast]; kernel_rfl) (by decide +kernel) (by decide +kernel) (by decide +kernel)
    (by first | exact .inl (by decide +kernel) | exact .inr (by decide +kernel)) (by rw [isSubtype_type]; kernel_rfl)
theorem type_pattern_search : typeOf (.builtin "re.Pattern.search") = pure (.type "method_descriptor") := by show builtinType _ = _; rw [builtinType_eq_fast]; kernel_rfl
theorem entry_pattern_search : entryFor table "re.Pattern.search" = some Builtin.«re.Pattern.search» := entryFor_of_tree (by kernel_rfl)
theorem args_pattern_search (a b : Value) : argsOk "re.Pattern.search" ⟨[a, b], []⟩ := by unfold argsOk; kernel_rfl

def failed (m : Sre.M) : Bool := match m.outcome with | some .failed => true | _ => false

section
variable {prog : Program} {w : World} {A : Around} {E : Value → Shared → Prop} {s : Shared}
theorem drive_done {m : Sre.M} {n : Nat} {Q : Sre.M → Shared → Prop} (h : (m.runFor reTurnSteps).outcome.isSome = true) (hq : Q (m.runFor reTurnSteps) s) : wpAny (model prog w) A (reDrive (n + 1) m) Q E s := by
  unfold reDrive
  simp only [h, if_true]
  exact wpAny_pure hq
theorem run_failed {m : Sre.M} {Q : Option Sre.M → Shared → Prop} (h : failed (m.runFor reTurnSteps) = true) (hq : Q none s) : wpAny (model prog w) A (reRunToEnd m) Q E s := by
  have h1 : (m.runFor reTurnSteps).outcome = some .failed := by
    unfold failed at h
    split at h
    · assumption
    · cases h
  unfold reRunToEnd
  refine wpAny_bind (show wpAny _ A (reDrive ((2 ^ 64 - 1) + 1) m) _ E s from drive_done (by rw [h1]; rfl) ?_)
  refine wpAny_bind (wpAny_forIn_list _ (fun _ _ s' => s' = s) _ ?_ ?_ _ _ rfl)
  · rintro x rest b s' rfl
    split
    · exact wpAny_bind (wpAny_rule (wpAny_pure rfl))
    · exact wpAny_pure rfl
  · rintro b s' rfl
    rw [h1]
    exact wpAny_pure hq

theorem search_none {a : Addr} {v : Str} {tv : Tok} {fs : Array Value} {cd : Addr} {items : Array Value} {n : Nat} {Q : Value → Shared → Prop}
    (ho : s.heap.get? a = some { cls := .type "re.Pattern", data := .fields fs }) (h5 : fs.getD 5 .none = .ref cd) (h6 : fs.getD 6 .none = .int 0 0) (h2 : fs.getD 2 .none = .int 0 0)
    (hc : s.heap.get? cd = some { cls := .type "tuple", data := .seq items n }) (hv : v.cps.size ≤ 1000)
    (hf : failed ((Sre.forSearch ((items.map reRawOf).map (·.toNat)) v.cps 0 0 v.cps.size false).runFor reTurnSteps) = true) (hq : Q .none s) :
    wpAny (model prog w) A (call (.builtin "re.Pattern.search") [.ref a, .str v tv]) Q E s := by
  refine wpAny_call_entry slot_pattern_search ⟨_, ho, rfl⟩ entry_pattern_search ?_ (args_pattern_search _ _)
  unfold Builtin.«re.Pattern.search» reTarget
  refine wpAny_bind ?_
  show wpAny _ _ (reNamed "re.Pattern.search" "search" ["string", "pos", "endpos"] 1 [.str v tv] [] >>= _) _ _ _
  refine wpAny_bind (wpAny_of_eq (a := [some (.str v tv), none, none]) rfl ?_)
  refine wpAny_bind (wpAny_pure (wpAny_bind (wpAny_pure (wpAny_bind ?_))))
  refine wpAny_fieldsOf ho rfl ?_
  refine wpAny_bind (wpAny_of_eq (a := (v.cps, 0)) rfl ?_)
  dsimp only
  rw [h6, h5, h2]
  show wpAny _ _ (reNoCollectionInside (.str v tv) 0 >>= _) _ _ _
  refine wpAny_bind (wpAny_of_eq (a := ()) rfl ?_)
  refine wpAny_bind ?_
  unfold reRawItems
  refine wpAny_bind (wpAny_seqItems hc rfl (wpAny_pure (wpAny_pure ?_)))
  unfold reAnswer
  refine wpAny_bind (run_failed ?_ ?_)
  · have e1 : min ((2 ^ 63 - 1 : Int)).toNat v.cps.size = v.cps.size := by
      have : ((2 ^ 63 - 1 : Int)).toNat = 9223372036854775807 := by decide
      rw [this]; omega
    have e2 : min ((0 : Int)).toNat v.cps.size = 0 := by simp
    show failed ((Sre.forSearch ((items.map reRawOf).map (·.toNat)) v.cps 0 (min ((0 : Int)).toNat v.cps.size) (min ((2 ^ 63 - 1 : Int)).toNat v.cps.size) false).runFor reTurnSteps) = true
    rw [e1, e2]; exact hf
  · exact wpAny_pure ⟨_, rfl, hq⟩
end
end Mine
end

section
theorem Mine.reset16 : True := by
  w_top off
  first | (walk1; done) | exact True.intro
set_option maxRecDepth 100000
set_option maxHeartbeats 8000000
namespace Mine
open PySem PySem.W PySem.Calls PyProof.Rows
theorem fill6 : PySem.Challenge.rw_us0021_01.foot = PySem.Challenge.rw_us0021_01.foot ∧ hd.heap_39 = hd.heap_39 := by
  k_fill
  exact ⟨rfl, rfl⟩

def codeName : Array Nat := #[14, 10, 4, 1, 1, 22, 0, 31, 16, 127, 0, 13, 7, 22, 0, 31, 16, 127, 0, 1]
def codeVal : Array Nat := #[14, 14, 4, 1, 1, 9, 4294966783, 0, 0, 2147483648, 0, 0, 0, 0, 0, 13, 11, 9, 4294966783, 0, 0, 2147483648, 0, 0, 0, 0, 0, 1]
def noHit (code : Array Nat) (v : Str) : Bool := failed ((Sre.forSearch code v.cps 0 0 v.cps.size false).runFor Builtin.Re.reTurnSteps)

section
variable {prog : Program} {w : World} {A : Around} {E : Value → Shared → Prop} {s : Shared} {h₀ : Heap} {L : Addr} {m : Str → Option Value}
theorem method_search {a : Addr} {fs : Array Value} {pl : Sem Bool} {Q : Value × List Value → Shared → Prop} (ho : s.heap.get? a = some { cls := .type "re.Pattern", data := .fields fs })
    (h : Q (.builtin "re.Pattern.search", [.ref a]) s) : wpAny (model prog w) A (getMethod (.ref a) "search" pl) Q E s :=
  getMethod_builtin ⟨_, ho, rfl⟩ plainAttrs_pattern slot_pattern_search type_pattern_search (fun a' e => by cases e; exact ⟨_, ho, rfl⟩) h
theorem method87 {pl : Sem Bool} {Q : Value × List Value → Shared → Prop} (X : (hd.heap_39 w.params).In h₀) (F : Fr h₀ L s.heap m)
    (h : Q (.builtin "re.Pattern.search", [.ref 87]) s) : wpAny (model prog w) A (getMethod (.ref 87) "search" pl) Q E s :=
  method_search (F.keep _ _ (X 87 _ (by k_is))) h
theorem method92 {pl : Sem Bool} {Q : Value × List Value → Shared → Prop} (X : (hd.heap_39 w.params).In h₀) (F : Fr h₀ L s.heap m)
    (h : Q (.builtin "re.Pattern.search", [.ref 92]) s) : wpAny (model prog w) A (getMethod (.ref 92) "search" pl) Q E s :=
  method_search (F.keep _ _ (X 92 _ (by k_is))) h
theorem search87 {v : Str} {tv : Tok} {Q : Value → Shared → Prop} (X : (hd.heap_39 w.params).In h₀) (F : Fr h₀ L s.heap m) (hv : v.length ≤ 10) (hf : noHit codeName v = true) (hq : Q .none s) :
    wpAny (model prog w) A (call (.builtin "re.Pattern.search") [.ref 87, .str v tv]) Q E s :=
  by
  have h1 := F.keep _ _ (X 87 _ (by k_is))
  have h2 := F.keep _ _ (X 86 _ (by k_is))
  have key : ∀ c, c = codeName → failed ((Sre.forSearch c v.cps 0 0 v.cps.size false).runFor Builtin.Re.reTurnSteps) = true := by rintro _ rfl; exact hf
  exact search_none h1 rfl rfl rfl h2 (Nat.le_trans hv (by decide)) (key _ (by decide +kernel)) hq
theorem search92 {v : Str} {tv : Tok} {Q : Value → Shared → Prop} (X : (hd.heap_39 w.params).In h₀) (F : Fr h₀ L s.heap m) (hv : v.length ≤ 10) (hf : noHit codeVal v = true) (hq : Q .none s) :
    wpAny (model prog w) A (call (.builtin "re.Pattern.search") [.ref 92, .str v tv]) Q E s :=
  by
  have h1 := F.keep _ _ (X 92 _ (by k_is))
  have h2 := F.keep _ _ (X 91 _ (by k_is))
  have key : ∀ c, c = codeVal → failed ((Sre.forSearch c v.cps 0 0 v.cps.size false).runFor Builtin.Re.reTurnSteps) = true := by rintro _ rfl; exact hf
  exact search_none h1 rfl rfl rfl h2 (Nat.le_trans hv (by decide)) (key _ (by decide +kernel)) hq
end
local macro_rules | `(tactic| walk_at "getMethod ref") => `(tactic| first | refine method87 (by assumption) (by assumption) ?_ | refine method92 (by assumption) (by assumption) ?_)
local macro_rules | `(tactic| walk_at "call builtin:re.Pattern.search") => `(tactic| first | refine search87 (by assumption) (by assumption) (by assumption) (by assumption) ?_ | refine search92 (by assumption) (by assumption) (by assumption) (by assumption) ?_)

theorem conv_call {prog : Program} {w : World} {A : Around} {s : Shared} {p : Program} {loose : List Str} {mean : ExcName → Option Value} {mg mb : Str → Option Value}
  (X : (hd.heap_39 w.params).In s.heap) (T : Top p loose mean mg mb s.heap) (r : Rm 5 A) {v : Str} {tv : Tok} {self : Value} {b : Bool} (hv : v.length ≤ 10) (hn : noHit (if b = true then codeName else codeVal) v = true)
  {R : Result → Shared → Prop} (hR : ∀ s', Kp s s' → R (.ok (.ret (.str v tv))) s') :
  codeAny (model prog w) A (.call (.ref 122) ⟨[self, .str v tv], [("name", .bool b)]⟩) R s := by
  refine' call0 X T.nolimit r.room ?k6 ?k7 ?k9 ?kB ?c5 ?c2 ?c3 ?c4 ?_
  case k6 => k_is
  case k7 => k_is
  case k9 => first | exact BindsTo.of_eq rfl | exact binds_K (by k_in) rfl (by k_is) rfl rfl rfl
  case kB => exact locs rfl
  case c5 => decide
  case c2 => exact rfl
  case c3 => exact rfl
  case c4 => exact rfl
  intro L h₁ F
  have N : News s.heap L h₁ [] := News.nil
  cases b with
  | true =>
    replace hn : noHit codeName v = true := hn
    k_steps
    rename Fr _ _ _ _ => FF
    exact hR _ ⟨FF.keep, rfl, id⟩
  | false =>
    replace hn : noHit codeVal v = true := hn
    k_steps
    rename Fr _ _ _ _ => FF
    exact hR _ ⟨FF.keep, rfl, id⟩

theorem conv_name {prog : Program} {w : World} {A : Around} {s : Shared} {p : Program} {loose : List Str} {mean : ExcName → Option Value} {mg mb : Str → Option Value}
  (X : (hd.heap_39 w.params).In s.heap) (T : Top p loose mean mg mb s.heap) (r : Rm 5 A) {v : Str} {tv : Tok} {self : Value} (hv : v.length ≤ 10) (hn : noHit codeName v = true)
  {R : Result → Shared → Prop} (hR : ∀ s', Kp s s' → R (.ok (.ret (.str v tv))) s') :
  codeAny (model prog w) A (.call (.ref 122) ⟨[self, .str v tv], [("name", .bool true)]⟩) R s := conv_call X T r hv (by rw [if_pos rfl]; exact hn) hR
theorem conv_val {prog : Program} {w : World} {A : Around} {s : Shared} {p : Program} {loose : List Str} {mean : ExcName → Option Value} {mg mb : Str → Option Value}
  (X : (hd.heap_39 w.params).In s.heap) (T : Top p loose mean mg mb s.heap) (r : Rm 5 A) {v : Str} {tv : Tok} {self : Value} (hv : v.length ≤ 10) (hn : noHit codeVal v = true)
  {R : Result → Shared → Prop} (hR : ∀ s', Kp s s' → R (.ok (.ret (.str v tv))) s') :
  codeAny (model prog w) A (.call (.ref 122) ⟨[self, .str v tv], [("name", .bool false)]⟩) R s := conv_call X T r hv (by rw [if_neg Bool.false_ne_true]; exact hn) hR
end Mine
end

section
local macro_rules | `(tactic| walk_at "serves nothing") => `(tactic| skip)
local macro_rules | `(tactic| walk_at "serves nothing") => `(tactic| skip)
local macro_rules | `(tactic| walk_at "serves nothing") => `(tactic| skip)
local macro_rules | `(tactic| walk_at "serves nothing") => `(tactic| skip)
local macro_rules | `(tactic| walk_at "serves nothing") => `(tactic| skip)
local macro_rules | `(tactic| walk_at "serves nothing") => `(tactic| skip)
local macro_rules | `(tactic| walk_at "serves nothing") => `(tactic| skip)
local macro_rules | `(tactic| walk_at "serves nothing") => `(tactic| skip)
local macro_rules | `(tactic| walk_at "serves nothing") => `(tactic| skip)
local macro_rules | `(tactic| walk_at "serves nothing") => `(tactic| skip)
theorem Mine.reset17 : True := by
  w_top off
  first | (walk1; done) | exact True.intro
set_option maxRecDepth 100000
set_option maxHeartbeats 8000000
namespace Mine
open PySem PySem.W PySem.Calls PyProof.Rows
theorem fill7 : PySem.Challenge.rw_us0021_01.foot = PySem.Challenge.rw_us0021_01.foot ∧ hd.heap_39 = hd.heap_39 := by
  k_fill
  exact ⟨rfl, rfl⟩

theorem frHide {H h : Heap} {L : Addr} {m : Str → Option Value} (F : Fr H L h m) (hs : List Addr) : Fr (hideAll H hs) L h m :=
  ⟨F.ns, fun b o e => F.keep b o (of_hideAll _ e), by rw [hideAll_size]; exact F.above⟩
theorem newsHide {H h : Heap} {L : Addr} {m : Str → Option Value} {news : List (Addr × Obj)} (F : Fr H L h m) (N : News H L h news) (objs : List (Addr × Obj)) (hs : List Addr) (hobj : ∀ p ∈ objs, H.get? p.1 = some p.2) (hm : ∀ p ∈ objs, p.1 ∈ hs) :
    News (hideAll H hs) L h (news ++ objs) := by
  intro p hp
  rcases List.mem_append.mp hp with hp | hp
  · refine ⟨(N p hp).1, (N p hp).2.1, ?_⟩
    cases q : (hideAll H hs).get? p.1 with
    | none => rfl
    | some o => have := of_hideAll _ q; rw [(N p hp).2.2] at this; cases this
  · exact ⟨F.keep _ _ (hobj p hp), Nat.ne_of_lt (Nat.lt_of_lt_of_le (Heap.lt_size (hobj p hp)) F.above), hideAll_none _ (hm p hp)⟩
theorem le_of_hide {H h' : Heap} {hs : List Addr} (hk : ∀ b o, (hideAll H hs).get? b = some o → h'.get? b = some o) (hh : ∀ a ∈ hs, ∀ o, H.get? a = some o → h'.get? a = some o) : Le H h' := by
  intro b o e
  by_cases hb : b ∈ hs
  · exact hh b hb o e
  · exact hk b o (hideAll_get _ e hb)

local macro_rules | `(tactic| walk_at "eval ListComp") => `(tactic| refine hideP ?_)
local macro_rules | `(tactic| walk_at "call ref") => `(tactic| refine hideP ?_)
local macro_rules | `(tactic| walk_at "eval Name") => `(tactic| refine nameCL (by assumption) (by assumption) (by k_mem) (by assumption) ?_ (by rfl) (by rfl))
local macro_rules | `(tactic| walk_at "eval Name") => `(tactic| refine lcf_cell (by assumption) (by rfl) (by k_mem) (by assumption) ?_ (by rfl) (by rfl))
local macro_rules | `(tactic| walk_at "eval Name") => `(tactic| refine lcf_free (by assumption) (by rfl) (by k_mem) (by assumption) ?_ (by rfl) (by rfl))
section
variable {prog : Program} {w : World} {A : Around} {E : Value → Shared → Prop} {s : Shared} {h₀ : Heap} {L t : Addr} {m : Str → Option Value} {a b : Value} {value slice : Expr} {u : Tok} {Q : Value → Shared → Prop}
theorem pair0 (F : Fr h₀ L s.heap m) (ht : IsTup h₀ t #[a, b]) (h : Q a s) (hs : subscripted slice false (.ref t) (.int 0 u) = operate [.ref t, .int 0 u] (getItem (.ref t) (.int 0 u)) := by with_unfolding_all rfl) (hg : ∀ r, letTemporaryGo value (.ref t) r = pure () := by intro _; with_unfolding_all rfl) :
    wpAny (model prog w) A (subscriptTail value slice (.ref t) (.int 0 u)) Q E s := item_tuple (F.tup ht) (by decide) (by decide) (by rfl) (by rfl) h hs hg
theorem pair1 (F : Fr h₀ L s.heap m) (ht : IsTup h₀ t #[a, b]) (h : Q b s) (hs : subscripted slice false (.ref t) (.int 1 u) = operate [.ref t, .int 1 u] (getItem (.ref t) (.int 1 u)) := by with_unfolding_all rfl) (hg : ∀ r, letTemporaryGo value (.ref t) r = pure () := by intro _; with_unfolding_all rfl) :
    wpAny (model prog w) A (subscriptTail value slice (.ref t) (.int 1 u)) Q E s := item_tuple (F.tup ht) (by decide) (by decide) (by rfl) (by rfl) h hs hg
end
local macro_rules | `(tactic| walk_at "subscriptTail") => `(tactic| (k_here; (with_reducible show wpAny _ _ (subscriptTail _ _ (Value.ref _) (Value.int _ _)) _ _ _); with_reducible first | refine pair0 (by assumption) (by assumption) ?_ | refine pair1 (by assumption) (by assumption) ?_))

abbrev hdict (hh : Int) (th : Tok) (k : Nat) (H : Addr) : Obj := { cls := .type "dict", data := .dict #[⟨hh, .str "_headers" th, .ref H⟩] k }
local macro_rules | `(tactic| walk_at "call builtin:str.lower") => `(tactic| refine SC.lower (by assumption) ?_)
/-- the table: its object, its dict, its list -/
structure Tbl (h : Heap) (x dx H : Addr) (hh : Int) (th : Tok) (k : Nat) (items : List Value) (n : Nat) : Prop where
  inst : h.get? x = some (instObj 221 dx)
  dict : h.get? dx = some (hdict hh th k H)
  list : h.get? H = some (PySem.W.listOf items.toArray n)

def RowAt (h : Heap) (v : Value) (a : Str × Str) : Prop := ∃ ti t1 t2, v = .ref ti ∧ h.get? ti = some { cls := .type "tuple", data := .seq #[.str a.1 t1, .str a.2 t2] }
structure RowsAre (h : Heap) (items : List Value) (rows : List (Str × Str)) : Prop where
  len : items.length = rows.length
  at_ : ∀ (i : Nat) (v : Value), items[i]? = some v → ∃ a, rows[i]? = some a ∧ RowAt h v a
theorem RowsAre.le {h h' : Heap} {items : List Value} {rows : List (Str × Str)} (x : RowsAre h items rows) (hk : Le h h') : RowsAre h' items rows :=
  ⟨x.len, fun i v e => let ⟨a, ha, ti, t1, t2, hv, ho⟩ := x.at_ i v e; ⟨a, ha, ti, t1, t2, hv, hk _ _ ho⟩⟩
def low (y : Str) : Prop := Builtin.Str.tooLong (Txt.lower y).length = false
def getV (rows : List (Str × Str)) (name : Str) : List Str := (rows.filter fun a => Txt.lower a.1 == Txt.lower name).map (·.2)

theorem getall_call {prog : Program} {w : World} {A : Around} {s : Shared} {p : Program} {loose : List Str} {mean : ExcName → Option Value} {mg mb : Str → Option Value} {x dx H : Addr} {hs : Int} {th : Tok} {kd : Nat} {items : List Value} {n : Nat} {name : Str} {tn : Tok}
  (X : (hd.heap_39 w.params).In (hideAll s.heap [x, dx, H])) (T : Top p loose mean mg mb (hideAll s.heap [x, dx, H])) (r : Rm 8 A) (B : Tbl s.heap x dx H hs th kd items n)
  {rows : List (Str × Str)} (hrows : RowsAre s.heap items rows) (hrl : ∀ a ∈ rows, Builtin.Str.tooLong (Txt.lower a.1).length = false) (hrn : rows.length ≤ 100)
  (hlow : Builtin.Str.tooLong (Txt.lower name).length = false) (hlow2 : (Txt.lower name).length ≤ 10) (hhit : noHit codeName (Txt.lower name) = true)
  {R : Result → Shared → Prop} (hR : ∀ s' D vs nn, Kp s s' → s.heap.get? D = none → s'.heap.get? D = some (PySem.W.listOf vs.toArray nn) → StrsAre vs (getV rows name) → R (.ok (.ret (.ref D))) s') : codeAny (model prog w) A (.call (.ref 160) ⟨[.ref x, .str name tn], []⟩) R s := by
  have X₀ : (hd.heap_39 w.params).In s.heap := X.keeps fun b o e => of_hideAll _ e
  have T₀ := T.keeps fun b o e => of_hideAll _ e
  refine' call0C X₀ T₀.nolimit r.room ?k6 ?k7 ?k9 ?kB ?kN ?c2 ?c3 ?c4 ?_
  case k6 => k_is
  case k7 => k_is
  case k9 => exact BindsTo.of_eq rfl
  case kB => exact kindsX rfl
  case kN => decide
  case c2 => exact rfl
  case c3 => exact rfl
  case c4 => exact rfl
  intro L h₁ tk cells F N Y
  have hh : A.handled = none := r.hd
  obtain ⟨o1, rfl, d1⟩ := CellsAre.one (n := "name") (c := L + 1) Y
  replace d1 : o1.data = .cell (some (.str name tn)) := d1
  clear Y
  have N₂ := newsHide F N [(x, instObj 221 dx), (dx, hdict hs th kd H), (H, PySem.W.listOf items.toArray n)] [x, dx, H] (by
    intro p hp; simp only [List.mem_cons, List.not_mem_nil, or_false] at hp
    rcases hp with rfl | rfl | rfl
    · exact B.inst
    · exact B.dict
    · exact B.list) (by intro p hp; simp only [List.mem_cons, List.not_mem_nil, or_false] at hp; rcases hp with rfl | rfl | rfl <;> simp)
  have F₂ := frHide F [x, dx, H]
  clear F N
  replace F₂ : Fr (hideAll s.heap [x, dx, H]) L h₁ (fun y => if y = "self" then some (.ref x) else none) := F₂
  replace N₂ : News (hideAll s.heap [x, dx, H]) L h₁ [(L + 1, o1), (x, instObj 221 dx), (dx, hdict hs th kd H), (H, PySem.W.listOf items.toArray n)] := N₂
  k_steps
  unfold HideP
  rename Fr _ _ _ _ => F₃
  rename News _ _ _ _ => N₃
  refine wpAny_call (conv_name (Frag.In.keeps X F₃.keep) (T.keeps F₃.keep) ((r.deeper _).less (by decide)) hlow2 hhit fun s₄ hk => ?_)
  have F₄ := F₃.after hk.le
  have N₄ := Mine.News.le N₃ hk.le
  clear F₃ N₃
  dsimp only
  k_steps
  unfold HideP
  rename Fr _ _ _ _ => F₅
  rename News _ _ _ _ => N₅
  rename (Obj.data _ = Data.cell (some (Value.str (Txt.lower name) _))) => d5
  rename Obj => o5
  replace N₅ : News (hideAll s.heap [x, dx, H]) L _ [(L + 1, o5), (x, instObj 221 dx), (dx, hdict hs th kd H), (H, PySem.W.listOf items.toArray n)] := N₅
  refine evalComp (cl := [(Str.ofString "name", L + 1)]) rfl rfl (by decide) ?_
  k_steps
  refine' comp_list (A := A.deeper _) hh ?hob ?hc ?hd ?hsz (by decide) rfl rfl
    (fun i ys => StrsAre ys (getV (rows.take i) name)) .nil ?FF ?NN ?_ ?_ ?_
  case hob => exact (N₅ _ (.tail _ (.tail _ (.tail _ (.head _))))).1
  case hc => exact rfl
  case hd => exact rfl
  case hsz => rw [List.size_toArray, hrows.len]; exact Nat.le_trans hrn (by decide)
  case FF => exact F₅
  case NN => exact N₅
  · intro h _ N; exact (N _ (.tail _ (.tail _ (.tail _ (.head _))))).1
  · intro j v ys nn s₁ oC oI mC C I' D hj hA hlen' hsh hC hmC hlt hID hDC F₁ N₁
    rw [List.getElem?_toArray] at hj
    obtain ⟨a, ha, ti, t1, t2, rfl, hti⟩ := hrows.at_ j v hj
    have hlo := hrl a (List.mem_of_getElem? ha)
    have hT : IsTup (hideAll s.heap [x, dx, H]) ti #[.str a.1 t1, .str a.2 t2] := by
      refine ⟨_, hideAll_get _ hti ?_, rfl, _, rfl⟩
      intro hm
      simp only [List.mem_cons, List.not_mem_nil, or_false] at hm
      rcases hm with rfl | rfl | rfl
      · rw [B.inst] at hti; cases hti
      · rw [B.dict] at hti; injection hti with h1; injection h1 with h2; injection h2 with h3; exact absurd h3 (by decide)
      · rw [B.list] at hti; injection hti with h1; injection h1 with h2; injection h2 with h3; exact absurd h3 (by decide)
    have hstep : getV (rows.take (j + 1)) name = getV (rows.take j) name ++ (if (Txt.lower a.1 == Txt.lower name) = true then [a.2] else []) := by
      rw [List.take_add_one, ha]
      unfold getV
      rw [List.filter_append, List.map_append]
      congr 1
      show List.map _ (List.filter _ [a]) = _
      rw [List.filter_cons]
      split <;> rfl
    refine wpAny_tests_one ?_
    k_steps
    · rename (Txt.lower a.1 == Txt.lower name) = true => hc
      rename Fr _ _ _ _ => F₆
      rename News _ _ _ _ => N₆
      refine ⟨?_, ⟨hsh.os, hsh.bare⟩, F₆, N₆⟩
      rw [hstep, if_pos hc]
      exact hA.append' (.cons _ _ .nil)
    · rename (Txt.lower a.1 == Txt.lower name) = false => hc
      rename Fr _ _ _ _ => F₆
      rename News _ _ _ _ => N₆
      refine ⟨?_, ⟨hsh.os, hsh.bare⟩, F₆, N₆⟩
      rw [hstep, if_neg (by rw [hc]; exact Bool.false_ne_true), List.append_nil]
      exact hA
  · intro s₃ ys nn D hA hsh hlt F₆ N₆
    clear F₅ N₅
    k_steps
    rw [List.size_toArray, hrows.len, List.take_length] at hA
    refine hR s₃ D ys nn ⟨le_of_hide F₆.keep ?_, (hk.sh.trans ⟨hsh.os, hsh.bare⟩).os, (hk.sh.trans ⟨hsh.os, hsh.bare⟩).bare⟩ ?_ (N₆ _ (.head _)).1 hA
    · intro a ha o ho
      simp only [List.mem_cons, List.not_mem_nil, or_false] at ha
      rcases ha with rfl | rfl | rfl
      · rw [← Option.some.inj (B.inst.symm.trans ho)]; exact (N₆ _ (.tail _ (.tail _ (.head _)))).1
      · rw [← Option.some.inj (B.dict.symm.trans ho)]; exact (N₆ _ (.tail _ (.tail _ (.tail _ (.head _))))).1
      · rw [← Option.some.inj (B.list.symm.trans ho)]; exact (N₆ _ (.tail _ (.tail _ (.tail _ (.tail _ (.head _)))))).1
    · cases hq : s.heap.get? D with
      | none => rfl
      | some o =>
        have h1 : D ∉ [x, dx, H] := by
          intro hm
          simp only [List.mem_cons, List.not_mem_nil, or_false] at hm
          rcases hm with rfl | rfl | rfl
          · exact Nat.lt_irrefl _ (hlt _ (.tail _ (.head _)))
          · exact Nat.lt_irrefl _ (hlt _ (.tail _ (.tail _ (.head _))))
          · exact Nat.lt_irrefl _ (hlt _ (.tail _ (.tail _ (.tail _ (.head _)))))
        have h2 := hideAll_get [x, dx, H] hq h1
        rw [(N₆ _ (.head _)).2.2] at h2
        cases h2
end Mine
end

section
theorem Mine.reset18 : True := by
  w_top off
  first | (walk1; done) | exact True.intro
set_option maxRecDepth 100000
set_option maxHeartbeats 8000000
namespace Mine
open PySem PySem.W PySem.Calls PyProof.Rows
theorem fill8 : PySem.Challenge.rw_us0021_01.foot = PySem.Challenge.rw_us0021_01.foot ∧ hd.heap_39 = hd.heap_39 := by
  k_fill
  exact ⟨rfl, rfl⟩

section
variable {prog : Program} {w : World} {A : Around} {s : Shared} {K : Frag}
  {R : Result → Shared → Prop} {name qual : Str} {params : Arguments} {body : List Stmt} {scope : Scope} {dV kV doc pm cdv ct oc : Value} {an od : Option Addr} {osl : Array (Option Value)} {f : Addr} {args : Args} {binds : Addr → List (Str × Value)}

/-- a call of a def whose binding makes one new dict (`**rest`) -/
theorem call0K (X : K.In s.heap) (hlim : s.heap.NoLimit) (hroom : A.depth < recursionLimit)
    (ho : K.lookup f = some ⟨oc, od, .func (fnOf name qual params body scope dV kV doc pm an cdv ct), osl⟩) (hcd : codeIn K cdv qual = true)
    (hbind : bindArgs (fnOf name qual params body scope dV kV doc pm an cdv ct) args = (alloc { cls := .type "dict", data := .dict #[] } >>= fun d => pure (binds d))) (hloc : ∀ d, ∀ y ∈ binds d, scope.names.lookup y.1 = some .local)
    (hcell : ∀ x ∈ scope.names, x.2 ≠ .cell) (hco : scope.isCoroutine = false) (hgen : scope.isGenerator = false) (hk : scope.kind = .function)
    (h : ∀ D L h₁, D = s.heap.objs.size → D < L → Fr s.heap L h₁ (fun y => (binds D).reverse.lookup y) → News s.heap L h₁ [(D, { cls := .type "dict", data := .dict #[] })] →
      wpAny (model prog w) (A.deeper (envOf qual scope L f cdv)) (execs body (envOf qual scope L f cdv))
        (fun fl s' => R (.ok (.ret (match fl with | .ret v => v | _ => .none))) s') (fun _ _ => False)
        { s with heap := h₁, toks := s.toks + (binds D).length }) :
    codeAny (model prog w) A (.call (.ref f) args) R s := by
  refine codeAny_call_function hroom (X _ _ ho) rfl hco hgen rfl (codeRec_of X hcd) ?_
  rw [hbind]
  refine wpAny_bind (wpAny_alloc (wpAny_pure (wpAny_newFunctionEnv hcell (hloc _) (fun h₁ hns hsb => ⟨(hlim.keeps fun b o e => Heap.get?_push_of_some _ e).fresh _ hsb, ?_⟩) hk)))
  have hD : s.heap.objs.size ≠ s.heap.objs.size + 1 := Nat.ne_of_lt (Nat.lt_succ_self _)
  have hsz : (s.heap.push { cls := .type "dict", data := .dict #[] }).objs.size = s.heap.objs.size + 1 := Heap.size_push ..
  dsimp only at hns hsb ⊢
  rw [hsz] at hns hsb ⊢
  refine codeAny_func (wpAny_mono (h s.heap.objs.size (s.heap.objs.size + 1) h₁ rfl (Nat.lt_succ_self _) ⟨hns, fun b o e => hsb.extBut b o (Nat.ne_of_lt (Nat.lt_succ_of_lt (Heap.lt_size e))) (Heap.get?_push_of_some _ (Heap.get?_push_of_some _ e)), Nat.le_succ _⟩ ?_) (fun _ _ y => y) (fun _ _ y => y.elim))
  intro p hp
  rw [List.mem_singleton.mp hp]
  exact ⟨hsb.extBut _ _ hD (Heap.get?_push_of_some _ (Heap.get?_push_size _ rfl)), hD, Heap.get?_none_of_le (Nat.le_refl _)⟩
end

local macro_rules | `(tactic| walk_at "exec For Tuple Call cons nil") => `(tactic| refine hideP ?_)
local macro_rules | `(tactic| walk_at "call ref") => `(tactic| refine hideP ?_)

theorem addh_call {prog : Program} {w : World} {A : Around} {s : Shared} {p : Program} {loose : List Str} {mean : ExcName → Option Value} {mg mb : Str → Option Value} {x dx H : Addr} {hs : Int} {th : Tok} {kd : Nat} {items : List Value} {n : Nat} {nm vl : Str} {tn tv : Tok}
  (X : (hd.heap_39 w.params).In (hideAll s.heap [x, dx, H])) (T : Top p loose mean mg mb (hideAll s.heap [x, dx, H])) (r : Rm 8 A) (B : Tbl s.heap x dx H hs th kd items n) (hit : items.length ≤ 100)
  (hn : nm.length ≤ 10) (hv : vl.length ≤ 10) (hhn : noHit codeName nm = true) (hhv : noHit codeVal vl = true)
  {R : Result → Shared → Prop} (hR : ∀ s' ti t1 t2 n', Sh s s' → (∀ b o, b ≠ H → s.heap.get? b = some o → s'.heap.get? b = some o) → s.heap.get? ti = none →
    s'.heap.get? ti = some { cls := .type "tuple", data := .seq #[.str nm t1, .str vl t2] } → s'.heap.get? H = some (PySem.W.listOf (items ++ [Value.ref ti]).toArray n') → R (.ok (.ret .none)) s') :
  codeAny (model prog w) A (.call (.ref 218) ⟨[.ref x, .str nm tn, .str vl tv], []⟩) R s := by
  have X₀ : (hd.heap_39 w.params).In s.heap := X.keeps fun b o e => of_hideAll _ e
  have T₀ := T.keeps fun b o e => of_hideAll _ e
  refine' call0K X₀ T₀.nolimit r.room ?k6 ?k7 ?k9 ?kB ?c5 ?c2 ?c3 ?c4 ?_
  case k6 => k_is
  case k7 => k_is
  case k9 => exact rfl
  case kB => exact fun _ => locs rfl
  case c5 => decide
  case c2 => exact rfl
  case c3 => exact rfl
  case c4 => exact rfl
  intro P L h₁ hPs hPL F N
  have hP218 : @LT.lt Nat _ 218 P := by rw [hPs]; exact Heap.lt_size (X₀ 218 _ (by k_is))
  have hPS : (P == sysModules) = false := by
    rw [beq_eq_false_iff_ne]
    exact Nat.ne_of_gt (Nat.lt_trans (by decide) hP218)
  have hh : A.handled = none := r.hd
  have N₂ := newsHide F N [(x, instObj 221 dx), (dx, hdict hs th kd H), (H, PySem.W.listOf items.toArray n)] [x, dx, H] (by
    intro p hp; simp only [List.mem_cons, List.not_mem_nil, or_false] at hp
    rcases hp with rfl | rfl | rfl
    · exact B.inst
    · exact B.dict
    · exact B.list) (by intro p hp; simp only [List.mem_cons, List.not_mem_nil, or_false] at hp; rcases hp with rfl | rfl | rfl <;> simp)
  have F₂ := frHide F [x, dx, H]
  clear F N
  replace N₂ : News (hideAll s.heap [x, dx, H]) L h₁ [(P, { cls := .type "dict", data := .dict #[] }), (x, instObj 221 dx), (dx, hdict hs th kd H), (H, PySem.W.listOf items.toArray n)] := N₂
  k_steps
  unfold HideP
  rename Fr _ _ _ _ => F₃
  rename News _ _ _ _ => N₃
  refine wpAny_call (conv_val (Frag.In.keeps X F₃.keep) (T.keeps F₃.keep) ((r.deeper _).less (by decide)) hv hhv fun s₄ hk => ?_)
  have F₄ := F₃.after hk.le
  have N₄ := Mine.News.le N₃ hk.le
  clear F₃ N₃
  dsimp only
  k_steps
  unfold HideP
  rename Fr _ _ _ _ => F₅
  rename News _ _ _ _ => N₅
  have hmP := (N₅ _ (.tail _ (.head _))).1
  refine wpAny_For_items_locals (knd := strKind prog w) (kvs := []) (d := P) (ep := 0) (m := _) (A := A.deeper _) hh rfl rfl rfl (Nat.ne_of_lt hPL) hPS ⟨_, _, hmP, ⟨rfl, rfl, rfl⟩, rfl, ?_, .nil, List.nodup_nil⟩ F₅.ns rfl rfl (fun Q' h => ld F₅ rfl h) (fun _ m' => m' = _) rfl (fun i k v key m₁ s₁ h => by cases h) fun h' tk m' hn' hJ hkI => ?_
  · intro e he; simp at he
  subst hJ
  have F₆ : Fr (hideAll s.heap [x, dx, H]) L h' _ := ⟨hn', fun b o e => hkI b o (Nat.ne_of_lt (Nat.lt_of_lt_of_le (Heap.lt_size e) F₅.above)) (F₅.keep b o e), F₅.above⟩
  have N₆ : News (hideAll s.heap [x, dx, H]) L h' _ := fun p hp => ⟨hkI _ _ (N₅ p hp).2.1 (N₅ p hp).1, (N₅ p hp).2⟩
  clear F₅ N₅
  dsimp only
  k_steps
  unfold HideP
  rename Fr _ _ _ _ => F₇
  rename News _ _ _ _ => N₇
  refine wpAny_call (conv_name (Frag.In.keeps X F₇.keep) (T.keeps F₇.keep) ((r.deeper _).less (by decide)) hn hhn fun s₅ hk₅ => ?_)
  have F₈ := F₇.after hk₅.le
  have N₈ := Mine.News.le N₇ hk₅.le
  clear F₇ N₇
  dsimp only
  k_steps
  rename_i t9 k9 D9 h9 F₉ N₉ hord
  have hHm := N₉ _ (.tail _ (.tail _ (.tail _ (.tail _ (.tail _ (.head _))))))
  refine append_at (hsz := by rw [List.size_toArray]; exact Nat.le_trans hit (by decide)) hHm.1 fun h6 hs6 ho6 => ?_
  replace hs6 : Heap.SameBut H _ h6 := hs6
  rw [List.push_toArray] at ho6
  have up : ∀ b o, b ≠ H → _ → h6.get? b = some o := fun b o hb e => hs6.extBut b o hb e
  k_steps
  have hj : Txt.join "; " [vl] = vl := by
    show Builtin.Str.glued (Str.ofString "; ") [vl] = vl
    obtain ⟨c⟩ := vl
    rfl
  have hT : h9.get? D9 = some { cls := .type "tuple", data := .seq #[.str nm tn, .str (Txt.join "; " [vl]) t9] } := (N₉ _ (.head _)).1
  rw [hj] at hT
  have hfresh : s.heap.get? D9 = none := by
    cases hq : s.heap.get? D9 with
    | none => rfl
    | some o =>
      have h1 : D9 ∉ [x, dx, H] := by
        intro hm
        simp only [List.mem_cons, List.not_mem_nil, or_false] at hm
        rcases hm with rfl | rfl | rfl
        · exact Nat.lt_irrefl _ hord.2.2.1
        · exact Nat.lt_irrefl _ hord.2.2.2.1
        · exact Nat.lt_irrefl _ hord.2.2.2.2
      have h2 := hideAll_get [x, dx, H] hq h1
      rw [(N₉ _ (.head _)).2.2] at h2
      cases h2
  refine hR _ D9 tn t9 _ ⟨hk₅.os.trans hk.os, fun g => hk₅.bare (hk.bare g)⟩ (fun b o hb e => hs6.extBut b o hb ?_) hfresh (hs6.extBut _ _ (Nat.ne_of_gt hord.2.2.2.2) hT) ho6
  show h9.get? b = some o
  by_cases h1 : b ∈ [x, dx, H]
  · simp only [List.mem_cons, List.not_mem_nil, or_false] at h1
    rcases h1 with rfl | rfl | rfl
    · rw [← Option.some.inj (B.inst.symm.trans e)]; exact (N₉ _ (.tail _ (.tail _ (.tail _ (.head _))))).1
    · rw [← Option.some.inj (B.dict.symm.trans e)]; exact (N₉ _ (.tail _ (.tail _ (.tail _ (.tail _ (.head _)))))).1
    · exact absurd rfl hb
  · exact F₉.keep _ _ (hideAll_get _ e h1)
end Mine
end

section
local macro_rules | `(tactic| walk_at "serves nothing") => `(tactic| skip)
local macro_rules | `(tactic| walk_at "serves nothing") => `(tactic| skip)
local macro_rules | `(tactic| walk_at "serves nothing") => `(tactic| skip)
local macro_rules | `(tactic| walk_at "serves nothing") => `(tactic| skip)
local macro_rules | `(tactic| walk_at "serves nothing") => `(tactic| skip)
local macro_rules | `(tactic| walk_at "serves nothing") => `(tactic| skip)
local macro_rules | `(tactic| walk_at "serves nothing") => `(tactic| skip)
local macro_rules | `(tactic| walk_at "serves nothing") => `(tactic| skip)
local macro_rules | `(tactic| walk_at "serves nothing") => `(tactic| skip)
local macro_rules | `(tactic| walk_at "serves nothing") => `(tactic| skip)
theorem Mine.reset19 : True := by
  w_top off
  first | (walk1; done) | exact True.intro
set_option maxRecDepth 100000
set_option maxHeartbeats 1000000
namespace Mine
open PySem PySem.W PySem.Calls PyProof.Rows
section
variable {prog : Program} {w : World} {A : Around} {E : Value → Shared → Prop} {s : Shared} {env : Env} {x : Str} {px : Pos} {h₀ : Heap} {m : Str → Option Value} {news : List (Addr × Obj)}
  {elt iter : Expr} {scope : Scope} {cl : List (Str × Addr)} {pos : Pos} {L : Addr} {Q : Value → Shared → Prop}
theorem compP {I : Addr} {fp : List Addr} {n : Nat} {P : Nat → Value → Prop} {St : Nat → Heap → Prop} (W : Walks prog w A I fp [I] n P St) (hsz : n ≤ sizeLine) {fix : List (Addr × Obj)} (hh : A.handled = none) {x₂ : Str} {px₂ tp : Pos} {tk₀ : Nat}
    (hgo : ∀ i h, St i h → ∃ l j, h.IsListIter I l j) (hP : ∀ i v, P i v → ∃ T a b, v = .ref T ∧ h₀.get? T = some { cls := .type "tuple", data := .seq #[a, b] }) (hx₂ : scope.names.lookup x₂ = some .local) (hxx : x ≠ x₂)
    (hcell : ∀ y ∈ scope.names, y.2 ≠ .cell) (hkind : scope.kind = .function) (hx : scope.names.lookup x = some .local)
    (hIL : I ≠ L) (hI0 : h₀.get? I = none) (hIlt : I < s.heap.objs.size) (hfp : ∀ b ∈ fp, b = I ∨ ∃ o, (b, o) ∈ fix) (hlive : ∀ i h, St i h → ∃ o, h.get? I = some o)
    (hfixI : ∀ p ∈ fix, p.1 ≠ I) (hfix : ∀ h, Fr h₀ L h m → News h₀ L h news → ∀ p ∈ fix, h.get? p.1 = some p.2)
    (hn : ∀ p ∈ news, p.1 ≠ I)
    (Acc : Nat → List Value → Prop) (h0 : Acc 0 []) (hst : St 0 s.heap) (F : Fr h₀ L s.heap m) (N : News h₀ L s.heap news)
    (turn : ∀ i v ys nn s₁ oC oI mC C, i < n → P i v → Acc i ys → ys.length ≤ i → Sh s s₁ → LCg.NsObj oC mC → (∃ T a b, v = .ref T ∧ h₀.get? T = some { cls := .type "tuple", data := .seq #[a, b] } ∧ mC x = some a ∧ mC x₂ = some b) → C = s.heap.objs.size + 1 →
      Fr h₀ L s₁.heap m → News h₀ L s₁.heap ((C, oC) :: (I, oI) :: (s.heap.objs.size, PySem.W.listOf ys.toArray nn) :: news) →
      wpAny (model prog w) A (eval elt (compEnvC scope cl C env)) (fun y s₃ => CNx h₀ L s m ((C, oC) :: (I, oI) :: (s.heap.objs.size, PySem.W.listOf ys.toArray nn) :: news) (Acc (i + 1) (ys ++ [y])) s₃) (fun _ _ => False) s₁)
    (done : ∀ s₃ ys nn, Acc n ys → Sh s s₃ → Fr h₀ L s₃.heap m → News h₀ L s₃.heap ((s.heap.objs.size, PySem.W.listOf ys.toArray nn) :: news) → Q (.ref s.heap.objs.size) s₃) :
    wpAny (model prog w) A (newList []) (fun acc s₃ => wpAny (model prog w) A (newFunctionEnv scope env.globals cl [] env.qual none .none (some env)) (fun cenv s₄ =>
      codeAny (model prog w) A (.compStart (.ListComp elt [⟨.Tuple [.Name x px, .Name x₂ px₂] tk₀ tp, iter, [], 0⟩] scope pos) 0 (.ref I) acc { cenv with scope := relabel scope env }) (compPost (model prog w) A E none Q acc cenv.locals) s₄) E s₃) E s := by
  refine wpAny_newObj_type (wpAny_newFunctionEnv hcell (by intro y hy; simp at hy) (fun h₁ hns₁ hsb₁ => ?_) hkind)
  dsimp only at hns₁ hsb₁ ⊢
  generalize hH2 : s.heap.push { cls := .type "list", dict := none, data := .seq ([] : List Value).toArray } = H2 at hns₁ hsb₁ ⊢
  have hC : H2.objs.size = s.heap.objs.size + 1 := by rw [← hH2, Heap.size_push]
  generalize hCC : H2.objs.size = C at hns₁ hsb₁ hC ⊢
  have hLs : L < s.heap.objs.size := F.ns.lt
  have hDC : s.heap.objs.size ≠ C := by rw [hC]; exact Nat.ne_of_lt (Nat.lt_succ_self _)
  have hCs : ∀ b o, s.heap.get? b = some o → b ≠ C := fun b o e => by rw [hC]; exact Nat.ne_of_lt (Nat.lt_succ_of_lt (Heap.lt_size e))
  have hIC : I ≠ C := by rw [hC]; exact Nat.ne_of_lt (Nat.lt_succ_of_lt hIlt)
  have hID : I ≠ s.heap.objs.size := Nat.ne_of_lt hIlt
  have hLC : L ≠ C := by rw [hC]; exact Nat.ne_of_lt (Nat.lt_succ_of_lt hLs)
  have hLD : L ≠ s.heap.objs.size := Nat.ne_of_lt hLs
  have fresh₀ : ∀ a, s.heap.objs.size ≤ a → h₀.get? a = none := fun a ha => by
    cases e : h₀.get? a with
    | none => rfl
    | some o' => exact absurd (Heap.lt_size (F.keep _ _ e)) (Nat.not_lt.mpr ha)
  have hC0 : h₀.get? C = none := fresh₀ _ (by rw [hC]; exact Nat.le_succ _)
  have hD0 : h₀.get? s.heap.objs.size = none := fresh₀ _ (Nat.le_refl _)
  have old : ∀ b o, s.heap.get? b = some o → h₁.get? b = some o := fun b o e => hsb₁.extBut b o (hCs b o e) (Heap.get?_push_of_some _ (hH2 ▸ Heap.get?_push_of_some _ e))
  have hacc : h₁.get? s.heap.objs.size = some (PySem.W.listOf #[] 0) := hsb₁.extBut _ _ hDC (Heap.get?_push_of_some _ (hH2 ▸ Heap.get?_push_size _ rfl))
  have hst₁ : St 0 h₁ := W.frame _ _ _ hst fun b _ o e => old b o e
  have F₁ : Fr h₀ L h₁ m := F.after old
  have hnC : ∀ p ∈ news, p.1 ≠ C := fun p hp => hCs _ _ (N p hp).1
  have hnD : ∀ p ∈ news, p.1 ≠ s.heap.objs.size := fun p hp => Nat.ne_of_lt (Heap.lt_size (N p hp).1)
  have hfixC : ∀ p ∈ fix, p.1 ≠ C := fun p hp => hCs _ _ (hfix _ F N p hp)
  have hfixD : ∀ p ∈ fix, p.1 ≠ s.heap.objs.size := fun p hp => Nat.ne_of_lt (Heap.lt_size (hfix _ F N p hp))
  have loop : ∀ s₃ : Shared, s₃ = { s with heap := h₁, toks := s.toks + ([] : List (Str × Value)).length } →
      codeAny (model prog w) A (.compLoop (.ListComp elt [⟨.Tuple [.Name x px, .Name x₂ px₂] tk₀ tp, iter, [], 0⟩] scope pos) 0 (.ref I) (.ref s.heap.objs.size) (compEnvC scope cl C env))
        (compPost (model prog w) A E none Q (.ref s.heap.objs.size) C) s₃ := by
    rintro s₃ rfl
    refine LCp.codeAny_compLoop_pair (fun k s' => ∃ i ys nn mC, k = n - i ∧ i ≤ n ∧ Acc i ys ∧ ys.length ≤ i ∧ St i s'.heap ∧ Sh s s' ∧ Fr h₀ L s'.heap m ∧
      News h₀ L s'.heap ((s.heap.objs.size, PySem.W.listOf ys.toArray nn) :: news) ∧ s'.heap.Ns C mC) ?_ n ⟨0, [], 0, _, rfl, Nat.zero_le _, h0, Nat.le_refl _, hst₁, Sh.heap, F₁, ?_, hns₁⟩
    rotate_left
    · intro p hp
      rcases List.mem_cons.mp hp with rfl | hp
      · exact ⟨hacc, Ne.symm hLD, hD0⟩
      · exact ⟨old _ _ (N p hp).1, (N p hp).2⟩
    rintro k s' ⟨i, ys, nn, mC, rfl, hi, hA, hlen, hst', hsh, F', N', hnC'⟩
    have moveF : ∀ h', (∀ b o, b ∉ [I] → s'.heap.get? b = some o → h'.get? b = some o) → Fr h₀ L h' m := fun h' hk =>
      ⟨F'.ns.at' fun o ho => hk _ _ (by simpa using Ne.symm hIL) ho, fun b o ho => hk _ _ (fun hb => by rw [List.mem_singleton.mp hb, hI0] at ho; cases ho) (F'.keep _ _ ho), F'.above⟩
    have hnI : ∀ p ∈ (s.heap.objs.size, PySem.W.listOf ys.toArray nn) :: news, p.1 ≠ I := fun p hp => by
      rcases List.mem_cons.mp hp with rfl | hp
      · exact Ne.symm hID
      · exact hn p hp
    have moveN : ∀ h', (∀ b o, b ∉ [I] → s'.heap.get? b = some o → h'.get? b = some o) → News h₀ L h' ((s.heap.objs.size, PySem.W.listOf ys.toArray nn) :: news) := fun h' hk p hp =>
      ⟨hk _ _ (by simpa using hnI p hp) (N' p hp).1, (N' p hp).2⟩
    rcases Nat.lt_or_eq_of_le hi with hlt | rfl
    · refine W.item i s' _ _ hlt hst' fun v h₂ tk hPv hst₂ hk₂ => ?_
      have F₂ := moveF h₂ hk₂
      have N₂ := moveN h₂ hk₂
      have hnC₂ : h₂.Ns C mC := hnC'.at' fun o ho => hk₂ _ _ (by simpa using Ne.symm hIC) ho
      obtain ⟨T, va, vb, rfl, hT⟩ := hP i v hPv
      obtain ⟨l', j', hli⟩ := hgo _ _ hst₂
      refine wpAny_letOwnedTupleGo_listiter hli ?_
      have hT₂ : h₂.get? T = some { cls := .type "tuple", data := .seq #[va, vb] } := F₂.keep _ _ hT
      refine wpAny_assign_Tuple hh ⟨_, hT₂, rfl, _, rfl⟩ rfl rfl fun h₂' hx₂' => ?_
      replace hx₂' : ∀ b o, h₂.get? b = some o → h₂'.get? b = some o := fun b o ho => hx₂' b o (Nat.ne_of_lt (Heap.lt_size ho)) ho
      show wpAny _ _ (do holding [_] (assign (.Name x px) _ va); do holding [] (assign (.Name x₂ px₂) _ vb); pure ()) _ _ _
      refine wpAny_bind (wpAny_holding (wpAny_assign_Name (wpAny_storeName_local (lookup_relabel_local hx) (hnC₂.keeps hx₂') (fun h₂'' hn₂'' hs₂'' => ?_) (by simp [compEnvC, relabel, hkind]))))
      refine wpAny_bind (wpAny_holding (wpAny_assign_Name (wpAny_storeName_local (lookup_relabel_local hx₂) hn₂'' (fun h₃ hn₃ hs₃' => wpAny_pure ?_) (by simp [compEnvC, relabel, hkind]))))
      have hs₃ : ∀ b o, b ≠ C → h₂.get? b = some o → h₃.get? b = some o := fun b o hb e => hs₃'.extBut b o hb (hs₂''.extBut b o hb (hx₂' b o e))
      obtain ⟨oC, hoC, hC3⟩ := LCg.ns_obj hn₃
      replace hoC : h₃.get? C = some oC := hoC
      obtain ⟨oI, hoI⟩ := hlive _ _ hst₂
      have hoI₃ : h₃.get? I = some oI := hs₃ _ _ hIC hoI
      have up : ∀ b o, b ≠ C → h₂.get? b = some o → h₃.get? b = some o := hs₃
      have F₃ : Fr h₀ L h₃ m := ⟨F₂.ns.at' fun o ho => up _ _ hLC ho, fun b o ho => up _ _ (fun hb => by rw [hb, hC0] at ho; cases ho) (F₂.keep _ _ ho), F₂.above⟩
      have N₃ : News h₀ L h₃ ((C, oC) :: (I, oI) :: (s.heap.objs.size, PySem.W.listOf ys.toArray nn) :: news) := by
        intro p hp
        rcases List.mem_cons.mp hp with rfl | hp
        · exact ⟨hoC, Ne.symm hLC, hC0⟩
        rcases List.mem_cons.mp hp with rfl | hp
        · exact ⟨hoI₃, hIL, hI0⟩
        · refine ⟨up _ _ ?_ (N₂ p hp).1, (N₂ p hp).2⟩
          rcases List.mem_cons.mp hp with rfl | hp
          · exact hDC
          · exact hnC p hp
      have hst₃ : St (i + 1) h₃ := W.frame _ _ _ hst₂ fun b hb o' ho' => by
        rcases hfp b hb with rfl | ⟨o₁, hm⟩
        · exact up _ _ hIC ho'
        · exact up _ _ (hfixC _ hm) ho'
      have again : ∀ s₄ : Shared, Sh s s₄ → Fr h₀ L s₄.heap m → News h₀ L s₄.heap ((C, oC) :: (I, oI) :: news) → St (i + 1) s₄.heap ∧ ∃ mC', s₄.heap.Ns C mC' := by
        intro s₄ _ F₄ N₄
        refine ⟨W.frame _ _ _ hst₃ fun b hb o' ho' => ?_, _, hC3.ns (N₄ _ (.head _)).1⟩
        rcases hfp b hb with rfl | ⟨o₁, hm⟩
        · have : oI = o' := Option.some.inj (hoI₃.symm.trans ho')
          subst this
          exact (N₄ _ (.tail _ (.head _))).1
        · have e1 := up _ _ (hfixC _ hm) (hfix _ F₂ (fun p hp => N₂ p (.tail _ hp)) _ hm)
          have : o₁ = o' := Option.some.inj (e1.symm.trans ho')
          subst this
          exact hfix _ F₄ (fun p hp => N₄ p (.tail _ (.tail _ hp))) _ hm
      refine wpAny_mono (turn i _ ys nn _ oC oI _ C hlt hPv hA hlen (hsh.trans Sh.heap) hC3 ⟨T, va, vb, rfl, hT, ?_, by simp⟩ hC F₃ N₃) (fun y s₅ h₅ => ?_) fun _ _ e => e.elim
      · by_cases e : x = x₂
        · exact absurd e hxx
        · simp [e]
      · skip
        obtain ⟨hA₅, hsh₅, F₅, N₅⟩ := h₅
        have hD₅ := (N₅ _ (.tail _ (.tail _ (.head _)))).1
        refine PyProof.Rows.append_at (its := ys.toArray) (n := nn) (hsz := by rw [List.size_toArray]; exact Nat.le_trans hlen (Nat.le_trans hi hsz)) hD₅ fun h₆ hs₆ ho₆ => ?_
        replace hs₆ : Heap.SameBut s.heap.objs.size s₅.heap h₆ := hs₆
        have up₆ : ∀ b o, b ≠ s.heap.objs.size → s₅.heap.get? b = some o → h₆.get? b = some o := fun b o hb e => hs₆.extBut b o hb e
        have F₆ : Fr h₀ L h₆ m := ⟨F₅.ns.at' fun o ho => up₆ _ _ hLD ho, fun b o ho => up₆ _ _ (fun hb => by rw [hb, hD0] at ho; cases ho) (F₅.keep _ _ ho), F₅.above⟩
        have N₆ : News h₀ L h₆ ((C, oC) :: (I, oI) :: news) := by
          intro p hp
          have hm : p ∈ (C, oC) :: (I, oI) :: (s.heap.objs.size, PySem.W.listOf ys.toArray nn) :: news := by
            rcases List.mem_cons.mp hp with rfl | hp
            · exact .head _
            rcases List.mem_cons.mp hp with rfl | hp
            · exact .tail _ (.head _)
            · exact .tail _ (.tail _ (.tail _ hp))
          refine ⟨up₆ _ _ ?_ (N₅ p hm).1, (N₅ p hm).2⟩
          rcases List.mem_cons.mp hp with rfl | hp
          · exact Ne.symm hDC
          rcases List.mem_cons.mp hp with rfl | hp
          · exact hID
          · exact hnD p hp
        obtain ⟨hst₆, mC₆, hn₆⟩ := again { s₅ with heap := h₆ } ⟨hsh₅.os, hsh₅.bare⟩ F₆ N₆
        refine ⟨n - (i + 1), by omega, i + 1, ys ++ [y], nn + 1, mC₆, rfl, hlt, hA₅, by simp; exact hlen, hst₆, ⟨hsh₅.os, hsh₅.bare⟩, F₆, fun p hp => ?_, hn₆⟩
        rcases List.mem_cons.mp hp with rfl | hp
        · refine ⟨?_, Ne.symm hLD, hD0⟩
          rw [← List.push_toArray]; exact ho₆
        · exact N₆ p (.tail _ (.tail _ hp))
    · refine W.done s' _ _ hst' fun h₂ tk hk₂ => ?_
      have F₂ := moveF h₂ hk₂
      have N₂ := moveN h₂ hk₂
      have hnC₂ : h₂.Ns C mC := hnC'.at' fun o ho => hk₂ _ _ (by simpa using Ne.symm hIC) ho
      refine ⟨mC, hnC₂, fun h₃ hs₃ => ?_⟩
      have up : ∀ b o, b ≠ C → h₂.get? b = some o → h₃.get? b = some o := fun b o hb e => hs₃.extBut b o hb e
      refine done _ ys nn hA (hsh.trans Sh.heap) ⟨F₂.ns.at' fun o ho => up _ _ hLC ho, fun b o ho => up _ _ (fun hb => by rw [hb, hC0] at ho; cases ho) (F₂.keep _ _ ho), F₂.above⟩ fun p hp => ⟨up _ _ ?_ (N₂ p hp).1, (N₂ p hp).2⟩
      rcases List.mem_cons.mp hp with rfl | hp
      · exact hDC
      · exact hnC p hp
  exact codeAny_compStart_list (loop _ rfl) (W.self 0 _ _ _ hst₁ (loop _ rfl))

theorem evalComp' {target : Expr} {ifs : List Expr} (hclos : closureFor scope env = pure cl) (hkind : scope.kind = .function) (hnames : ∀ y ∈ scope.names, y.2 = .local → scope.names.lookup y.1 = some .local)
    (h : wpAny (model prog w) A (eval iter env) (fun xv s₁ => wpAny (model prog w) A (pyIter xv) (fun it s₂ =>
      wpAny (model prog w) A (newList []) (fun acc s₃ => wpAny (model prog w) A (newFunctionEnv scope env.globals cl [] env.qual none .none (some env)) (fun cenv s₄ =>
      codeAny (model prog w) A (.compStart (.ListComp elt [⟨target, iter, ifs, 0⟩] scope pos) 0 it acc { cenv with scope := relabel scope env }) (compPost (model prog w) A E none Q acc cenv.locals) s₄) E s₃) E s₂) E s₁) E s)
    (hs : ∀ x, foldedSetIterable iter env x = pure x := by intro _; rfl) :
    wpAny (model prog w) A (eval (.ListComp elt [⟨target, iter, ifs, 0⟩] scope pos) env) Q E s := by
  rw [eval_ListComp]
  exact wpAny_comprehension_free (use := none) rfl hs hclos hkind hnames h

theorem comp_pairs (hh : A.handled = none) {x₂ : Str} {px₂ tp : Pos} {tk₀ : Nat} {l : Addr} {ob : Obj} {items : Array Value} {k : Nat} (hob : s.heap.get? l = some ob) (hc : ob.cls = .type "list") (hd : ob.data = .seq items k) (hsz : items.size ≤ sizeLine)
    (hcell : ∀ y ∈ scope.names, y.2 ≠ .cell) (hkind : scope.kind = .function) (hx : scope.names.lookup x = some .local) (hx₂ : scope.names.lookup x₂ = some .local) (hxx : x ≠ x₂)
    (hP : ∀ (i : Nat) (v : Value), items[i]? = some v → ∃ T a b, v = .ref T ∧ h₀.get? T = some { cls := .type "tuple", data := .seq #[a, b] })
    (Acc : Nat → List Value → Prop) (h0 : Acc 0 []) (F : Fr h₀ L s.heap m) (N : News h₀ L s.heap news)
    (hfix : ∀ h, Fr h₀ L h m → News h₀ L h news → h.get? l = some ob)
    (turn : ∀ i v ys nn s₁ oC oI mC C I D, items[i]? = some v → Acc i ys → ys.length ≤ i → Sh s s₁ → LCg.NsObj oC mC → (∃ T a b, v = .ref T ∧ h₀.get? T = some { cls := .type "tuple", data := .seq #[a, b] } ∧ mC x = some a ∧ mC x₂ = some b) → (∀ p ∈ news, @LT.lt Nat _ p.1 I) → @LT.lt Nat _ I D → @LT.lt Nat _ D C →
      Fr h₀ L s₁.heap m → News h₀ L s₁.heap ((C, oC) :: (I, oI) :: (D, PySem.W.listOf ys.toArray nn) :: news) →
      wpAny (model prog w) A (eval elt (compEnvC scope cl C env)) (fun y s₃ => CNx h₀ L s m ((C, oC) :: (I, oI) :: (D, PySem.W.listOf ys.toArray nn) :: news) (Acc (i + 1) (ys ++ [y])) s₃) (fun _ _ => False) s₁)
    (done : ∀ s₃ ys nn D, Acc items.size ys → Sh s s₃ → (∀ p ∈ news, @LT.lt Nat _ p.1 D) → Fr h₀ L s₃.heap m → News h₀ L s₃.heap ((D, PySem.W.listOf ys.toArray nn) :: news) → Q (.ref D) s₃) :
    wpAny (model prog w) A (pyIter (.ref l)) (fun it s₂ =>
      wpAny (model prog w) A (newList []) (fun acc s₃ => wpAny (model prog w) A (newFunctionEnv scope env.globals cl [] env.qual none .none (some env)) (fun cenv s₄ =>
      codeAny (model prog w) A (.compStart (.ListComp elt [⟨.Tuple [.Name x px, .Name x₂ px₂] tk₀ tp, iter, [], 0⟩] scope pos) 0 it acc { cenv with scope := relabel scope env }) (compPost (model prog w) A E none Q acc cenv.locals) s₄) E s₃) E s₂) E s := by
  have hl : s.heap.IsList l items := ⟨ob, hob, hc, k, hd⟩
  refine wpAny_pyIter_list hl ?_
  have hL : L < s.heap.objs.size := F.ns.lt
  have hI0 : h₀.get? s.heap.objs.size = none := by
    cases hq : h₀.get? s.heap.objs.size with
    | none => rfl
    | some o' => exact absurd (Heap.lt_size (F.keep _ _ hq)) (Nat.lt_irrefl _)
  have hne : l ≠ s.heap.objs.size := Nat.ne_of_lt (Heap.lt_size hob)
  have hpush : ∀ o : Obj, (s.heap.push o).objs.size = s.heap.objs.size + 1 := fun o => Heap.size_push ..
  have hlt : ∀ p ∈ news, @LT.lt Nat _ p.1 s.heap.objs.size := fun p hp => Heap.lt_size (N p hp).1
  refine compP (Walks.list hh s.heap.objs.size l hne items) hsz (fix := [(l, ob)]) hh (fun i h hst => ⟨_, _, hst.1⟩) hP hx₂ hxx hcell hkind hx (Nat.ne_of_gt hL) hI0 (by rw [hpush]; exact Nat.lt_succ_self _) (fun b hb => ?_) (fun i h hst => let ⟨o, ho, _⟩ := hst.1; ⟨o, ho⟩) ?_ ?_
    (fun p hp => Nat.ne_of_lt (hlt p hp)) Acc h0 ?_ (F.push _) (fun p hp => ⟨Heap.get?_push_of_some _ (N p hp).1, (N p hp).2⟩) ?_ ?_
  · rcases List.mem_cons.mp hb with rfl | hb
    · exact .inl rfl
    · rw [List.mem_singleton.mp hb]; exact .inr ⟨ob, .head _⟩
  · intro p hp; rw [List.mem_singleton.mp hp]; exact hne
  · intro h F₁ N₁ p hp; rw [List.mem_singleton.mp hp]; exact hfix h F₁ N₁
  · exact ⟨⟨_, Heap.get?_push_size _ rfl, rfl, rfl⟩, hl.push _⟩
  · rintro i v ys nn s₁ oC oI mC C hi hv hA hlen hsh hns hx' hC F₁ N₁
    exact wpAny_mono (turn i v ys nn s₁ oC oI mC C s.heap.objs.size _ hv hA hlen (Sh.heap.trans hsh) hns hx' hlt (by rw [hpush]; exact Nat.lt_succ_self _) (by rw [hC]; exact Nat.lt_succ_self _) F₁ N₁)
      (fun y s₃ h₃ => ⟨h₃.j, ⟨h₃.sh.os, h₃.sh.bare⟩, h₃.fr, h₃.nw⟩) fun _ _ e => e
  · intro s₃ ys nn hA hsh F₃ N₃
    exact done s₃ ys nn _ hA ⟨hsh.os, hsh.bare⟩ (fun p hp => Nat.lt_trans (hlt p hp) (by rw [hpush]; exact Nat.lt_succ_self _)) F₃ N₃
end
end Mine
end

section
theorem Mine.reset20 : True := by
  w_top off
  first | (walk1; done) | exact True.intro
set_option maxRecDepth 100000
set_option maxHeartbeats 8000000
namespace Mine
open PySem PySem.W PySem.Calls PyProof.Rows
theorem fill10 : PySem.Challenge.rw_us0021_01.foot = PySem.Challenge.rw_us0021_01.foot ∧ hd.heap_39 = hd.heap_39 := by
  k_fill
  exact ⟨rfl, rfl⟩
local macro_rules | `(tactic| walk_at "eval ListComp") => `(tactic| refine hideP ?_)

local macro_rules | `(tactic| walk_at "eval Name") => `(tactic| refine nameCL (by assumption) (by assumption) (by k_mem) (by assumption) ?_ (by rfl) (by rfl))
theorem keys_call {prog : Program} {w : World} {A : Around} {s : Shared} {p : Program} {loose : List Str} {mean : ExcName → Option Value} {mg mb : Str → Option Value} {x dx H : Addr} {hs : Int} {th : Tok} {kd : Nat} {items : List Value} {n : Nat}
  (X : (hd.heap_39 w.params).In (hideAll s.heap [x, dx, H])) (T : Top p loose mean mg mb (hideAll s.heap [x, dx, H])) (r : Rm 8 A) (B : Tbl s.heap x dx H hs th kd items n)
  {rows : List (Str × Str)} (hrows : RowsAre s.heap items rows) (hrn : rows.length ≤ 100)
  {R : Result → Shared → Prop} (hR : ∀ s' D vs nn, Kp s s' → s.heap.get? D = none → s'.heap.get? D = some (PySem.W.listOf vs.toArray nn) → StrsAre vs (rows.map (·.1)) → R (.ok (.ret (.ref D))) s') :
  codeAny (model prog w) A (.call (.ref 173) ⟨[.ref x], []⟩) R s := by
  have X₀ : (hd.heap_39 w.params).In s.heap := X.keeps fun b o e => of_hideAll _ e
  have T₀ := T.keeps fun b o e => of_hideAll _ e
  refine' call0 X₀ T₀.nolimit r.room ?k6 ?k7 ?k9 ?kB ?c5 ?c2 ?c3 ?c4 ?_
  case k6 => k_is
  case k7 => k_is
  case k9 => exact BindsTo.of_eq rfl
  case kB => exact locs rfl
  case c5 => decide
  case c2 => exact rfl
  case c3 => exact rfl
  case c4 => exact rfl
  intro L h₁ F
  have N : News s.heap L h₁ [] := News.nil
  have hh : A.handled = none := r.hd
  have N₂ := newsHide F N [(x, instObj 221 dx), (dx, hdict hs th kd H), (H, PySem.W.listOf items.toArray n)] [x, dx, H] (by
    intro p hp; simp only [List.mem_cons, List.not_mem_nil, or_false] at hp
    rcases hp with rfl | rfl | rfl
    · exact B.inst
    · exact B.dict
    · exact B.list) (by intro p hp; simp only [List.mem_cons, List.not_mem_nil, or_false] at hp; rcases hp with rfl | rfl | rfl <;> simp)
  have F₂ := frHide F [x, dx, H]
  clear F N
  replace F₂ : Fr (hideAll s.heap [x, dx, H]) L h₁ (fun y => [(("self" : Str), Value.ref x)].reverse.lookup y) := F₂
  replace N₂ : News (hideAll s.heap [x, dx, H]) L h₁ [(x, instObj 221 dx), (dx, hdict hs th kd H), (H, PySem.W.listOf items.toArray n)] := N₂
  k_steps
  unfold HideP
  refine evalComp' (cl := []) rfl rfl (by decide) ?_
  k_steps
  rename Fr _ _ _ _ => F₅
  rename News _ _ _ _ => N₅
  refine' comp_pairs (A := A.deeper _) hh ?hob ?hc ?hd ?hsz (by decide) rfl rfl rfl (by decide) ?hP
    (fun i ys => StrsAre ys ((rows.take i).map (·.1))) .nil ?FF ?NN ?_ ?_ ?_
  case hob => exact (N₅ _ (.tail _ (.tail _ (.head _)))).1
  case hc => exact rfl
  case hd => exact rfl
  case hsz => rw [List.size_toArray, hrows.len]; exact Nat.le_trans hrn (by decide)
  case FF => exact F₅
  case NN => exact N₅
  case hP =>
    intro j v hj
    rw [List.getElem?_toArray] at hj
    obtain ⟨a, ha, ti, t1, t2, rfl, hti⟩ := hrows.at_ j v hj
    refine ⟨ti, _, _, rfl, hideAll_get _ hti ?_⟩
    intro hm
    simp only [List.mem_cons, List.not_mem_nil, or_false] at hm
    rcases hm with rfl | rfl | rfl
    · rw [B.inst] at hti; cases hti
    · rw [B.dict] at hti; injection hti with h1; injection h1 with h2; injection h2 with h3; exact absurd h3 (by decide)
    · rw [B.list] at hti; injection hti with h1; injection h1 with h2; injection h2 with h3; exact absurd h3 (by decide)
  · intro h _ N; exact (N _ (.tail _ (.tail _ (.head _)))).1
  · rintro j v ys nn s₁ oC oI mC C I' D hj hA hlen' hsh hC ⟨T', va, vb, rfl, hT', hk1, hk2⟩ hlt hID hDC F₁ N₁
    rw [List.getElem?_toArray] at hj
    obtain ⟨a, ha, ti, t1, t2, e, hti⟩ := hrows.at_ j _ hj
    injection e with e
    subst e
    have h1 := of_hideAll _ hT'
    rw [hti] at h1
    obtain ⟨rfl, rfl⟩ : Value.str a.1 t1 = va ∧ Value.str a.2 t2 = vb := by
      injection h1 with h1
      injection h1 with _ _ h1
      injection h1 with h1
      simpa using h1
    k_steps
    refine ⟨?_, ⟨hsh.os, hsh.bare⟩, F₁, N₁⟩
    rw [List.take_add_one, ha, List.map_append]
    exact hA.append' (.cons _ _ .nil)
  · intro s₃ ys nn D hA hsh hlt F₆ N₆
    clear F₅ N₅
    k_steps
    rw [List.size_toArray, hrows.len, List.take_length] at hA
    refine hR s₃ D ys nn ⟨le_of_hide F₆.keep ?_, hsh.os, hsh.bare⟩ ?_ (N₆ _ (.head _)).1 hA
    · intro a ha o ho
      simp only [List.mem_cons, List.not_mem_nil, or_false] at ha
      rcases ha with rfl | rfl | rfl
      · rw [← Option.some.inj (B.inst.symm.trans ho)]; exact (N₆ _ (.tail _ (.head _))).1
      · rw [← Option.some.inj (B.dict.symm.trans ho)]; exact (N₆ _ (.tail _ (.tail _ (.head _)))).1
      · rw [← Option.some.inj (B.list.symm.trans ho)]; exact (N₆ _ (.tail _ (.tail _ (.tail _ (.head _))))).1
    · cases hq : s.heap.get? D with
      | none => rfl
      | some o =>
        have h1 : D ∉ [x, dx, H] := by
          intro hm
          simp only [List.mem_cons, List.not_mem_nil, or_false] at hm
          rcases hm with rfl | rfl | rfl
          · exact Nat.lt_irrefl _ (hlt _ (.head _))
          · exact Nat.lt_irrefl _ (hlt _ (.tail _ (.head _)))
          · exact Nat.lt_irrefl _ (hlt _ (.tail _ (.tail _ (.head _))))
        have h2 := hideAll_get [x, dx, H] hq h1
        rw [(N₆ _ (.head _)).2.2] at h2
        cases h2
end Mine
end

section
local macro_rules | `(tactic| walk_at "serves nothing") => `(tactic| skip)
local macro_rules | `(tactic| walk_at "serves nothing") => `(tactic| skip)
local macro_rules | `(tactic| walk_at "serves nothing") => `(tactic| skip)
local macro_rules | `(tactic| walk_at "serves nothing") => `(tactic| skip)
local macro_rules | `(tactic| walk_at "serves nothing") => `(tactic| skip)
local macro_rules | `(tactic| walk_at "serves nothing") => `(tactic| skip)
local macro_rules | `(tactic| walk_at "serves nothing") => `(tactic| skip)
local macro_rules | `(tactic| walk_at "serves nothing") => `(tactic| skip)
local macro_rules | `(tactic| walk_at "serves nothing") => `(tactic| skip)
local macro_rules | `(tactic| walk_at "serves nothing") => `(tactic| skip)
theorem Mine.reset21 : True := by
  w_top off
  first | (walk1; done) | exact True.intro
set_option maxRecDepth 100000
set_option maxHeartbeats 8000000
namespace Mine
open PySem PySem.W PySem.Calls PyProof.Rows
theorem fill11 : PySem.Challenge.rw_us0021_01.foot = PySem.Challenge.rw_us0021_01.foot ∧ hd.heap_39 = hd.heap_39 := by
  k_fill
  exact ⟨rfl, rfl⟩
local macro_rules | `(tactic| walk_at "exec While") => `(tactic| refine hideP ?_)
local macro_rules | `(tactic| walk_at "call ref") => `(tactic| refine hideP ?_)

def KeyFn (prog : Program) (w : World) (f : Addr) (h : Heap) (suf : Nat → Str) (n : Nat) : Prop :=
  ∀ (A : Around) (s : Shared) (k : Nat) (t : Tok) (R : Result → Shared → Prop), Le h s.heap → Rm 2 A → k < n → (∀ s' t', Kp s s' → R (.ok (.ret (.str (suf k) t'))) s') → codeAny (model prog w) A (.call (.ref f) ⟨[.int (k : Int) t], []⟩) R s

def slt (a b : Str) : Bool := decide (a.cps.toList < b.cps.toList)

structure WNx (I : Nat → Shared → Prop) (n : Nat) (s : Shared) : Prop where
  ex : ∃ m, m < n ∧ I m s

theorem while0 {prog : Program} {w : World} {A : Around} {env : Env} {s : Shared} {R : Result → Shared → Prop} {test : Expr} {body : List Stmt} (I : Nat → Shared → Prop)
    (turn : ∀ n s, I n s → wpAny (model prog w) A (isTrue test env (eval test env)) (fun b s₂ =>
        if b = true then wpAny (model prog w) A (execs body env) (fun f s₃ => match f with
            | .next | .cont => WNx I n s₃
            | .brk => R (.ok .next) s₃
            | .ret v => R (.ok (.ret v)) s₃) (fun _ _ => False) s₂
        else R (.ok .next) s₂) (fun _ _ => False) s) (n : Nat) (h : I n s) : codeAny (model prog w) A (.whileLoop test body [] env) R s := by
  refine codeAny_whileLoop I (fun n s hI => ?_) n h
  refine wpAny_mono (turn n s hI) (fun b s₂ h₂ => ?_) fun _ _ e => e.elim
  cases b with
  | true =>
    refine wpAny_mono h₂ (fun f s₃ h₃ => ?_) fun _ _ e => e.elim
    cases f with
    | next => exact h₃.ex
    | cont => exact h₃.ex
    | brk => exact h₃
    | ret v => exact h₃
  | false => exact wpAny_execs_nil h₂

abbrev bisM (D f : Addr) (xs : Str) (tx : Tok) (lo hi : Int) (tl th : Tok) (vm : Option Value) : Str → Option Value := fun y =>
  if y = "mid" then vm else if y = "hi" then some (.int hi th) else if y = "lo" then some (.int lo tl) else [(("a" : Str), Value.ref D), (("x" : Str), Value.str xs tx), (("key" : Str), Value.ref f)].lookup y

structure BisJ (prog : Program) (w : World) (A : Around) (s : Shared) (L D f : Addr) (rs : List Nat) (suf : Nat → Str) (xs : Str) (tx : Tok) (k : Nat) (s' : Shared) : Prop where
  ex : ∃ (lo hi : Nat) (tl th : Tok) (vm : Option Value), k = hi - lo ∧ lo ≤ hi ∧ hi ≤ rs.length ∧ (∀ (j : Nat) (hj : j < rs.length), j < lo → slt (suf rs[j]) xs = true) ∧ (∀ (j : Nat) (hj : j < rs.length), hi ≤ j → slt (suf rs[j]) xs = false) ∧
    Sh s s' ∧ Fr s.heap L s'.heap (bisM D f xs tx (lo : Int) (hi : Int) tl th vm)

theorem bis_call {prog : Program} {w : World} {A : Around} {s : Shared} {p : Program} {loose : List Str} {mean : ExcName → Option Value} {mg mb : Str → Option Value} {D f : Addr} {items : List Value} {nn n : Nat} {rs : List Nat} {suf : Nat → Str} {xs : Str} {tx t0 : Tok}
  (X : (hd.heap_39 w.params).In s.heap) (T : Top p loose mean mg mb s.heap) (r : Rm 5 A) (hD : s.heap.get? D = some (PySem.W.listOf items.toArray nn)) (hi : IntsAre items (rs.map fun (n : Nat) => (n : Int))) (hrs : ∀ k ∈ rs, k < n) (hlen : rs.length ≤ 100)
  (hf : KeyFn prog w f s.heap suf n) {fo : Obj} {fdd : FuncData} (hfo : s.heap.get? f = some fo) (hfd : fo.data = .func fdd) (hmono : ∀ (i j : Nat), i ≤ j → ∀ hj : j < rs.length, slt (suf rs[j]) xs = true → ∀ hi : i < rs.length, slt (suf rs[i]) xs = true)
  {R : Result → Shared → Prop} (hR : ∀ s' (lo : Nat) t, Kp s s' → lo ≤ rs.length → (∀ (j : Nat) (hj : j < rs.length), j < lo → slt (suf rs[j]) xs = true) → (∀ (j : Nat) (hj : j < rs.length), lo ≤ j → slt (suf rs[j]) xs = false) → R (.ok (.ret (.int (lo : Int) t))) s') :
  codeAny (model prog w) A (.call (.ref 70) ⟨[.ref D, .str xs tx, .int 0 t0, .none], [("key", .ref f)]⟩) R s := by
  refine' call0 X T.nolimit r.room ?k6 ?k7 ?k9 ?kB ?c5 ?c2 ?c3 ?c4 ?_
  case k6 => k_is
  case k7 => k_is
  case k9 => first | exact BindsTo.of_eq rfl | exact binds_K (by k_in) rfl (by k_is) rfl rfl rfl
  case kB => exact locs rfl
  case c5 => decide
  case c2 => exact rfl
  case c3 => exact rfl
  case c4 => exact rfl
  intro L h₁ F
  have N : News s.heap L h₁ [] := News.nil
  have hl : s.heap.IsList D items.toArray := ⟨_, hD, rfl, _, rfl⟩
  have hh : A.handled = none := r.hd
  have hil : items.length = rs.length := by rw [hi.length, List.length_map]
  k_steps
  rename Fr _ _ _ _ => FF
  obtain ⟨tl, th, FF⟩ : ∃ tl th, Fr s.heap L _ (bisM D f xs tx ((0 : Nat) : Int) ((rs.length : Nat) : Int) tl th none) := ⟨_, _, frCast FF (by
    intro y
    by_cases e1 : y = "mid"
    · subst e1; rfl
    by_cases e2 : y = "hi"
    · subst e2
      show some (Value.int ((List.map _ rs).length : Int) _) = _
      rw [List.length_map]; rfl
    by_cases e3 : y = "lo"
    · subst e3; rfl
    by_cases e4 : y = "a"
    · subst e4; rfl
    by_cases e5 : y = "x"
    · subst e5; rfl
    by_cases e6 : y = "key"
    · subst e6; rfl
    have hb : ∀ z : Str, y ≠ z → (y == z) = false := fun z h => beq_eq_false_iff_ne.mpr h
    show (if y = "hi" then _ else List.lookup y [((Str.ofString "key", Value.ref f) : Str × Value), (Str.ofString "hi", .none), (Str.ofString "lo", .int 0 t0), (Str.ofString "x", .str xs tx), (Str.ofString "a", .ref D)]) = (if y = "mid" then _ else if y = "hi" then _ else if y = "lo" then _ else List.lookup y [((Str.ofString "a", Value.ref D) : Str × Value), (Str.ofString "x", .str xs tx), (Str.ofString "key", .ref f)])
    rw [if_neg e2, if_neg e1, if_neg e2, if_neg e3]
    simp only [List.lookup, hb _ e1, hb _ e2, hb _ e3, hb _ e4, hb _ e5, hb _ e6])⟩
  unfold HideP
  refine wpAny_While (while0 (fun k s' => BisJ prog w A s L D f rs suf xs tx k s') ?_ _ ⟨0, rs.length, tl, th, none, rfl, Nat.zero_le _, Nat.le_refl _, fun j hj h => absurd h (Nat.not_lt_zero _), fun j hj h => absurd hj (Nat.not_lt.mpr h), ⟨rfl, id⟩, FF⟩)
  rintro k s' ⟨lo, hi', tl, th, vm, rfl, h1, h2, hlo, hhi, hsh, FF'⟩
  clear FF
  have NN : News s.heap L s'.heap [] := News.nil
  k_steps
  · rename (lo : Int) < hi' => hlt
    rename Fr _ _ _ _ => F₂
    have hmid : ((lo : Int) + (hi' : Int)).fdiv 2 = (((lo + hi') / 2 : Nat) : Int) := by
      rw [Int.fdiv_eq_ediv_of_nonneg _ (by decide)]; omega
    rw [hmid] at F₂
    have hm1 : (lo + hi') / 2 < rs.length := by omega
    have hg : (rs.map fun (n : Nat) => (n : Int)).getD ((lo + hi') / 2) 0 = ((rs[(lo + hi') / 2] : Nat) : Int) := by
      rw [List.getD_eq_getElem?_getD, List.getElem?_map, List.getElem?_eq_getElem hm1]; rfl
    unfold HideP
    rw [hmid, Int.toNat_natCast, hg]
    refine wpAny_call (hf _ _ _ _ _ F₂.keep ((r.deeper _).less (by decide)) (hrs _ (List.getElem_mem hm1)) fun s₄ t₄ hk => ?_)
    have F₃ := F₂.after hk.le
    clear F₂
    have NN₃ : News s.heap L s₄.heap [] := News.nil
    dsimp only
    have hsh4 : Sh s s₄ := ⟨hk.os.trans hsh.os, fun g => hk.bare (hsh.bare g)⟩
    k_steps
    · rename (List.lt _ _ : Prop) => hlt2
      rename Fr _ _ _ _ => F₄
      have hs1 : slt (suf rs[(lo + hi') / 2]) xs = true := decide_eq_true hlt2
      exact ⟨hi' - ((lo + hi') / 2 + 1), by omega, ⟨(lo + hi') / 2 + 1, hi', _, th, some (.int (((lo + hi') / 2 : Nat) : Int) _), rfl, by omega, h2, fun j hj h => hmono j _ (by omega) hm1 hs1 hj, hhi, ⟨hsh4.os, hsh4.bare⟩, frCast F₄ (by
        intro y
        by_cases e1 : y = "mid"
        · subst e1; rfl
        by_cases e2 : y = "hi"
        · subst e2; rfl
        by_cases e3 : y = "lo"
        · subst e3; rfl
        simp only [bisM, if_neg e1, if_neg e2, if_neg e3])⟩⟩
    · rename (¬ (List.lt _ _ : Prop)) => hlt2
      rename Fr _ _ _ _ => F₄
      have hs1 : slt (suf rs[(lo + hi') / 2]) xs = false := decide_eq_false hlt2
      have hhi2 : ∀ (j : Nat) (hj : j < rs.length), (lo + hi') / 2 ≤ j → slt (suf rs[j]) xs = false := fun j hj h => by
        cases hq : slt (suf rs[j]) xs with
        | false => rfl
        | true => rw [hmono _ j h hj hq hm1] at hs1; cases hs1
      exact ⟨(lo + hi') / 2 - lo, by omega, ⟨lo, (lo + hi') / 2, tl, _, some (.int (((lo + hi') / 2 : Nat) : Int) _), rfl, by omega, by omega, hlo, hhi2, ⟨hsh4.os, hsh4.bare⟩, frCast F₄ (by
        intro y
        by_cases e1 : y = "mid"
        · subst e1; rfl
        by_cases e2 : y = "hi"
        · subst e2; rfl
        by_cases e3 : y = "lo"
        · subst e3; rfl
        simp only [bisM, if_neg e1, if_neg e2, if_neg e3])⟩⟩
  · rename ¬ (lo : Int) < hi' => hge
    have : lo = hi' := by omega
    subst this
    exact hR s' lo tl ⟨FF'.keep, hsh.os, hsh.bare⟩ h2 hlo hhi
end Mine
end

section
theorem Mine.reset22 : True := by
  w_top off
  first | (walk1; done) | exact True.intro
set_option maxRecDepth 100000
set_option maxHeartbeats 8000000
namespace Mine
open PySem PySem.W PySem.Calls PyProof.Rows
theorem fill12 : PySem.Challenge.rw_us0021_01.foot = PySem.Challenge.rw_us0021_01.foot ∧ hd.heap_39 = hd.heap_39 := by
  k_fill
  exact ⟨rfl, rfl⟩
local macro_rules | `(tactic| walk_at "call ref") => `(tactic| refine hideP ?_)

theorem KeyFn.mono {prog : Program} {w : World} {f : Addr} {h h' : Heap} {suf : Nat → Str} {n : Nat} (x : KeyFn prog w f h suf n) (hk : Le h h') : KeyFn prog w f h' suf n :=
  fun A s k t R hl => x A s k t R fun b o e => hl b o (hk b o e)

theorem insert_gen {prog : Program} {w : World} {A : Around} {E : Value → Shared → Prop} {s : Shared} {D : Addr} {items : Array Value} {n : Nat} {x : Int} {t : Tok} {v : Value} {Q : Value → Shared → Prop}
    (ho : s.heap.get? D = some (PySem.W.listOf items n)) (hfit : ¬(!Builtin.List.listFitsIndex x) = true) (hz : items.size ≤ sizeLine) {r : Array Value}
    (hr : ((items.extract 0 (if x < 0 then (x + (items.size : Int)).toNat else min x.toNat items.size)).push v ++ items.extract (if x < 0 then (x + (items.size : Int)).toNat else min x.toNat items.size)) = r)
    (h : ∀ h' n', Heap.SameBut D s.heap h' → h'.get? D = some (PySem.W.listOf r n') → Q .none { s with heap := h' }) :
    wpAny (model prog w) A (call (.builtin "list.insert") [.ref D, .int x t, v]) Q E s := by
  have hM := AutoSeq1.list_insert_list_int_val_1 D items n x t v hfit hz
  refine call_meets F.slot_list_insert ⟨_, ho, rfl⟩ F.entry_list_insert (F.args_list_insert_3 _ _ _) hM ⟨ho, ?_⟩
  have e := IsL.update (h := s.heap) (l := D) (items := items) (n := n) ho (fun xs => have k := if x < 0 then (x + (xs.size : Int)).toNat else min x.toNat xs.size; (xs.extract 0 k).push v ++ xs.extract k)
  dsimp only at e
  rw [hr] at e
  exact h _ _ (Heap.SameBut.update ..) e

theorem insert_at {prog : Program} {w : World} {A : Around} {E : Value → Shared → Prop} {s : Shared} {D : Addr} {items : List Value} {n lo : Nat} {t : Tok} {v : Value} {Q : Value → Shared → Prop}
    (ho : s.heap.get? D = some (PySem.W.listOf items.toArray n)) (hlo : lo ≤ items.length) (hsz : items.length ≤ 1000)
    (h : ∀ h' n', Heap.SameBut D s.heap h' → h'.get? D = some (PySem.W.listOf (items.take lo ++ [v] ++ items.drop lo).toArray n') → Q .none { s with heap := h' }) :
    wpAny (model prog w) A (call (.builtin "list.insert") [.ref D, .int (lo : Int) t, v]) Q E s := by
  have hfit : ¬(!Builtin.List.listFitsIndex (lo : Int)) = true := by
    unfold Builtin.List.listFitsIndex
    rw [Bool.not_eq_true, Bool.not_eq_false', Bool.and_eq_true, decide_eq_true_eq, decide_eq_true_eq]
    omega
  have hz : items.toArray.size ≤ sizeLine := by rw [List.size_toArray]; exact Nat.le_trans hsz (by decide)
  refine insert_gen ho hfit hz ?_ h
  have hk : (if (lo : Int) < 0 then ((lo : Int) + (items.toArray.size : Int)).toNat else min ((lo : Int)).toNat items.toArray.size) = lo := by
    rw [if_neg (by omega), Int.toNat_natCast, List.size_toArray]; omega
  rw [hk]
  apply Array.ext'
  simp
  exact List.take_of_length_le (by rw [List.length_drop]; exact Nat.le_refl _)

theorem ins_call {prog : Program} {w : World} {A : Around} {s : Shared} {p : Program} {loose : List Str} {mean : ExcName → Option Value} {mg mb : Str → Option Value} {D f : Addr} {items : List Value} {nn n k : Nat} {rs : List Nat} {suf : Nat → Str} {tk : Tok}
  (X : (hd.heap_39 w.params).In (hideAll s.heap [D])) (T : Top p loose mean mg mb (hideAll s.heap [D])) (r : Rm 7 A) (hD : s.heap.get? D = some (PySem.W.listOf items.toArray nn)) (hi : IntsAre items (rs.map fun (n : Nat) => (n : Int))) (hrs : ∀ k ∈ rs, k < n) (hlen : rs.length ≤ 100) (hk : k < n)
  (hf : KeyFn prog w f (hideAll s.heap [D]) suf n) {fo : Obj} {fdd : FuncData} (hfo : (hideAll s.heap [D]).get? f = some fo) (hfd : fo.data = .func fdd)
  (hmono : ∀ (i j : Nat), i ≤ j → ∀ hj : j < rs.length, slt (suf rs[j]) (suf k) = true → ∀ hi : i < rs.length, slt (suf rs[i]) (suf k) = true)
  {R : Result → Shared → Prop} (hR : ∀ s' (lo : Nat) t n', Sh s s' → (∀ b o, b ≠ D → s.heap.get? b = some o → s'.heap.get? b = some o) → s'.heap.get? D = some (PySem.W.listOf (items.take lo ++ [Value.int (k : Int) t] ++ items.drop lo).toArray n') → lo ≤ rs.length → (∀ (j : Nat) (hj : j < rs.length), j < lo → slt (suf rs[j]) (suf k) = true) → (∀ (j : Nat) (hj : j < rs.length), lo ≤ j → slt (suf rs[j]) (suf k) = false) → R (.ok (.ret .none)) s') :
  codeAny (model prog w) A (.call (.ref 61) ⟨[.ref D, .int (k : Int) tk], [("key", .ref f)]⟩) R s := by
  have X₀ : (hd.heap_39 w.params).In s.heap := X.keeps fun b o e => of_hideAll _ e
  have T₀ := T.keeps fun b o e => of_hideAll _ e
  refine' call0 X₀ T₀.nolimit r.room ?k6 ?k7 ?k9 ?kB ?c5 ?c2 ?c3 ?c4 ?_
  case k6 => k_is
  case k7 => k_is
  case k9 => first | exact BindsTo.of_eq rfl | exact binds_K (by k_in) rfl (by k_is) rfl rfl rfl
  case kB => exact locs rfl
  case c5 => decide
  case c2 => exact rfl
  case c3 => exact rfl
  case c4 => exact rfl
  intro L h₁ F
  have N : News s.heap L h₁ [] := News.nil
  have hh : A.handled = none := r.hd
  have N₂ := newsHide F N [(D, PySem.W.listOf items.toArray nn)] [D] (by intro p hp; rw [List.mem_singleton.mp hp]; exact hD) (by intro p hp; rw [List.mem_singleton.mp hp]; simp)
  have F₂ := frHide F [D]
  clear F N
  replace N₂ : News (hideAll s.heap [D]) L h₁ [(D, PySem.W.listOf items.toArray nn)] := N₂
  k_steps
  unfold HideP
  rename Fr _ _ _ _ => F₃
  rename News _ _ _ _ => N₃
  refine wpAny_call (hf _ _ _ _ _ F₃.keep ((r.deeper _).less (by decide)) hk fun s₄ t₄ hk₄ => ?_)
  have F₄ := F₃.after hk₄.le
  have N₄ := Mine.News.le N₃ hk₄.le
  clear F₃ N₃
  dsimp only
  k_steps
  unfold HideP
  refine wpAny_call (bis_call (Frag.In.keeps X F₄.keep) (T.keeps F₄.keep) ((r.deeper _).less (by decide)) (N₄ _ (.head _)).1 hi hrs hlen (hf.mono F₄.keep) (F₄.keep _ _ hfo) hfd hmono fun s₅ lo t₅ hk₅ hlo1 hlo2 hlo3 => ?_)
  have F₅ := F₄.after hk₅.le
  have N₅ := Mine.News.le N₄ hk₅.le
  clear F₄ N₄
  dsimp only
  k_steps
  rename Fr _ _ _ _ => F₆
  rename News _ _ _ _ => N₆
  have hil : items.length = rs.length := by rw [hi.length, List.length_map]
  refine insert_at (N₆ _ (.head _)).1 (by omega) (by omega) fun h₇ n₇ hb h7 => ?_
  dsimp only
  k_steps
  refine hR _ lo _ n₇ ⟨hk₅.os.trans hk₄.os, fun g => hk₅.bare (hk₄.bare g)⟩ (fun b o hbD e => ?_) h7 hlo1 hlo2 hlo3
  exact (hb.2 b hbD).trans (F₆.keep _ _ (hideAll_get [D] e (by intro hm; exact hbD (List.mem_singleton.mp hm))))
end Mine
end

section
local macro_rules | `(tactic| walk_at "serves nothing") => `(tactic| skip)
local macro_rules | `(tactic| walk_at "serves nothing") => `(tactic| skip)
local macro_rules | `(tactic| walk_at "serves nothing") => `(tactic| skip)
local macro_rules | `(tactic| walk_at "serves nothing") => `(tactic| skip)
local macro_rules | `(tactic| walk_at "serves nothing") => `(tactic| skip)
local macro_rules | `(tactic| walk_at "serves nothing") => `(tactic| skip)
local macro_rules | `(tactic| walk_at "serves nothing") => `(tactic| skip)
local macro_rules | `(tactic| walk_at "serves nothing") => `(tactic| skip)
local macro_rules | `(tactic| walk_at "serves nothing") => `(tactic| skip)
local macro_rules | `(tactic| walk_at "serves nothing") => `(tactic| skip)
theorem Mine.reset23 : True := by
  w_top off
  first | (walk1; done) | exact True.intro
set_option maxRecDepth 100000
set_option maxHeartbeats 8000000
namespace Mine
open PySem PySem.W PySem.Calls PyProof.Rows
theorem fill14 : PySem.Challenge.rw_us0021_01.foot = PySem.Challenge.rw_us0021_01.foot ∧ hd.heap_39 = hd.heap_39 := by
  k_fill
  exact ⟨rfl, rfl⟩


def lamExpr : Expr := match stAt (bodyOf (stAt (bodyOf (mainSt 19)) 1)) 0 with
  | .Expr (.Call _ _ (k :: _) _) _ => k.value
  | _ => .Name "x" ⟨0, 0, 0, 0⟩
def lamBody : Expr := match lamExpr with | .Lambda _ b _ _ => b | e => e
def lamArgs : Arguments := match lamExpr with | .Lambda a _ _ _ => a | _ => default
def lamScope : Scope := match lamExpr with | .Lambda _ _ s _ => s | _ => scopeOf (mainSt 19)
def lamPos : Pos := match lamExpr with | .Lambda _ _ _ p => p | _ => ⟨0, 0, 0, 0⟩
abbrev lamQ : Str := "_law_last.<locals>.<lambda>"
def sufS (text : Str) (k : Nat) : Str := Txt.slice text (some (k : Int)) none

theorem lam_key {prog : Program} {w : World} {h : Heap} {p : Program} {loose : List Str} {mean : ExcName → Option Value} {mg mb : Str → Option Value} {f c c' : Addr} {pm ctv : Value} {oc oc2 : Obj} {vs : Array Value} {t tt : Tok} {text : Str} {n : Nat}
  (T : Top p loose mean mg mb h) (hf : h.get? f = some (kla_obj "<lambda>" lamQ lamArgs lamBody lamScope [("text", c)] pm c' ctv))
  (hcode : h.get? c' = some oc) (hd : oc.data = .fields vs) (hv : vs[1]? = some (.str lamQ t)) (hcell : h.get? c = some oc2) (hd2 : oc2.data = .cell (some (.str text tt))) (hn : n = text.length) (hn7 : n ≤ 7) : KeyFn prog w f h (sufS text) n := by
  intro A s k tk R hle r hk hR
  refine kla_callFunE r.room (hle _ _ hf) rfl rfl rfl rfl ⟨c', oc, vs, t, rfl, hle _ _ hcode, hd, hv⟩ ?_
  rw [show bindArgs (kla_fn "<lambda>" lamQ lamArgs lamBody lamScope [("text", c)] pm (.ref c') ctv) ⟨[Value.int (k : Int) tk], []⟩ = (pure [("one", Value.int (k : Int) tk)] : Sem (List (Str × Value))) from rfl]
  have hnc : ∀ x ∈ lamScope.names, x.2 ≠ .cell := by decide
  have hloc : ∀ y ∈ [(("one" : Str), Value.int (k : Int) tk)], lamScope.names.lookup y.1 = some .local := locs rfl
  refine wpAny_pure (wpAny_newFunctionEnv hnc hloc (fun h₁ hns hsb => ⟨((T.nolimit).keeps hle).fresh _ hsb, ?_⟩) rfl)
  show codeAny _ _ (.expr lamBody (envX lamQ lamScope s.heap.objs.size f (.ref c') [("text", c)])) _ _
  have hk₁ : ∀ b o, s.heap.get? b = some o → h₁.get? b = some o := fun b o e => hsb.extBut b o (Nat.ne_of_lt (Heap.lt_size e)) (Heap.get?_push_of_some _ e)
  have F : Fr s.heap s.heap.objs.size h₁ (fun y => [(("one" : Str), Value.int (k : Int) tk)].lookup y) := ⟨hns, hk₁, Nat.le_refl _⟩
  have N : News s.heap s.heap.objs.size h₁ [] := News.nil
  have N₂ := newsHide F N [(c, oc2)] [c] (by intro p hp; rw [List.mem_singleton.mp hp]; exact hle _ _ hcell) (by intro p hp; rw [List.mem_singleton.mp hp]; simp)
  have F₂ := frHide F [c]
  clear F N
  replace N₂ : News (hideAll s.heap [c]) s.heap.objs.size h₁ [(c, oc2)] := N₂
  have T₁ := T.keeps hle
  have hh : A.handled = none := r.hd
  refine kla_codeExpr ?_
  conv in (eval _ _) => arg 1; whnf
  refine Subscript_ ?_
  refine wpAny_Name (wpAny_loadName_free rfl rfl rfl ⟨oc2, (N₂ _ (.head _)).1, hd2⟩ ?_ (by decide)) (by decide)
  refine wpAny_Slice ?_
  have hx1 : text.length ≤ 1000 := by omega
  refine wpAny_evalPart_some ?_
  refine wpAny_Name (wpAny_loadName_local rfl rfl F₂.ns rfl ?_) (by decide)
  k_steps
  rename Fr _ _ _ _ => F₃
  rename News _ _ _ _ => N₃
  refine hR _ _ ⟨le_of_hide F₃.keep fun a ha o ho => ?_, rfl, id⟩
  rw [List.mem_singleton.mp ha] at ho ⊢
  rw [← Option.some.inj ((hle _ _ hcell).symm.trans ho)]
  exact (N₃ _ (.head _)).1
end Mine
end

section
theorem Mine.reset24 : True := by
  w_top off
  first | (walk1; done) | exact True.intro
set_option maxRecDepth 100000
set_option maxHeartbeats 8000000
namespace Mine
open PySem PySem.W PySem.Calls PyProof.Rows
theorem fill13 : PySem.Challenge.rw_us0021_01.foot = PySem.Challenge.rw_us0021_01.foot ∧ hd.heap_39 = hd.heap_39 := by
  k_fill
  exact ⟨rfl, rfl⟩


structure TabOk (h : Heap) (ps : Array Value) : Prop where
  ok : ps = #[] ∨ ∃ c' oc vs t, ps = #[rawInt lamPos.line, rawInt lamPos.col, .ref c'] ∧ h.get? c' = some oc ∧ oc.data = .fields vs ∧ vs[1]? = some (.str lamQ t)

structure SRow (suf : Nat → Str) (n : Nat) (rs : List Nat) : Prop where
  pw : rs.Pairwise (fun a b => slt (suf b) (suf a) = false)
  mem : ∀ k, k ∈ rs ↔ k < n
  len : rs.length = n

theorem slt_trans1 {a b c : Str} (h : slt b a = false) (h2 : slt b c = true) : slt a c = true := by
  unfold slt at *
  rw [decide_eq_true_eq] at h2 ⊢
  rw [decide_eq_false_iff_not, List.not_lt] at h
  exact List.lt_of_le_of_lt h h2
theorem slt_asymm {a b : Str} (h : slt a b = true) : slt b a = false := by
  unfold slt at *
  rw [decide_eq_true_eq] at h
  rw [decide_eq_false_iff_not]
  exact List.lt_asymm h

theorem SRow.mono {suf : Nat → Str} {n : Nat} {rs : List Nat} (S : SRow suf n rs) (x : Str) : ∀ (i j : Nat), i ≤ j → ∀ hj : j < rs.length, slt (suf rs[j]) x = true → ∀ hi : i < rs.length, slt (suf rs[i]) x = true := by
  intro i j hij hj h hi
  rcases Nat.lt_or_eq_of_le hij with hlt | rfl
  · exact slt_trans1 (List.pairwise_iff_getElem.mp S.pw i j hi hj hlt) h
  · exact h

theorem SRow.insert {suf : Nat → Str} {n : Nat} {rs : List Nat} (S : SRow suf n rs) {lo : Nat} (hlo : lo ≤ rs.length) (h1 : ∀ (j : Nat) (hj : j < rs.length), j < lo → slt (suf rs[j]) (suf n) = true) (h2 : ∀ (j : Nat) (hj : j < rs.length), lo ≤ j → slt (suf rs[j]) (suf n) = false) :
    SRow suf (n + 1) (rs.take lo ++ [n] ++ rs.drop lo) := by
  have hsplit : rs = rs.take lo ++ rs.drop lo := (List.take_append_drop lo rs).symm
  refine ⟨?_, fun k => ?_, ?_⟩
  · have hp := S.pw
    rw [hsplit, List.pairwise_append] at hp
    rw [List.append_assoc, List.pairwise_append]
    have hd : ∀ a ∈ rs.drop lo, slt (suf a) (suf n) = false := by
      intro a ha
      obtain ⟨j, hj, e⟩ := List.getElem_of_mem ha
      rw [List.getElem_drop] at e
      rw [← e]
      exact h2 _ _ (Nat.le_add_right _ _)
    have ht : ∀ a ∈ rs.take lo, slt (suf a) (suf n) = true := by
      intro a ha
      obtain ⟨j, hj, e⟩ := List.getElem_of_mem ha
      rw [List.getElem_take] at e
      rw [← e]
      rw [List.length_take] at hj
      exact h1 _ _ (by omega)
    refine ⟨hp.1, ?_, ?_⟩
    · rw [List.singleton_append, List.pairwise_cons]
      exact ⟨hd, hp.2.1⟩
    · intro a ha b hb
      rw [List.singleton_append, List.mem_cons] at hb
      rcases hb with rfl | hb
      · exact slt_asymm (ht a ha)
      · exact hp.2.2 a ha b hb
  · have := S.mem k
    rw [hsplit, List.mem_append] at this
    rw [List.mem_append, List.mem_append, List.mem_singleton]
    constructor
    · rintro ((h | rfl) | h)
      · exact Nat.lt_succ_of_lt (this.mp (.inl h))
      · exact Nat.lt_succ_self _
      · exact Nat.lt_succ_of_lt (this.mp (.inr h))
    · intro h
      rcases Nat.lt_succ_iff_lt_or_eq.mp h with h | rfl
      · rcases this.mpr h with h | h
        · exact .inl (.inl h)
        · exact .inr h
      · exact .inl (.inr rfl)
  · have := S.len
    rw [List.length_append, List.length_append, List.length_take, List.length_drop, List.length_singleton]
    omega

theorem ints_insert {items : List Value} {ns : List Int} (hi : IntsAre items ns) (k : Int) (t : Tok) : ∀ lo : Nat, IntsAre (items.take lo ++ [Value.int k t] ++ items.drop lo) (ns.take lo ++ [k] ++ ns.drop lo) := by
  induction hi with
  | nil =>
    intro lo
    simp only [List.take_nil, List.drop_nil, List.nil_append, List.append_nil]
    exact .cons _ _ .nil
  | cons n u h ih =>
    intro lo
    cases lo with
    | zero => exact .cons _ _ (.cons _ _ h)
    | succ lo => exact .cons _ _ (ih lo)

theorem ints_insert_nat {items : List Value} {rs : List Nat} (hi : IntsAre items (rs.map fun (n : Nat) => (n : Int))) (lo k : Nat) (t : Tok) : IntsAre (items.take lo ++ [Value.int (k : Int) t] ++ items.drop lo) ((rs.take lo ++ [k] ++ rs.drop lo).map fun (n : Nat) => (n : Int)) := by
  have h := ints_insert hi (k : Int) t lo
  rw [List.map_append, List.map_append, List.map_take, List.map_drop]
  exact h

theorem SRow.last {suf : Nat → Str} {n : Nat} {rs : List Nat} (S : SRow suf n rs) (hn : 0 < n) : ∃ h : rs.length - 1 < rs.length, rs[rs.length - 1] < n ∧ ∀ j < n, slt (suf rs[rs.length - 1]) (suf j) = false := by
  have hl := S.len
  refine ⟨by omega, (S.mem _).mp (List.getElem_mem _), fun j hj => ?_⟩
  obtain ⟨i, hi, e⟩ := List.getElem_of_mem ((S.mem j).mpr hj)
  rcases Nat.lt_or_eq_of_le (show i ≤ rs.length - 1 by omega) with h | h
  · rw [← e]; exact List.pairwise_iff_getElem.mp S.pw _ _ hi _ h
  · subst h
    rw [← e]
    unfold slt
    rw [decide_eq_false_iff_not]
    exact List.lt_irrefl _

end Mine
end

section
local macro_rules | `(tactic| walk_at "serves nothing") => `(tactic| skip)
local macro_rules | `(tactic| walk_at "serves nothing") => `(tactic| skip)
local macro_rules | `(tactic| walk_at "serves nothing") => `(tactic| skip)
local macro_rules | `(tactic| walk_at "serves nothing") => `(tactic| skip)
local macro_rules | `(tactic| walk_at "serves nothing") => `(tactic| skip)
local macro_rules | `(tactic| walk_at "serves nothing") => `(tactic| skip)
local macro_rules | `(tactic| walk_at "serves nothing") => `(tactic| skip)
local macro_rules | `(tactic| walk_at "serves nothing") => `(tactic| skip)
local macro_rules | `(tactic| walk_at "serves nothing") => `(tactic| skip)
local macro_rules | `(tactic| walk_at "serves nothing") => `(tactic| skip)
theorem Mine.reset25 : True := by
  w_top off
  first | (walk1; done) | exact True.intro
set_option maxRecDepth 100000
set_option maxHeartbeats 8000000
namespace Mine
open PySem PySem.W PySem.Calls PyProof.Rows
theorem fill15 : PySem.Challenge.rw_us0021_01.foot = PySem.Challenge.rw_us0021_01.foot ∧ hd.heap_39 = hd.heap_39 := by
  k_fill
  exact ⟨rfl, rfl⟩
local macro_rules | `(tactic| walk_at "eval Lambda") => `(tactic| refine hideP ?_)
local macro_rules | `(tactic| walk_at "call ref") => `(tactic| refine hideP ?_)
local macro_rules | `(tactic| walk_at "exec For Name Call cons nil") => `(tactic| refine hideP ?_)


abbrev lastEnv (L : Addr) : Env := envOfC "_law_last" (scopeOf (mainSt 19)) L 239 (.ref 238)

structure TabIn (h₀ : Heap) (ps : Array Value) (extra : List (Addr × Obj)) : Prop where
  ok : (ps = #[] ∧ extra = []) ∨ ∃ c' oc vs t, ps = #[rawInt lamPos.line, rawInt lamPos.col, .ref c'] ∧ oc.data = .fields vs ∧ vs[1]? = some (.str lamQ t) ∧ (extra = [(c', oc)] ∨ (extra = [] ∧ h₀.get? c' = some oc))

theorem last_lam {M : Model} {A : Around} {E : Value → Shared → Prop} {Q : Value → Shared → Prop} {s₁ : Shared} {h₀ : Heap} {L : Addr} {m : Str → Option Value} {p : Program} {loose : List Str} {mean : ExcName → Option Value} {mg mb : Str → Option Value} {ps : Array Value} {extra rest : List (Addr × Obj)}
  (T : Top p loose mean mg mb h₀) (C : CodeHd h₀ 238 234) (F : Fr h₀ L s₁.heap m) (N : News h₀ L s₁.heap ((234, tabObj ps) :: (extra ++ rest))) (hne : ∀ p ∈ extra ++ rest, p.1 ≠ 234) (I : TabIn h₀ ps extra)
  (h : ∀ f ps₂ extra₂ c' oc vs t pm ctv h' tk, Fr h₀ L h' m → News h₀ L h' ((f, kla_obj "<lambda>" lamQ lamArgs lamBody lamScope [("text", L + 1)] pm c' ctv) :: (234, tabObj ps₂) :: (extra₂ ++ rest)) → (∀ p ∈ rest, p.1 < f) → 234 < f →
    h'.get? c' = some oc → oc.data = .fields vs → vs[1]? = some (.str lamQ t) → TabIn h₀ ps₂ extra₂ → (∀ p ∈ extra₂, p.1 ≠ 234 ∧ p.1 ≠ f ∧ ∀ q ∈ rest, p.1 ≠ q.1) → Q (.ref f) { s₁ with heap := h', toks := tk })
  (hner : ∀ p ∈ extra, ∀ q ∈ rest, p.1 ≠ q.1) :
  wpAny M A (eval lamExpr (lastEnv L)) Q E s₁ := by
  have hl : lamExpr = .Lambda lamArgs lamBody lamScope lamPos := rfl
  rw [hl]
  refine kla_eval rfl ?_
  have hq : (lastEnv L).qual ++ ("<lambda>" : Str) = lamQ := by
    show (("_law_last" : Str) ++ (".<locals>." : Str)) ++ ("<lambda>" : Str) = lamQ
    decide +kernel
  rw [hq]
  rcases I.ok with ⟨rfl, rfl⟩ | ⟨c', oc, vs, t, rfl, hd, hv, hex⟩
  · refine kla_nest (c := 238) (P := 234) (clos := [("text", L + 1)]) F N T C rfl (UpdF.head ?ua) True.intro rfl rfl ?_
    case ua => exact hne
    intro f c' oc vs t ctv h' tk F' N' hd hv hlt hlt2
    have h234 : 234 < c' := hlt (234, tabObj #[]) (.head _)
    refine h f _ [(c', oc)] c' oc vs t ((mg "__name__").getD .none) ctv h' tk F' ?_ (fun p hp => Nat.lt_trans (hlt p (.tail _ hp)) hlt2) (Nat.lt_trans h234 hlt2) (N' _ (.tail _ (.head _))).1 hd hv ⟨.inr ⟨c', oc, vs, t, rfl, hd, hv, .inl rfl⟩⟩ ?_
    · intro p hp
      rcases List.mem_cons.mp hp with rfl | hp
      · exact N' _ (.head _)
      rcases List.mem_cons.mp hp with rfl | hp
      · exact N' _ (.tail _ (.tail _ (.head _)))
      rcases List.mem_cons.mp hp with rfl | hp
      · exact N' _ (.tail _ (.head _))
      · exact N' _ (.tail _ (.tail _ (.tail _ hp)))
    · intro p hp
      rw [List.mem_singleton.mp hp]
      exact ⟨(Nat.ne_of_lt h234).symm, Nat.ne_of_lt hlt2, fun q hq => (Nat.ne_of_lt (hlt q (.tail _ hq))).symm⟩
  · refine kla_hit (c := 238) (P := 234) (c' := c') (ps := #[rawInt lamPos.line, rawInt lamPos.col, .ref c']) (clos := [("text", L + 1)]) F N T C rfl (.head _) ?tr ?hi rfl ?_
    case tr => exact True.intro
    case hi => simp [codeAmong, rawInt]
    intro f ctv h' tk F' N' hlt
    have hc' : h'.get? c' = some oc := by
      rcases hex with rfl | ⟨rfl, e⟩
      · exact (N' _ (.tail _ (.tail _ (.head _)))).1
      · exact F'.keep _ _ e
    refine h f _ extra c' oc vs t ((mg "__name__").getD .none) ctv h' tk F' N' (fun p hp => hlt p (.tail _ (List.mem_append_right _ hp))) (hlt (234, _) (.head _)) hc' hd hv ⟨.inr ⟨c', oc, vs, t, rfl, hd, hv, hex⟩⟩ fun p hp => ⟨hne p (List.mem_append_left _ hp), Nat.ne_of_lt (hlt p (.tail _ (List.mem_append_left _ hp))), fun q hq => hner p hp q hq⟩

theorem fr_but {h₀ h h' : Heap} {L D : Addr} {m : Str → Option Value} (F : Fr h₀ L h m) (hx : ∀ b o, b ≠ D → h.get? b = some o → h'.get? b = some o) (hL : L ≠ D) (hD : h₀.get? D = none) : Fr h₀ L h' m :=
  ⟨F.ns.extBut hx hL, fun b o e => hx b o (fun q => by rw [q, hD] at e; cases e) (F.keep b o e), F.above⟩

abbrev lastM (l : Addr) (v : Option Value) : Str → Option Value := fun y => if y = "place" then v else if y = "row" then some (.ref l) else none

structure LastI (h₀ : Heap) (text : Str) (L l I : Addr) (o1 : Obj) (i : Nat) (m : Str → Option Value) (news : List (Addr × Obj)) : Prop where
  ex : ∃ v ps extra items n rs, m = lastM l v ∧ news = (234, tabObj ps) :: (extra ++ [(l, PySem.W.listOf (List.toArray items) n), (L + 1, o1)]) ∧ TabIn h₀ ps extra ∧ (∀ p ∈ extra, p.1 ≠ 234 ∧ p.1 ≠ l ∧ p.1 ≠ L + 1 ∧ p.1 ≠ I) ∧ IntsAre items (rs.map fun (n : Nat) => (n : Int)) ∧ SRow (sufS text) i rs

theorem last_turn {prog : Program} {w : World} {A : Around} {s : Shared} {p : Program} {loose : List Str} {mean : ExcName → Option Value} {mg mb : Str → Option Value} {h₀ : Heap} {L l I : Addr} {text : Str} {tt t : Tok} {o o1 : Obj} {i : Nat} {m : Str → Option Value} {news : List (Addr × Obj)}
  (X : (hd.heap_39 w.params).In h₀) (T : Top p loose mean mg mb h₀) (C : CodeHd h₀ 238 234) (r : Rm 8 A) (hlen : text.length ≤ 7) (hi : i < text.length) (hI : LastI h₀ text L l I o1 i m news)
  (F : Fr h₀ L s.heap (fun y => if y = "place" then some (.int (i : Int) t) else m y)) (N : News h₀ L s.heap ((I, o) :: news)) (d1 : o1.data = .cell (some (.str text tt))) (hl : @LT.lt Nat _ (L + 1) l) (hL : @LT.lt Nat _ 234 L) (hlI : @LT.lt Nat _ l I)
  {Q : Flow → Shared → Prop} {E : Value → Shared → Prop}
  (hQ : ∀ s₃ m₃ news₃, Sh s s₃ → LastI h₀ text L l I o1 (i + 1) m₃ news₃ → Fr h₀ L s₃.heap m₃ → News h₀ L s₃.heap ((I, o) :: news₃) → Q .next s₃) : wpAny (model prog w) A (exec (stAt (bodyOf (stAt (bodyOf (mainSt 19)) 1)) 0) (lastEnv L)) Q E s := by
  obtain ⟨v, ps, extra, items, n, rs, rfl, rfl, hTab, hex, hints, hS⟩ := hI
  have hh : A.handled = none := r.hd
  have F₁ : Fr h₀ L s.heap (lastM l (some (.int (i : Int) t))) := frCast F (by
    intro y
    by_cases e1 : y = "place"
    · subst e1; rfl
    · simp only [lastM, if_neg e1])
  clear F
  conv in (exec _ _) => arg 1; whnf
  k_steps
  unfold HideP
  have h5 : ∀ p ∈ [(I, o), (l, PySem.W.listOf items.toArray n), (L + 1, o1)], @LT.lt Nat _ 234 p.1 ∧ ∀ q ∈ extra, q.1 ≠ p.1 := by
    intro p hp
    simp only [List.mem_cons, List.not_mem_nil, or_false] at hp
    rcases hp with rfl | rfl | rfl
    · exact ⟨Nat.lt_trans (Nat.lt_trans (Nat.lt_succ_of_lt hL) hl) hlI, fun q hq => (hex q hq).2.2.2⟩
    · exact ⟨Nat.lt_trans (Nat.lt_succ_of_lt hL) hl, fun q hq => (hex q hq).2.1⟩
    · exact ⟨Nat.lt_succ_of_lt hL, fun q hq => (hex q hq).2.2.1⟩
  refine last_lam (ps := ps) (extra := extra) (rest := [(I, o), (l, PySem.W.listOf items.toArray n), (L + 1, o1)]) T C F₁ (fun p hp => N p ?_) ?_ hTab ?_ (fun q hq p hp => (h5 p hp).2 q hq)
  · simp only [List.mem_cons, List.mem_append, List.not_mem_nil, or_false] at hp ⊢
    rcases hp with rfl | hp | rfl | rfl | rfl <;> simp [*]
  · intro p hp
    rcases List.mem_append.mp hp with hp | hp
    · exact (hex p hp).1
    · exact (Nat.ne_of_lt (h5 p hp).1).symm
  intro f ps₂ extra₂ c' oc vs t' pm ctv h' tk F' N' hltf h234f hoc hd hv hTab₂ hex₂
  clear F₁ N
  k_steps
  unfold HideP
  rename Fr _ _ _ _ => F₂
  rename News _ _ _ _ => N₂
  have nl : h₀.get? l = none := (N₂ (l, PySem.W.listOf items.toArray n) (by simp)).2.2
  have hDl : ∀ h' : Heap, (∀ b o, h₀.get? b = some o → h'.get? b = some o) → ∀ b o, h₀.get? b = some o → (hideAll h' [l]).get? b = some o := fun h' hk b o e => hideAll_get [l] (hk b o e) (by intro hm; rw [List.mem_singleton.mp hm, nl] at e; cases e)
  have hfl : f ≠ l := (Nat.ne_of_lt (hltf (l, PySem.W.listOf items.toArray n) (.tail _ (.head _)))).symm
  have hgl := (N₂ (l, PySem.W.listOf items.toArray n) (by simp)).1
  have hcl : c' ≠ l := by
    intro q
    rw [q, hgl] at hoc
    injection hoc with hoc
    rw [← hoc] at hd
    cases hd
  have hLl : L ≠ l := Nat.ne_of_lt (Nat.lt_trans (Nat.lt_succ_self _) hl)
  have hkey : KeyFn prog w f (hideAll h' [l]) (sufS text) text.length :=
    lam_key (T.keeps (hDl _ F₂.keep)) (hideAll_get [l] (N₂ _ (.head _)).1 (by intro hm; exact hfl (List.mem_singleton.mp hm)))
      (hideAll_get [l] hoc (by intro hm; exact hcl (List.mem_singleton.mp hm))) hd hv
      (hideAll_get [l] (N₂ (L + 1, o1) (by simp)).1 (by intro hm; exact absurd (List.mem_singleton.mp hm) (Nat.ne_of_lt hl))) d1 rfl hlen
  have hrs : ∀ k ∈ rs, k < text.length := fun k hk => Nat.lt_trans ((hS.mem k).mp hk) hi
  refine wpAny_call (ins_call (suf := sufS text) (rs := rs) (n := text.length) (k := i) (items := items) (nn := n) (tk := t) (Frag.In.keeps X (hDl _ F₂.keep)) (T.keeps (hDl _ F₂.keep)) (r.less (by decide)) hgl hints hrs (by rw [hS.len]; omega) hi hkey
    (hideAll_get [l] (N₂ _ (.head _)).1 (by intro hm; exact hfl (List.mem_singleton.mp hm))) rfl (hS.mono _) fun s₃ lo t₃ n₃ hsh hk hD hlo h1 h2 => ?_)
  show Q .next s₃
  refine hQ s₃ _ _ ⟨hsh.os, hsh.bare⟩ ⟨_, ps₂, extra₂, _, n₃, _, rfl, rfl, hTab₂, fun p hp => ?_, ints_insert_nat hints lo i t₃, hS.insert hlo h1 h2⟩ (fr_but F₂ hk hLl nl) ?_
  · have h := hex₂ p hp
    exact ⟨h.1, h.2.2 _ (.tail _ (.head _)), h.2.2 _ (.tail _ (.tail _ (.head _))), h.2.2 _ (.head _)⟩
  · intro p hp
    simp only [List.mem_cons, List.mem_append, List.not_mem_nil, or_false] at hp
    have old : ∀ q : Addr × Obj, q ∈ (234, tabObj ps₂) :: (extra₂ ++ [(I, o), (l, PySem.W.listOf items.toArray n), (L + 1, o1)]) → q.1 ≠ l → s₃.heap.get? q.1 = some q.2 ∧ q.1 ≠ L ∧ h₀.get? q.1 = none := fun q hq hql =>
      ⟨hk _ _ hql (N₂ q (.tail _ hq)).1, (N₂ q (.tail _ hq)).2⟩
    have h234l : (234 : Nat) ≠ l := (Nat.ne_of_lt (Nat.lt_trans (Nat.lt_succ_of_lt hL) hl))
    rcases hp with rfl | rfl | hp | rfl | rfl
    · exact old (I, o) (by simp) (Nat.ne_of_lt hlI).symm
    · exact old (234, tabObj ps₂) (by simp) h234l
    · exact old p (by simp [hp]) ((hex₂ p hp).2.2 _ (.tail _ (.head _)))
    · exact ⟨hD, hLl.symm, nl⟩
    · exact old (L + 1, o1) (by simp) (Nat.ne_of_lt hl)

end Mine
end

section
theorem Mine.reset26 : True := by
  w_top off
  first | (walk1; done) | exact True.intro
set_option maxRecDepth 100000
set_option maxHeartbeats 8000000
namespace Mine
open PySem PySem.W PySem.Calls PyProof.Rows
theorem fill16 : PySem.Challenge.rw_us0021_01.foot = PySem.Challenge.rw_us0021_01.foot ∧ hd.heap_39 = hd.heap_39 := by
  k_fill
  exact ⟨rfl, rfl⟩
local macro_rules | `(tactic| walk_at "exec For Name Call cons nil") => `(tactic| refine hideP ?_)

theorem last_loop {prog : Program} {w : World} {A : Around} {s : Shared} {p : Program} {loose : List Str} {mean : ExcName → Option Value} {mg mb : Str → Option Value} {h₀ : Heap} {L l rng : Addr} {text : Str} {tt t u v : Tok} {o1 : Obj} {m : Str → Option Value} {ps : Array Value} {px : Pos} {R : Result → Shared → Prop} {E : Value → Shared → Prop}
  (X : (hd.heap_39 w.params).In h₀) (T : Top p loose mean mg mb h₀) (C : CodeHd h₀ 238 234) (r : Rm 8 A) (hlen : text.length ≤ 7)
  (FF : Fr h₀ L s.heap m) (hm : m = lastM l none) (NN : News h₀ L s.heap [(l, PySem.W.listOf #[] 0), (L + 1, o1), (234, tabObj ps)]) (hr : IsRange s.heap rng 0 (text.length : Int) 1 t u v) (d1 : o1.data = .cell (some (.str text tt))) (hTab : TabIn h₀ ps []) (hl : @LT.lt Nat _ (L + 1) l) (hL : @LT.lt Nat _ 234 L)
  (done : ∀ s₃ m₃ news₃ I, LastI h₀ text L l I o1 text.length m₃ news₃ → Sh s s₃ → Fr h₀ L s₃.heap m₃ → News h₀ L s₃.heap news₃ → R (.ok .next) s₃) :
  wpAny (model prog w) A (pyIter (.ref rng)) (fun it s₂ => codeAny (model prog w) A (.forLoop (.Name "place" px) it (bodyOf (stAt (bodyOf (mainSt 19)) 1)) [] (lastEnv L)) R s₂) E s := by
  have hh : A.handled = none := r.hd
  subst hm
  have hlI : @LT.lt Nat _ l s.heap.objs.size := Heap.lt_size (NN _ (.head _)).1
  refine' loop_rangeN (a := 0) (b := text.length) (env := lastEnv L) (x := "place") hh hr rfl rfl (by decide) (by omega) rfl rfl
    (fun i m₁ news₁ => LastI h₀ text L l s.heap.objs.size o1 i m₁ news₁) ?I0 FF (news := [(234, tabObj ps), (l, PySem.W.listOf #[] 0), (L + 1, o1)]) ?NN ?_ ?_ ?_
  case I0 => exact ⟨none, ps, [], [], 0, [], rfl, rfl, hTab, fun p hp => absurd hp (by simp), .nil, ⟨List.Pairwise.nil, fun k => ⟨fun h => absurd h (by simp), fun h => absurd h (Nat.not_lt_zero _)⟩, rfl⟩⟩
  case NN =>
    intro p hp
    refine NN p ?_
    simp only [List.mem_cons, List.not_mem_nil, or_false] at hp ⊢
    rcases hp with rfl | rfl | rfl <;> simp
  · rintro i m₁ news₁ ⟨v, ps, extra, items, n, rs, rfl, rfl, _, hex, _, _⟩ p hp
    simp only [List.mem_cons, List.mem_append, List.not_mem_nil, or_false] at hp
    rcases hp with rfl | hp | rfl | rfl
    · exact Nat.ne_of_lt (Nat.lt_trans (Nat.lt_trans (Nat.lt_succ_of_lt hL) hl) hlI)
    · exact (hex p hp).2.2.2
    · exact Nat.ne_of_lt hlI
    · exact Nat.ne_of_lt (Nat.lt_trans hl hlI)
  · intro i t o s₁ m₁ news₁ hi hI hsh F₁ N₁
    rw [Nat.zero_add] at F₁
    refine wpAny_execs_cons (last_turn X T C r hlen hi hI F₁ N₁ d1 hl hL hlI fun s₃ m₃ news₃ hsh₃ hI₃ F₃ N₃ => ?_)
    exact wpAny_execs_nil ⟨_, _, hI₃, hsh.trans hsh₃, F₃, N₃⟩
  · intro s₃ m₃ news₃ hI hsh F₃ N₃
    exact done s₃ m₃ news₃ _ hI hsh F₃ N₃

theorem ints_last {items : List Value} {ns : List Int} (hi : IntsAre items ns) : ∀ h : ns ≠ [], ∃ vi t, items = vi ++ [.int (ns.getLast h) t] := by
  induction hi with
  | nil => intro h; exact absurd rfl h
  | cons n u h ih =>
    intro h2
    rename_i vs ns
    cases ns with
    | nil => cases h; exact ⟨[], u, rfl⟩
    | cons a as =>
      obtain ⟨vi, t, e⟩ := ih (by simp)
      exact ⟨Value.int n u :: vi, t, by rw [e]; rfl⟩

theorem TabIn.after {h₀ h : Heap} {L : Addr} {m : Str → Option Value} {ps : Array Value} {extra : List (Addr × Obj)} (I : TabIn h₀ ps extra) (h0 : h₀.get? 234 = none) (hex : ∀ p ∈ extra, p.1 ≠ 234) (F : Fr h₀ L h m) (N : ∀ p ∈ extra, h.get? p.1 = some p.2) : TabIn (hideAll h [234]) ps [] := by
  rcases I.ok with ⟨rfl, rfl⟩ | ⟨c', oc, vs, t, rfl, hd, hv, hx⟩
  · exact ⟨.inl ⟨rfl, rfl⟩⟩
  · refine ⟨.inr ⟨c', oc, vs, t, rfl, hd, hv, .inr ⟨rfl, ?_⟩⟩⟩
    rcases hx with rfl | ⟨rfl, e⟩
    · exact hideAll_get [234] (N _ (.head _)) (by intro hm; exact hex _ (.head _) (List.mem_singleton.mp hm))
    · exact hideAll_get [234] (F.keep _ _ e) (by intro hm; rw [List.mem_singleton.mp hm, h0] at e; cases e)

theorem last_call {prog : Program} {w : World} {A : Around} {s : Shared} {p : Program} {loose : List Str} {mean : ExcName → Option Value} {mg mb : Str → Option Value} {text : Str} {tt : Tok} {ps : Array Value}
  (X : (hd.heap_39 w.params).In (hideAll s.heap [234])) (T : Top p loose mean mg mb (hideAll s.heap [234])) (C : CodeHd (hideAll s.heap [234]) 238 234) (r : Rm 9 A) (hP : s.heap.get? 234 = some (tabObj ps))
  (hTab : TabIn (hideAll s.heap [234]) ps []) (hlen : text.length ≤ 7) (hpos : 0 < text.length)
  {R : Result → Shared → Prop} (hR : ∀ s' (k : Nat) t ps', k < text.length → (∀ j < text.length, slt (sufS text k) (sufS text j) = false) → Sh s s' → (∀ b o, b ≠ 234 → s.heap.get? b = some o → s'.heap.get? b = some o) → s'.heap.get? 234 = some (tabObj ps') → TabIn (hideAll s'.heap [234]) ps' [] → R (.ok (.ret (.int (k : Int) t))) s') :
  codeAny (model prog w) A (.call (.ref 239) ⟨[.str text tt], []⟩) R s := by
  have X₀ : (hd.heap_39 w.params).In s.heap := X.keeps fun b o e => of_hideAll _ e
  have T₀ := T.keeps fun b o e => of_hideAll _ e
  refine' call0C X₀ T₀.nolimit r.room ?k6 ?k7 ?k9 ?kB ?kN ?c2 ?c3 ?c4 ?_
  case k6 => k_is
  case k7 => k_is
  case k9 => exact BindsTo.of_eq rfl
  case kB => exact kindsX rfl
  case kN => decide
  case c2 => exact rfl
  case c3 => exact rfl
  case c4 => exact rfl
  intro L h₁ tk cells F N Y
  have hh : A.handled = none := r.hd
  obtain ⟨o1, rfl, d1⟩ := CellsAre.one (n := "text") (c := L + 1) Y
  replace d1 : o1.data = .cell (some (.str text tt)) := d1
  replace F : Fr s.heap L h₁ (fun _ => none) := frCast F (by intro y; rfl)
  replace N : News s.heap L h₁ [(L + 1, o1)] := N
  clear Y
  have N₂ := newsHide F N [(234, tabObj ps)] [234] (by intro p hp; rw [List.mem_singleton.mp hp]; exact hP) (by intro p hp; rw [List.mem_singleton.mp hp]; simp)
  have F₂ := frHide F [234]
  have hL : @LT.lt Nat _ 234 L := Nat.lt_of_lt_of_le (Heap.lt_size hP) F.above
  clear F N
  replace N₂ : News (hideAll s.heap [234]) L h₁ [(L + 1, o1), (234, tabObj ps)] := N₂
  have hl1 : text.length ≤ 1000 := by omega
  k_steps
  unfold HideP
  refine wpAny_For ?_
  k_steps
  rename (Heap.get? _ _ = some { cls := .type "range", dict := none, data := _, slots := _ }) => hr
  rename Fr _ _ _ _ => FF
  rename News _ _ _ _ => NN
  rename (L + 1 < _ ∧ 234 < _) => hl234
  refine last_loop X T C ((r.deeper _).less (by decide)) hlen FF ?_ NN hr d1 hTab hl234.1 hL fun s₃ m₃ news₃ I hI hsh F₃ N₃ => ?_
  · funext y
    by_cases e1 : y = "place"
    · subst e1; rfl
    · simp only [lastM, if_neg e1]
  obtain ⟨v, ps₃, extra, items, n, rs, rfl, rfl, hTab₃, hex, hints, hS⟩ := hI
  clear FF NN
  dsimp only
  k_steps
  obtain ⟨hl1, hk, hmax⟩ := hS.last hpos
  have hne : (rs.map fun (n : Nat) => (n : Int)) ≠ [] := by
    intro q
    have := congrArg List.length q
    rw [List.length_map] at this
    simp at this
    rw [this] at hl1
    simp at hl1
  obtain ⟨vi, tl, rfl⟩ := ints_last hints hne
  have hlast : (rs.map fun (n : Nat) => (n : Int)).getLast hne = ((rs[rs.length - 1] : Nat) : Int) := by
    rw [List.getLast_eq_getElem, List.getElem_map]
    congr 2
    rw [List.length_map]
  rw [hlast] at N₃
  have n234 : (hideAll s.heap [234]).get? 234 = none := hideAll_none [234] (List.mem_singleton.mpr rfl)
  have hmem := N₃ _ (List.mem_cons_of_mem _ (List.mem_append_right _ (.head _)))
  refine item_last (vi := vi) ⟨_, hmem.1, rfl, _, rfl⟩ ?_
  k_steps
  dsimp only
  refine hR _ _ tl ps₃ hk hmax ⟨hsh.os, hsh.bare⟩ (fun b o hb e => F₃.keep _ _ (hideAll_get [234] e (by intro hm; exact hb (List.mem_singleton.mp hm)))) (N₃ _ (.head _)).1
    (hTab₃.after n234 (fun p hp => (hex p hp).1) F₃ fun p hp => (N₃ p (by simp [hp])).1)
end Mine
end

section
local macro_rules | `(tactic| walk_at "serves nothing") => `(tactic| skip)
local macro_rules | `(tactic| walk_at "serves nothing") => `(tactic| skip)
local macro_rules | `(tactic| walk_at "serves nothing") => `(tactic| skip)
local macro_rules | `(tactic| walk_at "serves nothing") => `(tactic| skip)
local macro_rules | `(tactic| walk_at "serves nothing") => `(tactic| skip)
local macro_rules | `(tactic| walk_at "serves nothing") => `(tactic| skip)
local macro_rules | `(tactic| walk_at "serves nothing") => `(tactic| skip)
local macro_rules | `(tactic| walk_at "serves nothing") => `(tactic| skip)
local macro_rules | `(tactic| walk_at "serves nothing") => `(tactic| skip)
local macro_rules | `(tactic| walk_at "serves nothing") => `(tactic| skip)
theorem Mine.reset27 : True := by
  w_top off
  first | (walk1; done) | exact True.intro
namespace Mine
/-- a local step, as a Prop -/
def LocP (f : List Nat) (cut r : Nat) : Prop := ∀ k, cut - r ≤ k → k < cut → k + r < f.length → f[k]? = f[k + r]?
def PerP (f : List Nat) (r : Nat) : Prop := ∀ k, k + r < f.length → f[k]? = f[k + r]?
/-- no suffix is greater than the one at a -/
def MaxS (g : List Nat) (a : Nat) : Prop := a < g.length ∧ ∀ j, j < g.length → ¬ (g.drop a < g.drop j)

theorem LocP.map {f : List Nat} {cut r : Nat} (h : LocP f cut r) (φ : Nat → Nat) : LocP (f.map φ) cut r := by
  intro k h1 h2 h3
  rw [List.length_map] at h3
  rw [List.getElem?_map, List.getElem?_map, h k h1 h2 h3]

/-- a piece and what stands behind it -/
theorem drop_split (g : List Nat) (a r : Nat) : g.drop a = (g.drop a).take r ++ g.drop (a + r) := by
  rw [← List.drop_drop, List.take_append_drop]

theorem take_same {g : List Nat} {a b r : Nat} (h : ∀ i, i < r → g[a + i]? = g[b + i]?) : (g.drop a).take r = (g.drop b).take r := by
  apply List.ext_getElem?
  intro i
  rw [List.getElem?_take, List.getElem?_take]
  split
  · rename_i hi
    rw [List.getElem?_drop, List.getElem?_drop, h i hi]
  · rfl

theorem le_anti {l m : List Nat} (h1 : ¬ l < m) (h2 : ¬ m < l) : l = m := List.le_antisymm (List.not_lt.mp h2) (List.not_lt.mp h1)

theorem crit_one {g : List Nat} {a r : Nat} (hr : 1 ≤ r) (hM : MaxS g a) (hl : LocP g a r) : a < r := by
  obtain ⟨ha, hM⟩ := hM
  refine Nat.lt_of_not_le fun hle => ?_
  have e1 := drop_split g (a - r) r
  rw [Nat.sub_add_cancel hle] at e1
  by_cases hc : g.length - a ≤ r
  · refine hM (a - r) (by omega) ?_
    rw [List.lt_iff_exists]
    refine .inl ⟨?_, by simp only [List.length_drop]; omega⟩
    rw [List.length_drop]
    have h2 : (g.drop a).take (g.length - a) = (g.drop (a - r)).take (g.length - a) := take_same fun i hi => by
      have := hl (a - r + i) (by omega) (by omega) (by omega)
      rw [this]; congr 1; omega
    rw [← h2, List.take_of_length_le (by simp)]
  · have e2 := drop_split g a r
    have h2 : (g.drop a).take r = (g.drop (a - r)).take r := take_same fun i hi => by
      have := hl (a - r + i) (by omega) (by omega) (by omega)
      rw [this]; congr 1; omega
    rw [h2] at e2
    have h3 : ¬ (g.drop (a + r) < g.drop a) := fun h => by
      refine hM (a - r) (by omega) ?_
      rw [e1]
      conv => lhs; rw [e2]
      exact List.append_left_lt h
    have h4 := le_anti h3 (hM (a + r) (by omega))
    have h5 := congrArg List.length h4
    simp only [List.length_drop] at h5
    omega

/-- the critical cut: the later of the two places -/
theorem crit_two {f : List Nat} {φ ψ : Nat → Nat} (hop : ∀ x ∈ f, ∀ y ∈ f, x ≠ y → φ x < φ y ∨ ψ x < ψ y) {a b r : Nat} (hr : 1 ≤ r)
    (hA : MaxS (f.map φ) a) (hB : MaxS (f.map ψ) b) (hba : b ≤ a) (hl : LocP f a r) : a < r ∧ PerP f r := by
  have har : a < r := crit_one hr hA (hl.map φ)
  refine ⟨har, fun k hk => ?_⟩
  by_cases hka : k < a
  · exact hl k (by omega) hka hk
  have hn : a + r < f.length := by omega
  have h1 : ¬ ((f.map φ).drop a < (f.map φ).drop (a + r)) := hA.2 _ (by rw [List.length_map]; exact hn)
  have h2 : ¬ ((f.map ψ).drop a < (f.map ψ).drop (a + r)) := by
    intro h
    refine hB.2 (b + r) (by rw [List.length_map]; omega) ?_
    have e1 := drop_split (f.map ψ) b (a - b)
    have e2 := drop_split (f.map ψ) (b + r) (a - b)
    rw [show b + (a - b) = a by omega] at e1
    rw [show b + r + (a - b) = a + r by omega] at e2
    have h3 : ((f.map ψ).drop b).take (a - b) = ((f.map ψ).drop (b + r)).take (a - b) := take_same fun i hi => by
      rw [List.getElem?_map, List.getElem?_map, hl (b + i) (by omega) (by omega) (by omega)]
      congr 2; omega
    rw [e1, e2, h3]
    exact List.append_left_lt h
  -- the first place where they part
  have key : ∀ i, a + r + i < f.length → f[a + i]? = f[a + r + i]? := by
    intro i
    induction i using Nat.strongRecOn with
    | _ i ih =>
      intro hi
      obtain ⟨x, hx⟩ : ∃ x, f[a + i]? = some x := ⟨_, List.getElem?_eq_getElem (by omega)⟩
      obtain ⟨y, hy⟩ : ∃ y, f[a + r + i]? = some y := ⟨_, List.getElem?_eq_getElem (by omega)⟩
      rw [hx, hy]
      by_cases hxy : x = y
      · rw [hxy]
      exfalso
      have part : ∀ χ : Nat → Nat, χ x < χ y → (f.map χ).drop a < (f.map χ).drop (a + r) := by
        intro χ hc
        rw [List.lt_iff_exists]
        refine .inr ⟨i, by simp only [List.length_drop, List.length_map]; omega, by simp only [List.length_drop, List.length_map]; omega, fun j hj => ?_, ?_⟩
        · have h := ih j hj (by omega)
          rw [List.getElem?_eq_getElem (by omega), List.getElem?_eq_getElem (by omega)] at h
          simp only [List.getElem_drop, List.getElem_map]
          rw [Option.some.inj h]
        · rw [List.getElem?_eq_getElem (by omega)] at hx hy
          simp only [List.getElem_drop, List.getElem_map]
          rw [Option.some.inj hx, Option.some.inj hy]
          exact hc
      rcases hop x (List.mem_of_getElem? hx) y (List.mem_of_getElem? hy) hxy with h | h
      · exact h1 (part φ h)
      · exact h2 (part ψ h)
  have := key (k - a) (by omega)
  rw [show a + (k - a) = k by omega, show a + r + (k - a) = k + r by omega] at this
  exact this
end Mine
end

section
theorem Mine.reset28 : True := by
  w_top off
  first | (walk1; done) | exact True.intro
set_option maxRecDepth 100000
set_option maxHeartbeats 1000000
namespace Mine
open PySem PySem.W PySem.Calls PyProof.Rows

/-- a comprehension's frame with cells of its own -/
theorem newEnv_around {M : Model} {A : Around} {E : Value → Shared → Prop} {s : Shared} {scope : Scope} {globals : Addr} {closure : List (Str × Addr)} {qual : Str} {outer : Env} {Q : Env → Shared → Prop}
    (h : Q (newEnv scope s.heap.objs.size globals (cellsFrom (s.heap.objs.size + 1) scope.names closure) qual none .none (some outer) builtinsNs) { s with heap := pushCells (s.heap.push { cls := .type "dict", data := .dict #[] }) scope.names }) :
    wpAny M A (newFunctionEnv scope globals closure [] qual none .none (some outer)) Q E s := by
  simp only [newFunctionEnv, Option.isSome_some, if_true]
  refine wpAny_bind (wpAny_alloc ?_)
  refine wpAny_bind (wpAny_layCells _ (fun name kind cells => by cases hkc : kind == NameKind.cell <;> simp [hkc]) _ _ _ _ ?_)
  rw [show ({ s with heap := s.heap.push { cls := .type "dict", data := .dict #[] } } : Shared).heap.objs.size = s.heap.objs.size + 1 from Heap.size_push ..]
  exact wpAny_bind (wpAny_pure (wpAny_pure h))

/-- what an element's evaluation must leave, new objects with it -/
structure CNxC (h₀ : Heap) (L : Addr) (s : Shared) (m : Str → Option Value) (hd tl : List (Addr × Obj)) (c : Addr) (J : List (Addr × Obj) → Prop) (s₃ : Shared) : Prop where
  ex : ∃ xs, J xs ∧ (∀ p ∈ xs, @LT.lt Nat _ c p.1) ∧ Sh s s₃ ∧ Fr h₀ L s₃.heap m ∧ News h₀ L s₃.heap (hd ++ (xs ++ tl))

section
variable {prog : Program} {w : World} {A : Around} {E : Value → Shared → Prop} {s : Shared} {env : Env} {x : Str} {px : Pos} {h₀ : Heap} {m : Str → Option Value} {news : List (Addr × Obj)}
  {elt iter : Expr} {scope : Scope} {cl : List (Str × Addr)} {pos : Pos} {L : Addr} {Q : Value → Shared → Prop}

theorem comp_rangeC (hh : A.handled = none) {r : Addr} {a b : Nat} {a' b' : Int} {t u v : Tok} (hr : IsRange s.heap r a' b' 1 t u v) (ea : a' = (a : Int)) (eb : b' = (b : Int)) (ha : a ≤ 1000) (hb : b ≤ 1000)
    (hcells : ∀ n, cellsFrom n scope.names cl = (x, n) :: cl) (hpc : ∀ h : Heap, pushCells h scope.names = h.push { cls := .type "cell", data := .cell none }) (hkind : scope.kind = .function) (hx : (relabel scope env).names.lookup x = some .cell)
    (Acc : Nat → List Value → List (Addr × Obj) → Prop) (h0 : Acc 0 [] []) (F : Fr h₀ L s.heap m) (N : News h₀ L s.heap news)
    (turn : ∀ i t ys nn xs s₁ oC oI oc C c I D, i < b - a → Acc i ys xs → ys.length ≤ i → (∀ p ∈ xs, @LT.lt Nat _ c p.1) → Sh s s₁ → oc.data = .cell (some (.int ((a + i : Nat) : Int) t)) → (∀ p ∈ news, @LT.lt Nat _ p.1 I) → @LT.lt Nat _ I D → @LT.lt Nat _ D C → @LT.lt Nat _ C c →
      Fr h₀ L s₁.heap m → News h₀ L s₁.heap ([(c, oc), (C, oC), (I, oI), (D, PySem.W.listOf ys.toArray nn)] ++ (xs ++ news)) →
      wpAny (model prog w) A (eval elt (compEnvC scope ((x, c) :: cl) C env)) (fun y s₃ => CNxC h₀ L s₁ m [(c, oc), (C, oC), (I, oI), (D, PySem.W.listOf ys.toArray nn)] news c (Acc (i + 1) (ys ++ [y])) s₃) (fun _ _ => False) s₁)
    (done : ∀ s₃ ys nn D xs, Acc (b - a) ys xs → Sh s s₃ → (∀ p ∈ news, @LT.lt Nat _ p.1 D) → (∀ p ∈ xs, @LT.lt Nat _ D p.1) → Fr h₀ L s₃.heap m → News h₀ L s₃.heap ((D, PySem.W.listOf ys.toArray nn) :: (xs ++ news)) → Q (.ref D) s₃) :
    wpAny (model prog w) A (pyIter (.ref r)) (fun it s₂ => compBlock prog w A E env elt iter x px [] scope cl pos Q it s₂) E s := by
  subst ea eb
  refine wpAny_pyIter_range hr (rangeN ha hb).1 ?_
  unfold compBlock
  generalize hI : s.heap.objs.size = I
  have hL : @LT.lt Nat _ L I := hI ▸ F.ns.lt
  have hlt : ∀ p ∈ news, @LT.lt Nat _ p.1 I := fun p hp => hI ▸ Heap.lt_size (N p hp).1
  have fresh₀ : ∀ q, I ≤ q → h₀.get? q = none := fun q hq => by
    cases e : h₀.get? q with
    | none => rfl
    | some o' => exact absurd (Heap.lt_size (F.keep _ _ e)) (Nat.not_lt.mpr (hI ▸ hq))
  have W : Walks prog w A I [I] [I] (b - a) _ _ := Walks.range hh I (a : Int) 1 (b - a)
  generalize hH1 : s.heap.push { cls := .type "range_iterator", data := .fields #[rawInt (a : Int), rawInt (Builtin.Range.rangeSize (a : Int) (b : Int) 1), rawInt 1] } = H1
  have hst : IsRangeIter H1 I ((a : Int) + (0 : Nat) * 1) (((b - a : Nat) : Int) - (0 : Nat)) 1 := by
    show H1.get? I = _
    rw [← hH1, ← hI, Heap.get?_push_size _ rfl, (rangeN ha hb).2]
    simp
  have hD : H1.objs.size = I + 1 := by rw [← hH1, Heap.size_push, hI]
  have F1 : Fr h₀ L H1 m := hH1 ▸ F.push _
  have N1 : News h₀ L H1 news := fun p hp => ⟨hH1 ▸ Heap.get?_push_of_some _ (N p hp).1, (N p hp).2⟩
  refine wpAny_newObj_type (newEnv_around ?_)
  dsimp only
  rw [hpc, hcells]
  generalize hH2 : H1.push { cls := .type "list", dict := none, data := .seq ([] : List Value).toArray } = H2
  have hC : H2.objs.size = I + 2 := by rw [← hH2, Heap.size_push, hD]
  rw [hC]
  generalize hH3 : H2.push { cls := .type "dict", data := .dict #[] } = H3
  have hc : H3.objs.size = I + 3 := by rw [← hH3, Heap.size_push, hC]
  generalize hH4 : H3.push { cls := .type "cell", data := .cell none } = H4
  rw [hD]
  have up4 : ∀ q o, H1.get? q = some o → H4.get? q = some o := fun q o e => hH4 ▸ Heap.get?_push_of_some _ (hH3 ▸ Heap.get?_push_of_some _ (hH2 ▸ Heap.get?_push_of_some _ e))
  have gD : H4.get? (I + 1) = some (PySem.W.listOf #[] 0) := by
    rw [← hH4]; refine Heap.get?_push_of_some _ ?_; rw [← hH3]; refine Heap.get?_push_of_some _ ?_; rw [← hH2, ← hD]; exact Heap.get?_push_size _ rfl
  have nsC : H4.Ns (I + 2) (fun _ => none) := by
    have h3 : H3.Ns (I + 2) (fun _ => none) := by rw [← hH3, ← hC]; exact Heap.Ns.new ..
    exact h3.keeps fun q o e => hH4 ▸ Heap.get?_push_of_some _ e
  obtain ⟨oC, gC, hNC⟩ := LCg.ns_obj nsC
  have gc : H4.get? (I + 3) = some { cls := .type "cell", data := .cell none } := by
    rw [← hH4, ← hc]; exact Heap.get?_push_size _ rfl
  have lI : ∀ k, I ≠ I + (k + 1) := fun k => by have := Nat.lt_succ_self (I + k); omega
  have F4 : Fr h₀ L H4 m := F1.after up4
  have N4 : News h₀ L H4 news := fun p hp => ⟨up4 _ _ (N1 p hp).1, (N1 p hp).2⟩
  have hLk : ∀ k, L ≠ I + k := fun k => Nat.ne_of_lt (Nat.lt_of_lt_of_le hL (Nat.le_add_right _ _))
  have hpk : ∀ p ∈ news, ∀ k, p.1 ≠ I + k := fun p hp k => Nat.ne_of_lt (Nat.lt_of_lt_of_le (hlt p hp) (Nat.le_add_right _ _))
  have h0k : ∀ k, h₀.get? (I + k) = none := fun k => fresh₀ _ (Nat.le_add_right _ _)
  have loop : ∀ s₃ : Shared, s₃.heap = H4 → Sh s s₃ →
      codeAny (model prog w) A (.compLoop (.ListComp elt [⟨.Name x px, iter, [], 0⟩] scope pos) 0 (.ref I) (.ref (I + 1)) (compEnvC scope ((x, I + 3) :: cl) (I + 2) env))
        (compPost (model prog w) A E none Q (.ref (I + 1)) (I + 2)) s₃ := by
    rintro s₃ e₃ hsh₃
    refine codeAny_compLoop_tests (fun k s' => ∃ i ys nn xs oc v₀, k = (b - a) - i ∧ i ≤ b - a ∧ Acc i ys xs ∧ ys.length ≤ i ∧ (∀ p ∈ xs, @LT.lt Nat _ (I + 3) p.1) ∧ oc.data = .cell v₀ ∧ IsRangeIter s'.heap I ((a : Int) + (i : Nat) * 1) (((b - a : Nat) : Int) - (i : Nat)) 1 ∧ Sh s s' ∧ Fr h₀ L s'.heap m ∧
      News h₀ L s'.heap ([(I + 3, oc), (I + 2, oC), (I + 1, PySem.W.listOf ys.toArray nn)] ++ (xs ++ news))) ?_ (b - a) ⟨0, [], 0, [], { cls := .type "cell", data := .cell none }, none, rfl, Nat.zero_le _, h0, Nat.le_refl _, (fun p hp => absurd hp (by simp)), rfl, (e₃ ▸ up4 _ _ hst), hsh₃, e₃ ▸ F4, ?_⟩
    rotate_left
    · rw [e₃]
      intro p hp
      rcases List.mem_cons.mp hp with rfl | hp
      · exact ⟨gc, (hLk _).symm, h0k _⟩
      rcases List.mem_cons.mp hp with rfl | hp
      · exact ⟨gC, (hLk _).symm, h0k _⟩
      rcases List.mem_cons.mp hp with rfl | hp
      · exact ⟨gD, (hLk _).symm, h0k _⟩
      · exact N4 p hp
    rintro k s' ⟨i, ys, nn, xs, oc, v₀, rfl, hi, hA, hlen, hxs, hoc, hst', hsh, F', N'⟩
    have hxk : ∀ p ∈ xs, ∀ k, k ≤ 3 → p.1 ≠ I + k := fun p hp k hk => Nat.ne_of_gt (Nat.lt_of_le_of_lt (Nat.add_le_add_left hk I) (hxs p hp))
    have hlI : ∀ p ∈ [(I + 3, oc), (I + 2, oC), (I + 1, PySem.W.listOf ys.toArray nn)] ++ (xs ++ news), p.1 ≠ I := fun p hp => by
      simp only [List.cons_append, List.nil_append, List.mem_cons, List.mem_append] at hp
      rcases hp with rfl | rfl | rfl | hp | hp
      · exact (lI _).symm
      · exact (lI _).symm
      · exact (lI _).symm
      · exact hxk p hp 0 (by decide)
      · exact hpk p hp 0
    have moveF : ∀ h', (∀ b o, b ∉ [I] → s'.heap.get? b = some o → h'.get? b = some o) → Fr h₀ L h' m := fun h' hk =>
      ⟨F'.ns.at' fun o ho => hk _ _ (by simpa using hLk 0) ho, fun b o ho => hk _ _ (fun hb => by rw [List.mem_singleton.mp hb, fresh₀ I (Nat.le_refl _)] at ho; cases ho) (F'.keep _ _ ho), F'.above⟩
    have moveN : ∀ h', (∀ b o, b ∉ [I] → s'.heap.get? b = some o → h'.get? b = some o) → News h₀ L h' ([(I + 3, oc), (I + 2, oC), (I + 1, PySem.W.listOf ys.toArray nn)] ++ (xs ++ news)) := fun h' hk p hp =>
      ⟨hk _ _ (by simpa using hlI p hp) (N' p hp).1, (N' p hp).2⟩
    rcases Nat.lt_or_eq_of_le hi with hlt' | rfl
    · refine W.item i s' _ _ hlt' hst' fun v h₂ tk hP hst₂ hk₂ => ?_
      obtain ⟨tv, rfl⟩ := hP
      have F₂ := moveF h₂ hk₂
      have N₂ := moveN h₂ hk₂
      refine wpAny_assign_Name (wpAny_storeName_cell (c := I + 3) (v₀ := v₀) hkind hx (by simp [compEnvC]) ⟨oc, (N₂ _ (.head _)).1, hoc⟩ fun h₃ hv₃ hs₃ => ?_)
      obtain ⟨oc', hoc', hd'⟩ := hv₃
      have up : ∀ b o, b ≠ I + 3 → h₂.get? b = some o → h₃.get? b = some o := fun b o hb e => hs₃.extBut b o hb e
      have F₃ : Fr h₀ L h₃ m := ⟨F₂.ns.at' fun o ho => up _ _ (hLk _) ho, fun b o ho => up _ _ (fun hb => by rw [hb, h0k] at ho; cases ho) (F₂.keep _ _ ho), F₂.above⟩
      obtain ⟨oI, hoI, heI⟩ : ∃ oI, h₃.get? I = some oI ∧ ∀ h : Heap, h.get? I = some oI → IsRangeIter h I ((a : Int) + ((i + 1 : Nat) : Nat) * 1) (((b - a : Nat) : Int) - ((i + 1 : Nat) : Nat)) 1 := ⟨_, up _ _ (lI _) hst₂, fun h e => e⟩
      have N₃ : News h₀ L h₃ ([(I + 3, oc'), (I + 2, oC), (I, oI), (I + 1, PySem.W.listOf ys.toArray nn)] ++ (xs ++ news)) := by
        intro p hp
        rcases List.mem_cons.mp hp with rfl | hp
        · exact ⟨hoc', (hLk _).symm, h0k _⟩
        rcases List.mem_cons.mp hp with rfl | hp
        · exact ⟨up _ _ (by simp) (N₂ _ (.tail _ (.head _))).1, (hLk _).symm, h0k _⟩
        rcases List.mem_cons.mp hp with rfl | hp
        · exact ⟨hoI, (hLk 0).symm, h0k 0⟩
        rcases List.mem_cons.mp hp with rfl | hp
        · exact ⟨up _ _ (by simp) (N₂ _ (.tail _ (.tail _ (.head _)))).1, (hLk _).symm, h0k _⟩
        · refine ⟨up _ _ ?_ (N₂ p (.tail _ (.tail _ (.tail _ hp)))).1, (N₂ p (.tail _ (.tail _ (.tail _ hp)))).2⟩
          rcases List.mem_append.mp (show p ∈ _ ++ news from hp) with hp | hp
          · exact hxk p hp 3 (by decide)
          · exact hpk p hp 3
      refine wpAny_tests_nil ?_
      rw [if_pos rfl]
      refine wpAny_mono (turn i tv ys nn xs _ oC oI oc' (I + 2) (I + 3) I (I + 1) hlt' hA hlen hxs (hsh.trans Sh.heap) (hd'.trans (by congr 3; omega)) hlt (Nat.lt_succ_self _) (Nat.lt_succ_self _) (Nat.lt_succ_self _) F₃ N₃) (fun y s₅ h₅ => ?_) fun _ _ e => e.elim
      obtain ⟨xs₅, hA₅, hxs₅, hsh₅, F₅, N₅⟩ := h₅
      replace hsh₅ : Sh s s₅ := hsh.trans ⟨hsh₅.os, hsh₅.bare⟩
      have hD₅ := (N₅ _ (.tail _ (.tail _ (.tail _ (.head _))))).1
      refine PyProof.Rows.append_at (its := ys.toArray) (n := nn) (hsz := by rw [List.size_toArray]; exact Nat.le_trans hlen (Nat.le_trans hi (Nat.le_trans (Nat.sub_le ..) (Nat.le_trans hb (by decide))))) hD₅ fun h₆ hs₆ ho₆ => ?_
      replace hs₆ : Heap.SameBut (I + 1) s₅.heap h₆ := hs₆
      have up₆ : ∀ b o, b ≠ I + 1 → s₅.heap.get? b = some o → h₆.get? b = some o := fun b o hb e => hs₆.extBut b o hb e
      have F₆ : Fr h₀ L h₆ m := ⟨F₅.ns.at' fun o ho => up₆ _ _ (hLk _) ho, fun b o ho => up₆ _ _ (fun hb => by rw [hb, h0k] at ho; cases ho) (F₅.keep _ _ ho), F₅.above⟩
      refine ⟨b - a - (i + 1), by omega, i + 1, ys ++ [y], nn + 1, xs₅, oc', _, rfl, hlt', hA₅, by simp; exact hlen, hxs₅, hd', heI _ (up₆ _ _ (lI _) (N₅ _ (.tail _ (.tail _ (.head _)))).1), ⟨hsh₅.os, hsh₅.bare⟩, F₆, fun p hp => ?_⟩
      rcases List.mem_cons.mp hp with rfl | hp
      · exact ⟨up₆ _ _ (by simp) (N₅ _ (.head _)).1, (hLk _).symm, h0k _⟩
      rcases List.mem_cons.mp hp with rfl | hp
      · exact ⟨up₆ _ _ (by simp) (N₅ _ (.tail _ (.head _))).1, (hLk _).symm, h0k _⟩
      rcases List.mem_cons.mp hp with rfl | hp
      · refine ⟨?_, (hLk _).symm, h0k _⟩
        rw [← List.push_toArray]; exact ho₆
      · refine ⟨up₆ _ _ ?_ (N₅ p (.tail _ (.tail _ (.tail _ (.tail _ hp))))).1, (N₅ p (.tail _ (.tail _ (.tail _ (.tail _ hp))))).2⟩
        rcases List.mem_append.mp (show p ∈ _ ++ news from hp) with hp | hp
        · exact Nat.ne_of_gt (Nat.lt_trans (Nat.lt_trans (Nat.lt_succ_self _) (Nat.lt_succ_self _)) (hxs₅ p hp))
        · exact hpk p hp 1
    · refine W.done s' _ _ hst' fun h₂ tk hk₂ => ?_
      have F₂ := moveF h₂ hk₂
      have N₂ := moveN h₂ hk₂
      refine ⟨_, hNC.ns (N₂ _ (.tail _ (.head _))).1, fun h₃ hs₃ => ?_⟩
      have up : ∀ b o, b ≠ I + 2 → h₂.get? b = some o → h₃.get? b = some o := fun b o hb e => hs₃.extBut b o hb e
      refine done _ ys nn (I + 1) xs hA (hsh.trans Sh.heap) (fun p hp => Nat.lt_succ_of_lt (hlt p hp)) (fun p hp => Nat.lt_trans (Nat.lt_trans (Nat.lt_succ_self _) (Nat.lt_succ_self _)) (hxs p hp)) ⟨F₂.ns.at' fun o ho => up _ _ (hLk _) ho, fun b o ho => up _ _ (fun hb => by rw [hb, h0k] at ho; cases ho) (F₂.keep _ _ ho), F₂.above⟩ fun p hp => ?_
      refine ⟨up _ _ ?_ (N₂ p (.tail _ (.tail _ hp))).1, (N₂ p (.tail _ (.tail _ hp))).2⟩
      rcases List.mem_cons.mp hp with rfl | hp
      · simp
      rcases List.mem_append.mp (show p ∈ _ ++ news from hp) with hp | hp
      · exact hxk p hp 2 (by decide)
      · exact hpk p hp 2
  refine codeAny_compStart_list (loop _ rfl Sh.heap) (W.self 0 _ _ _ (up4 _ _ hst) (loop _ rfl Sh.heap))
end
end Mine
end

section
local macro_rules | `(tactic| walk_at "serves nothing") => `(tactic| skip)
local macro_rules | `(tactic| walk_at "serves nothing") => `(tactic| skip)
local macro_rules | `(tactic| walk_at "serves nothing") => `(tactic| skip)
local macro_rules | `(tactic| walk_at "serves nothing") => `(tactic| skip)
local macro_rules | `(tactic| walk_at "serves nothing") => `(tactic| skip)
local macro_rules | `(tactic| walk_at "serves nothing") => `(tactic| skip)
local macro_rules | `(tactic| walk_at "serves nothing") => `(tactic| skip)
local macro_rules | `(tactic| walk_at "serves nothing") => `(tactic| skip)
local macro_rules | `(tactic| walk_at "serves nothing") => `(tactic| skip)
local macro_rules | `(tactic| walk_at "serves nothing") => `(tactic| skip)
theorem Mine.reset29 : True := by
  w_top off
  first | (walk1; done) | exact True.intro
set_option maxRecDepth 100000
set_option maxHeartbeats 1000000
namespace Mine
open PySem PySem.W PySem.Calls PyProof.Rows

/-- what a comprehension leaves ahead of the store into a local name -/
structure ThenSet (h₀ : Heap) (L : Addr) (y : Str) (Q : Flow → Shared → Prop) (v : Value) (s₃ : Shared) : Prop where
  ex : ∃ m news, Fr h₀ L s₃.heap m ∧ News h₀ L s₃.heap news ∧ ∀ s', Sh s₃ s' → Fr h₀ L s'.heap (fun z => if z = y then some v else m z) → News h₀ L s'.heap news → Q .next s'

section
variable {prog : Program} {w : World} {A : Around} {E : Value → Shared → Prop} {s : Shared} {env : Env} {x y : Str} {px py : Pos} {h₀ : Heap}
  {elt iter : Expr} {ifs : List Expr} {scope : Scope} {cl : List (Str × Addr)} {pos spos : Pos} {Q : Flow → Shared → Prop}

theorem assignComp (hsw : swapsWith (.ListComp elt [⟨.Name x px, iter, ifs, 0⟩] scope pos) (some (.Name y py)) spos.line env = pure true)
    (hclos : closureFor scope env = pure cl) (hkind : scope.kind = .function) (hnames : ∀ y ∈ scope.names, y.2 = .local → scope.names.lookup y.1 = some .local)
    (hy : env.kindOf y = some .local) (hp : (env.scope.kind == .class || (env.scope.kind == .module && env.locals != env.globals)) = false)
    (h : wpAny (model prog w) A (eval iter env) (fun xv s₁ => wpAny (model prog w) A (pyIter xv) (fun it s₂ => compBlock prog w A E env elt iter x px ifs scope cl pos (ThenSet h₀ env.locals y Q) it s₂) E s₁) E s)
    (hs : ∀ x, foldedSetIterable iter env x = pure x := by intro _; rfl) :
    wpAny (model prog w) A (exec (.Assign [.Name y py] (.ListComp elt [⟨.Name x px, iter, ifs, 0⟩] scope pos) spos) env) Q E s := by
  rw [exec_Assign_Name_used _ _ _ _ hsw]
  refine wpAny_bind (wpAny_standAt (wpAny_bind ?_))
  show wpAny _ A (do let _ ← comprehension (.ListComp elt [⟨.Name x px, iter, ifs, 0⟩] scope pos) scope env _ (newList []) false (eval iter env) (some (assign (.Name y py) env))) _ _ s
  refine wpAny_bind (wpAny_mono (wpAny_comprehension_free (use := some (assign (.Name y py) env)) (Q := fun _ s' => Q .next s') rfl hs hclos hkind hnames
    (wpAny_mono h (fun xv s₁ h₁ => wpAny_mono h₁ (fun it s₂ h₂ => ?_) fun _ _ e => e) fun _ _ e => e)) (fun _ s' hq => wpAny_pure (wpAny_pure hq)) fun _ _ e => e)
  unfold compBlock at h₂
  refine wpAny_mono h₂ (fun acc s₃ h₃ => wpAny_mono h₃ (fun cenv s₄ h₄ => codeAny_mono h₄ fun r s' hr => ?_) fun _ _ e => e) fun _ _ e => e
  cases r with
  | error e => exact hr
  | ok fl =>
    obtain ⟨mC, hC, hall⟩ := hr
    show wpAny _ A (assign (.Name y py) env acc) _ _ _
    have hsb : Heap.SameBut cenv.locals s'.heap (hideAll s'.heap [cenv.locals]) := ⟨hideAll_size _ _, fun b hb => Heap.hide_ne _ hb⟩
    obtain ⟨m, news, F, N, hQ⟩ := hall _ hsb
    have hLC : env.locals ≠ cenv.locals := by
      intro q
      obtain ⟨o, _, _, ho, _⟩ := F.ns
      rw [q, hideAll_none _ (List.mem_singleton.mpr rfl)] at ho
      cases ho
    have up : ∀ b o, (hideAll s'.heap [cenv.locals]).get? b = some o → s'.heap.get? b = some o ∧ b ≠ cenv.locals := fun b o e => ⟨of_hideAll _ e, fun q => by rw [q, hideAll_none _ (List.mem_singleton.mpr rfl)] at e; cases e⟩
    have F' : Fr h₀ env.locals s'.heap m := F.after fun b o e => (up b o e).1
    refine wpAny_assign_Name (wpAny_storeName_local hy F'.ns (fun h₂ hn₂ hs₂ => ?_) hp)
    refine ⟨mC, hC.sameBut hs₂ (Ne.symm hLC), fun h₃ hs₃ => ?_⟩
    have F₂ := F'.set hn₂ hs₂
    refine hQ _ ⟨rfl, id⟩ ⟨F₂.ns.sameBut hs₃ hLC, fun b o e => ?_, F₂.above⟩ fun p hp => ⟨?_, (N p hp).2⟩
    · exact (hs₃.2 b (up b o (F.keep b o e)).2).trans (F₂.keep b o e)
    · have h5 := up _ _ (N p hp).1
      exact (hs₃.2 _ h5.2).trans ((hs₂.2 _ (N p hp).2.1).trans h5.1)
end
end Mine
end

section
theorem Mine.reset30 : True := by
  w_top off
  first | (walk1; done) | exact True.intro
set_option maxRecDepth 100000
set_option maxHeartbeats 8000000
namespace Mine
open PySem PySem.W PySem.Calls PyProof.Rows

abbrev lawEnv (L fa : Addr) (cd : Value) : Env := envOfC "law" (scopeOf (mainSt 21)) L fa cd
abbrev lawSt (i : Nat) : Stmt := stAt (bodyOf (mainSt 21)) i

def figs (ns : List Int) : List Nat := (ns.take 7).map (fun x => (x.emod 4).toNat) ++ ([2, 0, 2, 2, 0] : List Nat).drop ns.length

theorem store_cell {M : Model} {A : Around} {E : Value → Shared → Prop} {s : Shared} {h₀ : Heap} {env : Env} {x : Str} {c : Addr} {o : Obj} {v₀ : Option Value} {v : Value} {m : Str → Option Value} {rest : List (Addr × Obj)} {Q : Unit → Shared → Prop}
    (hk : env.scope.kind = .function) (hx : env.kindOf x = some .cell) (hc : env.cells.lookup x = some c) (F : Fr h₀ env.locals s.heap m) (N : News h₀ env.locals s.heap ((c, o) :: rest)) (hne : ∀ p ∈ rest, p.1 ≠ c) (hd : o.data = .cell v₀)
    (h : ∀ h' o', o'.data = .cell (some v) → Fr h₀ env.locals h' m → News h₀ env.locals h' ((c, o') :: rest) → Q () { s with heap := h' }) : wpAny M A (storeName env x v) Q E s := by
  have hm := N _ (.head _)
  refine wpAny_storeName_cell hk hx hc ⟨o, hm.1, hd⟩ fun h' hv hs => ?_
  obtain ⟨o', ho', hd'⟩ := hv
  refine h h' o' hd' ⟨F.ns.extBut (fun b o hb e => (hs.2 b hb).trans e) hm.2.1.symm, fun b o e => (hs.2 b (fun q => by rw [q, hm.2.2] at e; cases e)).trans (F.keep b o e), F.above⟩ ?_
  intro p hp
  rcases List.mem_cons.mp hp with rfl | hp
  · exact ⟨ho', hm.2⟩
  · exact ⟨(hs.2 _ (hne p hp)).trans (N p (.tail _ hp)).1, (N p (.tail _ hp)).2⟩

theorem news_sub {h₀ h : Heap} {L : Addr} {l l' : List (Addr × Obj)} (N : News h₀ L h l) (hs : ∀ p ∈ l', p ∈ l) : News h₀ L h l' := fun p hp => N p (hs p hp)

theorem allLt_mem {d : Nat} {l : List (Addr × Obj)} (h : AllLt d l) : ∀ p ∈ l, @LT.lt Nat _ p.1 d := by
  induction l with
  | nil => intro p hp; cases hp
  | cons a l ih =>
    intro p hp
    rcases List.mem_cons.mp hp with e | hp
    · rw [e]; exact h.1
    · exact ih h.2 p hp

theorem hide_keep {h₀ h : Heap} {hs : List Addr} (hk : ∀ b o, h₀.get? b = some o → h.get? b = some o) (hn : ∀ a ∈ hs, h₀.get? a = none) : ∀ b o, h₀.get? b = some o → (hideAll h hs).get? b = some o := fun b o e =>
  hideAll_get hs (hk b o e) (fun hm => by rw [hn b hm] at e; cases e)
theorem frBut {h₀ h h' : Heap} {L D : Addr} {m : Str → Option Value} (F : Fr h₀ L h m) (hx : ∀ b o, b ≠ D → h.get? b = some o → h'.get? b = some o) (hL : L ≠ D) (hD : h₀.get? D = none) : Fr h₀ L h' m :=
  ⟨F.ns.extBut hx hL, fun b o e => hx b o (fun q => by rw [q, hD] at e; cases e) (F.keep b o e), F.above⟩
theorem news_add {h₀ h h' : Heap} {L D : Addr} {o : Obj} {m : Str → Option Value} {news : List (Addr × Obj)} (F : Fr h₀ L h m) (N : News h₀ L h news) (hk : ∀ b o, h.get? b = some o → h'.get? b = some o) (hf : h.get? D = none) (hD : h'.get? D = some o) : News h₀ L h' ((D, o) :: news) := by
  intro p hp
  rcases List.mem_cons.mp hp with rfl | hp
  · refine ⟨hD, fun q => ?_, ?_⟩
    · obtain ⟨oL, _, _, ho, _⟩ := F.ns
      rw [show D = L from q, ho] at hf; cases hf
    · cases q : h₀.get? D with
      | none => rfl
      | some o => rw [F.keep _ _ q] at hf; cases hf
  · exact ⟨hk _ _ (N p hp).1, (N p hp).2⟩
end Mine
end

section
local macro_rules | `(tactic| walk_at "serves nothing") => `(tactic| skip)
local macro_rules | `(tactic| walk_at "serves nothing") => `(tactic| skip)
local macro_rules | `(tactic| walk_at "serves nothing") => `(tactic| skip)
local macro_rules | `(tactic| walk_at "serves nothing") => `(tactic| skip)
local macro_rules | `(tactic| walk_at "serves nothing") => `(tactic| skip)
local macro_rules | `(tactic| walk_at "serves nothing") => `(tactic| skip)
local macro_rules | `(tactic| walk_at "serves nothing") => `(tactic| skip)
local macro_rules | `(tactic| walk_at "serves nothing") => `(tactic| skip)
local macro_rules | `(tactic| walk_at "serves nothing") => `(tactic| skip)
local macro_rules | `(tactic| walk_at "serves nothing") => `(tactic| skip)
theorem Mine.reset31 : True := by
  w_top off
  first | (walk1; done) | exact True.intro
set_option maxRecDepth 100000
set_option maxHeartbeats 8000000
namespace Mine
open PySem PySem.W PySem.Calls PyProof.Rows
theorem fill20 : PySem.Challenge.rw_us0021_01.foot = PySem.Challenge.rw_us0021_01.foot ∧ hd.heap_39 = hd.heap_39 := by
  k_fill
  exact ⟨rfl, rfl⟩
local macro_rules | `(tactic| walk_at "eval Name") => `(tactic| refine nameCL (by assumption) (by assumption) (by k_mem) (by assumption) ?_ (by rfl) (by rfl))
local macro_rules | `(tactic| walk_at "eval ListComp") => `(tactic| refine hideP ?_)
local macro_rules | `(tactic| walk_at "subscriptTail Name Slice ref ref") => `(tactic| refine hideP ?_)

theorem law0 {prog : Program} {w : World} {A : Around} {s : Shared} {p : Program} {loose : List Str} {mean : ExcName → Option Value} {mg mb : Str → Option Value} {h₀ : Heap} {L fa u : Addr} {cd : Value} {items : List Value} {ns : List Int} {oF : Obj} {rest : List (Addr × Obj)}
  (X : (hd.heap_39 w.params).In h₀) (T : Top p loose mean mg mb h₀) (r : Rm 20 A) (hl : h₀.IsList u items.toArray) (hi : IntsAre items ns) (hlen : ns.length ≤ 65536)
  (F : Fr h₀ L s.heap (fun y => if y = "script" then some (.ref u) else none)) (N : News h₀ L s.heap ((L + 1, oF) :: rest)) (d1 : oF.data = .cell none) (hne : ∀ p ∈ rest, p.1 ≠ L + 1)
  {Q : Flow → Shared → Prop} {E : Value → Shared → Prop}
  (hQ : ∀ s' D o' vs, Sh s s' → o'.data = .cell (some (.ref D)) → IntsAre vs ((figs ns).map fun (n : Nat) => (n : Int)) → (∀ p ∈ (L + 1, oF) :: rest, @LT.lt Nat _ p.1 D) → Fr h₀ L s'.heap (fun y => if y = "script" then some (.ref u) else none) → News h₀ L s'.heap ((L + 1, o') :: (D, PySem.W.listOf vs.toArray 0) :: rest) → Q .next s') : wpAny (model prog w) A (exec (lawSt 0) (lawEnv L fa cd)) Q E s := by
  conv in (exec _ _) => arg 1; whnf
  have hh : A.handled = none := r.hd
  k_steps
  unfold HideP
  refine evalComp rfl rfl (by decide) ?_
  k_steps
  unfold HideP
  refine' kmk_slice_ints (s := ⟨_, _, _, _, _⟩) F N (F.lst hl) IsPart.none (IsPart.int _ _) hi (kmk_upto hi (by decide)) (List.length_take ..) (fun D ws h' FF NN l1 hI hC hL => ?_) (slice_sub ..) (fun r => name_go _ _ _ r) ?hz
  case hz => rw [List.size_toArray, hi.length]; exact Nat.le_trans hlen (by decide)
  simp only [Int.reduceToNat] at hI hC hL
  k_steps
  refine comp_list hh (items := ws.toArray) (NN _ (.head _)).1 rfl rfl ?_ (by decide) rfl rfl (fun i ys => IntsAre ys (((ns.take 7).take i).map fun x => x.fmod 4)) .nil FF NN (fun h _ N => (N _ (.head _)).1) ?_ ?_
  · have := hI.length
    rw [List.size_toArray, this, hC]
    exact Nat.le_trans (Nat.min_le_left _ _) (by decide)
  · intro i v ys nn s₁ oC oI mC C I D₂ hv hA hlen' hsh hC' hmC hlt hID hDC F₁ N₁
    rw [List.getElem?_toArray] at hv
    obtain ⟨x, tx, rfl, hx⟩ := hI.at i v hv
    k_steps
    refine ⟨?_, ⟨hsh.os, hsh.bare⟩, F₁, N₁⟩
    rw [List.take_add_one, hx, List.map_append]
    exact hA.append (.cons _ _ .nil)
  · intro s₃ ys nn D₂ hA hsh hlt F₃ N₃
    clear FF NN
    k_steps
    rename Fr _ _ _ _ => F₄
    rename News _ _ _ _ => N₄
    unfold HideP
    have h5 : ∀ t1 t2 t3 t4 t5, IntsAre [Value.int 2 t1, .int 0 t2, .int 2 t3, .int 2 t4, .int 0 t5] [2, 0, 2, 2, 0] := fun _ _ _ _ _ => .cons _ _ (.cons _ _ (.cons _ _ (.cons _ _ (.cons _ _ .nil))))
    refine' kmk_slice_ints (s := ⟨_, _, _, _, _⟩) F₄ N₄ (N₄.isList (.head _)) (IsPart.int _ _) IsPart.none (h5 _ _ _ _ _) (kmk_from (h5 _ _ _ _ _) ?hp) (List.length_drop ..) (fun D5 ws5 h₅ F₅ N₅ l5 hI5 hC5 hL5 => ?_) (slice_sub ..) (fun r => name_go _ _ _ r) ?hz
    case hz => exact Nat.le_of_ble_eq_true rfl
    case hp => omega
    clear F₄ N₄
    k_steps
    rename Fr _ _ _ _ => F₄
    rename News _ _ _ _ => N₄
    rename_i D₄ ws₄ h₄ hI₄ l₄
    have hl₄ : ∀ p ∈ (L + 1, oF) :: rest, @LT.lt Nat _ p.1 D₄ := fun p hp => by
      rcases List.mem_cons.mp hp with rfl | hp
      · exact l₄.2.2.2.2.1
      · exact allLt_mem l₄.2.2.2.2.2 p hp
    have hF : ((ns.take 7).take ws.toArray.size).map (fun x => x.fmod 4) ++ List.drop (ns.length : Int).toNat [2, 0, 2, 2, 0] = (figs ns).map fun (n : Nat) => (n : Int) := by
      have e1 := hI.length
      rw [List.size_toArray, e1, List.take_length]
      unfold figs
      rw [List.map_append, List.map_map, List.map_drop]
      congr 1
      apply List.map_congr_left
      intro x _
      show x.fmod 4 = ((x.emod 4).toNat : Int)
      have h1 := Int.emod_nonneg x (show (4 : Int) ≠ 0 by decide)
      rw [Int.fmod_eq_emod_of_nonneg x (by decide)]
      exact (Int.toNat_of_nonneg h1).symm
    rw [hF] at hI₄
    refine store_cell (c := L + 1) (o := oF) (rest := (D₄, PySem.W.listOf ws₄.toArray 0) :: rest) rfl rfl rfl F₄ (news_sub N₄ ?_) ?_ d1 fun h₅ o₅ d₅ F₅ N₅ => ?_
    · intro p hp
      simp only [List.mem_cons] at hp ⊢
      rcases hp with rfl | rfl | hp
      · simp
      · simp
      · simp [hp]
    · intro p hp
      rcases List.mem_cons.mp hp with rfl | hp
      · exact (Nat.ne_of_lt (hl₄ _ (.head _))).symm
      · exact hne p hp
    · exact hQ _ D₄ o₅ ws₄ ⟨hsh.os, hsh.bare⟩ d₅ hI₄ hl₄ F₅ N₅
end Mine
end

section
theorem Mine.reset32 : True := by
  w_top off
  first | (walk1; done) | exact True.intro
set_option maxRecDepth 100000
set_option maxHeartbeats 8000000
namespace Mine
open PySem PySem.W PySem.Calls PyProof.Rows
theorem fill21 : PySem.Challenge.rw_us0021_01.foot = PySem.Challenge.rw_us0021_01.foot ∧ hd.heap_39 = hd.heap_39 := by
  k_fill
  exact ⟨rfl, rfl⟩
local macro_rules | `(tactic| walk_at "eval Name") => `(tactic| refine nameCL (by assumption) (by assumption) (by k_mem) (by assumption) ?_ (by rfl) (by rfl))
local macro_rules | `(tactic| walk_at "eval Name") => `(tactic| refine lcf_cell (by assumption) (by rfl) (by k_mem) (by assumption) ?_ (by rfl) (by rfl))
local macro_rules | `(tactic| walk_at "eval Name") => `(tactic| refine lcf_free (by assumption) (by rfl) (by k_mem) (by assumption) ?_ (by rfl) (by rfl))
local macro_rules | `(tactic| walk_at "eval ListComp") => `(tactic| refine hideP ?_)
local macro_rules | `(tactic| walk_at "call ref") => `(tactic| refine hideP ?_)

theorem law1 {prog : Program} {w : World} {A : Around} {s : Shared} {p : Program} {loose : List Str} {mean : ExcName → Option Value} {mg mb : Str → Option Value} {h₀ : Heap} {L fa : Addr} {cd : Value} {m : Str → Option Value} {f : List Nat} {rest : List (Addr × Obj)}
  (X : (hd.heap_39 w.params).In h₀) (T : Top p loose mean mg mb h₀) (r : Rm 20 A) (hf7 : f.length ≤ 7) {D : Addr} {vs : List Value} {oF oC : Obj}
  (F : Fr h₀ L s.heap m) (N : News h₀ L s.heap ((L + 2, oC) :: (L + 1, oF) :: (D, PySem.W.listOf vs.toArray 0) :: rest)) (dF : oF.data = .cell (some (.ref D))) (dC : oC.data = .cell none)
  (hv : IntsAre vs (f.map fun (n : Nat) => (n : Int))) (hne : ∀ p ∈ (L + 1, oF) :: (D, PySem.W.listOf vs.toArray 0) :: rest, p.1 ≠ L + 2)
  {Q : Flow → Shared → Prop} {E : Value → Shared → Prop}
  (hQ : ∀ s' o' t, Sh s s' → o'.data = .cell (some (.int (f.length : Int) t)) → Fr h₀ L s'.heap m → News h₀ L s'.heap ((L + 2, o') :: (L + 1, oF) :: (D, PySem.W.listOf vs.toArray 0) :: rest) → Q .next s') :
  wpAny (model prog w) A (exec (lawSt 1) (lawEnv L fa cd)) Q E s := by
  conv in (exec _ _) => arg 1; whnf
  have hh : A.handled = none := r.hd
  k_steps
  refine store_cell (c := L + 2) (o := oC) rfl rfl rfl F N hne dC fun h' o' d F' N' => ?_
  rw [List.length_map] at d
  exact hQ _ o' _ ⟨rfl, id⟩ d F' N'

theorem un_0 : un 0 = Str.ofString "a" := by decide +kernel
theorem un_1 : un 1 = Str.ofString "b" := by decide +kernel
theorem un_2 : un 2 = Str.ofString "\\\"" := by decide +kernel
theorem un_3 : un 3 = Str.ofString "\\\\" := by decide +kernel
theorem law2 {prog : Program} {w : World} {A : Around} {s : Shared} {p : Program} {loose : List Str} {mean : ExcName → Option Value} {mg mb : Str → Option Value} {h₀ : Heap} {L fa : Addr} {cd : Value} {m : Str → Option Value} {f : List Nat} {rest : List (Addr × Obj)}
  (X : (hd.heap_39 w.params).In h₀) (T : Top p loose mean mg mb h₀) (r : Rm 20 A) (hf7 : f.length ≤ 7) {D : Addr} {vs : List Value} {oF oU : Obj}
  (F : Fr h₀ L s.heap m) (N : News h₀ L s.heap ((L + 3, oU) :: (L + 1, oF) :: (D, PySem.W.listOf vs.toArray 0) :: rest)) (dF : oF.data = .cell (some (.ref D))) (dU : oU.data = .cell none)
  (hv : IntsAre vs (f.map fun (n : Nat) => (n : Int))) (hf : ∀ x ∈ f, x < 4) (hne : ∀ p ∈ (L + 1, oF) :: (D, PySem.W.listOf vs.toArray 0) :: rest, p.1 ≠ L + 3) (hL : ∀ p ∈ (L + 1, oF) :: (D, PySem.W.listOf vs.toArray 0) :: rest, True)
  {Q : Flow → Shared → Prop} {E : Value → Shared → Prop}
  (hQ : ∀ s' o' D' ys nn, Sh s s' → o'.data = .cell (some (.ref D')) → StrsAre ys (f.map un) → (∀ p ∈ (L + 3, oU) :: (L + 1, oF) :: (D, PySem.W.listOf vs.toArray 0) :: rest, @LT.lt Nat _ p.1 D') → Fr h₀ L s'.heap m → News h₀ L s'.heap ((L + 3, o') :: (D', PySem.W.listOf ys.toArray nn) :: (L + 1, oF) :: (D, PySem.W.listOf vs.toArray 0) :: rest) → Q .next s') :
  wpAny (model prog w) A (exec (lawSt 2) (lawEnv L fa cd)) Q E s := by
  conv in (exec _ _) => arg 1; whnf
  have hh : A.handled = none := r.hd
  k_steps
  unfold HideP
  refine evalComp rfl rfl (by decide) ?_
  k_steps
  rename Fr _ _ _ _ => F₁
  rename News _ _ _ _ => N₁
  refine comp_list hh (items := vs.toArray) (N₁ _ (.tail _ (.tail _ (.head _)))).1 rfl rfl ?_ (by decide) rfl rfl (fun i ys => StrsAre ys ((f.take i).map un)) .nil F₁ N₁ (fun h _ N => (N _ (.tail _ (.tail _ (.head _)))).1) ?_ ?_
  · rw [List.size_toArray, hv.length, List.length_map]; exact Nat.le_trans hf7 (by decide)
  · intro i v ys nn s₁ oC oI mC C I D₂ hv' hA hlen' hsh hC' hmC hlt hID hDC F₁ N₁
    rw [List.getElem?_toArray] at hv'
    obtain ⟨x, tx, rfl, hx⟩ := hv.at i v hv'
    rw [List.getElem?_map] at hx
    obtain ⟨k, hk, rfl⟩ := Option.map_eq_some_iff.mp hx
    have hk4 := hf k (List.mem_of_getElem? hk)
    have hk0 : (0 : Int) ≤ (k : Int) := Int.natCast_nonneg k
    have hk4' : (k : Int) < 4 := by omega
    have hstep : (f.take (i + 1)).map un = (f.take i).map un ++ [un k] := by rw [List.take_add_one, hk, List.map_append]; rfl
    clear hx hv'
    k_steps
    rename Fr _ _ _ _ => F₂
    rename News _ _ _ _ => N₂
    rcases (show k = 0 ∨ k = 1 ∨ k = 2 ∨ k = 3 by omega) with rfl | rfl | rfl | rfl
    all_goals k_steps
    all_goals refine ⟨?_, ⟨hsh.os, hsh.bare⟩, F₂, fun p hp => N₂ p (.tail _ hp)⟩
    all_goals rw [hstep]
    · rw [un_0]; exact hA.append' (.cons _ _ .nil)
    · rw [un_1]; exact hA.append' (.cons _ _ .nil)
    · rw [un_2]; exact hA.append' (.cons _ _ .nil)
    · rw [un_3]; exact hA.append' (.cons _ _ .nil)
  · intro s₃ ys nn D₂ hA hsh hlt F₃ N₃
    clear F₁ N₁
    k_steps
    rw [List.size_toArray, hv.length, List.length_map, List.take_length] at hA
    refine store_cell (c := L + 3) (o := oU) (rest := (D₂, PySem.W.listOf ys.toArray nn) :: (L + 1, oF) :: (D, PySem.W.listOf vs.toArray 0) :: rest) rfl rfl rfl F₃ (news_sub N₃ ?_) ?_ dU fun h' o' d F' N' => ?_
    · intro p hp
      simp only [List.mem_cons] at hp ⊢
      rcases hp with rfl | rfl | rfl | rfl | hp
      all_goals simp [*]
    · intro p hp
      rcases List.mem_cons.mp hp with rfl | hp
      · exact (Nat.ne_of_lt (hlt _ (.head _))).symm
      · exact hne p hp
    · exact hQ _ o' D₂ ys nn ⟨hsh.os, hsh.bare⟩ d hA hlt F' N'

end Mine
end

section
local macro_rules | `(tactic| walk_at "serves nothing") => `(tactic| skip)
local macro_rules | `(tactic| walk_at "serves nothing") => `(tactic| skip)
local macro_rules | `(tactic| walk_at "serves nothing") => `(tactic| skip)
local macro_rules | `(tactic| walk_at "serves nothing") => `(tactic| skip)
local macro_rules | `(tactic| walk_at "serves nothing") => `(tactic| skip)
local macro_rules | `(tactic| walk_at "serves nothing") => `(tactic| skip)
local macro_rules | `(tactic| walk_at "serves nothing") => `(tactic| skip)
local macro_rules | `(tactic| walk_at "serves nothing") => `(tactic| skip)
local macro_rules | `(tactic| walk_at "serves nothing") => `(tactic| skip)
local macro_rules | `(tactic| walk_at "serves nothing") => `(tactic| skip)
theorem Mine.reset33 : True := by
  w_top off
  first | (walk1; done) | exact True.intro
set_option maxRecDepth 100000
set_option maxHeartbeats 8000000
namespace Mine
open PySem PySem.W PySem.Calls PyProof.Rows
theorem fill22 : PySem.Challenge.rw_us0021_01.foot = PySem.Challenge.rw_us0021_01.foot ∧ hd.heap_39 = hd.heap_39 := by
  k_fill
  exact ⟨rfl, rfl⟩
local macro_rules | `(tactic| walk_at "eval Name") => `(tactic| refine nameCL (by assumption) (by assumption) (by k_mem) (by assumption) ?_ (by rfl) (by rfl))
local macro_rules | `(tactic| walk_at "eval Name") => `(tactic| refine lcf_cell (by assumption) (by rfl) (by k_mem) (by assumption) ?_ (by rfl) (by rfl))
local macro_rules | `(tactic| walk_at "eval Name") => `(tactic| refine lcf_free (by assumption) (by rfl) (by k_mem) (by assumption) ?_ (by rfl) (by rfl))
local macro_rules | `(tactic| walk_at "eval ListComp") => `(tactic| refine hideP ?_)
local macro_rules | `(tactic| walk_at "call ref") => `(tactic| refine hideP ?_)

def keptRow (f : List Nat) (z : Nat) : List Str := (List.range (f.length - z + 1)).map fun b => encS (f.take b ++ f.drop (b + z))
structure KeptOk (f : List Nat) (i : Nat) (ys : List Value) (xs : List (Addr × Obj)) : Prop where
  len : ys.length = i
  row : ∀ j, j < i → ∃ a vs nv, ys[j]? = some (Value.ref a) ∧ (a, PySem.W.listOf (List.toArray vs) nv) ∈ xs ∧ StrsAre vs (keptRow f (j + 1))

theorem law3 {prog : Program} {w : World} {A : Around} {s : Shared} {p : Program} {loose : List Str} {mean : ExcName → Option Value} {mg mb : Str → Option Value} {h₀ : Heap} {L fa : Addr} {cd : Value} {m : Str → Option Value} {f : List Nat} {rest : List (Addr × Obj)}
  (X : (hd.heap_39 w.params).In h₀) (T : Top p loose mean mg mb h₀) (r : Rm 20 A) (hf7 : f.length ≤ 7) {DU : Addr} {us : List Value} {nu : Nat} {tc : Tok} {oU oC oK : Obj}
  (F : Fr h₀ L s.heap m) (N : News h₀ L s.heap ((L + 5, oK) :: (L + 3, oU) :: (L + 2, oC) :: (DU, PySem.W.listOf us.toArray nu) :: rest)) (dU : oU.data = .cell (some (.ref DU))) (dC : oC.data = .cell (some (.int (f.length : Int) tc))) (dK : oK.data = .cell none)
  (hu : StrsAre us (f.map un)) (hne : ∀ p ∈ (L + 3, oU) :: (L + 2, oC) :: (DU, PySem.W.listOf us.toArray nu) :: rest, p.1 ≠ L + 5)
  {Q : Flow → Shared → Prop} {E : Value → Shared → Prop}
  (hQ : ∀ s' o' D ys nn xs, Sh s s' → o'.data = .cell (some (.ref D)) → KeptOk f f.length ys xs → (∀ p ∈ (L + 5, oK) :: (L + 3, oU) :: (L + 2, oC) :: (DU, PySem.W.listOf us.toArray nu) :: rest, @LT.lt Nat _ p.1 D) → (∀ p ∈ xs, @LT.lt Nat _ D p.1) → Fr h₀ L s'.heap m →
    News h₀ L s'.heap ((L + 5, o') :: (D, PySem.W.listOf ys.toArray nn) :: (xs ++ ((L + 3, oU) :: (L + 2, oC) :: (DU, PySem.W.listOf us.toArray nu) :: rest))) → Q .next s') :
  wpAny (model prog w) A (exec (lawSt 3) (lawEnv L fa cd)) Q E s := by
  conv in (exec _ _) => arg 1; whnf
  have hh : A.handled = none := r.hd
  k_steps
  unfold HideP
  refine evalComp rfl rfl (by decide) ?_
  k_steps
  rename (Heap.get? _ _ = some { cls := .type "range", dict := none, data := _, slots := _ }) => hr
  rename Fr _ _ _ _ => F₁
  rename News _ _ _ _ => N₁
  refine comp_rangeC (a := 1) (b := f.length + 1) hh hr (by omega) (by omega) (by omega) (by omega) (fun _ => rfl) (fun _ => rfl) rfl rfl (fun i ys xs => KeptOk f i ys xs) ⟨rfl, fun j hj => absurd hj (Nat.not_lt_zero j)⟩ F₁ N₁ ?_ ?_
  · intro i ti ys nn xs s₁ oC' oI oc C c I D hi hA hlen hxs hsh hoc hlt hID hDC hCc F₂ N₂
    have hin : i < f.length := by omega
    obtain ⟨hlenA, hrowA⟩ := hA
    have N₃ : News h₀ L s₁.heap ((c, oc) :: (C, oC') :: (I, oI) :: (D, PySem.W.listOf ys.toArray nn) :: (L + 5, oK) :: (L + 3, oU) :: (L + 2, oC) :: (DU, PySem.W.listOf us.toArray nu) :: (xs ++ rest)) := news_sub N₂ (by
      intro p hp
      simp only [List.mem_cons, List.mem_append, List.cons_append, List.nil_append] at hp ⊢
      rcases hp with rfl | rfl | rfl | rfl | rfl | rfl | rfl | rfl | hp | hp
      all_goals simp [*])
    clear N₂ N₁ F₁ hr
    refine evalComp rfl rfl (by decide) ?_
    k_steps
    rename (Heap.get? _ _ = some { cls := .type "range", dict := none, data := _, slots := _ }) => hr
    rename Fr _ _ _ _ => F₄
    rename News _ _ _ _ => N₄
    refine comp_rangeN (a := 0) (b := f.length - i) hh hr (by omega) (by omega) (by omega) (by omega) (by decide) rfl rfl
      (fun j zs => StrsAre zs ((List.range j).map fun b => encS (f.take b ++ f.drop (b + (i + 1))))) .nil F₄ N₄ ?_ ?_
    · intro j tj zs nz s₂ oC₂ oI₂ mC C₂ I₂ D₂ hj hZ hlenZ hsh₂ hC₂ hmC hlt₂ hID₂ hDC₂ F₅ N₅
      refine wpAny_tests_nil ?_
      rw [if_pos rfl]
      k_steps
      unfold HideP
      have hUm := (N₅ (DU, PySem.W.listOf us.toArray nu) (by simp)).1
      refine wpAny_call (left_call (u := DU) (items := us.toArray) (f := f) (Frag.In.keeps X F₅.keep) (T.keeps F₅.keep) (r.less (by decide)) ⟨_, hUm, rfl, _, rfl⟩ hu hf7 fun s' t hk => ?_)
      refine ⟨?_, ⟨hsh₂.trans hk.sh |>.os, hsh₂.trans hk.sh |>.bare⟩, F₅.after hk.le, Mine.News.le N₅ hk.le⟩
      rw [List.range_succ, List.map_append, Nat.zero_add, Nat.add_comm 1 i]
      exact hZ.append' (.cons _ _ .nil)
    · intro s₂ zs nz D₂ hZ hsh₂ hlt₂ F₆ N₆
      clear F₄ N₄
      refine ⟨(D₂, PySem.W.listOf zs.toArray nz) :: xs, ⟨by simp [hlenA], fun j hj => ?_⟩, ?_, ⟨hsh₂.os, hsh₂.bare⟩, F₆, news_sub N₆ ?_⟩
      · rcases Nat.lt_succ_iff_lt_or_eq.mp hj with hj | rfl
        · obtain ⟨a, vs, nv, h1, h2, h3⟩ := hrowA j hj
          exact ⟨a, vs, nv, by rw [List.getElem?_append_left (by omega)]; exact h1, .tail _ h2, h3⟩
        · refine ⟨D₂, zs, nz, by rw [← hlenA]; simp, .head _, ?_⟩
          unfold keptRow
          rw [show f.length - (j + 1) + 1 = f.length - j - 0 by omega]
          exact hZ
      · intro p hp
        rcases List.mem_cons.mp hp with rfl | hp
        · exact hlt₂ (c, oc) (.head _)
        · exact hxs p hp
      · intro p hp
        simp only [List.mem_cons, List.mem_append, List.cons_append, List.nil_append] at hp ⊢
        rcases hp with rfl | rfl | rfl | rfl | rfl | hp | rfl | rfl | rfl | rfl | hp
        all_goals simp [*]
  · intro s₃ ys nn D xs hA hsh hlt hxs F₃ N₃
    clear F₁ N₁
    k_steps
    rw [Nat.add_sub_cancel] at hA
    refine store_cell (c := L + 5) (o := oK) (rest := (D, PySem.W.listOf ys.toArray nn) :: (xs ++ ((L + 3, oU) :: (L + 2, oC) :: (DU, PySem.W.listOf us.toArray nu) :: rest))) rfl rfl rfl F₃ (news_sub N₃ ?_) ?_ dK fun h' o' d F' N' => ?_
    · intro p hp
      simp only [List.mem_cons, List.mem_append] at hp ⊢
      rcases hp with rfl | rfl | hp | rfl | rfl | rfl | hp
      all_goals simp [*]
    · have hD := hlt _ (.head _)
      intro p hp
      rcases List.mem_cons.mp hp with rfl | hp
      · exact (Nat.ne_of_lt hD).symm
      rcases List.mem_append.mp hp with hp | hp
      · exact (Nat.ne_of_lt (Nat.lt_trans hD (hxs p hp))).symm
      · exact hne p hp
    · exact hQ _ o' D ys nn xs ⟨hsh.os, hsh.bare⟩ d hA hlt hxs F' N'

end Mine
end

section
theorem Mine.reset34 : True := by
  w_top off
  first | (walk1; done) | exact True.intro
set_option maxRecDepth 100000
set_option maxHeartbeats 8000000
namespace Mine
open PySem PySem.W PySem.Calls PyProof.Rows
theorem fill23 : PySem.Challenge.rw_us0021_01.foot = PySem.Challenge.rw_us0021_01.foot ∧ hd.heap_39 = hd.heap_39 := by
  k_fill
  exact ⟨rfl, rfl⟩
local macro_rules | `(tactic| walk_at "eval Name") => `(tactic| refine nameCL (by assumption) (by assumption) (by k_mem) (by assumption) ?_ (by rfl) (by rfl))
local macro_rules | `(tactic| walk_at "eval Name") => `(tactic| refine lcf_cell (by assumption) (by rfl) (by k_mem) (by assumption) ?_ (by rfl) (by rfl))
local macro_rules | `(tactic| walk_at "eval Name") => `(tactic| refine lcf_free (by assumption) (by rfl) (by k_mem) (by assumption) ?_ (by rfl) (by rfl))
local macro_rules | `(tactic| walk_at "eval ListComp") => `(tactic| refine hideP ?_)
local macro_rules | `(tactic| walk_at "exec For Tuple Name cons nil") => `(tactic| refine hideP ?_)

theorem Rm.make {n : Nat} {A : Around} {C : Addr} {vals : List Value} (r : Rm (n + 1) A) : Rm n (A.under (.builtin "type.__call__" ⟨.ref C :: vals, []⟩)) := by
  refine ⟨r.hd, ?_, ?_⟩
  · have := r.dp
    rw [depth_under_make]; omega
  · have := r.un
    rw [units_under_make]; omega

theorem loop_empty {prog : Program} {w : World} {A : Around} {E : Value → Shared → Prop} {s : Shared} {env : Env} {R : Result → Shared → Prop} {target : Expr} {body : List Stmt} (hh : A.handled = none) {l : Addr} {ob : Obj} {k : Nat} (hob : s.heap.get? l = some ob) (hc : ob.cls = .type "list") (hd : ob.data = .seq #[] k)
    (done : ∀ h' tk, (∀ b o, s.heap.get? b = some o → h'.get? b = some o) → R (.ok .next) { s with heap := h', toks := tk }) :
    wpAny (model prog w) A (pyIter (.ref l)) (fun it s₂ => codeAny (model prog w) A (.forLoop target it body [] env) R s₂) E s := by
  have hl : s.heap.IsList l #[] := ⟨ob, hob, hc, k, hd⟩
  refine wpAny_pyIter_list hl ?_
  have hne : l ≠ s.heap.objs.size := Nat.ne_of_lt (Heap.lt_size hob)
  have W : Walks prog w A s.heap.objs.size _ _ (#[] : Array Value).size _ _ := Walks.list hh s.heap.objs.size l hne #[]
  refine codeAny_forLoop_any (fun k s' => ∃ h tk, k = 0 ∧ s' = { s with heap := h, toks := tk } ∧ (h.IsListIter s.heap.objs.size l 0 ∧ h.IsList l #[]) ∧ ∀ b o, s.heap.get? b = some o → h.get? b = some o) ?_ 0
    ⟨_, _, rfl, rfl, ⟨⟨_, Heap.get?_push_size _ rfl, rfl, rfl⟩, hl.push _⟩, fun b o e => Heap.get?_push_of_some _ e⟩
  rintro k' s' ⟨h, tk, rfl, rfl, hst, hk⟩
  refine W.done _ _ _ hst fun h₁ tk₁ hk₁ => wpAny_execs_nil ?_
  exact done h₁ tk₁ fun b o e => hk₁ b o (by simpa using Nat.ne_of_lt (Heap.lt_size e)) (hk b o e)

theorem init_call {prog : Program} {w : World} {A : Around} {s : Shared} {p : Program} {loose : List Str} {mean : ExcName → Option Value} {mg mb : Str → Option Value} {x dx H : Addr}
  (X : (hd.heap_39 w.params).In (hideAll s.heap [x, dx, H])) (T : Top p loose mean mg mb (hideAll s.heap [x, dx, H])) (r : Rm 8 A) (hx : s.heap.get? x = some (instObj 221 dx)) (hdx : s.heap.get? dx = some (dictOf [] 0)) (hH : s.heap.get? H = some (PySem.W.listOf #[] 0))
  (l1 : @LT.lt Nat _ H dx) (l2 : @LT.lt Nat _ dx x)
  {R : Result → Shared → Prop} (hR : ∀ s' hs th kd, Sh s s' → (∀ b o, b ≠ dx → s.heap.get? b = some o → s'.heap.get? b = some o) → s'.heap.get? dx = some (hdict hs th kd H) → R (.ok (.ret .none)) s') :
  codeAny (model prog w) A (.call (.ref 115) ⟨[.ref x, .ref H], []⟩) R s := by
  have X₀ : (hd.heap_39 w.params).In s.heap := X.keeps fun b o e => of_hideAll _ e
  have T₀ := T.keeps fun b o e => of_hideAll _ e
  refine' call0 X₀ T₀.nolimit r.room ?k6 ?k7 ?k9 ?kB ?c5 ?c2 ?c3 ?c4 ?_
  case k6 => k_is
  case k7 => k_is
  case k9 => first | exact BindsTo.of_eq rfl | exact binds_K (by k_in) rfl (by k_is) rfl rfl rfl
  case kB => exact locs rfl
  case c5 => decide
  case c2 => exact rfl
  case c3 => exact rfl
  case c4 => exact rfl
  intro L h₁ F
  have N : News s.heap L h₁ [] := News.nil
  have hh : A.handled = none := r.hd
  have N₂ := newsHide F N [(x, instObj 221 dx), (dx, dictOf [] 0), (H, PySem.W.listOf #[] 0)] [x, dx, H] (by
    intro p hp; simp only [List.mem_cons, List.not_mem_nil, or_false] at hp
    rcases hp with rfl | rfl | rfl
    · exact hx
    · exact hdx
    · exact hH) (by intro p hp; simp only [List.mem_cons, List.not_mem_nil, or_false] at hp; rcases hp with rfl | rfl | rfl <;> simp)
  have F₂ := frHide F [x, dx, H]
  clear F N
  replace F₂ : Fr (hideAll s.heap [x, dx, H]) L h₁ (fun y => [(("self" : Str), Value.ref x), ("headers", Value.ref H)].reverse.lookup y) := F₂
  replace N₂ : News (hideAll s.heap [x, dx, H]) L h₁ [(x, instObj 221 dx), (dx, dictOf [] 0), (H, PySem.W.listOf #[] 0)] := N₂
  k_steps
  rename Fr _ _ _ _ => F₃
  rename News _ _ _ _ => N₃
  unfold HideP
  trace_state
  refine wpAny_For ?_
  k_steps
  refine' loop_empty (ob := PySem.W.listOf #[] 0) (k := 0) (A := A.deeper _) hh ?hob rfl rfl fun h' tk' hk => ?_
  case hob => exact (N₃ _ (.tail _ (.tail _ (.head _)))).1
  k_steps
  have hDD : ∀ hs th, dictOf [⟨hs, .str "_headers" th, .ref H⟩] 1 = hdict hs th 1 H := fun _ _ => rfl
  refine hR _ _ _ 1 ⟨rfl, id⟩ (fun b o hb e => hk b o ?_) (hk _ _ (N₃ _ (.tail _ (.head _))).1)
  by_cases h1 : b ∈ [x, dx, H]
  · simp only [List.mem_cons, List.not_mem_nil, or_false] at h1
    rcases h1 with rfl | rfl | rfl
    · rw [← Option.some.inj (hx.symm.trans e)]; exact (N₃ _ (.head _)).1
    · exact absurd rfl hb
    · rw [← Option.some.inj (hH.symm.trans e)]; exact (N₃ _ (.tail _ (.tail _ (.head _)))).1
  · exact F₃.keep _ _ (hideAll_get _ e h1)

theorem law4 {prog : Program} {w : World} {A : Around} {s : Shared} {p : Program} {loose : List Str} {mean : ExcName → Option Value} {mg mb : Str → Option Value} {h₀ : Heap} {L fa : Addr} {cd : Value} {m : Str → Option Value} {f : List Nat} {rest : List (Addr × Obj)}
  (X : (hd.heap_39 w.params).In h₀) (T : Top p loose mean mg mb h₀) (r : Rm 20 A) (hf7 : f.length ≤ 7)
  (F : Fr h₀ L s.heap m) (N : News h₀ L s.heap rest)
  {Q : Flow → Shared → Prop} {E : Value → Shared → Prop}
  (hQ : ∀ s' x dx H hs th kd, Sh s s' → x ≠ dx → x ≠ H → dx ≠ H → (∀ p ∈ rest, @LT.lt Nat _ p.1 x ∧ @LT.lt Nat _ p.1 dx ∧ @LT.lt Nat _ p.1 H) → Fr h₀ L s'.heap (fun y => if y = "table" then some (.ref x) else m y) →
    News h₀ L s'.heap ((x, instObj 221 dx) :: (dx, hdict hs th kd H) :: (H, PySem.W.listOf #[] 0) :: rest) → Q .next s') :
  wpAny (model prog w) A (exec (lawSt 4) (lawEnv L fa cd)) Q E s := by
  conv in (exec _ _) => arg 1; whnf
  have hh : A.handled = none := r.hd
  k_steps
  rename Fr _ _ _ _ => F₁
  rename News _ _ _ _ => N₁
  rename_i H h1x lr
  refine' call_cls F₁ X N₁ ?k4 ?k5 ?k6 ?_
  case k4 => k_is
  case k5 => k_is
  case k6 => k_is
  intro x dx h2 F2 N2 l1 l2
  have hHd := l1 (H, PySem.W.listOf #[] 0) (.head _)
  have hn : ∀ a ∈ [x, dx, H], h₀.get? a = none := fun a ha => by
    simp only [List.mem_cons, List.not_mem_nil, or_false] at ha
    rcases ha with rfl | rfl | rfl
    · exact (N2 _ (.head _)).2.2
    · exact (N2 _ (.tail _ (.head _))).2.2
    · exact (N2 _ (.tail _ (.tail _ (.head _)))).2.2
  refine init_call (Frag.In.keeps X (hide_keep F2.keep hn)) (T.keeps (hide_keep F2.keep hn)) ((r.less (by decide)).make) (N2 _ (.head _)).1 (N2 _ (.tail _ (.head _))).1 (N2 _ (.tail _ (.tail _ (.head _)))).1 hHd l2 fun s' hs th kd hsh hk hdx => ?_
  refine ⟨rfl, ?_⟩
  have hdL : L ≠ dx := (N2 _ (.tail _ (.head _))).2.1.symm
  have F3 := frBut F2 hk hdL (N2 _ (.tail _ (.head _))).2.2
  have hxH := Nat.lt_trans hHd l2
  have N3 : News h₀ L s'.heap ((x, instObj 221 dx) :: (dx, hdict hs th kd H) :: (H, PySem.W.listOf #[] 0) :: rest) := by
    intro p hp
    rcases List.mem_cons.mp hp with rfl | hp
    · exact ⟨hk _ _ (Nat.ne_of_gt l2) (N2 _ (.head _)).1, (N2 _ (.head _)).2⟩
    rcases List.mem_cons.mp hp with rfl | hp
    · exact ⟨hdx, (N2 _ (.tail _ (.head _))).2⟩
    · exact ⟨hk _ _ (Nat.ne_of_lt (l1 p hp)) (N2 _ (.tail _ (.tail _ hp))).1, (N2 _ (.tail _ (.tail _ hp))).2⟩
  clear F2 N2 F₁ N₁
  k_steps
  rename Fr _ _ _ _ => F4
  rename News _ _ _ _ => N4
  refine hQ _ x dx H hs th kd ⟨hsh.os, hsh.bare⟩ (Nat.ne_of_gt l2) (Nat.ne_of_gt hxH) (Nat.ne_of_gt hHd) (fun p hp => ⟨?_, l1 p (.tail _ hp), ?_⟩) F4 N4
  · exact Nat.lt_trans (l1 p (.tail _ hp)) l2
  · exact lr p hp

end Mine
end

section
local macro_rules | `(tactic| walk_at "serves nothing") => `(tactic| skip)
local macro_rules | `(tactic| walk_at "serves nothing") => `(tactic| skip)
local macro_rules | `(tactic| walk_at "serves nothing") => `(tactic| skip)
local macro_rules | `(tactic| walk_at "serves nothing") => `(tactic| skip)
local macro_rules | `(tactic| walk_at "serves nothing") => `(tactic| skip)
local macro_rules | `(tactic| walk_at "serves nothing") => `(tactic| skip)
local macro_rules | `(tactic| walk_at "serves nothing") => `(tactic| skip)
local macro_rules | `(tactic| walk_at "serves nothing") => `(tactic| skip)
local macro_rules | `(tactic| walk_at "serves nothing") => `(tactic| skip)
local macro_rules | `(tactic| walk_at "serves nothing") => `(tactic| skip)
theorem Mine.reset35 : True := by
  w_top off
  first | (walk1; done) | exact True.intro
set_option maxRecDepth 100000
set_option maxHeartbeats 8000000
namespace Mine
open PySem PySem.W PySem.Calls PyProof.Rows
theorem fill24 : PySem.Challenge.rw_us0021_01.foot = PySem.Challenge.rw_us0021_01.foot ∧ hd.heap_39 = hd.heap_39 := by
  k_fill
  exact ⟨rfl, rfl⟩
local macro_rules | `(tactic| walk_at "eval Name") => `(tactic| refine nameCL (by assumption) (by assumption) (by k_mem) (by assumption) ?_ (by rfl) (by rfl))
local macro_rules | `(tactic| walk_at "eval Name") => `(tactic| refine lcf_cell (by assumption) (by rfl) (by k_mem) (by assumption) ?_ (by rfl) (by rfl))
local macro_rules | `(tactic| walk_at "eval Name") => `(tactic| refine lcf_free (by assumption) (by rfl) (by k_mem) (by assumption) ?_ (by rfl) (by rfl))
local macro_rules | `(tactic| walk_at "eval ListComp") => `(tactic| refine hideP ?_)
local macro_rules | `(tactic| walk_at "subscriptTail") => `(tactic| ((with_reducible show wpAny _ _ (subscriptTail _ _ (Value.ref _) (Value.int _ _)) _ _ _); refine hideP ?_))
local macro_rules | `(tactic| walk_at "call builtin:max") => `(tactic| ((with_reducible show wpAny _ _ (call (Value.builtin "max") [Value.int _ _, Value.int _ _]) _ _ _); refine maxN (by assumption) (by assumption) (by assumption) ?_; intro h' tk' tv' F' N'; k_sweep))
local macro_rules | `(tactic| walk_at "call builtin:min") => `(tactic| ((with_reducible show wpAny _ _ (call (Value.builtin "min") [Value.int _ _, Value.int _ _]) _ _ _); refine minN (by assumption) (by assumption) (by assumption) ?_; intro h' tk' tv' F' N'; k_sweep))
local macro_rules | `(tactic| walk_at "call ref") => `(tactic| refine hideP ?_)

def keptEq (f : List Nat) (cut z : Nat) : Bool := encS (f.take (cut - z) ++ f.drop (cut - z + z)) == encS (f.take (min cut (f.length - z)) ++ f.drop (min cut (f.length - z) + z))
def alikeL (f : List Nat) (cut k : Nat) : List Nat := ((List.range k).filter fun i => keptEq f cut (i + 1)).map (· + 1)

theorem kept_get {f : List Nat} {z b : Nat} {vs : List Value} (hv : StrsAre vs (keptRow f z)) (hb : b ≤ f.length - z) : ∃ t, vs[b]? = some (.str (encS (f.take b ++ f.drop (b + z))) t) := by
  refine hv.at ?_
  unfold keptRow
  rw [List.getElem?_map, List.getElem?_range (by omega)]
  rfl

theorem alike_st {prog : Program} {w : World} {A : Around} {s : Shared} {p : Program} {loose : List Str} {mean : ExcName → Option Value} {mg mb : Str → Option Value} {h₀ : Heap} {L fa : Addr} {cd : Value} {m : Str → Option Value} {f : List Nat} {rest : List (Addr × Obj)}
  (X : (hd.heap_39 w.params).In h₀) (T : Top p loose mean mg mb h₀) (r : Rm 20 A) (hf7 : f.length ≤ 7) {DK : Addr} {ks : List Value} {nk cut : Nat} {tc t6 : Tok} {xs : List (Addr × Obj)} {o6 oK oC : Obj} (hcut : cut ≤ f.length)
  (F : Fr h₀ L s.heap m) (N : News h₀ L s.heap ((L + 6, o6) :: (L + 5, oK) :: (L + 2, oC) :: (DK, PySem.W.listOf ks.toArray nk) :: rest)) (d6 : o6.data = .cell (some (.int (cut : Int) t6))) (dK : oK.data = .cell (some (.ref DK))) (dC : oC.data = .cell (some (.int (f.length : Int) tc)))
  (hK : KeptOk f f.length ks xs) (hxs : ∀ p ∈ xs, p ∈ rest)
  {Q : Flow → Shared → Prop} {E : Value → Shared → Prop}
  (hQ : ∀ s' D as nn, Sh s s' → IntsAre as ((alikeL f cut f.length).map fun (n : Nat) => (n : Int)) → (∀ p ∈ (L + 6, o6) :: (L + 5, oK) :: (L + 2, oC) :: (DK, PySem.W.listOf ks.toArray nk) :: rest, @LT.lt Nat _ p.1 D) → Fr h₀ L s'.heap (fun y => if y = "alike" then some (.ref D) else m y) →
    News h₀ L s'.heap ((D, PySem.W.listOf as.toArray nn) :: (L + 6, o6) :: (L + 5, oK) :: (L + 2, oC) :: (DK, PySem.W.listOf ks.toArray nk) :: rest) → Q .next s') :
  wpAny (model prog w) A (exec (stAt (bodyOf (lawSt 5)) 0) (lawEnv L fa cd)) Q E s := by
  conv in (exec _ _) => arg 1; whnf
  have hh : A.handled = none := r.hd
  refine assignComp (h₀ := h₀) rfl rfl rfl (by decide) rfl rfl ?_
  k_steps
  rename (Heap.get? _ _ = some { cls := .type "range", dict := none, data := _, slots := _ }) => hr
  rename Fr _ _ _ _ => F₁
  rename News _ _ _ _ => N₁
  refine comp_rangeN (a := 1) (b := f.length + 1) hh hr (by omega) (by omega) (by omega) (by omega) (by decide) rfl rfl
    (fun i ys => IntsAre ys ((alikeL f cut i).map fun (n : Nat) => (n : Int))) .nil F₁ N₁ ?_ ?_
  · intro i ti ys nn s₁ oC' oI mC C I D hi hA hlen hsh hC hmC hlt hID hDC F₂ N₂
    have hin : i < f.length := by omega
    obtain ⟨a, vs, nv, hka, hax, hvs⟩ := hK.row i hin
    have hmx := (N₂ (a, PySem.W.listOf vs.toArray nv) (by simp [hxs _ hax])).1
    have hmk := (N₂ (DK, PySem.W.listOf ks.toArray nk) (by simp)).1
    obtain ⟨t1, hg1⟩ := kept_get (b := cut - (i + 1)) hvs (by omega)
    obtain ⟨t2, hg2⟩ := kept_get (b := min cut (f.length - (i + 1))) hvs (by omega)
    have hstep : alikeL f cut (i + 1) = alikeL f cut i ++ (if keptEq f cut (i + 1) = true then [i + 1] else []) := by
      unfold alikeL
      rw [List.range_succ, List.filter_append, List.map_append]
      congr 1
      rw [List.filter_cons]
      split <;> rfl
    clear N₁ F₁ hr
    refine wpAny_tests_one ?_
    k_steps
    unfold HideP
    refine item_litK (vs := ks) (v := .ref a) ⟨_, hmk, rfl, _, rfl⟩ (by omega) (by omega) (by rw [show (((1 + i : Nat) : Int) - 1).toNat = i by omega]; exact hka) ?_
    clear hmk hmx
    k_steps
    unfold HideP
    rename Fr _ _ _ _ => F₅
    rename News _ _ _ _ => N₅
    refine item_litK (vs := vs) ⟨_, (N₅ (a, PySem.W.listOf vs.toArray nv) (by simp [hxs _ hax])).1, rfl, _, rfl⟩ (by omega) (by omega) (by rw [show (max 0 ((cut : Int) - ((1 + i : Nat) : Int))).toNat = cut - (i + 1) by omega]; exact hg1) ?_
    k_steps
    unfold HideP
    rename Fr _ _ _ _ => F₆
    rename News _ _ _ _ => N₆
    refine item_litK (vs := ks) (v := .ref a) ⟨_, (N₆ (DK, PySem.W.listOf ks.toArray nk) (by simp)).1, rfl, _, rfl⟩ (by omega) (by omega) (by rw [show (((1 + i : Nat) : Int) - 1).toNat = i by omega]; exact hka) ?_
    (try clear F₅ N₅)
    k_steps
    unfold HideP
    rename Fr _ _ _ _ => F₇
    rename News _ _ _ _ => N₇
    refine item_litK (vs := vs) ⟨_, (N₇ (a, PySem.W.listOf vs.toArray nv) (by simp [hxs _ hax])).1, rfl, _, rfl⟩ (by omega) (by omega) (by rw [show (min (cut : Int) ((f.length : Int) - ((1 + i : Nat) : Int))).toNat = min cut (f.length - (i + 1)) by omega]; exact hg2) ?_
    (try clear F₆ N₆)
    k_steps
    · rename (_ == _) = true => hc
      replace hc : keptEq f cut (i + 1) = true := hc
      refine ⟨?_, ⟨hsh.os, hsh.bare⟩, F₇, N₇⟩
      rw [hstep, if_pos hc, List.map_append, Nat.add_comm 1 i]
      exact hA.append (.cons _ _ .nil)
    · rename (_ == _) = false => hc
      replace hc : keptEq f cut (i + 1) = false := hc
      refine ⟨?_, ⟨hsh.os, hsh.bare⟩, F₇, N₇⟩
      rw [hstep, if_neg (by rw [hc]; exact Bool.false_ne_true), List.append_nil]
      exact hA
  · intro s₃ as nn D hA hsh hlt F₃ N₃
    clear F₁ N₁
    rw [Nat.add_sub_cancel] at hA
    exact ⟨_, _, F₃, N₃, fun s' hsh' F₄ N₄ => hQ _ D as nn ⟨hsh'.os.trans hsh.os, fun g => hsh'.bare (hsh.bare g)⟩ hA hlt F₄ N₄⟩

def lett (b : Bool) (st : Nat) : Str := Txt.item (if b = true then Str.ofString "abcdefg" else Str.ofString "ABCDEFG") ((st : Int) - 1)
def sOf (k : Nat) : Str := Str.ofString (toString (k : Int))
def stepOf (f : List Nat) (cut : Nat) : Nat := (alikeL f cut f.length).headD 0
def nameAt (f : List Nat) (cut : Nat) : Str := lett (cut % 2 == 0) (stepOf f cut)
def rowsOf (f : List Nat) (k : Nat) : List (Str × Str) := (List.range k).map fun cut => (nameAt f cut, sOf cut)
structure TupOk (items : List Value) (rows : List (Str × Str)) (ts : List (Addr × Obj)) : Prop where
  len : items.length = rows.length
  at_ : ∀ (i : Nat) (v : Value), items[i]? = some v → ∃ a ti t1 t2, rows[i]? = some a ∧ v = Value.ref ti ∧ (ti, { cls := .type "tuple", data := .seq #[.str a.1 t1, .str a.2 t2] }) ∈ ts

theorem lett_ok : ∀ st, st < 8 → 1 ≤ st → ∀ b, (lett b st).length ≤ 10 ∧ noHit codeName (lett b st) = true := by decide +kernel
theorem sOf_ok : ∀ k, k < 8 → (sOf k).length ≤ 10 ∧ noHit codeVal (sOf k) = true := by decide +kernel

theorem addh_st {prog : Program} {w : World} {A : Around} {s : Shared} {p : Program} {loose : List Str} {mean : ExcName → Option Value} {mg mb : Str → Option Value} {h₀ : Heap} {L fa : Addr} {cd : Value} {m : Str → Option Value} {f : List Nat} {rest : List (Addr × Obj)}
  (X : (hd.heap_39 w.params).In h₀) (T : Top p loose mean mg mb h₀) (r : Rm 20 A) (hf7 : f.length ≤ 7) {x dx H : Addr} {hs : Int} {th t6 : Tok} {kd n na cut st : Nat} {items as : List Value} {tl : List Nat} {D : Addr} {o6 : Obj} (hcut : cut ≤ f.length)
  (F : Fr h₀ L s.heap (fun y => if y = "alike" then some (.ref D) else if y = "table" then some (.ref x) else m y))
  (N : News h₀ L s.heap ((H, PySem.W.listOf items.toArray n) :: (x, instObj 221 dx) :: (dx, hdict hs th kd H) :: (D, PySem.W.listOf as.toArray na) :: (L + 6, o6) :: rest)) (d6 : o6.data = .cell (some (.int (cut : Int) t6)))
  (hA : IntsAre as ((st :: tl).map fun (n : Nat) => (n : Int))) (h1 : 1 ≤ st) (h7 : st ≤ 7) (hit : items.length ≤ 100) (hne : ∀ p ∈ rest, p.1 ≠ H) (hHx : x ≠ H) (hHd : dx ≠ H) (hHD : D ≠ H) (hH6 : L + 6 ≠ H)
  {Q : Flow → Shared → Prop} {E : Value → Shared → Prop}
  (hQ : ∀ s' ti t1 t2 n', Sh s s' → s.heap.get? ti = none → Fr h₀ L s'.heap (fun y => if y = "alike" then some (.ref D) else if y = "table" then some (.ref x) else m y) →
    News h₀ L s'.heap ((ti, { cls := .type "tuple", data := .seq #[.str (lett (cut % 2 == 0) st) t1, .str (sOf cut) t2] }) :: (H, PySem.W.listOf (items ++ [Value.ref ti]).toArray n') :: (x, instObj 221 dx) :: (dx, hdict hs th kd H) :: (D, PySem.W.listOf as.toArray na) :: (L + 6, o6) :: rest) → Q .next s') :
  wpAny (model prog w) A (exec (stAt (bodyOf (lawSt 5)) 1) (lawEnv L fa cd)) Q E s := by
  conv in (exec _ _) => arg 1; whnf
  have hh : A.handled = none := r.hd
  obtain ⟨ta, as', rfl, _⟩ := hA.cons_inv
  have h1' : (1 : Int) ≤ (st : Int) := by omega
  have h7' : (st : Int) ≤ 7 := by omega
  have hc7 : (cut : Int) ≤ 7 := by omega
  have hc0 : (0 : Int) ≤ (cut : Int) := by omega
  have hfm := Int.fmod_eq_emod_of_nonneg (cut : Int) (show (0 : Int) ≤ 2 by decide)
  have hn : ∀ a ∈ [x, dx, H], h₀.get? a = none := fun a ha => by
    simp only [List.mem_cons, List.not_mem_nil, or_false] at ha
    rcases ha with rfl | rfl | rfl
    · exact (N _ (.tail _ (.head _))).2.2
    · exact (N _ (.tail _ (.tail _ (.head _)))).2.2
    · exact (N _ (.head _)).2.2
  have last : ∀ b, (cut % 2 == 0) = b → ∀ (t1 t2 : Tok) (s₁ : Shared), s₁.heap = s.heap → Sh s s₁ → wpAny (model prog w) A (call (.ref 218) [.ref x, .str (lett b st) t1, .str (sOf cut) t2]) (fun _ => Q .next) E s₁ := by
    intro b hb t1 t2 s₁ e₁ hsh₁
    obtain ⟨hn1, hn2⟩ := lett_ok st (by omega) h1 b
    obtain ⟨hv1, hv2⟩ := sOf_ok cut (by omega)
    have F₁ := F
    have N₁ := N
    rw [← e₁] at F₁ N₁
    refine wpAny_call (addh_call (x := x) (dx := dx) (H := H) (Frag.In.keeps X (hide_keep F₁.keep hn)) (T.keeps (hide_keep F₁.keep hn)) (r.less (by decide)) ⟨(N₁ _ (.tail _ (.head _))).1, (N₁ _ (.tail _ (.tail _ (.head _)))).1, (N₁ _ (.head _)).1⟩ hit hn1 hv1 hn2 hv2 fun s' ti t1 t2 n' hsh hk hfr hti hH => ?_)
    show Q .next s'
    rw [e₁] at hk hfr
    have hLs : ∃ o, s.heap.get? L = some o := by obtain ⟨o, _, _, ho, _⟩ := F.ns; exact ⟨o, ho⟩
    have hHL : L ≠ H := (N _ (.head _)).2.1.symm
    subst hb
    refine hQ s' ti t1 t2 n' (hsh₁.trans hsh) hfr (frBut F hk hHL (N _ (.head _)).2.2) ?_
    intro p hp
    rcases List.mem_cons.mp hp with rfl | hp
    · refine ⟨hti, fun q => ?_, ?_⟩
      · obtain ⟨o, ho⟩ := hLs
        rw [show ti = L from q, ho] at hfr; cases hfr
      · cases q : h₀.get? ti with
        | none => rfl
        | some o => rw [F.keep _ _ q] at hfr; cases hfr
    rcases List.mem_cons.mp hp with rfl | hp
    · exact ⟨hH, (N _ (.head _)).2⟩
    · refine ⟨hk _ _ ?_ (N p (.tail _ hp)).1, (N p (.tail _ hp)).2⟩
      rcases List.mem_cons.mp hp with rfl | hp
      · exact hHx
      rcases List.mem_cons.mp hp with rfl | hp
      · exact hHd
      rcases List.mem_cons.mp hp with rfl | hp
      · exact hHD
      rcases List.mem_cons.mp hp with rfl | hp
      · exact hH6
      · exact hne p hp
  k_steps
  · rename (Int.fmod _ _ = 0) => hm
    refine KXi.item (n := 7) (by decide) (by show -(7 : Int) ≤ (st : Int) - 1; omega) (by show (st : Int) - 1 < 7; omega) (by decide) fun _ => ?_
    k_steps
    unfold HideP
    refine last true ?_ _ _ _ rfl ⟨rfl, id⟩
    rw [beq_iff_eq]; omega
  · rename (Int.fmod _ _ ≠ 0) => hm
    refine KXi.item (n := 7) (by decide) (by show -(7 : Int) ≤ (st : Int) - 1; omega) (by show (st : Int) - 1 < 7; omega) (by decide) fun _ => ?_
    k_steps
    unfold HideP
    refine last false ?_ _ _ _ rfl ⟨rfl, id⟩
    rw [beq_eq_false_iff_ne]; omega


end Mine
end

section
theorem Mine.reset36 : True := by
  w_top off
  first | (walk1; done) | exact True.intro
set_option maxRecDepth 100000
set_option maxHeartbeats 8000000
namespace Mine
open PySem PySem.W PySem.Calls PyProof.Rows
theorem fill25 : PySem.Challenge.rw_us0021_01.foot = PySem.Challenge.rw_us0021_01.foot ∧ hd.heap_39 = hd.heap_39 := by
  k_fill
  exact ⟨rfl, rfl⟩
local macro_rules | `(tactic| walk_at "eval Name") => `(tactic| refine nameCL (by assumption) (by assumption) (by k_mem) (by assumption) ?_ (by rfl) (by rfl))
local macro_rules | `(tactic| walk_at "eval Name") => `(tactic| refine lcf_cell (by assumption) (by rfl) (by k_mem) (by assumption) ?_ (by rfl) (by rfl))
local macro_rules | `(tactic| walk_at "eval Name") => `(tactic| refine lcf_free (by assumption) (by rfl) (by k_mem) (by assumption) ?_ (by rfl) (by rfl))
local macro_rules | `(tactic| walk_at "eval ListComp") => `(tactic| refine hideP ?_)
local macro_rules | `(tactic| walk_at "call ref") => `(tactic| refine hideP ?_)

abbrev alM (x : Addr) (m : Str → Option Value) (v : Option Value) : Str → Option Value := fun y => if y = "alike" then v else if y = "table" then some (.ref x) else m y

structure CutI (f : List Nat) (H x L6 : Addr) (m : Str → Option Value) (I : Addr) (fx rest : List (Addr × Obj)) (i : Nat) (m₁ : Str → Option Value) (news₁ : List (Addr × Obj)) : Prop where
  ex : ∃ v items n ts, m₁ = alM x m v ∧ news₁ = (H, PySem.W.listOf (List.toArray items) n) :: (fx ++ (ts ++ rest)) ∧ TupOk items (rowsOf f i) ts ∧ (∀ p ∈ ts, p.1 ≠ I ∧ p.1 ≠ H ∧ p.1 ≠ L6 ∧ ∀ q ∈ fx ++ rest, p.1 ≠ q.1)

theorem TupOk.snoc {items : List Value} {rows : List (Str × Str)} {ts : List (Addr × Obj)} (h : TupOk items rows ts) {a : Str × Str} {ti : Addr} {t1 t2 : Tok} :
    TupOk (items ++ [Value.ref ti]) (rows ++ [a]) ((ti, { cls := .type "tuple", data := .seq #[.str a.1 t1, .str a.2 t2] }) :: ts) := by
  refine ⟨by simp [h.len], fun i v hv => ?_⟩
  rcases Nat.lt_or_ge i items.length with hi | hi
  · rw [List.getElem?_append_left hi] at hv
    obtain ⟨b, tj, u1, u2, e1, e2, e3⟩ := h.at_ i v hv
    exact ⟨b, tj, u1, u2, by rw [List.getElem?_append_left (by rw [← h.len]; exact hi)]; exact e1, e2, .tail _ e3⟩
  · have hle : i < (items ++ [Value.ref ti]).length := (List.getElem?_eq_some_iff.mp hv).1
    rw [List.length_append, List.length_singleton] at hle
    have hi' : i = items.length := by omega
    subst hi'
    rw [List.getElem?_append_right (Nat.le_refl _), Nat.sub_self] at hv
    obtain rfl := Option.some.inj hv
    exact ⟨a, ti, t1, t2, by rw [h.len, List.getElem?_append_right (Nat.le_refl _), Nat.sub_self]; rfl, rfl, .head _⟩

theorem law5 {prog : Program} {w : World} {A : Around} {s : Shared} {p : Program} {loose : List Str} {mean : ExcName → Option Value} {mg mb : Str → Option Value} {h₀ : Heap} {L fa : Addr} {cd : Value} {m : Str → Option Value} {f : List Nat} {rest : List (Addr × Obj)}
  (X : (hd.heap_39 w.params).In h₀) (T : Top p loose mean mg mb h₀) (r : Rm 20 A) (hf7 : f.length ≤ 7) {x dx H : Addr} {hs : Int} {th tc : Tok} {kd nk : Nat} {DK : Addr} {ks : List Value} {xs : List (Addr × Obj)} {o6 oK oC : Obj}
  (F : Fr h₀ L s.heap (fun y => if y = "table" then some (.ref x) else m y))
  (N : News h₀ L s.heap ((L + 6, o6) :: (H, PySem.W.listOf #[] 0) :: (x, instObj 221 dx) :: (dx, hdict hs th kd H) :: (L + 5, oK) :: (L + 2, oC) :: (DK, PySem.W.listOf ks.toArray nk) :: rest))
  (d6 : o6.data = .cell none) (dK : oK.data = .cell (some (.ref DK))) (dC : oC.data = .cell (some (.int (f.length : Int) tc))) (hK : KeptOk f f.length ks xs) (hxs : ∀ p ∈ xs, p ∈ rest)
  (hal : ∀ cut, cut ≤ f.length → ∃ st tl, alikeL f cut f.length = st :: tl)
  (hneH : ∀ p ∈ [(x, instObj 221 dx), (dx, hdict hs th kd H), (L + 5, oK), (L + 2, oC), (DK, PySem.W.listOf ks.toArray nk)] ++ rest, p.1 ≠ H) (h6H : L + 6 ≠ H)
  (hne6 : ∀ p ∈ [(x, instObj 221 dx), (dx, hdict hs th kd H), (L + 5, oK), (L + 2, oC), (DK, PySem.W.listOf ks.toArray nk)] ++ rest, p.1 ≠ L + 6)
  {Q : Flow → Shared → Prop} {E : Value → Shared → Prop}
  (hQ : ∀ s' o6' v6 v items n ts, Sh s s' → o6'.data = .cell v6 → TupOk items (rowsOf f (f.length + 1)) ts → (∀ p ∈ ts, p.1 ≠ H ∧ p.1 ≠ L + 6 ∧ ∀ q ∈ [(x, instObj 221 dx), (dx, hdict hs th kd H), (L + 5, oK), (L + 2, oC), (DK, PySem.W.listOf ks.toArray nk)] ++ rest, p.1 ≠ q.1) → Fr h₀ L s'.heap (alM x m v) →
    News h₀ L s'.heap ((L + 6, o6') :: (H, PySem.W.listOf (List.toArray items) n) :: (x, instObj 221 dx) :: (dx, hdict hs th kd H) :: (L + 5, oK) :: (L + 2, oC) :: (DK, PySem.W.listOf ks.toArray nk) :: (ts ++ rest)) → Q .next s') :
  wpAny (model prog w) A (exec (lawSt 5) (lawEnv L fa cd)) Q E s := by
  conv in (exec _ _) => arg 1; whnf
  have hh : A.handled = none := r.hd
  refine wpAny_For ?_
  k_steps
  rename (Heap.get? _ _ = some { cls := .type "range", dict := none, data := _, slots := _ }) => hr
  rename Fr _ _ _ _ => F₁
  rename News _ _ _ _ => N₁
  rename_i h5 tk5 ta tb tcc hkeep
  have mem_fx : ∀ p, p ∈ [(x, instObj 221 dx), (dx, hdict hs th kd H), (L + 5, oK), (L + 2, oC), (DK, PySem.W.listOf ks.toArray nk)] ++ rest → h5.get? p.1 = some p.2 := fun p hp => (N₁ p (.tail _ (.tail _ hp))).1
  refine' loop_rangeCN (a := 0) (b := f.length + 1) (env := lawEnv L fa cd) (x := "cut") (c := L + 6) (oc := o6) hh ?hr rfl ?eb (by decide) (by omega) rfl rfl rfl d6
    (fun i m₁ news₁ => CutI f H x (L + 6) m h5.objs.size [(x, instObj 221 dx), (dx, hdict hs th kd H), (L + 5, oK), (L + 2, oC), (DK, PySem.W.listOf ks.toArray nk)] rest i m₁ news₁) (m := alM x m (m "alike")) (news := (H, PySem.W.listOf #[] 0) :: ([(x, instObj 221 dx), (dx, hdict hs th kd H), (L + 5, oK), (L + 2, oC), (DK, PySem.W.listOf ks.toArray nk)] ++ ([] ++ rest))) ?I0 ?FF ?NN ?hn ?turn ?done
  case hr => exact hr
  case eb => rfl
  case I0 => exact ⟨m "alike", [], 0, [], rfl, rfl, ⟨rfl, fun i v h => by simp at h⟩, fun p hp => by simp at hp⟩
  case FF =>
    refine frCast F₁ ?_
    intro y
    by_cases e1 : y = "alike"
    · subst e1; rfl
    · simp only [alM, if_neg e1]
  case NN => exact N₁
  case hn =>
    rintro i m₁ news₁ ⟨v, items, n, ts, rfl, rfl, _, hts⟩ p hp
    rcases List.mem_cons.mp hp with rfl | hp
    · exact ⟨Nat.ne_of_lt (Heap.lt_size (N₁ _ (.tail _ (.head _))).1), Ne.symm h6H⟩
    rcases List.mem_append.mp hp with hp | hp
    · exact ⟨Nat.ne_of_lt (Heap.lt_size (mem_fx p (List.mem_append_left _ hp))), hne6 p (List.mem_append_left _ hp)⟩
    rcases List.mem_append.mp hp with hp | hp
    · exact ⟨(hts p hp).1, (hts p hp).2.2.1⟩
    · exact ⟨Nat.ne_of_lt (Heap.lt_size (mem_fx p (List.mem_append_right _ hp))), hne6 p (List.mem_append_right _ hp)⟩
  case turn =>
    rintro i t o oc s₁ m₁ news₁ hi ⟨v, items, n, ts, rfl, rfl, hTup, hts⟩ hsh hoc F₂ N₂
    rw [Nat.zero_add] at hoc
    replace N₂ : News h₀ L s₁.heap ((h5.objs.size, o) :: (L + 6, oc) :: (H, PySem.W.listOf items.toArray n) :: (x, instObj 221 dx) :: (dx, hdict hs th kd H) :: (L + 5, oK) :: (L + 2, oC) :: (DK, PySem.W.listOf ks.toArray nk) :: (ts ++ rest)) := N₂
    have hcut : i ≤ f.length := by omega
    obtain ⟨st, tl, hst⟩ := hal i hcut
    have hst2 : 1 ≤ st ∧ st ≤ 7 := by
      have hm : st ∈ alikeL f i f.length := by rw [hst]; exact .head _
      unfold alikeL at hm
      obtain ⟨j, hj, rfl⟩ := List.mem_map.mp hm
      have := List.mem_range.mp (List.mem_filter.mp hj).1
      omega
    have N₂' : News h₀ L s₁.heap ((L + 6, oc) :: (L + 5, oK) :: (L + 2, oC) :: (DK, PySem.W.listOf ks.toArray nk) :: (h5.objs.size, o) :: (H, PySem.W.listOf items.toArray n) :: (x, instObj 221 dx) :: (dx, hdict hs th kd H) :: (ts ++ rest)) := news_sub N₂ (by
      intro p hp
      simp only [List.mem_cons, List.mem_append] at hp ⊢
      rcases hp with rfl | rfl | rfl | rfl | rfl | rfl | rfl | rfl | hp | hp
      all_goals first | (simp; done) | (simp [hp]; done) | (simp [*]; done))
    refine wpAny_execs_cons (alike_st (L := L) (cd := cd) (fa := fa) X T r hf7 hcut F₂ N₂' hoc dK dC hK (fun p hp => ?_) fun s' D as nn hsh' hA hlt F₃ N₃ => ?_)
    · simp [hxs p hp]
    · rw [hst] at hA
      have F₄ : Fr h₀ L s'.heap (fun y => if y = "alike" then some (.ref D) else if y = "table" then some (.ref x) else m y) := frCast F₃ (by
        intro y
        by_cases e1 : y = "alike"
        · subst e1; rfl
        · simp only [alM, if_neg e1])
      have hDH : D ≠ H := Nat.ne_of_gt (hlt (H, PySem.W.listOf items.toArray n) (by simp))
      have N₃' : News h₀ L s'.heap ((H, PySem.W.listOf items.toArray n) :: (x, instObj 221 dx) :: (dx, hdict hs th kd H) :: (D, PySem.W.listOf as.toArray nn) :: (L + 6, oc) :: (h5.objs.size, o) :: (L + 5, oK) :: (L + 2, oC) :: (DK, PySem.W.listOf ks.toArray nk) :: (ts ++ rest)) := news_sub N₃ (by
        intro p hp
        simp only [List.mem_cons, List.mem_append] at hp ⊢
        rcases hp with rfl | rfl | rfl | rfl | rfl | rfl | rfl | rfl | rfl | hp | hp
        all_goals first | (simp; done) | (simp [hp]; done) | (simp [*]; done))
      refine wpAny_execs_cons (addh_st (L := L) (cd := cd) (fa := fa) X T r hf7 hcut F₄ N₃' hoc hA hst2.1 hst2.2 ?_ ?_ (hneH _ (.head _)) (hneH _ (.tail _ (.head _))) hDH h6H fun s'' ti t1 t2 n' hsh'' hfr F₅ N₅ => ?_)
      · rw [hTup.len]; unfold rowsOf; rw [List.length_map, List.length_range]; omega
      · intro p hp
        rcases List.mem_cons.mp hp with rfl | hp
        · exact Nat.ne_of_gt (Heap.lt_size (N₁ _ (.tail _ (.head _))).1)
        rcases List.mem_cons.mp hp with rfl | hp
        · exact hneH _ (by simp)
        rcases List.mem_cons.mp hp with rfl | hp
        · exact hneH _ (by simp)
        rcases List.mem_cons.mp hp with rfl | hp
        · exact hneH _ (by simp)
        rcases List.mem_append.mp hp with hp | hp
        · exact (hts p hp).2.1
        · exact hneH _ (List.mem_append_right _ hp)
      · have hnm : nameAt f i = lett (i % 2 == 0) st := by unfold nameAt stepOf; rw [hst]; rfl
        have hrows : rowsOf f (i + 1) = rowsOf f i ++ [(nameAt f i, sOf i)] := by unfold rowsOf; rw [List.range_succ, List.map_append]; rfl
        have hnew : ∀ p ∈ (D, PySem.W.listOf as.toArray nn) :: (L + 6, oc) :: (L + 5, oK) :: (L + 2, oC) :: (DK, PySem.W.listOf ks.toArray nk) :: (h5.objs.size, o) :: (H, PySem.W.listOf items.toArray n) :: (x, instObj 221 dx) :: (dx, hdict hs th kd H) :: (ts ++ rest), ti ≠ p.1 := fun p hp q => by
          have := (N₃ p hp).1
          rw [← q, hfr] at this
          cases this
        refine wpAny_execs_nil ⟨_, _, oc, _, ⟨some (.ref D), items ++ [Value.ref ti], n', (ti, { cls := .type "tuple", data := .seq #[.str (nameAt f i) t1, .str (sOf i) t2] }) :: ts, rfl, rfl, ?_, ?_⟩, hoc, hsh.trans (hsh'.trans hsh''), F₅, news_sub N₅ ?_⟩
        · rw [hrows]; exact hTup.snoc (a := (nameAt f i, sOf i))
        · intro p hp
          rcases List.mem_cons.mp hp with rfl | hp
          · refine ⟨hnew (h5.objs.size, o) (by simp), hnew (H, PySem.W.listOf items.toArray n) (by simp), hnew (L + 6, oc) (by simp), fun q hq => hnew q ?_⟩
            simp only [List.mem_cons, List.mem_append, List.not_mem_nil, or_false] at hq ⊢
            rcases hq with (rfl | rfl | rfl | rfl | rfl) | hq
            all_goals first | (simp; done) | (simp [hp]; done) | (simp [*]; done)
          · exact hts p hp
        · intro p hp
          rw [hnm] at hp
          simp only [List.mem_cons, List.mem_append, List.cons_append, List.nil_append] at hp ⊢
          rcases hp with rfl | rfl | rfl | rfl | rfl | rfl | rfl | rfl | rfl | hp | hp
          all_goals first | (simp; done) | (simp [hp]; done) | (simp [*]; done)
  case done =>
    rintro s₃ m₃ news₃ oc v₀ ⟨v, items, n, ts, rfl, rfl, hTup, hts⟩ hsh hoc F₃ N₃
    exact hQ s₃ oc v₀ v items n ts ⟨hsh.os, hsh.bare⟩ hoc hTup (fun p hp => (hts p hp).2) F₃ N₃

end Mine
end

section
local macro_rules | `(tactic| walk_at "serves nothing") => `(tactic| skip)
local macro_rules | `(tactic| walk_at "serves nothing") => `(tactic| skip)
local macro_rules | `(tactic| walk_at "serves nothing") => `(tactic| skip)
local macro_rules | `(tactic| walk_at "serves nothing") => `(tactic| skip)
local macro_rules | `(tactic| walk_at "serves nothing") => `(tactic| skip)
local macro_rules | `(tactic| walk_at "serves nothing") => `(tactic| skip)
local macro_rules | `(tactic| walk_at "serves nothing") => `(tactic| skip)
local macro_rules | `(tactic| walk_at "serves nothing") => `(tactic| skip)
local macro_rules | `(tactic| walk_at "serves nothing") => `(tactic| skip)
local macro_rules | `(tactic| walk_at "serves nothing") => `(tactic| skip)
theorem Mine.reset37 : True := by
  w_top off
  first | (walk1; done) | exact True.intro
set_option maxRecDepth 100000
set_option maxHeartbeats 8000000
namespace Mine
open PySem PySem.W PySem.Calls PyProof.Rows
theorem fill26 : PySem.Challenge.rw_us0021_01.foot = PySem.Challenge.rw_us0021_01.foot ∧ hd.heap_39 = hd.heap_39 := by
  k_fill
  exact ⟨rfl, rfl⟩
local macro_rules | `(tactic| walk_at "eval Name") => `(tactic| refine nameCL (by assumption) (by assumption) (by k_mem) (by assumption) ?_ (by rfl) (by rfl))
local macro_rules | `(tactic| walk_at "eval Name") => `(tactic| refine lcf_cell (by assumption) (by rfl) (by k_mem) (by assumption) ?_ (by rfl) (by rfl))
local macro_rules | `(tactic| walk_at "eval Name") => `(tactic| refine lcf_free (by assumption) (by rfl) (by k_mem) (by assumption) ?_ (by rfl) (by rfl))
local macro_rules | `(tactic| walk_at "eval ListComp") => `(tactic| refine hideP ?_)
local macro_rules | `(tactic| walk_at "call ref") => `(tactic| refine hideP ?_)

structure Least (f : List Nat) (cut st : Nat) : Prop where
  lo : 1 ≤ st
  hi : st ≤ f.length
  loc : locB f cut st = true
  min : ∀ q, 1 ≤ q → q < st → locB f cut q = false
structure DueOk (f : List Nat) (i : Nat) (ds : List Nat) : Prop where
  len : ds.length = i
  at_ : ∀ j d, ds[j]? = some d → Least f j d

theorem law6 {prog : Program} {w : World} {A : Around} {s : Shared} {p : Program} {loose : List Str} {mean : ExcName → Option Value} {mg mb : Str → Option Value} {h₀ : Heap} {L fa : Addr} {cd : Value} {m : Str → Option Value} {f : List Nat} {rest : List (Addr × Obj)}
  (X : (hd.heap_39 w.params).In h₀) (T : Top p loose mean mg mb h₀) (r : Rm 20 A) (hf7 : f.length ≤ 7) {D : Addr} {vs : List Value} {nv : Nat} {tc : Tok} {oF oC oD : Obj} (hpos : 0 < f.length)
  (F : Fr h₀ L s.heap m) (N : News h₀ L s.heap ((L + 7, oD) :: (L + 1, oF) :: (L + 2, oC) :: (D, PySem.W.listOf vs.toArray nv) :: rest)) (dF : oF.data = .cell (some (.ref D))) (dC : oC.data = .cell (some (.int (f.length : Int) tc))) (dD : oD.data = .cell none)
  (hv : IntsAre vs (f.map fun (n : Nat) => (n : Int))) (hne : ∀ p ∈ (L + 1, oF) :: (L + 2, oC) :: (D, PySem.W.listOf vs.toArray nv) :: rest, p.1 ≠ L + 7)
  {Q : Flow → Shared → Prop} {E : Value → Shared → Prop}
  (hQ : ∀ s' o' D' ys nn ds, Sh s s' → o'.data = .cell (some (.ref D')) → DueOk f (f.length + 1) ds → IntsAre ys (ds.map fun (n : Nat) => (n : Int)) → (∀ p ∈ (L + 7, oD) :: (L + 1, oF) :: (L + 2, oC) :: (D, PySem.W.listOf vs.toArray nv) :: rest, @LT.lt Nat _ p.1 D') → Fr h₀ L s'.heap m →
    News h₀ L s'.heap ((L + 7, o') :: (D', PySem.W.listOf ys.toArray nn) :: (L + 1, oF) :: (L + 2, oC) :: (D, PySem.W.listOf vs.toArray nv) :: rest) → Q .next s') :
  wpAny (model prog w) A (exec (lawSt 6) (lawEnv L fa cd)) Q E s := by
  conv in (exec _ _) => arg 1; whnf
  have hh : A.handled = none := r.hd
  k_steps
  unfold HideP
  refine evalComp rfl rfl (by decide) ?_
  k_steps
  rename (Heap.get? _ _ = some { cls := .type "range", dict := none, data := _, slots := _ }) => hr
  rename Fr _ _ _ _ => F₁
  rename News _ _ _ _ => N₁
  refine comp_rangeN (a := 0) (b := f.length + 1) hh hr rfl rfl (by omega) (by omega) (by decide) rfl rfl
    (fun i ys => ∃ ds, DueOk f i ds ∧ IntsAre ys (ds.map fun (n : Nat) => (n : Int))) ⟨[], ⟨rfl, fun j d h => by simp at h⟩, .nil⟩ F₁ N₁ ?_ ?_
  · rintro i ti ys nn s₁ oC' oI mC C I D' hi ⟨ds, hds, hys⟩ hlen hsh hC hmC hlt hID hDC F₂ N₂
    rw [Nat.zero_add] at hmC
    refine wpAny_tests_nil ?_
    rw [if_pos rfl]
    k_steps
    unfold HideP
    have hm := (N₂ (D, PySem.W.listOf vs.toArray nv) (by simp)).1
    refine wpAny_call (loc_call (Frag.In.keeps X F₂.keep) (T.keeps F₂.keep) (r.less (by decide)) ⟨_, hm, rfl, _, rfl⟩ hv hf7 (by omega) hpos fun st h1 h2 h3 h4 s' t hk => ?_)
    refine ⟨⟨ds ++ [st], ⟨by simp [hds.len], fun j d hd => ?_⟩, ?_⟩, ⟨hk.os.trans hsh.os, fun g => hk.bare (hsh.bare g)⟩, F₂.after hk.le, Mine.News.le N₂ hk.le⟩
    · rcases Nat.lt_or_ge j ds.length with hj | hj
      · rw [List.getElem?_append_left hj] at hd
        exact hds.at_ j d hd
      · have hle := (List.getElem?_eq_some_iff.mp hd).1
        rw [List.length_append, List.length_singleton] at hle
        have hj' : j = ds.length := by omega
        subst hj'
        rw [List.getElem?_append_right (Nat.le_refl _), Nat.sub_self] at hd
        obtain rfl := Option.some.inj hd
        rw [hds.len]
        exact ⟨h1, h2, h3, h4⟩
    · rw [List.map_append]
      exact hys.append (.cons _ _ .nil)
  · rintro s₃ ys nn D' ⟨ds, hds, hys⟩ hsh hlt F₃ N₃
    clear F₁ N₁
    k_steps
    refine store_cell (c := L + 7) (o := oD) (rest := (D', PySem.W.listOf ys.toArray nn) :: (L + 1, oF) :: (L + 2, oC) :: (D, PySem.W.listOf vs.toArray nv) :: rest) rfl rfl rfl F₃ (news_sub N₃ ?_) ?_ dD fun h' o' d F' N' => ?_
    · intro p hp
      simp only [List.mem_cons] at hp ⊢
      rcases hp with rfl | rfl | rfl | rfl | rfl | hp
      all_goals first | (simp; done) | (simp [hp]; done)
    · intro p hp
      rcases List.mem_cons.mp hp with rfl | hp
      · exact (Nat.ne_of_lt (hlt _ (.head _))).symm
      · exact hne p hp
    · exact hQ _ o' D' ys nn ds ⟨hsh.os, hsh.bare⟩ d hds hys hlt F' N'

theorem law8 {prog : Program} {w : World} {A : Around} {s : Shared} {p : Program} {loose : List Str} {mean : ExcName → Option Value} {mg mb : Str → Option Value} {h₀ : Heap} {L fa : Addr} {cd : Value} {m : Str → Option Value} {f : List Nat} {rest : List (Addr × Obj)}
  (X : (hd.heap_39 w.params).In h₀) (T : Top p loose mean mg mb h₀) (r : Rm 20 A) (hf7 : f.length ≤ 7) {DU : Addr} {us : List Value} {nu : Nat} {oU oW : Obj}
  (F : Fr h₀ L s.heap m) (N : News h₀ L s.heap ((L + 8, oW) :: (L + 3, oU) :: (DU, PySem.W.listOf us.toArray nu) :: rest)) (dU : oU.data = .cell (some (.ref DU))) (dW : oW.data = .cell none)
  (hu : StrsAre us (f.map un)) (hne : ∀ p ∈ (L + 3, oU) :: (DU, PySem.W.listOf us.toArray nu) :: rest, p.1 ≠ L + 8)
  {Q : Flow → Shared → Prop} {E : Value → Shared → Prop}
  (hQ : ∀ s' o' t, Sh s s' → o'.data = .cell (some (.str (encS f) t)) → Fr h₀ L s'.heap m → News h₀ L s'.heap ((L + 8, o') :: (L + 3, oU) :: (DU, PySem.W.listOf us.toArray nu) :: rest) → Q .next s') :
  wpAny (model prog w) A (exec (lawSt 8) (lawEnv L fa cd)) Q E s := by
  conv in (exec _ _) => arg 1; whnf
  have hh : A.handled = none := r.hd
  k_steps
  have hall : ∀ y ∈ f.map un, y.length ≤ 2 := fun y hy => by
    obtain ⟨k, _, rfl⟩ := List.mem_map.mp hy
    exact (uc_len k).2
  have hcnt : (f.map un).length ≤ 30 := by rw [List.length_map]; omega
  have hsum := sum_le_of (f := fun x => x.length) (f.map un) hall
  refine join_listC (ys := f.map un) ⟨_, (N (DU, PySem.W.listOf us.toArray nu) (by simp)).1, rfl, _, rfl⟩ hu (by show (0 : Nat) ≤ 64; decide) ?hS ?_
  case hS => omega
  intro tj kj
  rw [join_un]
  refine store_cell (c := L + 8) (o := oW) (rest := (L + 3, oU) :: (DU, PySem.W.listOf us.toArray nu) :: rest) rfl rfl rfl F N hne dW fun h' o' d F' N' => ?_
  exact hQ _ o' tj ⟨rfl, id⟩ d F' N'

theorem law10 {prog : Program} {w : World} {A : Around} {s : Shared} {p : Program} {loose : List Str} {mean : ExcName → Option Value} {mg mb : Str → Option Value} {h₀ : Heap} {L fa : Addr} {cd : Value} {m : Str → Option Value} {f : List Nat} {rest : List (Addr × Obj)}
  (X : (hd.heap_39 w.params).In h₀) (T : Top p loose mean mg mb h₀) (r : Rm 20 A) (hf7 : f.length ≤ 7) {st : Nat} {t : Tok}
  (F : Fr h₀ L s.heap (fun y => if y = "step" then some (.int (st : Int) t) else m y)) (N : News h₀ L s.heap rest) (h1 : 1 ≤ st) (h7 : st ≤ 7)
  {Q : Flow → Shared → Prop} {E : Value → Shared → Prop}
  (hQ : ∀ s' t', Sh s s' → Fr h₀ L s'.heap (fun y => if y = "letter" then some (.str (lett true st) t') else if y = "step" then some (.int (st : Int) t) else m y) → News h₀ L s'.heap rest → Q .next s') :
  wpAny (model prog w) A (exec (lawSt 10) (lawEnv L fa cd)) Q E s := by
  conv in (exec _ _) => arg 1; whnf
  have hh : A.handled = none := r.hd
  have h1' : (1 : Int) ≤ (st : Int) := by omega
  have h7' : (st : Int) ≤ 7 := by omega
  k_steps
  rename Fr _ _ _ _ => F₁
  rename News _ _ _ _ => N₁
  exact hQ _ _ ⟨rfl, id⟩ F₁ N₁

end Mine
end

section
theorem Mine.reset38 : True := by
  w_top off
  first | (walk1; done) | exact True.intro
set_option maxRecDepth 100000
set_option maxHeartbeats 8000000
namespace Mine
open PySem PySem.W PySem.Calls PyProof.Rows
theorem fill27 : PySem.Challenge.rw_us0021_01.foot = PySem.Challenge.rw_us0021_01.foot ∧ hd.heap_39 = hd.heap_39 := by
  k_fill
  exact ⟨rfl, rfl⟩
local macro_rules | `(tactic| walk_at "eval Name") => `(tactic| refine nameCL (by assumption) (by assumption) (by k_mem) (by assumption) ?_ (by rfl) (by rfl))
local macro_rules | `(tactic| walk_at "eval Name") => `(tactic| refine lcf_cell (by assumption) (by rfl) (by k_mem) (by assumption) ?_ (by rfl) (by rfl))
local macro_rules | `(tactic| walk_at "eval Name") => `(tactic| refine lcf_free (by assumption) (by rfl) (by k_mem) (by assumption) ?_ (by rfl) (by rfl))
local macro_rules | `(tactic| walk_at "eval ListComp") => `(tactic| refine hideP ?_)
local macro_rules | `(tactic| walk_at "call ref") => `(tactic| refine hideP ?_)

def gname (st : Nat) : Str := Txt.item (Str.ofString "aBcDeFg") ((st : Int) - 1)
theorem gname_ok : ∀ st, st < 8 → 1 ≤ st → Builtin.Str.tooLong (Txt.lower (gname st)).length = false ∧ (Txt.lower (gname st)).length ≤ 10 ∧ noHit codeName (Txt.lower (gname st)) = true := by decide +kernel

theorem TupOk.rows {h₀ h : Heap} {L : Addr} {items : List Value} {rows : List (Str × Str)} {ts news : List (Addr × Obj)} (x : TupOk items rows ts) (N : News h₀ L h news) (hts : ∀ p ∈ ts, p ∈ news) : RowsAre h items rows :=
  ⟨x.len, fun i v hv => let ⟨a, ti, t1, t2, h1, h2, h3⟩ := x.at_ i v hv; ⟨a, h1, ti, t1, t2, h2, (N _ (hts _ h3)).1⟩⟩

theorem get_st {prog : Program} {w : World} {A : Around} {s : Shared} {p : Program} {loose : List Str} {mean : ExcName → Option Value} {mg mb : Str → Option Value} {h₀ : Heap} {L fa : Addr} {cd : Value} {m : Str → Option Value} {f : List Nat} {rest : List (Addr × Obj)}
  (X : (hd.heap_39 w.params).In h₀) (T : Top p loose mean mg mb h₀) (r : Rm 20 A) (hf7 : f.length ≤ 7) {x dx H DD : Addr} {hs : Int} {th tc t4 : Tok} {kd n nd sz : Nat} {items dvs : List Value} {ts : List (Addr × Obj)} {ds : List Nat} {v : Option Value} {o4 oC oD : Obj} (hs1 : 1 ≤ sz) (hs2 : sz ≤ f.length)
  (F : Fr h₀ L s.heap (alM x m v))
  (N : News h₀ L s.heap ((L + 4, o4) :: (L + 2, oC) :: (L + 7, oD) :: (DD, PySem.W.listOf dvs.toArray nd) :: (H, PySem.W.listOf items.toArray n) :: (x, instObj 221 dx) :: (dx, hdict hs th kd H) :: rest))
  (d4 : o4.data = .cell (some (.int (sz : Int) t4))) (dC : oC.data = .cell (some (.int (f.length : Int) tc))) (dD : oD.data = .cell (some (.ref DD)))
  (hds : IntsAre dvs (ds.map fun (n : Nat) => (n : Int))) (hdl : ds.length = f.length + 1)
  (hTup : TupOk items (rowsOf f (f.length + 1)) ts) (hts : ∀ p ∈ ts, p ∈ rest)
  (hgs : getV (rowsOf f (f.length + 1)) (gname sz) = ((List.range (f.length + 1)).filter fun c => ds.getD c 0 == sz).map sOf)
  (hrl : ∀ a ∈ rowsOf f (f.length + 1), Builtin.Str.tooLong (Txt.lower a.1).length = false)
  {Q : Flow → Shared → Prop} {E : Value → Shared → Prop}
  (hQ : ∀ s', Sh s s' → Fr h₀ L s'.heap (alM x m v) →
    News h₀ L s'.heap ((L + 4, o4) :: (L + 2, oC) :: (L + 7, oD) :: (DD, PySem.W.listOf dvs.toArray nd) :: (H, PySem.W.listOf items.toArray n) :: (x, instObj 221 dx) :: (dx, hdict hs th kd H) :: rest) → Q .next s') :
  wpAny (model prog w) A (exec (stAt (bodyOf (lawSt 7)) 0) (lawEnv L fa cd)) Q E s := by
  conv in (exec _ _) => arg 1; whnf
  have hh : A.handled = none := r.hd
  have h1' : (1 : Int) ≤ (sz : Int) := by omega
  have h7' : (sz : Int) ≤ 7 := by omega
  obtain ⟨hg1, hg2, hg3⟩ := gname_ok sz (by omega) hs1
  have hn : ∀ a ∈ [x, dx, H], h₀.get? a = none := fun a ha => by
    simp only [List.mem_cons, List.not_mem_nil, or_false] at ha
    rcases ha with rfl | rfl | rfl
    · exact (N (_, instObj 221 dx) (by simp)).2.2
    · exact (N (_, hdict hs th kd H) (by simp)).2.2
    · exact (N (_, PySem.W.listOf items.toArray n) (by simp)).2.2
  k_steps
  unfold HideP
  refine wpAny_call ?_
  refine' getall_call (x := x) (dx := dx) (H := H) (name := gname sz) (rows := rowsOf f (f.length + 1)) ?hX ?hT (r.less (by decide)) ?hB ?hW hrl ?hN hg1 hg2 hg3 fun s' DG vs ng hk hfr hDG hvs => ?_
  case hX => exact Frag.In.keeps X (hide_keep F.keep hn)
  case hT => exact T.keeps (hide_keep F.keep hn)
  case hB => exact ⟨(N (x, instObj 221 dx) (by simp)).1, (N (dx, hdict hs th kd H) (by simp)).1, (N (H, PySem.W.listOf items.toArray n) (by simp)).1⟩
  case hW => exact hTup.rows N fun p hp => by simp [hts p hp]
  case hN => unfold rowsOf; rw [List.length_map, List.length_range]; omega
  have F₁ := F.after hk.le
  have N₁ := news_add F N hk.le hfr hDG
  rw [hgs] at hvs
  clear F N
  dsimp only
  k_steps
  unfold HideP
  refine evalComp rfl rfl (by decide) ?_
  k_steps
  rename (Heap.get? _ _ = some { cls := .type "range", dict := none, data := _, slots := _ }) => hr
  rename Fr _ _ _ _ => F₂
  rename News _ _ _ _ => N₂
  refine comp_rangeN (a := 0) (b := f.length + 1) hh hr rfl rfl (by omega) (by omega) (by decide) rfl rfl
    (fun i ys => StrsAre ys (((List.range i).filter fun c => ds.getD c 0 == sz).map sOf)) .nil F₂ N₂ ?_ ?_
  · intro i ti ys nn s₁ oC' oI mC C I D hi hA hlen hsh hC hmC hlt hID hDC F₃ N₃
    rw [Nat.zero_add] at hmC
    have hi7 : (i : Int) ≤ 7 := by omega
    have hi0 : (0 : Int) ≤ (i : Int) := by omega
    have hdl' : (ds.map fun (n : Nat) => (n : Int)).length = f.length + 1 := by rw [List.length_map]; exact hdl
    have hil : (i : Int) < ((ds.map fun (n : Nat) => (n : Int)).length : Int) := by rw [hdl']; omega
    have hgd : (ds.map fun (n : Nat) => (n : Int)).getD (i : Int).toNat 0 = ((ds.getD i 0 : Nat) : Int) := by
      rw [Int.toNat_natCast, List.getD_eq_getElem?_getD, List.getElem?_map, List.getD_eq_getElem?_getD]
      cases ds[i]? <;> rfl
    have hstep : ((List.range (i + 1)).filter fun c => ds.getD c 0 == sz).map sOf = ((List.range i).filter fun c => ds.getD c 0 == sz).map sOf ++ (if (ds.getD i 0 == sz) = true then [sOf i] else []) := by
      rw [List.range_succ, List.filter_append, List.map_append]
      congr 1
      rw [List.filter_cons]
      split <;> rfl
    clear F₂ N₂ hr
    refine wpAny_tests_one ?_
    k_steps
    all_goals rename Fr _ _ _ _ => F₄
    all_goals rename News _ _ _ _ => N₄
    · rename (List.getD _ _ _ = _) => hc
      rw [hgd] at hc
      have hc' : (ds.getD i 0 == sz) = true := by rw [beq_iff_eq]; exact Int.ofNat.inj hc
      refine ⟨?_, ⟨hsh.os, hsh.bare⟩, F₄, N₄⟩
      rw [hstep, if_pos hc']
      exact hA.append' (.cons _ _ .nil)
    · rename (List.getD _ _ _ ≠ _) => hc
      rw [hgd] at hc
      have hc' : (ds.getD i 0 == sz) = false := by rw [beq_eq_false_iff_ne]; exact fun e => hc (congrArg Int.ofNat e)
      refine ⟨?_, ⟨hsh.os, hsh.bare⟩, F₄, N₄⟩
      rw [hstep, if_neg (by rw [hc']; exact Bool.false_ne_true), List.append_nil]
      exact hA
  · intro s₃ ys nn D hA hsh hlt F₃ N₃
    clear F₂ N₂
    rw [Nat.sub_zero] at hA
    have hsz : vs.length = ys.length := by rw [hvs.length, hA.length]
    refine SeqAt.RcNeAt.lists (A := A) (items := vs.toArray) (items2 := ys.toArray) (e := fun _ => true) ⟨_, (N₃ (DG, PySem.W.listOf vs.toArray ng) (by simp)).1, rfl, _, rfl⟩ ⟨_, (N₃ (D, PySem.W.listOf ys.toArray nn) (by simp)).1, rfl, _, rfl⟩ (by simp [hsz]) r.units (fun j h1 h2 => ?_) _ _ _ _ ?_
    · rw [List.size_toArray] at h1 h2
      obtain ⟨y, t, e1, e2⟩ := hvs.item j _ (List.getElem?_eq_getElem h1)
      obtain ⟨z, u, e3, e4⟩ := hA.item j _ (List.getElem?_eq_getElem h2)
      rw [List.getElem_toArray, List.getElem_toArray, e1, e3]
      obtain rfl : y = z := Option.some.inj (e2.symm.trans e4)
      have := SeqAt.EqAt.str_str (A := A.in1) (s := s₃) y t y u
      rwa [show (y == y) = true from beq_self_eq_true y] at this
    · rw [show (!(List.range vs.toArray.size).all fun _ => true) = false by simp]
      k_steps
      refine hQ _ ⟨hsh.os.trans hk.os, fun g => hsh.bare (hk.bare g)⟩ F₃ (news_sub N₃ ?_)
      intro p hp
      exact .tail _ (.tail _ hp)

end Mine
end

section
local macro_rules | `(tactic| walk_at "serves nothing") => `(tactic| skip)
local macro_rules | `(tactic| walk_at "serves nothing") => `(tactic| skip)
local macro_rules | `(tactic| walk_at "serves nothing") => `(tactic| skip)
local macro_rules | `(tactic| walk_at "serves nothing") => `(tactic| skip)
local macro_rules | `(tactic| walk_at "serves nothing") => `(tactic| skip)
local macro_rules | `(tactic| walk_at "serves nothing") => `(tactic| skip)
local macro_rules | `(tactic| walk_at "serves nothing") => `(tactic| skip)
local macro_rules | `(tactic| walk_at "serves nothing") => `(tactic| skip)
local macro_rules | `(tactic| walk_at "serves nothing") => `(tactic| skip)
local macro_rules | `(tactic| walk_at "serves nothing") => `(tactic| skip)
theorem Mine.reset39 : True := by
  w_top off
  first | (walk1; done) | exact True.intro
set_option maxRecDepth 100000
set_option maxHeartbeats 8000000
namespace Mine
open PySem PySem.W PySem.Calls PyProof.Rows
theorem fill28 : PySem.Challenge.rw_us0021_01.foot = PySem.Challenge.rw_us0021_01.foot ∧ hd.heap_39 = hd.heap_39 := by
  k_fill
  exact ⟨rfl, rfl⟩
local macro_rules | `(tactic| walk_at "eval Name") => `(tactic| refine nameCL (by assumption) (by assumption) (by k_mem) (by assumption) ?_ (by rfl) (by rfl))
local macro_rules | `(tactic| walk_at "eval Name") => `(tactic| refine lcf_cell (by assumption) (by rfl) (by k_mem) (by assumption) ?_ (by rfl) (by rfl))
local macro_rules | `(tactic| walk_at "eval Name") => `(tactic| refine lcf_free (by assumption) (by rfl) (by k_mem) (by assumption) ?_ (by rfl) (by rfl))
local macro_rules | `(tactic| walk_at "eval ListComp") => `(tactic| refine hideP ?_)
local macro_rules | `(tactic| walk_at "call ref") => `(tactic| refine hideP ?_)

theorem law7 {prog : Program} {w : World} {A : Around} {s : Shared} {p : Program} {loose : List Str} {mean : ExcName → Option Value} {mg mb : Str → Option Value} {h₀ : Heap} {L fa : Addr} {cd : Value} {m : Str → Option Value} {f : List Nat} {rest : List (Addr × Obj)}
  (X : (hd.heap_39 w.params).In h₀) (T : Top p loose mean mg mb h₀) (r : Rm 20 A) (hf7 : f.length ≤ 7) {x dx H DD : Addr} {hs : Int} {th tc : Tok} {kd n nd : Nat} {items dvs : List Value} {ts : List (Addr × Obj)} {ds : List Nat} {v : Option Value} {o4 oC oD : Obj}
  (F : Fr h₀ L s.heap (alM x m v))
  (N : News h₀ L s.heap ((L + 4, o4) :: (L + 2, oC) :: (L + 7, oD) :: (DD, PySem.W.listOf dvs.toArray nd) :: (H, PySem.W.listOf items.toArray n) :: (x, instObj 221 dx) :: (dx, hdict hs th kd H) :: rest))
  (d4 : o4.data = .cell none) (dC : oC.data = .cell (some (.int (f.length : Int) tc))) (dD : oD.data = .cell (some (.ref DD)))
  (hds : IntsAre dvs (ds.map fun (n : Nat) => (n : Int))) (hdl : ds.length = f.length + 1)
  (hTup : TupOk items (rowsOf f (f.length + 1)) ts) (hts : ∀ p ∈ ts, p ∈ rest)
  (hgs : ∀ sz, 1 ≤ sz → sz ≤ f.length → getV (rowsOf f (f.length + 1)) (gname sz) = ((List.range (f.length + 1)).filter fun c => ds.getD c 0 == sz).map sOf)
  (hrl : ∀ a ∈ rowsOf f (f.length + 1), Builtin.Str.tooLong (Txt.lower a.1).length = false)
  (hne : ∀ p ∈ (L + 2, oC) :: (L + 7, oD) :: (DD, PySem.W.listOf dvs.toArray nd) :: (H, PySem.W.listOf items.toArray n) :: (x, instObj 221 dx) :: (dx, hdict hs th kd H) :: rest, p.1 ≠ L + 4)
  {Q : Flow → Shared → Prop} {E : Value → Shared → Prop}
  (hQ : ∀ s' o4' v4, Sh s s' → o4'.data = .cell v4 → Fr h₀ L s'.heap (alM x m v) →
    News h₀ L s'.heap ((L + 4, o4') :: (L + 2, oC) :: (L + 7, oD) :: (DD, PySem.W.listOf dvs.toArray nd) :: (H, PySem.W.listOf items.toArray n) :: (x, instObj 221 dx) :: (dx, hdict hs th kd H) :: rest) → Q .next s') :
  wpAny (model prog w) A (exec (lawSt 7) (lawEnv L fa cd)) Q E s := by
  conv in (exec _ _) => arg 1; whnf
  have hh : A.handled = none := r.hd
  refine wpAny_For ?_
  k_steps
  rename (Heap.get? _ _ = some { cls := .type "range", dict := none, data := _, slots := _ }) => hr
  rename Fr _ _ _ _ => F₁
  rename News _ _ _ _ => N₁
  rename_i h5 tk5 ta tb tcc hkeep
  refine' loop_rangeCN (a := 1) (b := f.length + 1) (env := lawEnv L fa cd) (x := "size") (c := L + 4) (oc := o4) hh ?hr rfl ?eb (by decide) (by omega) rfl rfl rfl d4
    (fun i m₁ news₁ => m₁ = alM x m v ∧ news₁ = (L + 2, oC) :: (L + 7, oD) :: (DD, PySem.W.listOf dvs.toArray nd) :: (H, PySem.W.listOf items.toArray n) :: (x, instObj 221 dx) :: (dx, hdict hs th kd H) :: rest) ⟨rfl, rfl⟩ F₁ N₁ ?hn ?turn ?done
  case hr => exact hr
  case eb => rfl
  case hn =>
    rintro i m₁ news₁ ⟨rfl, rfl⟩ p hp
    exact ⟨Nat.ne_of_lt (Heap.lt_size (N₁ p (.tail _ hp)).1), hne p hp⟩
  case turn =>
    rintro i t o oc s₁ m₁ news₁ hi ⟨rfl, rfl⟩ hsh hoc F₂ N₂
    have N₃ : News h₀ L s₁.heap ((L + 4, oc) :: (L + 2, oC) :: (L + 7, oD) :: (DD, PySem.W.listOf dvs.toArray nd) :: (H, PySem.W.listOf items.toArray n) :: (x, instObj 221 dx) :: (dx, hdict hs th kd H) :: (h5.objs.size, o) :: rest) := news_sub N₂ (by
      intro p hp
      simp only [List.mem_cons] at hp ⊢
      rcases hp with rfl | rfl | rfl | rfl | rfl | rfl | rfl | rfl | hp
      all_goals first | (simp; done) | (simp [hp]; done))
    refine wpAny_execs_cons (get_st (L := L) (cd := cd) (fa := fa) X T r hf7 (sz := 1 + i) (by omega) (by omega) F₂ N₃ hoc dC dD hds hdl hTup (fun p hp => by simp [hts p hp]) (hgs _ (by omega) (by omega)) hrl fun s' hsh' F₄ N₄ => ?_)
    refine wpAny_execs_nil ⟨_, _, oc, _, ⟨rfl, rfl⟩, hoc, hsh.trans hsh', F₄, news_sub N₄ ?_⟩
    intro p hp
    simp only [List.mem_cons] at hp ⊢
    rcases hp with rfl | rfl | rfl | rfl | rfl | rfl | rfl | rfl | hp
    all_goals first | (simp; done) | (simp [hp]; done)
  case done =>
    rintro s₃ m₃ news₃ oc v₀ ⟨rfl, rfl⟩ hsh hoc F₃ N₃
    exact hQ s₃ oc v₀ ⟨hsh.os, hsh.bare⟩ hoc F₃ N₃

end Mine
end

section
theorem Mine.reset40 : True := by
  w_top off
  first | (walk1; done) | exact True.intro
set_option maxRecDepth 100000
set_option maxHeartbeats 1000000
namespace Mine
open PySem PySem.W PySem.Calls PyProof.Rows

def F4 (f : List Nat) : Prop := ∀ x ∈ f, x < 4
theorem F4.drop {f : List Nat} (h : F4 f) (k : Nat) : F4 (f.drop k) := fun x hx => h x (List.mem_of_mem_drop hx)
theorem F4.take {f : List Nat} (h : F4 f) (k : Nat) : F4 (f.take k) := fun x hx => h x (List.mem_of_mem_take hx)
theorem F4.append {f g : List Nat} (h : F4 f) (k : F4 g) : F4 (f ++ g) := fun x hx => by
  rcases List.mem_append.mp hx with hx | hx
  · exact h x hx
  · exact k x hx

theorem uc_pre : ∀ a, a < 4 → ∀ b, b < 4 → (uc a).take (min (uc a).length (uc b).length) = (uc b).take (min (uc a).length (uc b).length) → a = b := by decide

theorem enc_pre : ∀ (u f : List Nat), F4 u → F4 f → enc u <+: enc f → u <+: f
  | [], f, _, _, _ => List.nil_prefix
  | a :: u, [], _, _, h => by
    have h1 : enc (a :: u) = [] := List.prefix_nil.mp h
    have h2 := (uc_len a).1
    have h3 := congrArg List.length h1
    simp only [enc, List.flatMap_cons, List.length_append, List.length_nil] at h3
    omega
  | a :: u, b :: f, hu, hf, h => by
    obtain ⟨t, ht⟩ := h
    have ea : enc (a :: u) = uc a ++ enc u := rfl
    have eb : enc (b :: f) = uc b ++ enc f := rfl
    rw [ea, eb, List.append_assoc] at ht
    have hab : a = b := by
      refine uc_pre a (hu a (List.mem_cons_self ..)) b (hf b (List.mem_cons_self ..)) ?_
      have h1 := congrArg (List.take (min (uc a).length (uc b).length)) ht
      rw [List.take_append_of_le_length (Nat.min_le_left ..), List.take_append_of_le_length (Nat.min_le_right ..)] at h1
      exact h1
    subst hab
    have h2 := List.append_cancel_left ht
    have ih := enc_pre u f (fun x hx => hu x (List.mem_cons_of_mem _ hx)) (fun x hx => hf x (List.mem_cons_of_mem _ hx)) ⟨t, h2⟩
    exact List.cons_prefix_cons.mpr ⟨rfl, ih⟩

theorem enc_mono {u f : List Nat} (h : u <+: f) : enc u <+: enc f := by
  obtain ⟨t, rfl⟩ := h
  rw [enc_append]
  exact List.prefix_append ..

theorem encS_beq {u v : List Nat} (hu : F4 u) (hv : F4 v) : (encS u == encS v) = true ↔ u = v := by
  constructor
  · intro h
    have h1 : encS u = encS v := eq_of_beq h
    have h2 : enc u = enc v := by
      have := congrArg (fun s : Str => s.cps.toList) h1
      simpa [encS] using this
    have p1 := enc_pre u v hu hv (by rw [h2]; exact List.prefix_refl _)
    have p2 := enc_pre v u hv hu (by rw [h2]; exact List.prefix_refl _)
    exact p1.eq_of_length (Nat.le_antisymm p1.length_le p2.length_le)
  · rintro rfl; exact beq_self_eq_true _

theorem starts_iff {u f : List Nat} (hu : F4 u) (hf : F4 f) : Txt.startswith (encS f) (encS u) = true ↔ u <+: f := by
  unfold Txt.startswith
  rw [Bool.and_eq_true, decide_eq_true_eq, StrLaws.subAt_eq, beq_iff_eq, List.drop_zero, encS_len, encS_len]
  have e1 : ∀ g : List Nat, (encS g).cps.toList = enc g := fun g => by simp [encS]
  rw [e1, e1]
  constructor
  · rintro ⟨_, h⟩
    exact enc_pre u f hu hf (by rw [← h]; exact List.take_prefix ..)
  · intro h
    have h1 := enc_mono h
    refine ⟨by have := h1.length_le; omega, (List.prefix_iff_eq_take.mp h1).symm⟩

/-! the dots -/
theorem dots_eq : Str.ofString "..." = ⟨#[46, 46, 46]⟩ := by decide +kernel
theorem at_dots {U : List Nat} (hU : ∀ c ∈ U, c ≠ 46) {i : Nat} (h : StrLaws.At ((⟨U.toArray⟩ : Str) ++ Str.ofString "...") "..." ((⟨U.toArray⟩ : Str) ++ Str.ofString "...").length i) : i = U.length := by
  obtain ⟨h1, h2⟩ := h
  rw [StrLaws.subAt_eq, beq_iff_eq] at h2
  rw [dots_eq] at h1 h2
  have hl : ((⟨U.toArray⟩ : Str) ++ (⟨#[46, 46, 46]⟩ : Str)).cps.toList = U ++ [46, 46, 46] := by rw [Str.cps_append]; simp
  have hn : ((⟨U.toArray⟩ : Str) ++ (⟨#[46, 46, 46]⟩ : Str)).length = U.length + 3 := by
    show (_ : Array Nat).size = _
    rw [← Array.length_toList, hl]; simp
  have h3 : (⟨#[46, 46, 46]⟩ : Str).length = 3 := rfl
  rw [hn, h3] at h1
  rw [hl, h3] at h2
  rcases Nat.lt_or_ge i U.length with hi | hi
  · exfalso
    have h4 := congrArg (fun l : List Nat => l[0]?) h2
    simp only [List.getElem?_take, List.getElem?_drop] at h4
    rw [if_pos (by decide), Nat.add_zero, List.getElem?_append_left hi] at h4
    have h5 : U[i]? = some 46 := h4
    exact hU 46 (List.mem_of_getElem? h5) rfl
  · omega

theorem occ_dots {U : List Nat} (hU : ∀ c ∈ U, c ≠ 46) (k : Nat) (hk : 1 ≤ k) : Builtin.Str.occurrences ((⟨U.toArray⟩ : Str) ++ Str.ofString "...") "..." 0 ((⟨U.toArray⟩ : Str) ++ Str.ofString "...").length k = [U.length] := by
  have hat : StrLaws.At ((⟨U.toArray⟩ : Str) ++ Str.ofString "...") "..." ((⟨U.toArray⟩ : Str) ++ Str.ofString "...").length U.length := by
    refine ⟨?_, ?_⟩
    · rw [Str.length_append]
      exact Nat.le_refl _
    · rw [StrLaws.subAt_eq, dots_eq, Str.cps_append]
      simp [Str.length]
  obtain ⟨g, hc⟩ := StrLaws.occ_chain ((⟨U.toArray⟩ : Str) ++ Str.ofString "...") "..." k
  rcases StrLaws.occ_head ((⟨U.toArray⟩ : Str) ++ Str.ofString "...") "..." k hk with ⟨_, h2⟩ | ⟨i, r, h1, h2, _⟩
  · exact absurd hat (h2 _)
  · obtain rfl := at_dots hU h2
    rw [h1] at hc ⊢
    cases r with
    | nil => rfl
    | cons j r =>
      obtain ⟨_, _, h5, h6, _⟩ := hc
      have := at_dots hU h6
      rw [this] at h5
      have h7 : (Str.ofString "...").length = 3 := by rw [dots_eq]; rfl
      exfalso
      rw [h7] at h5
      omega

theorem contains_dots {U : List Nat} (hU : ∀ c ∈ U, c ≠ 46) : Txt.contains ((⟨U.toArray⟩ : Str) ++ Str.ofString "...") "..." = true := by
  unfold Txt.contains
  rw [occ_dots hU 1 (Nat.le_refl _)]
  rfl

theorem split_dots {U : List Nat} (hU : ∀ c ∈ U, c ≠ 46) : Txt.split ((⟨U.toArray⟩ : Str) ++ Str.ofString "...") "..." = [⟨U.toArray⟩, Str.ofString ""] := by
  have h7 : (Str.ofString "...").length = 3 := by rw [dots_eq]; rfl
  have hlU : (⟨U.toArray⟩ : Str).length = U.length := by simp [Str.length]
  have hk : Builtin.Str.strKind (Str.ofString "...") = 1 := by rw [dots_eq]; decide +kernel
  unfold Txt.split
  rw [occ_dots hU _ (by omega)]
  rw [if_neg (by
    rw [Bool.or_eq_true, decide_eq_true_eq, decide_eq_true_eq, Str.length_append, hk, h7]
    rintro (h | h)
    · omega
    · have h0 : Builtin.Str.strKind ((⟨U.toArray⟩ : Str) ++ Str.ofString "...") = 0 := by omega
      unfold Builtin.Str.strKind at h0
      split at h0
      · cases h0
      · split at h0 <;> cases h0), if_neg (by simp)]
  rw [StrLaws.partsBetween_eq]
  show [Builtin.Str.strSub _ 0 U.length, Builtin.Str.strSub _ (U.length + _) _] = _
  congr 1
  · apply Str.ext'
    apply Array.toList_inj.mp
    rw [StrLaws.strSub_toList, Str.cps_append, dots_eq]
    simp
  · congr 1
    apply Str.ext'
    apply Array.toList_inj.mp
    rw [StrLaws.strSub_toList, Str.cps_append, dots_eq, ofString_empty]
    simp [Str.length]

theorem enc_nodot (f : List Nat) : ∀ c ∈ enc f, c ≠ 46 := by
  intro c hc
  obtain ⟨k, _, hk⟩ := List.mem_flatMap.mp hc
  have : ∀ k, ∀ c ∈ uc k, c ≠ 46 := by
    intro k c hc
    unfold uc at hc
    split at hc <;> simp at hc <;> omega
  exact this k c hk
end Mine
end

section
local macro_rules | `(tactic| walk_at "serves nothing") => `(tactic| skip)
local macro_rules | `(tactic| walk_at "serves nothing") => `(tactic| skip)
local macro_rules | `(tactic| walk_at "serves nothing") => `(tactic| skip)
local macro_rules | `(tactic| walk_at "serves nothing") => `(tactic| skip)
local macro_rules | `(tactic| walk_at "serves nothing") => `(tactic| skip)
local macro_rules | `(tactic| walk_at "serves nothing") => `(tactic| skip)
local macro_rules | `(tactic| walk_at "serves nothing") => `(tactic| skip)
local macro_rules | `(tactic| walk_at "serves nothing") => `(tactic| skip)
local macro_rules | `(tactic| walk_at "serves nothing") => `(tactic| skip)
local macro_rules | `(tactic| walk_at "serves nothing") => `(tactic| skip)
theorem Mine.reset41 : True := by
  w_top off
  first | (walk1; done) | exact True.intro
set_option maxRecDepth 100000
set_option maxHeartbeats 8000000
namespace Mine
open PySem PySem.W PySem.Calls PyProof.Rows
theorem fill29 : PySem.Challenge.rw_us0021_01.foot = PySem.Challenge.rw_us0021_01.foot ∧ hd.heap_39 = hd.heap_39 := by
  k_fill
  exact ⟨rfl, rfl⟩
local macro_rules | `(tactic| walk_at "eval Name") => `(tactic| refine nameCL (by assumption) (by assumption) (by k_mem) (by assumption) ?_ (by rfl) (by rfl))
local macro_rules | `(tactic| walk_at "eval Name") => `(tactic| refine lcf_cell (by assumption) (by rfl) (by k_mem) (by assumption) ?_ (by rfl) (by rfl))
local macro_rules | `(tactic| walk_at "eval Name") => `(tactic| refine lcf_free (by assumption) (by rfl) (by k_mem) (by assumption) ?_ (by rfl) (by rfl))
local macro_rules | `(tactic| walk_at "eval ListComp") => `(tactic| refine hideP ?_)
local macro_rules | `(tactic| walk_at "subscriptTail Name Slice ref ref") => `(tactic| refine hideP ?_)
local macro_rules | `(tactic| walk_at "call ref") => `(tactic| refine hideP ?_)

def perB (f : List Nat) (z : Nat) : Bool := Txt.startswith (encS f) (encS (f.drop z))
def perL (f : List Nat) (k : Nat) : List Nat := ((List.range k).filter fun i => perB f (i + 1)).map (· + 1)

theorem law9 {prog : Program} {w : World} {A : Around} {s : Shared} {p : Program} {loose : List Str} {mean : ExcName → Option Value} {mg mb : Str → Option Value} {h₀ : Heap} {L fa : Addr} {cd : Value} {m : Str → Option Value} {f : List Nat} {rest : List (Addr × Obj)}
  (X : (hd.heap_39 w.params).In h₀) (T : Top p loose mean mg mb h₀) (r : Rm 20 A) (hf7 : f.length ≤ 7) {DU : Addr} {us : List Value} {nu : Nat} {tc tw : Tok} {oU oC oW : Obj} {st : Nat} {tl : List Nat}
  (F : Fr h₀ L s.heap m) (N : News h₀ L s.heap ((L + 3, oU) :: (L + 2, oC) :: (L + 8, oW) :: (DU, PySem.W.listOf us.toArray nu) :: rest)) (dU : oU.data = .cell (some (.ref DU))) (dC : oC.data = .cell (some (.int (f.length : Int) tc))) (dW : oW.data = .cell (some (.str (encS f) tw)))
  (hu : StrsAre us (f.map un)) (hpl : perL f f.length = st :: tl)
  {Q : Flow → Shared → Prop} {E : Value → Shared → Prop}
  (hQ : ∀ s' t, Sh s s' → Fr h₀ L s'.heap (fun y => if y = "step" then some (.int (st : Int) t) else m y) → News h₀ L s'.heap ((L + 3, oU) :: (L + 2, oC) :: (L + 8, oW) :: (DU, PySem.W.listOf us.toArray nu) :: rest) → Q .next s') :
  wpAny (model prog w) A (exec (lawSt 9) (lawEnv L fa cd)) Q E s := by
  conv in (exec _ _) => arg 1; whnf
  have hh : A.handled = none := r.hd
  k_steps
  unfold HideP
  refine evalComp rfl rfl (by decide) ?_
  k_steps
  rename (Heap.get? _ _ = some { cls := .type "range", dict := none, data := _, slots := _ }) => hr
  rename Fr _ _ _ _ => F₁
  rename News _ _ _ _ => N₁
  refine comp_rangeN (a := 1) (b := f.length + 1) hh hr (by omega) (by omega) (by omega) (by omega) (by decide) rfl rfl
    (fun i ys => IntsAre ys ((perL f i).map fun (n : Nat) => (n : Int))) .nil F₁ N₁ ?_ ?_
  · intro i ti ys nn s₁ oC' oI mC C I D hi hA hlen hsh hC hmC hlt hID hDC F₂ N₂
    have hstep : perL f (i + 1) = perL f i ++ (if perB f (i + 1) = true then [i + 1] else []) := by
      unfold perL
      rw [List.range_succ, List.filter_append, List.map_append]
      congr 1
      rw [List.filter_cons]
      split <;> rfl
    clear N₁ F₁ hr
    refine wpAny_tests_one ?_
    k_steps
    unfold HideP
    have hz : us.toArray.size ≤ sizeLine := by rw [List.size_toArray, hu.length, List.length_map]; exact Nat.le_trans hf7 (by decide)
    refine' sliceN (s := ⟨s₁.heap, s₁.gens, s₁.drawn, _, s₁.os⟩) F₂ N₂ ?hl (IsPart.int _ _) IsPart.none hz fun D5 h5 F₅ N₅ l5 => ?_
    case hl => exact ⟨_, (N₂ (DU, PySem.W.listOf us.toArray nu) (by simp)).1, rfl, _, rfl⟩
    k_steps
    have hsl : StrsAre (slicePick us.toArray (some ((1 + i : Nat) : Int)) none none).toList ((f.drop (i + 1)).map un) := by
      rw [slicePick_from', List.map_drop, Nat.add_comm 1 i]
      exact hu.drop' _
    have hall : ∀ y ∈ (f.drop (i + 1)).map un, y.length ≤ 2 := fun y hy => by
      obtain ⟨k, _, rfl⟩ := List.mem_map.mp hy
      exact (uc_len k).2
    have hcnt : ((f.drop (i + 1)).map un).length ≤ 30 := by rw [List.length_map, List.length_drop]; omega
    have hsum := sum_le_of (f := fun x => x.length) ((f.drop (i + 1)).map un) hall
    have hlD : h5.IsList D5 (slicePick us.toArray (some ((1 + i : Nat) : Int)) none none) := ⟨_, (N₅ _ (.head _)).1, rfl, _, rfl⟩
    refine' join_listC (ys := (f.drop (i + 1)).map un) (items := slicePick us.toArray (some ((1 + i : Nat) : Int)) none none) ?hlD hsl (by show (0 : Nat) ≤ 64; decide) ?hS ?_
    case hlD => exact hlD
    case hS => omega
    intro tj kj
    rw [join_un]
    have hlen2 := enc_len_le (f.drop (i + 1))
    rw [List.length_drop] at hlen2
    have hlU : (encS (f.drop (i + 1))).length ≤ 14 := by rw [encS_len]; omega
    have hlg : (encS f).length ≤ 14 := by have := enc_len_le f; rw [encS_len]; omega
    have hl3 : (Str.ofString "...").length = 3 := by rw [dots_eq]; rfl
    clear F₂ N₂
    k_steps
    unfold HideP
    refine wpAny_call ?_
    refine' ell_call (U := encS (f.drop (i + 1))) ?hX ?hT (r.less (by decide)) (by omega) (by omega) ?hy (contains_dots (enc_nodot _)) (split_dots (enc_nodot _)) fun s' hk => ?_
    case hX => exact Frag.In.keeps X F₅.keep
    case hT => exact T.keeps F₅.keep
    case hy => show ((encS (f.drop (i + 1)) ++ Str.ofString "...") : Str).length ≤ 1000; rw [Str.length_append]; omega
    have F₆ := F₅.after hk.le
    have N₆ := Mine.News.le N₅ hk.le
    have hsh' : Sh s₁ s' := ⟨hk.os, hk.bare⟩
    dsimp only
    refine wpAny_truthy_bool ?_
    cases hp : Txt.startswith (encS f) (encS (f.drop (i + 1))) with
    | true =>
      replace hp : perB f (i + 1) = true := hp
      clear F₅ N₅
      k_steps
      refine ⟨?_, hsh.trans hsh', F₆, fun p hp => N₆ p (.tail _ hp)⟩
      rw [hstep, if_pos hp, List.map_append, Nat.add_comm 1 i]
      exact hA.append (.cons _ _ .nil)
    | false =>
      replace hp : perB f (i + 1) = false := hp
      refine ⟨?_, hsh.trans hsh', F₆, fun p hp => N₆ p (.tail _ hp)⟩
      rw [hstep, if_neg (by rw [hp]; exact Bool.false_ne_true), List.append_nil]
      exact hA
  · intro s₃ as nn D hA hsh hlt F₃ N₃
    clear F₁ N₁
    rw [Nat.add_sub_cancel, hpl] at hA
    obtain ⟨ta, as', rfl, _⟩ := hA.cons_inv
    k_steps
    rename Fr _ _ _ _ => F₄
    rename News _ _ _ _ => N₄
    exact hQ _ _ ⟨hsh.os, hsh.bare⟩ F₄ fun p hp => N₄ p (.tail _ hp)

end Mine
end

section
theorem Mine.reset42 : True := by
  w_top off
  first | (walk1; done) | exact True.intro
set_option maxRecDepth 100000
set_option maxHeartbeats 8000000
namespace Mine
open PySem PySem.W PySem.Calls PyProof.Rows
theorem fill30 : PySem.Challenge.rw_us0021_01.foot = PySem.Challenge.rw_us0021_01.foot ∧ hd.heap_39 = hd.heap_39 := by
  k_fill
  exact ⟨rfl, rfl⟩
local macro_rules | `(tactic| walk_at "eval Name") => `(tactic| refine nameCL (by assumption) (by assumption) (by k_mem) (by assumption) ?_ (by rfl) (by rfl))
local macro_rules | `(tactic| walk_at "eval Name") => `(tactic| refine lcf_cell (by assumption) (by rfl) (by k_mem) (by assumption) ?_ (by rfl) (by rfl))
local macro_rules | `(tactic| walk_at "eval Name") => `(tactic| refine lcf_free (by assumption) (by rfl) (by k_mem) (by assumption) ?_ (by rfl) (by rfl))
local macro_rules | `(tactic| walk_at "eval ListComp") => `(tactic| refine hideP ?_)
local macro_rules | `(tactic| walk_at "call ref") => `(tactic| refine hideP ?_)

local macro_rules | `(tactic| walk_at "call builtin:str.lower") => `(tactic| refine SC.lower (by assumption) ?_)
local macro_rules | `(tactic| walk_at "call builtin:max") => `(tactic| refine hideP ?_)

theorem argBest_str (key : Nat → List Nat) : ∀ k, argBest (fun i j => decide (key j < key i)) k ≤ k ∧ ∀ j, j ≤ k → ¬ key (argBest (fun i j => decide (key j < key i)) k) < key j
  | 0 => ⟨Nat.le_refl _, fun j hj => by
      obtain rfl : j = 0 := by omega
      exact List.lt_irrefl _⟩
  | k + 1 => by
    obtain ⟨h1, h2⟩ := argBest_str key k
    simp only [argBest]
    by_cases hc : key (argBest (fun i j => decide (key j < key i)) k) < key (k + 1)
    · rw [if_pos (by simpa using hc)]
      refine ⟨Nat.le_refl _, fun j hj => ?_⟩
      rcases Nat.lt_or_ge j (k + 1) with hlt | hge
      · have h3 := h2 j (by omega)
        intro h4
        exact h3 (List.lt_trans hc h4)
      · obtain rfl : j = k + 1 := by omega
        exact List.lt_irrefl _
    · rw [if_neg (by simpa using hc)]
      refine ⟨Nat.le_succ_of_le h1, fun j hj => ?_⟩
      rcases Nat.lt_or_ge j (k + 1) with hlt | hge
      · exact h2 j (by omega)
      · obtain rfl : j = k + 1 := by omega
        exact hc

section
variable {prog : Program} {w : World} {A : Around} {E : Value → Shared → Prop} {s : Shared} {h₀ : Heap} {L : Addr} {m : Str → Option Value} {news : List (Addr × Obj)} {Q : Value → Shared → Prop}
theorem max_strs {l : Addr} {vs : List Value} {ys : List Str} (hh : A.handled = none) (F : Fr h₀ L s.heap m) (N : News h₀ L s.heap news) (hl : s.heap.IsList l vs.toArray) (hi : StrsAre vs ys) (hne : 0 < ys.length)
    (h : ∀ h' M (t : Tok) tk, Fr h₀ L h' m → News h₀ L h' news → M ∈ ys → (∀ z ∈ ys, ¬ M.cps.toList < z.cps.toList) → Q (.str M t) { s with heap := h', toks := tk }) :
    wpAny (model prog w) A (call (.builtin "max") [.ref l]) Q E s := by
  have hls : l < s.heap.objs.size := by obtain ⟨o, ho, _⟩ := hl; exact Heap.lt_size ho
  have hlen := hi.length
  refine call_max_walk (wpAny_pyIter_list hl ?_)
  refine ⟨_, _, _, _, _, _, fun i j => decide ((ys.getD j PySem.Str.empty).cps.toList < (ys.getD i PySem.Str.empty).cps.toList), rfl, Walks.list (A := A.in1) hh s.heap.objs.size l (Nat.ne_of_lt hls) vs.toArray, ⟨⟨_, Heap.get?_push_size _ rfl, rfl, rfl⟩, hl.push _⟩, ?_, by rw [List.size_toArray, hlen]; exact hne, ?_, fun v h' tk hP hk => ?_⟩
  · intro b hb
    rw [Heap.size_push]
    rcases List.mem_cons.mp hb with rfl | hb
    · exact Nat.lt_succ_self _
    · rw [List.mem_singleton.mp hb]; exact Nat.lt_succ_of_lt hls
  · intro i j vi vj s' Q' E' hvi hvj hQ'
    rw [List.getElem?_toArray] at hvi hvj
    obtain ⟨y, t, rfl, hy⟩ := hi.item i vi hvi
    obtain ⟨z, u, rfl, hz⟩ := hi.item j vj hvj
    have e1 : ys.getD i PySem.Str.empty = y := by rw [List.getD_eq_getElem?_getD, hy]; rfl
    have e2 : ys.getD j PySem.Str.empty = z := by rw [List.getD_eq_getElem?_getD, hz]; rfl
    dsimp only at hQ'
    rw [e1, e2] at hQ'
    exact P.gt_str hQ'
  · rw [List.getElem?_toArray] at hP
    obtain ⟨h1, h2⟩ := argBest_str (fun i => (ys.getD i PySem.Str.empty).cps.toList) (vs.length - 1)
    obtain ⟨y, t, rfl, hy⟩ := hi.item _ v hP
    have hold : ∀ b o, s.heap.get? b = some o → h'.get? b = some o := fun b o e => hk b o (by simpa using Nat.ne_of_lt (Heap.lt_size e)) (Heap.get?_push_of_some _ e)
    refine h h' y t tk (F.after hold) (Mine.News.le N hold) (List.mem_of_getElem? hy) fun z hz => ?_
    obtain ⟨j, hj, e⟩ := List.getElem_of_mem hz
    have h3 := h2 j (by omega)
    rw [List.size_toArray] at hy
    have e1 : ys.getD (argBest (fun i j => decide ((ys.getD j PySem.Str.empty).cps.toList < (ys.getD i PySem.Str.empty).cps.toList)) (vs.length - 1)) PySem.Str.empty = y := by rw [List.getD_eq_getElem?_getD, hy]; rfl
    have e2 : ys.getD j PySem.Str.empty = z := by rw [List.getD_eq_getElem?_getD, List.getElem?_eq_getElem hj, e]; rfl
    rw [e1, e2] at h3
    exact h3
end

abbrev letM (x : Addr) (m : Str → Option Value) (v : Option Value) (st : Nat) (tS tL : Tok) : Str → Option Value := fun y => if y = "letter" then some (.str (lett true st) tL) else if y = "step" then some (.int (st : Int) tS) else alM x m v y

theorem law11 {prog : Program} {w : World} {A : Around} {s : Shared} {p : Program} {loose : List Str} {mean : ExcName → Option Value} {mg mb : Str → Option Value} {h₀ : Heap} {L fa : Addr} {cd : Value} {m : Str → Option Value} {f : List Nat} {rest : List (Addr × Obj)}
  (X : (hd.heap_39 w.params).In h₀) (T : Top p loose mean mg mb h₀) (r : Rm 20 A) (hf7 : f.length ≤ 7) {x dx H : Addr} {hs : Int} {th tS tL : Tok} {kd n st : Nat} {items : List Value} {ts : List (Addr × Obj)} {v : Option Value} {rows : List (Str × Str)}
  (F : Fr h₀ L s.heap (letM x m v st tS tL))
  (N : News h₀ L s.heap ((H, PySem.W.listOf items.toArray n) :: (x, instObj 221 dx) :: (dx, hdict hs th kd H) :: rest))
  (hTup : TupOk items rows ts) (hts : ∀ p ∈ ts, p ∈ rest) (hrn : rows.length ≤ 100) (hr0 : 0 < rows.length)
  (hrl : ∀ a ∈ rows, Builtin.Str.tooLong (Txt.lower a.1).length = false)
  (hmax : ∀ M ∈ rows.map fun a => Txt.lower a.1, (∀ z ∈ rows.map fun a => Txt.lower a.1, ¬ M.cps.toList < z.cps.toList) → M = lett true st)
  {Q : Flow → Shared → Prop} {E : Value → Shared → Prop}
  (hQ : ∀ s', Sh s s' → Fr h₀ L s'.heap (letM x m v st tS tL) → News h₀ L s'.heap ((H, PySem.W.listOf items.toArray n) :: (x, instObj 221 dx) :: (dx, hdict hs th kd H) :: rest) → Q .next s') :
  wpAny (model prog w) A (exec (lawSt 11) (lawEnv L fa cd)) Q E s := by
  conv in (exec _ _) => arg 1; whnf
  have hh : A.handled = none := r.hd
  have hn : ∀ a ∈ [x, dx, H], h₀.get? a = none := fun a ha => by
    simp only [List.mem_cons, List.not_mem_nil, or_false] at ha
    rcases ha with rfl | rfl | rfl
    · exact (N (_, instObj 221 dx) (by simp)).2.2
    · exact (N (_, hdict hs th kd H) (by simp)).2.2
    · exact (N (_, PySem.W.listOf items.toArray n) (by simp)).2.2
  k_steps
  unfold HideP
  refine evalComp rfl rfl (by decide) ?_
  k_steps
  unfold HideP
  refine wpAny_call ?_
  refine' keys_call (x := x) (dx := dx) (H := H) (rows := rows) ?hX ?hT (r.less (by decide)) ?hB ?hW hrn fun s' DG vs ng hk hfr hDG hvs => ?_
  case hX => exact Frag.In.keeps X (hide_keep F.keep hn)
  case hT => exact T.keeps (hide_keep F.keep hn)
  case hB => exact ⟨(N (x, instObj 221 dx) (by simp)).1, (N (dx, hdict hs th kd H) (by simp)).1, (N (H, PySem.W.listOf items.toArray n) (by simp)).1⟩
  case hW => exact hTup.rows N fun p hp => by simp [hts p hp]
  have F₁ := F.after hk.le
  have N₁ := news_add F N hk.le hfr hDG
  clear F N
  dsimp only
  refine comp_list hh (items := vs.toArray) (N₁ _ (.head _)).1 rfl rfl ?_ (by decide) rfl rfl (fun i ys => StrsAre ys ((rows.take i).map fun a => Txt.lower a.1)) .nil F₁ N₁ (fun h _ N => (N _ (.head _)).1) ?_ ?_
  · rw [List.size_toArray, hvs.length, List.length_map]; exact Nat.le_trans hrn (by decide)
  · intro i v' ys nn s₁ oC oI mC C I D₂ hv' hA hlen' hsh hC' hmC hlt hID hDC F₂ N₂
    rw [List.getElem?_toArray] at hv'
    obtain ⟨y, t, rfl, hy⟩ := hvs.item i v' hv'
    rw [List.getElem?_map] at hy
    obtain ⟨a, ha, rfl⟩ := Option.map_eq_some_iff.mp hy
    have hlow := hrl a (List.mem_of_getElem? ha)
    have hstep : (rows.take (i + 1)).map (fun a => Txt.lower a.1) = (rows.take i).map (fun a => Txt.lower a.1) ++ [Txt.lower a.1] := by rw [List.take_add_one, ha, List.map_append]; rfl
    clear hy hv' F₁ N₁
    refine wpAny_tests_nil ?_
    rw [if_pos rfl]
    k_steps
    rename Fr _ _ _ _ => F₃
    rename News _ _ _ _ => N₃
    refine ⟨?_, ⟨hsh.os, hsh.bare⟩, F₃, N₃⟩
    rw [hstep]
    exact hA.append' (.cons _ _ .nil)
  · intro s₃ ys nn D₂ hA hsh hlt F₃ N₃
    clear F₁ N₁
    rw [List.size_toArray, hvs.length, List.length_map, List.take_length] at hA
    k_steps
    unfold HideP
    refine max_strs hh F₃ N₃ ⟨_, (N₃ _ (.head _)).1, rfl, _, rfl⟩ hA (by rw [List.length_map]; exact hr0) fun h' M t tk F₄ N₄ hM hM2 => ?_
    obtain rfl := hmax M hM hM2
    clear F₃ N₃
    k_steps
    · rename (_ != _) = true => hb
      rw [bne_self_eq_false] at hb
      cases hb
    · exact hQ _ ⟨hsh.os.trans hk.os, fun g => hsh.bare (hk.bare g)⟩ F₄ fun p hp => N₄ p (.tail _ (.tail _ hp))

end Mine
end

section
local macro_rules | `(tactic| walk_at "serves nothing") => `(tactic| skip)
local macro_rules | `(tactic| walk_at "serves nothing") => `(tactic| skip)
local macro_rules | `(tactic| walk_at "serves nothing") => `(tactic| skip)
local macro_rules | `(tactic| walk_at "serves nothing") => `(tactic| skip)
local macro_rules | `(tactic| walk_at "serves nothing") => `(tactic| skip)
local macro_rules | `(tactic| walk_at "serves nothing") => `(tactic| skip)
local macro_rules | `(tactic| walk_at "serves nothing") => `(tactic| skip)
local macro_rules | `(tactic| walk_at "serves nothing") => `(tactic| skip)
local macro_rules | `(tactic| walk_at "serves nothing") => `(tactic| skip)
local macro_rules | `(tactic| walk_at "serves nothing") => `(tactic| skip)
theorem Mine.reset43 : True := by
  w_top off
  first | (walk1; done) | exact True.intro
set_option maxRecDepth 100000
set_option maxHeartbeats 8000000
namespace Mine
open PySem PySem.W PySem.Calls PyProof.Rows
theorem fill31 : PySem.Challenge.rw_us0021_01.foot = PySem.Challenge.rw_us0021_01.foot ∧ hd.heap_39 = hd.heap_39 := by
  k_fill
  exact ⟨rfl, rfl⟩
local macro_rules | `(tactic| walk_at "eval Name") => `(tactic| refine nameCL (by assumption) (by assumption) (by k_mem) (by assumption) ?_ (by rfl) (by rfl))
local macro_rules | `(tactic| walk_at "eval Name") => `(tactic| refine lcf_cell (by assumption) (by rfl) (by k_mem) (by assumption) ?_ (by rfl) (by rfl))
local macro_rules | `(tactic| walk_at "eval Name") => `(tactic| refine lcf_free (by assumption) (by rfl) (by k_mem) (by assumption) ?_ (by rfl) (by rfl))
local macro_rules | `(tactic| walk_at "eval ListComp") => `(tactic| refine hideP ?_)
local macro_rules | `(tactic| walk_at "call builtin:max") => `(tactic| ((with_reducible show wpAny _ _ (call (Value.builtin "max") [Value.int _ _, Value.int _ _]) _ _ _); refine maxN (by assumption) (by assumption) (by assumption) ?_; intro h' tk' tv' F' N'; k_sweep))
local macro_rules | `(tactic| walk_at "call ref") => `(tactic| refine hideP ?_)

theorem tab_out {h₀ h : Heap} {L : Addr} {m : Str → Option Value} {ps : Array Value} (F : Fr h₀ L h m) (I : TabIn (hideAll h [234]) ps []) : ∃ extra, TabIn h₀ ps extra ∧ News h₀ L h extra ∧ ∀ p ∈ extra, p.1 ≠ 234 := by
  rcases I.ok with ⟨rfl, _⟩ | ⟨c', oc, vs, t, rfl, hd, hv, hx⟩
  · exact ⟨[], ⟨.inl ⟨rfl, rfl⟩⟩, fun p hp => absurd hp (by simp), fun p hp => absurd hp (by simp)⟩
  · have hg : (hideAll h [234]).get? c' = some oc := by
      rcases hx with hx | hx
      · cases hx
      · exact hx.2
    have hg' := of_hideAll _ hg
    have hne : c' ≠ 234 := fun q => by rw [q, hideAll_none _ (List.mem_singleton.mpr rfl)] at hg; cases hg
    cases q : h₀.get? c' with
    | some o =>
      have : o = oc := Option.some.inj ((F.keep _ _ q).symm.trans hg')
      subst this
      exact ⟨[], ⟨.inr ⟨c', o, vs, t, rfl, hd, hv, .inr ⟨rfl, q⟩⟩⟩, fun p hp => absurd hp (by simp), fun p hp => absurd hp (by simp)⟩
    | none =>
      refine ⟨[(c', oc)], ⟨.inr ⟨c', oc, vs, t, rfl, hd, hv, .inl rfl⟩⟩, fun p hp => ?_, fun p hp => ?_⟩
      · rw [List.mem_singleton.mp hp]
        refine ⟨hg', fun e => ?_, q⟩
        obtain ⟨o, es, ep, ho, hdo, _⟩ := F.ns
        replace e : c' = L := e
        rw [e, ho] at hg'
        injection hg' with hg'
        rw [← hg', hdo] at hd
        cases hd
      · rw [List.mem_singleton.mp hp]; exact hne

def dig (k : Nat) : Str := Str.ofString (toString (k : Int))
def gid (k : Nat) : Str := Str.ofString (toString (3 - (k : Int)))
theorem dig_is : ∀ k, k < 4 → dig k = ⟨#[48 + k]⟩ ∧ gid k = ⟨#[51 - k]⟩ := by decide +kernel
theorem dig_len {f : List Nat} (h : F4 f) : (∀ y ∈ f.map dig, y.length ≤ 2) ∧ (∀ y ∈ f.map gid, y.length ≤ 2) := by
  constructor
  · intro y hy
    obtain ⟨k, hk, rfl⟩ := List.mem_map.mp hy
    rw [(dig_is k (h k hk)).1]; exact (by decide : (1 : Nat) ≤ 2)
  · intro y hy
    obtain ⟨k, hk, rfl⟩ := List.mem_map.mp hy
    rw [(dig_is k (h k hk)).2]; exact (by decide : (1 : Nat) ≤ 2)
def txt1 (f : List Nat) : Str := Txt.join "" (f.map dig)
def txt2 (f : List Nat) : Str := Txt.join "" (f.map gid)

theorem txt_cps {f : List Nat} (h : F4 f) : (txt1 f).cps.toList = f.map (48 + ·) ∧ (txt2 f).cps.toList = f.map (51 - ·) := by
  have key : ∀ (g : Nat → Str) (φ : Nat → Nat) (f : List Nat), (∀ k ∈ f, g k = ⟨#[φ k]⟩) → (Txt.join "" (f.map g)).cps.toList = f.map φ := by
    intro g φ f hg
    rw [join_cps]
    show ((f.map g).flatMap _).toArray.toList = _
    simp only [List.flatMap_map]
    induction f with
    | nil => rfl
    | cons a f ih =>
      rw [List.flatMap_cons, List.map_cons, hg a (List.mem_cons_self ..)]
      have := ih (fun k hk => hg k (List.mem_cons_of_mem _ hk))
      simp only at this ⊢
      rw [this]
      rfl
  exact ⟨key dig _ f fun k hk => (dig_is k (h k hk)).1, key gid _ f fun k hk => (dig_is k (h k hk)).2⟩
theorem txt_len {f : List Nat} (h : F4 f) : (txt1 f).length = f.length ∧ (txt2 f).length = f.length := by
  obtain ⟨h1, h2⟩ := txt_cps h
  refine ⟨?_, ?_⟩
  · show (txt1 f).cps.size = _
    rw [← Array.length_toList, h1, List.length_map]
  · show (txt2 f).cps.size = _
    rw [← Array.length_toList, h2, List.length_map]

theorem law12 {prog : Program} {w : World} {A : Around} {s : Shared} {p : Program} {loose : List Str} {mean : ExcName → Option Value} {mg mb : Str → Option Value} {h₀ : Heap} {L fa : Addr} {cd : Value} {m : Str → Option Value} {f : List Nat} {rest : List (Addr × Obj)}
  (X : (hd.heap_39 w.params).In h₀) (T : Top p loose mean mg mb h₀) (r : Rm 20 A) (hf7 : f.length ≤ 7) {D : Addr} {vs : List Value} {nv : Nat} {oF : Obj} (hF4 : F4 f) (hpos : 0 < f.length) (C : CodeHd h₀ 238 234)
  (F : Fr h₀ L s.heap m) (N : News h₀ L s.heap ((L + 1, oF) :: (D, PySem.W.listOf vs.toArray nv) :: (234, tabObj #[]) :: rest)) (dF : oF.data = .cell (some (.ref D))) (hv : IntsAre vs (f.map fun (n : Nat) => (n : Int)))
  (hne : ∀ p ∈ (L + 1, oF) :: (D, PySem.W.listOf vs.toArray nv) :: rest, p.1 ≠ 234) (hL : L ≠ 234)
  {Q : Flow → Shared → Prop} {E : Value → Shared → Prop}
  (hQ : ∀ s' t a b ps, Sh s s' → (a < f.length ∧ ∀ j < f.length, slt (sufS (txt1 f) a) (sufS (txt1 f) j) = false) → (b < f.length ∧ ∀ j < f.length, slt (sufS (txt2 f) b) (sufS (txt2 f) j) = false) →
    Fr h₀ L s'.heap (fun y => if y = "spot" then some (.int (max (a : Int) (b : Int)) t) else m y) → News h₀ L s'.heap ((234, tabObj ps) :: (L + 1, oF) :: (D, PySem.W.listOf vs.toArray nv) :: rest) → Q .next s') :
  wpAny (model prog w) A (exec (lawSt 12) (lawEnv L fa cd)) Q E s := by
  conv in (exec _ _) => arg 1; whnf
  have hh : A.handled = none := r.hd
  k_steps
  unfold HideP
  refine evalComp rfl rfl (by decide) ?_
  k_steps
  have hn234 : ∀ a ∈ [234], h₀.get? a = none := fun a ha => by rw [List.mem_singleton.mp ha]; exact (N (234, tabObj #[]) (by simp)).2.2
  obtain ⟨hdl, hgl⟩ := dig_len hF4
  obtain ⟨ht1, ht2⟩ := txt_len hF4
  refine comp_list hh (items := vs.toArray) (N _ (.tail _ (.head _))).1 rfl rfl ?_ (by decide) rfl rfl (fun i ys => StrsAre ys ((f.take i).map dig)) .nil F N (fun h _ N => (N _ (.tail _ (.head _))).1) ?_ ?_
  · rw [List.size_toArray, hv.length, List.length_map]; exact Nat.le_trans hf7 (by decide)
  · intro i v ys nn s₁ oC oI mC C' I D₂ hv' hA hlen' hsh hC' hmC hlt hID hDC F₁ N₁
    rw [List.getElem?_toArray] at hv'
    obtain ⟨x, tx, rfl, hx⟩ := hv.at i v hv'
    rw [List.getElem?_map] at hx
    obtain ⟨k, hk, rfl⟩ := Option.map_eq_some_iff.mp hx
    have hk4 := hF4 k (List.mem_of_getElem? hk)
    have hk0 : (0 : Int) ≤ (k : Int) := Int.natCast_nonneg k
    have hk4' : (k : Int) < 4 := by omega
    have hstep : (f.take (i + 1)).map dig = (f.take i).map dig ++ [dig k] := by rw [List.take_add_one, hk, List.map_append]; rfl
    clear hx hv' F N
    refine wpAny_tests_nil ?_
    rw [if_pos rfl]
    k_steps
    rename Fr _ _ _ _ => F₂
    rename News _ _ _ _ => N₂
    refine ⟨?_, ⟨hsh.os, hsh.bare⟩, F₂, N₂⟩
    rw [hstep]
    exact hA.append' (.cons _ _ .nil)
  · intro s₃ ys nn D₂ hA hsh hlt F₃ N₃
    clear F N
    rw [List.size_toArray, hv.length, List.length_map, List.take_length] at hA
    k_steps
    have hcnt : (f.map dig).length ≤ 30 := by rw [List.length_map]; omega
    have hsum := sum_le_of (f := fun x => x.length) (f.map dig) hdl
    have hlD : s₃.heap.IsList D₂ ys.toArray := ⟨_, (N₃ _ (.head _)).1, rfl, _, rfl⟩
    refine' join_listC (ys := f.map dig) (items := ys.toArray) ?hlD hA (by show (0 : Nat) ≤ 64; decide) ?hS ?_
    case hlD => exact hlD
    case hS => omega
    intro tj kj
    k_steps
    unfold HideP
    refine wpAny_call ?_
    have hg := (N₃ (234, tabObj #[]) (by simp)).1
    refine' last_call (text := txt1 f) ?hX ?hT ?hC (r.less (by decide)) ?hP ⟨.inl ⟨rfl, rfl⟩⟩ (by omega) (by omega) fun s₄ a ta ps ha1 ha2 hsh₄ hk₄ hp₄ hTab => ?_
    case hX => exact Frag.In.keeps X (hide_keep F₃.keep hn234)
    case hT => exact T.keeps (hide_keep F₃.keep hn234)
    case hC => exact C.keeps (hide_keep F₃.keep hn234)
    case hP => exact hg
    have F₄ := frBut F₃ hk₄ hL (hn234 _ (.head _))
    obtain ⟨extra, hTE, NE, hEne⟩ := tab_out F₄ hTab
    have N₄ : News h₀ L s₄.heap ((L + 1, oF) :: (D, PySem.W.listOf vs.toArray nv) :: (234, tabObj ps) :: (extra ++ rest)) := by
      intro p hp
      have up : ∀ p, p ∈ (L + 1, oF) :: (D, PySem.W.listOf vs.toArray nv) :: rest → s₄.heap.get? p.1 = some p.2 ∧ p.1 ≠ L ∧ h₀.get? p.1 = none := fun p hp => by
        have hm : p ∈ (D₂, PySem.W.listOf ys.toArray nn) :: (L + 1, oF) :: (D, PySem.W.listOf vs.toArray nv) :: (234, tabObj #[]) :: rest := by
          simp only [List.mem_cons] at hp ⊢
          rcases hp with rfl | rfl | hp
          all_goals first | (simp; done) | (simp [hp]; done)
        exact ⟨hk₄ _ _ (hne p hp) (N₃ p hm).1, (N₃ p hm).2⟩
      rcases List.mem_cons.mp hp with rfl | hp
      · exact up _ (by simp)
      rcases List.mem_cons.mp hp with rfl | hp
      · exact up _ (by simp)
      rcases List.mem_cons.mp hp with rfl | hp
      · exact ⟨hp₄, hL.symm, hn234 _ (.head _)⟩
      rcases List.mem_append.mp hp with hp | hp
      · exact NE p hp
      · exact up _ (by simp [hp])
    have hshA : Sh s s₄ := ⟨hsh₄.os.trans hsh.os, fun g => hsh₄.bare (hsh.bare g)⟩
    clear F₃ N₃ NE
    dsimp only
    k_steps
    unfold HideP
    refine evalComp rfl rfl (by decide) ?_
    k_steps
    refine comp_list hh (items := vs.toArray) (N₄ _ (.tail _ (.head _))).1 rfl rfl ?_ (by decide) rfl rfl (fun i ys => StrsAre ys ((f.take i).map gid)) .nil F₄ N₄ (fun h _ N => (N _ (.tail _ (.head _))).1) ?_ ?_
    · rw [List.size_toArray, hv.length, List.length_map]; exact Nat.le_trans hf7 (by decide)
    · intro i v ys nn s₁ oC oI mC C' I D₂ hv' hA hlen' hsh hC' hmC hlt hID hDC F₁ N₁
      rw [List.getElem?_toArray] at hv'
      obtain ⟨x, tx, rfl, hx⟩ := hv.at i v hv'
      rw [List.getElem?_map] at hx
      obtain ⟨k, hk, rfl⟩ := Option.map_eq_some_iff.mp hx
      have hk4 := hF4 k (List.mem_of_getElem? hk)
      have hk0 : (0 : Int) ≤ (k : Int) := Int.natCast_nonneg k
      have hk4' : (k : Int) < 4 := by omega
      have hstep : (f.take (i + 1)).map gid = (f.take i).map gid ++ [gid k] := by rw [List.take_add_one, hk, List.map_append]; rfl
      clear hx hv' F₄ N₄
      refine wpAny_tests_nil ?_
      rw [if_pos rfl]
      k_steps
      rename Fr _ _ _ _ => F₂
      rename News _ _ _ _ => N₂
      refine ⟨?_, ⟨hsh.os, hsh.bare⟩, F₂, N₂⟩
      rw [hstep]
      exact hA.append' (.cons _ _ .nil)
    · intro s₅ zs nz D₅ hA hsh₅ hlt₅ F₅ N₅
      clear F₄ N₄
      rw [List.size_toArray, hv.length, List.length_map, List.take_length] at hA
      k_steps
      have hcnt : (f.map gid).length ≤ 30 := by rw [List.length_map]; omega
      have hsum := sum_le_of (f := fun x => x.length) (f.map gid) hgl
      have hlD : s₅.heap.IsList D₅ zs.toArray := ⟨_, (N₅ _ (.head _)).1, rfl, _, rfl⟩
      refine' join_listC (ys := f.map gid) (items := zs.toArray) ?hlD hA (by show (0 : Nat) ≤ 64; decide) ?hS ?_
      case hlD => exact hlD
      case hS => omega
      intro tj2 kj2
      k_steps
      unfold HideP
      refine wpAny_call ?_
      have hg := (N₅ (234, tabObj ps) (by simp)).1
      have hI := hTE.after (hn234 _ (.head _)) hEne F₅ (fun p hp => (N₅ p (by simp [hp])).1)
      refine' last_call (text := txt2 f) ?hX ?hT ?hC (r.less (by decide)) ?hP ?hI (by omega) (by omega) fun s₆ b tb ps₂ hb1 hb2 hsh₆ hk₆ hp₆ _ => ?_
      case hX => exact Frag.In.keeps X (hide_keep F₅.keep hn234)
      case hT => exact T.keeps (hide_keep F₅.keep hn234)
      case hC => exact C.keeps (hide_keep F₅.keep hn234)
      case hP => exact hg
      case hI => exact hI
      have F₆ := frBut F₅ hk₆ hL (hn234 _ (.head _))
      have N₆ : News h₀ L s₆.heap ((234, tabObj ps₂) :: (L + 1, oF) :: (D, PySem.W.listOf vs.toArray nv) :: rest) := by
        intro p hp
        have up : ∀ p, p ∈ (L + 1, oF) :: (D, PySem.W.listOf vs.toArray nv) :: rest → s₆.heap.get? p.1 = some p.2 ∧ p.1 ≠ L ∧ h₀.get? p.1 = none := fun p hp => by
          have hm : p ∈ (D₅, PySem.W.listOf zs.toArray nz) :: (L + 1, oF) :: (D, PySem.W.listOf vs.toArray nv) :: (234, tabObj ps) :: (extra ++ rest) := by
            simp only [List.mem_cons, List.mem_append] at hp ⊢
            rcases hp with rfl | rfl | hp
            all_goals first | (simp; done) | (simp [hp]; done)
          exact ⟨hk₆ _ _ (hne p hp) (N₅ p hm).1, (N₅ p hm).2⟩
        rcases List.mem_cons.mp hp with rfl | hp
        · exact ⟨hp₆, hL.symm, hn234 _ (.head _)⟩
        · exact up p hp
      clear F₅ N₅
      dsimp only
      k_steps
      rename Fr _ _ _ _ => F₇
      rename News _ _ _ _ => N₇
      rw [ht1] at ha1 ha2
      rw [ht2] at hb1 hb2
      exact hQ _ _ a b ps₂ ⟨(hsh₆.os.trans hsh₅.os).trans hshA.os, fun g => hsh₆.bare (hsh₅.bare (hshA.bare g))⟩ ⟨ha1, ha2⟩ ⟨hb1, hb2⟩ F₇ N₇

end Mine
end

section
theorem Mine.reset44 : True := by
  w_top off
  first | (walk1; done) | exact True.intro
set_option maxRecDepth 100000
set_option maxHeartbeats 8000000
namespace Mine
open PySem PySem.W PySem.Calls PyProof.Rows
theorem fill32 : PySem.Challenge.rw_us0021_01.foot = PySem.Challenge.rw_us0021_01.foot ∧ hd.heap_39 = hd.heap_39 := by
  k_fill
  exact ⟨rfl, rfl⟩
local macro_rules | `(tactic| walk_at "eval Name") => `(tactic| refine nameCL (by assumption) (by assumption) (by k_mem) (by assumption) ?_ (by rfl) (by rfl))
local macro_rules | `(tactic| walk_at "eval Name") => `(tactic| refine lcf_cell (by assumption) (by rfl) (by k_mem) (by assumption) ?_ (by rfl) (by rfl))
local macro_rules | `(tactic| walk_at "eval Name") => `(tactic| refine lcf_free (by assumption) (by rfl) (by k_mem) (by assumption) ?_ (by rfl) (by rfl))
local macro_rules | `(tactic| walk_at "eval ListComp") => `(tactic| refine hideP ?_)
local macro_rules | `(tactic| walk_at "call ref") => `(tactic| refine hideP ?_)

local macro_rules | `(tactic| walk_at "compareOp In") => `(tactic| refine hideP ?_)
theorem lett_low : ∀ st, st < 8 → 1 ≤ st → ∀ b, Builtin.Str.tooLong (Txt.lower (lett b st)).length = false ∧ (Txt.lower (lett b st)).length ≤ 10 ∧ noHit codeName (Txt.lower (lett b st)) = true := by decide +kernel

theorem law13 {prog : Program} {w : World} {A : Around} {s : Shared} {p : Program} {loose : List Str} {mean : ExcName → Option Value} {mg mb : Str → Option Value} {h₀ : Heap} {L fa : Addr} {cd : Value} {m : Str → Option Value} {f : List Nat} {rest : List (Addr × Obj)}
  (X : (hd.heap_39 w.params).In h₀) (T : Top p loose mean mg mb h₀) (r : Rm 20 A) (hf7 : f.length ≤ 7) {x dx H : Addr} {hs : Int} {th tS tL tP : Tok} {kd n st sp : Nat} {items : List Value} {ts : List (Addr × Obj)} {v : Option Value} {rows : List (Str × Str)}
  (F : Fr h₀ L s.heap (fun y => if y = "spot" then some (.int (sp : Int) tP) else letM x m v st tS tL y))
  (N : News h₀ L s.heap ((H, PySem.W.listOf items.toArray n) :: (x, instObj 221 dx) :: (dx, hdict hs th kd H) :: rest))
  (hTup : TupOk items rows ts) (hts : ∀ p ∈ ts, p ∈ rest) (hrn : rows.length ≤ 100) (h1 : 1 ≤ st) (h7 : st ≤ 7) (hsp : sp < st)
  (hrl : ∀ a ∈ rows, Builtin.Str.tooLong (Txt.lower a.1).length = false)
  (hin : sOf sp ∈ getV rows (lett true st))
  {Q : Flow → Shared → Prop} {E : Value → Shared → Prop}
  (hQ : ∀ s', Sh s s' → Fr h₀ L s'.heap (fun y => if y = "spot" then some (.int (sp : Int) tP) else letM x m v st tS tL y) → News h₀ L s'.heap ((H, PySem.W.listOf items.toArray n) :: (x, instObj 221 dx) :: (dx, hdict hs th kd H) :: rest) → Q (.ret (.bool true)) s') :
  wpAny (model prog w) A (exec (lawSt 13) (lawEnv L fa cd)) Q E s := by
  conv in (exec _ _) => arg 1; whnf
  have hh : A.handled = none := r.hd
  have hlt : (sp : Int) < (st : Int) := by omega
  have hs7 : (sp : Int) ≤ 7 := by omega
  have hs0 : (0 : Int) ≤ (sp : Int) := by omega
  obtain ⟨hg1, hg2, hg3⟩ := lett_low st (by omega) h1 true
  have hn : ∀ a ∈ [x, dx, H], h₀.get? a = none := fun a ha => by
    simp only [List.mem_cons, List.not_mem_nil, or_false] at ha
    rcases ha with rfl | rfl | rfl
    · exact (N (_, instObj 221 dx) (by simp)).2.2
    · exact (N (_, hdict hs th kd H) (by simp)).2.2
    · exact (N (_, PySem.W.listOf items.toArray n) (by simp)).2.2
  k_steps
  unfold HideP
  refine wpAny_call ?_
  refine' getall_call (x := x) (dx := dx) (H := H) (name := lett true st) (rows := rows) ?hX ?hT (r.less (by decide)) ?hB ?hW hrl hrn hg1 hg2 hg3 fun s' DG vs ng hk hfr hDG hvs => ?_
  case hX => exact Frag.In.keeps X (hide_keep F.keep hn)
  case hT => exact T.keeps (hide_keep F.keep hn)
  case hB => exact ⟨(N (x, instObj 221 dx) (by simp)).1, (N (dx, hdict hs th kd H) (by simp)).1, (N (H, PySem.W.listOf items.toArray n) (by simp)).1⟩
  case hW => exact hTup.rows N fun p hp => by simp [hts p hp]
  have F₁ := F.after hk.le
  have N₁ := news_add F N hk.le hfr hDG
  dsimp only
  refine SeqAt.in_listAt (items := vs.toArray) (fun v => match v with | .str y _ => y == sOf sp | _ => false) ⟨_, hDG, rfl, _, rfl⟩ (fun y hy => ?_) ?_
  · obtain ⟨z, u, rfl⟩ := hvs.all y (by simpa using hy)
    exact SeqAt.EqAt.str_str z u (sOf sp) s.toks
  · have hany : vs.toArray.any (fun v => match v with | .str y _ => y == sOf sp | _ => false) = true := by
      obtain ⟨j, hj, e⟩ := List.getElem_of_mem hin
      obtain ⟨t, ht⟩ := hvs.at (by rw [List.getElem?_eq_getElem hj, e])
      rw [List.any_toArray, List.any_eq_true]
      exact ⟨_, List.mem_of_getElem? ht, beq_self_eq_true _⟩
    rw [hany]
    exact hQ _ ⟨hk.os, hk.bare⟩ F₁ fun p hp => N₁ p (.tail _ hp)

end Mine
end

section
local macro_rules | `(tactic| walk_at "serves nothing") => `(tactic| skip)
local macro_rules | `(tactic| walk_at "serves nothing") => `(tactic| skip)
local macro_rules | `(tactic| walk_at "serves nothing") => `(tactic| skip)
local macro_rules | `(tactic| walk_at "serves nothing") => `(tactic| skip)
local macro_rules | `(tactic| walk_at "serves nothing") => `(tactic| skip)
local macro_rules | `(tactic| walk_at "serves nothing") => `(tactic| skip)
local macro_rules | `(tactic| walk_at "serves nothing") => `(tactic| skip)
local macro_rules | `(tactic| walk_at "serves nothing") => `(tactic| skip)
local macro_rules | `(tactic| walk_at "serves nothing") => `(tactic| skip)
local macro_rules | `(tactic| walk_at "serves nothing") => `(tactic| skip)
theorem Mine.reset45 : True := by
  w_top off
  first | (walk1; done) | exact True.intro
set_option maxRecDepth 100000
set_option maxHeartbeats 1000000
namespace Mine
open PySem PySem.W PySem.Calls PyProof.Rows

theorem fi_get (f : List Nat) {i : Nat} (h : i < f.length) : f[i]? = some (fi f i) := by
  unfold fi
  rw [List.getD_eq_getElem?_getD, List.getElem?_eq_getElem h]; rfl

theorem locB_LocP {f : List Nat} {cut z : Nat} (hc : cut ≤ f.length) : locB f cut z = true ↔ LocP f cut z := by
  rw [locB_iff]
  constructor
  · intro h k h1 h2 h3
    have := h (k - (cut - z)) (by omega)
    rw [show cut - z + (k - (cut - z)) = k by omega] at this
    rw [fi_get f (by omega), fi_get f h3, this]
  · intro h q hq
    have := h (cut - z + q) (by omega) (by omega) (by omega)
    rw [fi_get f (by omega), fi_get f (by omega)] at this
    exact Option.some.inj this

theorem keptEq_iff {f : List Nat} {cut z : Nat} (hF : F4 f) (hc : cut ≤ f.length) (hz : z ≤ f.length) : keptEq f cut z = true ↔ LocP f cut z := by
  unfold keptEq
  rw [encS_beq ((hF.take _).append (hF.drop _)) ((hF.take _).append (hF.drop _))]
  have hl : ∀ b, b ≤ f.length → ∀ i, (f.take b ++ f.drop (b + z))[i]? = if i < b then f[i]? else f[i + z]? := by
    intro b hb i
    have hlen : (f.take b).length = b := by rw [List.length_take]; omega
    split
    · rename_i hi
      rw [List.getElem?_append_left (by omega), List.getElem?_take, if_pos hi]
    · rename_i hi
      rw [List.getElem?_append_right (by omega), List.getElem?_drop, hlen]
      congr 1; omega
  constructor
  · intro h k h1 h2 h3
    have e := congrArg (fun l : List Nat => l[k]?) h
    (try dsimp only at e)
    rw [hl _ (by omega), hl _ (by omega), if_neg (by omega), if_pos (by omega)] at e
    exact e.symm
  · intro h
    apply List.ext_getElem?
    intro i
    rw [hl _ (by omega), hl _ (by omega)]
    by_cases h1 : i < cut - z
    · rw [if_pos h1, if_pos (by omega)]
    · rw [if_neg h1]
      by_cases h2 : i < min cut (f.length - z)
      · rw [if_pos h2]
        exact (h i (by omega) (by omega) (by omega)).symm
      · rw [if_neg h2]

theorem range_head {p : Nat → Bool} {n a : Nat} {tl : List Nat} (h : (List.range n).filter p = a :: tl) : p a = true ∧ a < n ∧ ∀ b, b < a → p b = false := by
  have hm : a ∈ (List.range n).filter p := by rw [h]; exact .head _
  obtain ⟨h1, h2⟩ := List.mem_filter.mp hm
  refine ⟨h2, List.mem_range.mp h1, fun b hb => ?_⟩
  cases hp : p b with
  | false => rfl
  | true =>
    exfalso
    have hb' : b ∈ (List.range n).filter p := List.mem_filter.mpr ⟨List.mem_range.mpr (Nat.lt_trans hb (List.mem_range.mp h1)), hp⟩
    have hs : ((List.range n).filter p).Pairwise (· < ·) := List.Pairwise.filter _ List.pairwise_lt_range
    rw [h] at hs hb'
    rcases List.mem_cons.mp hb' with rfl | hb'
    · exact Nat.lt_irrefl _ hb
    · exact Nat.lt_asymm hb ((List.pairwise_cons.mp hs).1 b hb')

theorem first_of {p : Nat → Bool} {n : Nat} (h : ∃ a, a < n ∧ p a = true) : ∃ st tl, ((List.range n).filter p).map (· + 1) = st :: tl ∧ 1 ≤ st ∧ st ≤ n ∧ p (st - 1) = true ∧ ∀ q, 1 ≤ q → q < st → p (q - 1) = false := by
  obtain ⟨a, ha, hp⟩ := h
  cases e : (List.range n).filter p with
  | nil =>
    have : a ∈ (List.range n).filter p := List.mem_filter.mpr ⟨List.mem_range.mpr ha, hp⟩
    rw [e] at this; cases this
  | cons b tl =>
    obtain ⟨h1, h2, h3⟩ := range_head e
    exact ⟨b + 1, tl.map (· + 1), rfl, by omega, by omega, h1, fun q h4 h5 => h3 _ (by omega)⟩

theorem alike_first {f : List Nat} (hF : F4 f) (hn : 1 ≤ f.length) {cut : Nat} (hc : cut ≤ f.length) : ∃ st tl, alikeL f cut f.length = st :: tl ∧ Least f cut st := by
  have hk : ∀ q, 1 ≤ q → q ≤ f.length → keptEq f cut (q - 1 + 1) = locB f cut q := fun q h1 h2 => by
    rw [Nat.sub_add_cancel h1, Bool.eq_iff_iff, keptEq_iff hF hc h2, locB_LocP hc]
  obtain ⟨st, tl, e, h1, h2, h3, h4⟩ := first_of (p := fun i => keptEq f cut (i + 1)) (n := f.length) ⟨f.length - 1, by omega, by
    rw [Nat.sub_add_cancel hn, keptEq_iff hF hc (Nat.le_refl _)]
    intro k h1 h2 h3; omega⟩
  refine ⟨st, tl, e, h1, h2, ?_, fun q h5 h6 => ?_⟩
  · rw [← hk st h1 h2]; exact h3
  · rw [← hk q h5 (by omega)]; exact h4 q h5 h6

theorem Least.same {f : List Nat} {cut a b : Nat} (h : Least f cut a) (k : Least f cut b) : a = b := by
  rcases Nat.lt_trichotomy a b with hlt | rfl | hlt
  · have := k.min a h.lo hlt; rw [h.loc] at this; cases this
  · rfl
  · have := h.min b k.lo hlt; rw [k.loc] at this; cases this

theorem step_least {f : List Nat} (hF : F4 f) (hn : 1 ≤ f.length) {cut : Nat} (hc : cut ≤ f.length) : Least f cut (stepOf f cut) := by
  obtain ⟨st, tl, e, h⟩ := alike_first hF hn hc
  unfold stepOf
  rw [e]; exact h

theorem perB_iff {f : List Nat} {z : Nat} (hF : F4 f) : perB f z = true ↔ PerP f z := by
  unfold perB
  rw [starts_iff (hF.drop _) hF, List.prefix_iff_eq_take]
  constructor
  · intro h k hk
    have e := congrArg (fun l : List Nat => l[k]?) h
    (try dsimp only at e)
    rw [List.getElem?_drop, List.getElem?_take, List.length_drop, if_pos (by omega)] at e
    rw [← e]; congr 1; omega
  · intro h
    apply List.ext_getElem?
    intro i
    rw [List.getElem?_drop, List.getElem?_take, List.length_drop]
    split
    · rename_i hi
      rw [h i (by omega)]; congr 1; omega
    · rename_i hi
      rw [List.getElem?_eq_none (by omega)]

theorem per_first {f : List Nat} (hF : F4 f) (hn : 1 ≤ f.length) : ∃ st tl, perL f f.length = st :: tl ∧ 1 ≤ st ∧ st ≤ f.length ∧ PerP f st ∧ ∀ q, 1 ≤ q → q < st → ¬ PerP f q := by
  have hk : ∀ q, 1 ≤ q → (perB f (q - 1 + 1) = true ↔ PerP f q) := fun q h1 => by rw [Nat.sub_add_cancel h1]; exact perB_iff hF
  obtain ⟨st, tl, e, h1, h2, h3, h4⟩ := first_of (p := fun i => perB f (i + 1)) (n := f.length) ⟨f.length - 1, by omega, by
    rw [Nat.sub_add_cancel hn, perB_iff hF]
    intro k hk; omega⟩
  refine ⟨st, tl, e, h1, h2, (hk st h1).mp h3, fun q h5 h6 h7 => ?_⟩
  have := h4 q h5 h6
  rw [(hk q h5).mpr h7] at this; cases this

theorem per_loc {f : List Nat} {r cut : Nat} (h : PerP f r) : LocP f cut r := fun k _ _ h3 => h k h3

/-! the suffixes -/
theorem suf_cps {text : Str} {k : Nat} (h : k ≤ text.length) : (sufS text k).cps.toList = text.cps.toList.drop k := by
  unfold sufS
  have := slice_closes_fromL (x := text) (i := (k : Int)) (b := (text.length : Int)) (by omega) (by omega) rfl
  rw [eq_of_beq this]
  simp only [Int.toNat_natCast]
  rw [List.take_of_length_le]
  rw [List.length_drop, Array.length_toList]
  have : text.length = text.cps.size := rfl
  omega

theorem maxS_of {f : List Nat} {text : Str} {φ : Nat → Nat} (ht : text.cps.toList = f.map φ) {a : Nat} (h : a < f.length ∧ ∀ j < f.length, slt (sufS text a) (sufS text j) = false) : MaxS (f.map φ) a := by
  have hl : text.length = f.length := by
    show text.cps.size = _
    rw [← Array.length_toList, ht, List.length_map]
  refine ⟨by rw [List.length_map]; exact h.1, fun j hj hlt => ?_⟩
  rw [List.length_map] at hj
  have h2 := h.2 j hj
  unfold slt at h2
  rw [decide_eq_false_iff_not, suf_cps (by omega), suf_cps (by omega), ht] at h2
  exact h2 hlt

theorem crit {f : List Nat} (hF : F4 f) (hn : 1 ≤ f.length) {a b p : Nat}
    (ha : a < f.length ∧ ∀ j < f.length, slt (sufS (txt1 f) a) (sufS (txt1 f) j) = false) (hb : b < f.length ∧ ∀ j < f.length, slt (sufS (txt2 f) b) (sufS (txt2 f) j) = false)
    (hp1 : 1 ≤ p) (hp : PerP f p) (hmin : ∀ q, 1 ≤ q → q < p → ¬ PerP f q) : max a b < p ∧ stepOf f (max a b) = p := by
  obtain ⟨t1, t2⟩ := txt_cps hF
  have hA := maxS_of t1 ha
  have hB := maxS_of t2 hb
  have key : ∀ r, 1 ≤ r → LocP f (max a b) r → max a b < r ∧ PerP f r := by
    intro r hr hl
    rcases Nat.le_total b a with hba | hab
    · rw [Nat.max_eq_left hba] at hl ⊢
      exact crit_two (φ := (48 + ·)) (ψ := (51 - ·)) (fun x hx y hy hne => by have := hF x hx; have := hF y hy; omega) hr hA hB hba hl
    · rw [Nat.max_eq_right hab] at hl ⊢
      exact crit_two (φ := (51 - ·)) (ψ := (48 + ·)) (fun x hx y hy hne => by have := hF x hx; have := hF y hy; omega) hr hB hA hab hl
  have hle : max a b ≤ f.length := by have := ha.1; have := hb.1; omega
  have hL := step_least hF hn hle
  refine ⟨(key p hp1 (per_loc hp)).1, ?_⟩
  have h1 := (key _ hL.lo ((locB_LocP hle).mp hL.loc)).2
  rcases Nat.lt_trichotomy (stepOf f (max a b)) p with hlt | e | hlt
  · exact absurd h1 (hmin _ hL.lo hlt)
  · exact e
  · have := hL.min p hp1 hlt
    rw [(locB_LocP hle).mpr (per_loc hp)] at this; cases this

/-! the table's rows -/
theorem lett_lower : ∀ st, st < 8 → 1 ≤ st → ∀ b, Txt.lower (lett b st) = lett true st := by decide +kernel
theorem gname_lower : ∀ st, st < 8 → 1 ≤ st → Txt.lower (gname st) = lett true st := by decide +kernel
theorem lett_eq : ∀ st, st < 8 → 1 ≤ st → ∀ z, z < 8 → 1 ≤ z → (lett true st == lett true z) = (st == z) := by decide +kernel
theorem lett_lt : ∀ st, st < 8 → ∀ z, z < 8 → 1 ≤ st → st < z → (lett true st).cps.toList < (lett true z).cps.toList := by decide +kernel

theorem getV_rows {f : List Nat} (hF : F4 f) (hn : 1 ≤ f.length) (h7 : f.length ≤ 7) {name : Str} {sz : Nat} (h1 : 1 ≤ sz) (h2 : sz ≤ 7) (hname : Txt.lower name = lett true sz) :
    getV (rowsOf f (f.length + 1)) name = ((List.range (f.length + 1)).filter fun c => stepOf f c == sz).map sOf := by
  unfold getV rowsOf
  rw [List.filter_map, List.map_map]
  have e : (List.range (f.length + 1)).filter ((fun a : Str × Str => Txt.lower a.1 == Txt.lower name) ∘ fun cut => (nameAt f cut, sOf cut)) = (List.range (f.length + 1)).filter fun c => stepOf f c == sz := by
    apply List.filter_congr
    intro c hc
    have hL := step_least hF hn (cut := c) (by have := List.mem_range.mp hc; omega)
    show (Txt.lower (nameAt f c) == Txt.lower name) = _
    unfold nameAt
    rw [hname, lett_lower _ (by have := hL.hi; omega) hL.lo, lett_eq _ (by have := hL.hi; omega) hL.lo _ (by omega) h1]
  rw [e]
  rfl

theorem rows_low {f : List Nat} (hF : F4 f) (hn : 1 ≤ f.length) (h7 : f.length ≤ 7) : ∀ a ∈ rowsOf f (f.length + 1), Builtin.Str.tooLong (Txt.lower a.1).length = false := by
  intro a ha
  obtain ⟨c, hc, rfl⟩ := List.mem_map.mp ha
  have hL := step_least hF hn (cut := c) (by have := List.mem_range.mp hc; omega)
  exact (lett_low _ (by have := hL.hi; omega) hL.lo _).1

theorem due_step {f : List Nat} (hF : F4 f) (hn : 1 ≤ f.length) {ds : List Nat} (hd : DueOk f (f.length + 1) ds) {c : Nat} (hc : c < f.length + 1) : ds.getD c 0 = stepOf f c := by
  have hlt : c < ds.length := by rw [hd.len]; exact hc
  have := hd.at_ c ds[c] (List.getElem?_eq_getElem hlt)
  rw [List.getD_eq_getElem?_getD, List.getElem?_eq_getElem hlt]
  exact this.same (step_least hF hn (by omega))

theorem rows_gs {f : List Nat} (hF : F4 f) (hn : 1 ≤ f.length) (h7 : f.length ≤ 7) {ds : List Nat} (hd : DueOk f (f.length + 1) ds) : ∀ sz, 1 ≤ sz → sz ≤ f.length → getV (rowsOf f (f.length + 1)) (gname sz) = ((List.range (f.length + 1)).filter fun c => ds.getD c 0 == sz).map sOf := by
  intro sz h1 h2
  rw [getV_rows hF hn h7 h1 (by omega) (gname_lower sz (by omega) h1)]
  congr 1
  apply List.filter_congr
  intro c hc
  rw [due_step hF hn hd (List.mem_range.mp hc)]

theorem rows_max {f : List Nat} (hF : F4 f) (hn : 1 ≤ f.length) (h7 : f.length ≤ 7) {p spot : Nat} (hs : spot ≤ f.length) (hsp : stepOf f spot = p) (hp : PerP f p) (hp7 : p ≤ f.length) (hp1 : 1 ≤ p) :
    ∀ M ∈ (rowsOf f (f.length + 1)).map (fun a => Txt.lower a.1), (∀ z ∈ (rowsOf f (f.length + 1)).map (fun a => Txt.lower a.1), ¬ M.cps.toList < z.cps.toList) → M = lett true p := by
  intro M hM hmax
  obtain ⟨a, ha, rfl⟩ := List.mem_map.mp hM
  obtain ⟨c, hc, rfl⟩ := List.mem_map.mp ha
  have hcl : c ≤ f.length := by have := List.mem_range.mp hc; omega
  have hL := step_least hF hn hcl
  have h8 : stepOf f c < 8 := by have := hL.hi; omega
  have e1 : Txt.lower (nameAt f c) = lett true (stepOf f c) := lett_lower _ h8 hL.lo _
  have hz : lett true p ∈ (rowsOf f (f.length + 1)).map (fun a => Txt.lower a.1) := by
    refine List.mem_map.mpr ⟨(nameAt f spot, sOf spot), List.mem_map.mpr ⟨spot, List.mem_range.mpr (by omega), rfl⟩, ?_⟩
    show Txt.lower (nameAt f spot) = _
    unfold nameAt
    rw [hsp]
    exact lett_lower _ (by omega) hp1 _
  have h2 := hmax _ hz
  show Txt.lower (nameAt f c) = _
  replace h2 : ¬ (Txt.lower (nameAt f c)).cps.toList < (lett true p).cps.toList := h2
  rw [e1] at h2 ⊢
  have hle : stepOf f c ≤ p := by
    rcases Nat.lt_or_ge p (stepOf f c) with hlt | hge
    · have := hL.min p hp1 hlt
      rw [(locB_LocP hcl).mpr (per_loc hp)] at this; cases this
    · exact hge
  rcases Nat.lt_or_eq_of_le hle with hlt | e
  · exact absurd (lett_lt _ h8 _ (by omega) hL.lo hlt) h2
  · rw [e]

theorem rows_in {f : List Nat} (hF : F4 f) (hn : 1 ≤ f.length) (h7 : f.length ≤ 7) {p spot : Nat} (hs : spot ≤ f.length) (hsp : stepOf f spot = p) (hp7 : p ≤ f.length) (hp1 : 1 ≤ p) : sOf spot ∈ getV (rowsOf f (f.length + 1)) (lett true p) := by
  rw [getV_rows hF hn h7 hp1 (by omega) (lett_lower _ (by omega) hp1 _)]
  exact List.mem_map.mpr ⟨spot, List.mem_filter.mpr ⟨List.mem_range.mpr (by omega), by rw [hsp]; exact beq_self_eq_true _⟩, rfl⟩
end Mine
end

section
theorem Mine.reset46 : True := by
  w_top off
  first | (walk1; done) | exact True.intro
set_option maxRecDepth 100000
set_option maxHeartbeats 4000000
namespace Mine
open PySem PySem.W PySem.Calls PyProof.Rows

theorem figs_ok (ns : List Int) : F4 (figs ns) ∧ 5 ≤ (figs ns).length ∧ (figs ns).length ≤ 7 := by
  refine ⟨fun x hx => ?_, ?_, ?_⟩
  · unfold figs at hx
    rcases List.mem_append.mp hx with hx | hx
    · obtain ⟨y, _, rfl⟩ := List.mem_map.mp hx
      have h1 := Int.emod_nonneg y (show (4 : Int) ≠ 0 by decide)
      have h2 := Int.emod_lt_of_pos y (show (0 : Int) < 4 by decide)
      show (y % 4).toNat < 4
      omega
    · have := List.mem_of_mem_drop hx
      simp only [List.mem_cons, List.not_mem_nil, or_false] at this
      omega
  · unfold figs
    simp only [List.length_append, List.length_map, List.length_take, List.length_drop, List.length_cons, List.length_nil]
    omega
  · unfold figs
    simp only [List.length_append, List.length_map, List.length_take, List.length_drop, List.length_cons, List.length_nil]
    omega

theorem max_exists (g : Nat → Str) : ∀ n, 1 ≤ n → ∃ a, a < n ∧ ∀ j < n, slt (g a) (g j) = false
  | 0, h => by omega
  | 1, _ => ⟨0, by omega, fun j hj => by
      obtain rfl : j = 0 := by omega
      unfold slt
      rw [decide_eq_false_iff_not]
      exact List.lt_irrefl _⟩
  | n + 2, _ => by
    obtain ⟨a, ha, hm⟩ := max_exists g (n + 1) (by omega)
    by_cases hc : slt (g a) (g (n + 1)) = true
    · refine ⟨n + 1, by omega, fun j hj => ?_⟩
      rcases Nat.lt_or_ge j (n + 1) with hlt | hge
      · have h1 := hm j hlt
        unfold slt at *
        rw [decide_eq_false_iff_not] at *
        rw [decide_eq_true_eq] at hc
        exact fun h2 => h1 (List.lt_trans hc h2)
      · obtain rfl : j = n + 1 := by omega
        unfold slt
        rw [decide_eq_false_iff_not]
        exact List.lt_irrefl _
    · refine ⟨a, by omega, fun j hj => ?_⟩
      rcases Nat.lt_or_ge j (n + 1) with hlt | hge
      · exact hm j hlt
      · obtain rfl : j = n + 1 := by omega
        exact Bool.eq_false_iff.mpr hc

theorem ne_gt {a b : Addr} (h : @LT.lt Nat _ a b) : b ≠ a := Nat.ne_of_gt h
theorem ne_lt {a b : Addr} (h : @LT.lt Nat _ a b) : a ≠ b := Nat.ne_of_lt h

theorem law_all {prog : Program} {w : World} {A : Around} {s : Shared} {p : Program} {loose : List Str} {mean : ExcName → Option Value} {mg mb : Str → Option Value} {h₀ : Heap} {L : Nat} {fa u : Addr} {cd : Value} {items : List Value} {ns : List Int} {o1 o2 o3 o4 o5 o6 o7 o8 : Obj}
  (X : (hd.heap_39 w.params).In h₀) (T : Top p loose mean mg mb h₀) (C : CodeHd h₀ 238 234) (r : Rm 20 A) (hl : h₀.IsList u items.toArray) (hi : IntsAre items ns) (hlen : ns.length ≤ 65536)
  (F : Fr h₀ L s.heap (fun y => if y = "script" then some (.ref u) else none))
  (N : News h₀ L s.heap [(L + 8, o8), (L + 7, o7), (L + 6, o6), (L + 5, o5), (L + 4, o4), (L + 3, o3), (L + 2, o2), (L + 1, o1), (234, tabObj #[])])
  (d1 : o1.data = .cell none) (d2 : o2.data = .cell none) (d3 : o3.data = .cell none) (d4 : o4.data = .cell none) (d5 : o5.data = .cell none) (d6 : o6.data = .cell none) (d7 : o7.data = .cell none) (d8 : o8.data = .cell none) (hL : 234 < L)
  {Q : Flow → Shared → Prop} {E : Value → Shared → Prop}
  (hQ : ∀ s' m ps, Sh s s' → Fr h₀ L s'.heap m → s'.heap.get? 234 = some (tabObj ps) → Q (.ret (.bool true)) s') :
  wpAny (model prog w) A (execs (bodyOf (mainSt 21)) (lawEnv L fa cd)) Q E s := by
  have e : bodyOf (mainSt 21) = [lawSt 0, lawSt 1, lawSt 2, lawSt 3, lawSt 4, lawSt 5, lawSt 6, lawSt 7, lawSt 8, lawSt 9, lawSt 10, lawSt 11, lawSt 12, lawSt 13] := rfl
  rw [e]
  obtain ⟨hF4, hn5, hf7⟩ := figs_ok ns
  have hn1 : 1 ≤ (figs ns).length := by omega
  -- figures
  refine wpAny_execs_cons (law0 (L := L) (rest := [(L + 8, o8), (L + 7, o7), (L + 6, o6), (L + 5, o5), (L + 4, o4), (L + 3, o3), (L + 2, o2), (234, tabObj #[])]) X T r hl hi hlen F (news_sub N ?_) d1 ?_ fun s1 D1 p1 vs1 sh1 e1 hv1 l1 F1 N1 => ?_)
  · intro p hp; simp only [List.mem_cons, List.not_mem_nil, or_false] at hp ⊢; grind
  · simp only [List.forall_mem_cons, List.not_mem_nil, false_imp_iff, implies_true, and_true]
    and_intros
    all_goals k_ne
  generalize figs ns = f at *
  have g1 : L + 8 < D1 := l1 (L + 8, o8) (by simp)
  -- count
  refine wpAny_execs_cons (law1 (L := L) (rest := [(L + 8, o8), (L + 7, o7), (L + 6, o6), (L + 5, o5), (L + 4, o4), (L + 3, o3), (234, tabObj #[])]) X T r hf7 F1 (news_sub N1 ?_) e1 d2 hv1 ?_ fun s2 p2 tc sh2 e2 F2 N2 => ?_)
  · intro p hp; simp only [List.mem_cons, List.not_mem_nil, or_false] at hp ⊢; grind
  · simp only [List.forall_mem_cons, List.not_mem_nil, false_imp_iff, implies_true, and_true]
    and_intros
    all_goals k_ne
  clear F N F1 N1
  -- units
  refine wpAny_execs_cons (law2 (L := L) (rest := [(L + 8, o8), (L + 7, o7), (L + 6, o6), (L + 5, o5), (L + 4, o4), (L + 2, p2), (234, tabObj #[])]) X T r hf7 F2 (news_sub N2 ?_) e1 d3 hv1 hF4 ?_ (fun _ _ => trivial) fun s3 p3 D2 us nu sh3 e3 hu l3 F3 N3 => ?_)
  · intro p hp; simp only [List.mem_cons, List.not_mem_nil, or_false] at hp ⊢; grind
  · simp only [List.forall_mem_cons, List.not_mem_nil, false_imp_iff, implies_true, and_true]
    and_intros
    all_goals k_ne
  have g2 : L + 8 < D2 := l3 (L + 8, o8) (by simp)
  have g21 : D1 < D2 := l3 (D1, PySem.W.listOf vs1.toArray 0) (by simp)
  clear F2 N2
  -- kept
  refine wpAny_execs_cons (law3 (L := L) (DU := D2) (us := us) (nu := nu) (rest := [(L + 8, o8), (L + 7, o7), (L + 6, o6), (L + 4, o4), (L + 1, p1), (D1, PySem.W.listOf vs1.toArray 0), (234, tabObj #[])]) X T r hf7 F3 (news_sub N3 ?_) e3 e2 d5 hu ?_ fun s4 p5 D3 ks nk xs sh4 e5 hK l4 hxs F4 N4 => ?_)
  · intro p hp; simp only [List.mem_cons, List.mem_append, List.cons_append, List.nil_append, List.not_mem_nil, or_false] at hp ⊢; grind
  · simp only [List.forall_mem_cons, List.not_mem_nil, false_imp_iff, implies_true, and_true]
    and_intros
    all_goals k_ne
  have g3 : L + 8 < D3 := l4 (L + 8, o8) (by simp)
  have hx8 : ∀ q ∈ xs, @LT.lt Nat _ (L + 8) q.1 := fun q hq => Nat.lt_trans g3 (hxs q hq)
  clear F3 N3
  -- table
  refine wpAny_execs_cons (law4 (L := L) X T r hf7 F4 N4 fun s5 x dx H hs th kd sh5 hxd hxH hdH l5 F5 N5 => ?_)
  have gx : L + 8 < x := (l5 (L + 8, o8) (by simp)).1
  have gd : L + 8 < dx := (l5 (L + 8, o8) (by simp)).2.1
  have gH : L + 8 < H := (l5 (L + 8, o8) (by simp)).2.2
  have gHD1 : D1 < H := (l5 (D1, PySem.W.listOf vs1.toArray 0) (by simp)).2.2
  have gHD2 : D2 < H := (l5 (D2, PySem.W.listOf us.toArray nu) (by simp)).2.2
  have gHD3 : D3 < H := (l5 (D3, PySem.W.listOf ks.toArray nk) (by simp)).2.2
  clear F4 N4
  -- the cuts
  refine wpAny_execs_cons (law5 (L := L) (x := x) (dx := dx) (H := H) (hs := hs) (th := th) (kd := kd) (DK := D3) (ks := ks) (nk := nk) (xs := xs) (rest := (L + 8, o8) :: (L + 7, o7) :: (L + 4, o4) :: (L + 3, p3) :: (L + 1, p1) :: (D1, PySem.W.listOf vs1.toArray 0) :: (D2, PySem.W.listOf us.toArray nu) :: (234, tabObj #[]) :: xs) X T r hf7 F5 (news_sub N5 ?_) d6 e5 e2 hK ?_
    (fun cut hc => let ⟨st, tl, e, _⟩ := alike_first hF4 hn1 hc; ⟨st, tl, e⟩) ?_ ?_ ?_ fun s6 p6 v6 v items6 n6 ts sh6 e6 hTup hts5 F6 N6 => ?_)
  · intro p hp; simp only [List.mem_cons, List.mem_append, List.cons_append, List.nil_append, List.not_mem_nil, or_false] at hp ⊢; grind
  · intro q hq; simp [hq]
  · simp only [List.forall_mem_cons, List.forall_mem_append, List.cons_append, List.nil_append, List.not_mem_nil, false_imp_iff, implies_true, and_true]
    and_intros
    all_goals first | k_ne | assumption | (intro q hq; exact ne_lt (l5 q (by simp [hq])).2.2)
  · k_ne
  · simp only [List.forall_mem_cons, List.forall_mem_append, List.cons_append, List.nil_append, List.not_mem_nil, false_imp_iff, implies_true, and_true]
    and_intros
    all_goals first | k_ne | assumption | (intro q hq; exact ne_gt (Nat.lt_of_le_of_lt (by omega) (hx8 q hq)))
  clear F5 N5
  -- due
  refine wpAny_execs_cons (law6 (L := L) (D := D1) (vs := vs1) (nv := 0) (rest := (L + 8, o8) :: (L + 4, o4) :: (L + 3, p3) :: (H, PySem.W.listOf items6.toArray n6) :: (x, instObj 221 dx) :: (dx, hdict hs th kd H) :: (D2, PySem.W.listOf us.toArray nu) :: (234, tabObj #[]) :: ts) X T r hf7 (by omega) F6 (news_sub N6 ?_) e1 e2 d7 hv1 ?_ fun s7 p7 D6 dvs nd ds sh7 e7 hds hdv l7 F7 N7 => ?_)
  · intro p hp; simp only [List.mem_cons, List.mem_append, List.cons_append, List.nil_append, List.not_mem_nil, or_false] at hp ⊢; grind
  · simp only [List.forall_mem_cons, List.forall_mem_append, List.cons_append, List.nil_append, List.not_mem_nil, false_imp_iff, implies_true, and_true]
    and_intros
    all_goals first | k_ne | assumption | (intro q hq; exact ne_gt (Nat.lt_of_le_of_lt (by omega) (hx8 q hq))) | (intro q hq; exact ne_lt (l5 q (by simp [hq])).2.2) | (intro q hq; exact (hts5 q hq).2.2 (L + 7, o7) (by simp))
  have g6 : L + 8 < D6 := l7 (L + 8, o8) (by simp)
  clear F6 N6
  -- get_all
  refine wpAny_execs_cons (law7 (L := L) (x := x) (dx := dx) (H := H) (hs := hs) (th := th) (kd := kd) (n := n6) (items := items6) (DD := D6) (dvs := dvs) (nd := nd) (ts := ts) (ds := ds) (rest := (L + 8, o8) :: (L + 3, p3) :: (L + 1, p1) :: (D1, PySem.W.listOf vs1.toArray 0) :: (D2, PySem.W.listOf us.toArray nu) :: (234, tabObj #[]) :: ts) X T r hf7 F7 (news_sub N7 ?_) d4 e2 e7 hdv hds.len hTup ?_ (rows_gs hF4 hn1 hf7 hds) (rows_low hF4 hn1 hf7) ?_ fun s8 p4 v4 sh8 e4 F8 N8 => ?_)
  · intro p hp; simp only [List.mem_cons, List.mem_append, List.cons_append, List.nil_append, List.not_mem_nil, or_false] at hp ⊢; grind
  · intro q hq; simp [hq]
  · simp only [List.forall_mem_cons, List.forall_mem_append, List.cons_append, List.nil_append, List.not_mem_nil, false_imp_iff, implies_true, and_true]
    and_intros
    all_goals first | k_ne | assumption | (intro q hq; exact ne_gt (Nat.lt_of_le_of_lt (by omega) (hx8 q hq))) | (intro q hq; exact ne_lt (l5 q (by simp [hq])).2.2) | (intro q hq; exact (hts5 q hq).2.2 (L + 4, o4) (by simp))
  clear F7 N7
  -- whole
  refine wpAny_execs_cons (law8 (L := L) (DU := D2) (us := us) (nu := nu) (rest := (L + 2, p2) :: (L + 1, p1) :: (D1, PySem.W.listOf vs1.toArray 0) :: (H, PySem.W.listOf items6.toArray n6) :: (x, instObj 221 dx) :: (dx, hdict hs th kd H) :: (234, tabObj #[]) :: ts) X T r hf7 F8 (news_sub N8 ?_) e3 d8 hu ?_ fun s9 p8 tw sh9 e8 F9 N9 => ?_)
  · intro p hp; simp only [List.mem_cons, List.mem_append, List.cons_append, List.nil_append, List.not_mem_nil, or_false] at hp ⊢; grind
  · simp only [List.forall_mem_cons, List.forall_mem_append, List.cons_append, List.nil_append, List.not_mem_nil, false_imp_iff, implies_true, and_true]
    and_intros
    all_goals first | k_ne | assumption | (intro q hq; exact ne_gt (Nat.lt_of_le_of_lt (by omega) (hx8 q hq))) | (intro q hq; exact ne_lt (l5 q (by simp [hq])).2.2) | (intro q hq; exact (hts5 q hq).2.2 (L + 8, o8) (by simp))
  clear F8 N8
  -- step
  obtain ⟨st, tl, hpl, hst1, hst2, hper, hmin⟩ := per_first hF4 hn1
  refine wpAny_execs_cons (law9 (L := L) (DU := D2) (us := us) (nu := nu) (rest := (L + 1, p1) :: (D1, PySem.W.listOf vs1.toArray 0) :: (H, PySem.W.listOf items6.toArray n6) :: (x, instObj 221 dx) :: (dx, hdict hs th kd H) :: (234, tabObj #[]) :: ts) X T r hf7 F9 (news_sub N9 ?_) e3 e2 e8 hu hpl fun s10 tS sh10 F10 N10 => ?_)
  · intro p hp; simp only [List.mem_cons, List.mem_append, List.cons_append, List.nil_append, List.not_mem_nil, or_false] at hp ⊢; grind
  clear F9 N9
  -- letter
  refine wpAny_execs_cons (law10 (L := L) X T r hf7 F10 N10 hst1 (by omega) fun s11 tL sh11 F11 N11 => ?_)
  clear F10 N10
  -- the greatest letter
  obtain ⟨a0, ha0⟩ := max_exists (fun k => sufS (txt1 f) k) f.length hn1
  obtain ⟨b0, hb0⟩ := max_exists (fun k => sufS (txt2 f) k) f.length hn1
  have hc0 := crit hF4 hn1 ha0 hb0 hst1 hper hmin
  have hrn : (rowsOf f (f.length + 1)).length = f.length + 1 := by unfold rowsOf; rw [List.length_map, List.length_range]
  refine wpAny_execs_cons (law11 (L := L) (x := x) (dx := dx) (H := H) (hs := hs) (th := th) (kd := kd) (n := n6) (st := st) (items := items6) (ts := ts) (rows := rowsOf f (f.length + 1)) (rest := (L + 1, p1) :: (D1, PySem.W.listOf vs1.toArray 0) :: (234, tabObj #[]) :: ts) X T r hf7 F11 (news_sub N11 ?_) hTup ?_ (by omega) (by omega) (rows_low hF4 hn1 hf7)
    (rows_max hF4 hn1 hf7 (by have := ha0.1; have := hb0.1; omega) hc0.2 hper hst2 hst1) fun s12 sh12 F12 N12 => ?_)
  · intro p hp; simp only [List.mem_cons, List.mem_append, List.cons_append, List.nil_append, List.not_mem_nil, or_false] at hp ⊢; grind
  · intro q hq; simp [hq]
  clear F11 N11
  -- spot
  refine wpAny_execs_cons (law12 (L := L) (D := D1) (vs := vs1) (nv := 0) (rest := (H, PySem.W.listOf items6.toArray n6) :: (x, instObj 221 dx) :: (dx, hdict hs th kd H) :: ts) X T r hf7 hF4 hn1 C F12 (news_sub N12 ?_) e1 hv1 ?_ (Nat.ne_of_gt hL) fun s13 tP a b ps sh13 ha hb F13 N13 => ?_)
  · intro p hp; simp only [List.mem_cons, List.mem_append, List.cons_append, List.nil_append, List.not_mem_nil, or_false] at hp ⊢; grind
  · simp only [List.forall_mem_cons, List.forall_mem_append, List.cons_append, List.nil_append, List.not_mem_nil, false_imp_iff, implies_true, and_true]
    and_intros
    all_goals first | k_ne | assumption | (intro q hq; exact ne_gt (Nat.lt_of_le_of_lt (by omega) (hx8 q hq))) | (intro q hq; exact ne_lt (l5 q (by simp [hq])).2.2) | (intro q hq; exact (hts5 q hq).2.2 (234, tabObj #[]) (by simp))
  clear F12 N12
  have hc := crit hF4 hn1 ha hb hst1 hper hmin
  rw [show max (a : Int) (b : Int) = ((max a b : Nat) : Int) by omega] at F13
  -- the end
  refine wpAny_execs_cons (law13 (L := L) (x := x) (dx := dx) (H := H) (hs := hs) (th := th) (kd := kd) (n := n6) (st := st) (sp := max a b) (items := items6) (ts := ts) (rows := rowsOf f (f.length + 1)) (rest := (234, tabObj ps) :: ts) X T r hf7 F13 (news_sub N13 ?_) hTup ?_ (by omega) hst1 (by omega) hc.1 (rows_low hF4 hn1 hf7)
    (rows_in hF4 hn1 hf7 (by have := ha.1; have := hb.1; omega) hc.2 hst2 hst1) fun s14 sh14 F14 N14 => ?_)
  · intro p hp; simp only [List.mem_cons, List.mem_append, List.cons_append, List.nil_append, List.not_mem_nil, or_false] at hp ⊢; grind
  · intro q hq; simp [hq]
  exact hQ s14 _ ps (((((((((((((sh1.trans sh2).trans sh3).trans sh4).trans sh5).trans sh6).trans sh7).trans sh8).trans sh9).trans sh10).trans sh11).trans sh12).trans sh13).trans sh14) F14 (N14 (234, tabObj ps) (by simp)).1
end Mine
end

section
local macro_rules | `(tactic| walk_at "serves nothing") => `(tactic| skip)
local macro_rules | `(tactic| walk_at "serves nothing") => `(tactic| skip)
local macro_rules | `(tactic| walk_at "serves nothing") => `(tactic| skip)
local macro_rules | `(tactic| walk_at "serves nothing") => `(tactic| skip)
local macro_rules | `(tactic| walk_at "serves nothing") => `(tactic| skip)
local macro_rules | `(tactic| walk_at "serves nothing") => `(tactic| skip)
local macro_rules | `(tactic| walk_at "serves nothing") => `(tactic| skip)
local macro_rules | `(tactic| walk_at "serves nothing") => `(tactic| skip)
local macro_rules | `(tactic| walk_at "serves nothing") => `(tactic| skip)
local macro_rules | `(tactic| walk_at "serves nothing") => `(tactic| skip)
theorem Mine.reset47 : True := by
  w_top off
  first | (walk1; done) | exact True.intro
set_option maxRecDepth 100000
set_option maxHeartbeats 8000000
namespace Mine
open PySem PySem.W PySem.Calls PyProof.Rows

theorem kn_postT {M : Model} {A : Around} {cd : Code} {s s₁ : Shared} {cw : ClaimW} {cl : Str → Option Addr} {mean : ExcName → Option Value} {args : List WData} {tabs : List (Addr × Addr)} (hT : TabsAt tabs s₁.heap)
    (h : codeAny M A cd (fun r s' => r = .ok (.ret (.bool true)) ∧ (∀ b o, (ghostOf s₁.heap tabs).get? b = some o → s'.heap.get? b = some o) ∧ GrownAll tabs s'.heap ∧ s'.os = s₁.os ∧ AllBare s'.gens) s) (hr : ∀ x, cw.raises args x = false) (hp : cw.post args (.bool true) args = true) : codeAny M A cd (GoodWG cw cl mean args s₁) s := by
  refine codeAny_mono h fun r s' hq => ?_
  obtain ⟨rfl, hk, hgr, hos, hb⟩ := hq
  refine ⟨.inl ⟨.bool true, .bool true, [], rfl, hr, ReadsW.bool true, hp, fun _ => ⟨List.nodup_nil, fun _ hm => nomatch hm⟩⟩, ⟨fun b o e => ?_, fun b o e => ?_⟩, hos, hb⟩
  · by_cases hm : b ∈ tabs.map (·.2)
    · obtain ⟨q, hq, rfl⟩ := List.mem_map.mp hm
      obtain ⟨h1, h2⟩ := hT q hq
      obtain rfl := Option.some.inj (h2.symm.trans e)
      obtain ⟨ps, hP⟩ := hgr.get q hq
      exact .inr (.inl ⟨(h1.tab h2).isCodeTable, rfl, #[], ps, rfl, by rw [Array.empty_append]; exact hP⟩)
    · exact .inl (hk b o (ghost_ne e hm))
  · by_cases hm : b ∈ tabs.map (·.2)
    · obtain ⟨q, hq, rfl⟩ := List.mem_map.mp hm
      obtain ⟨ps, hP⟩ := hgr.get q hq
      exact ⟨_, hP⟩
    · exact ⟨o, hk b o (ghost_ne e hm)⟩
end Mine
open PySem PySem.W PySem.Calls PyProof.Rows
local macro_rules | `(tactic| kn_posts) => `(tactic| refine Mine.kn_postT (by assumption) ?_ ?_ ?_)

theorem PySem.Challenge.cw_us0021_01_holds : PySem.Challenge.rw_us0021_01.Holds := by
  refine Mine.hd ?_
  k_go0
  case refine_2 => exact fun _ => rfl
  case refine_3 => first | rfl | wrow_post
  rename Frag.In _ _ => X9
  rename Fr _ _ _ _ => F9
  rename News _ _ _ _ => N9
  rename IntsAre _ _ => I9
  rename (Shared.gens _ = #[]) => G9
  rename_i h1 tk1 q8 q7 q6 q5 q4 q3 q2 q1 e8 e7 e6 e5 e4 e3 e2 e1 X0 T9 K9 l0
  refine' Mine.law_all X9 T9 codeHd (Mine.Rm.deeper (n := 20) (A := callerA) ⟨rfl, by decide, by decide⟩ _) lifted I9 ?hlen ?F ?N (o1 := q1) (o2 := q2) (o3 := q3) (o4 := q4) (o5 := q5) (o6 := q6) (o7 := q7) (o8 := q8) ?d1 ?d2 ?d3 ?d4 ?d5 ?d6 ?d7 ?d8 l0 fun s' m ps sh F' h234 => ?_
  case hlen => omega
  case F => exact Mine.frCast F9 (by intro y; rfl)
  case N => exact N9
  case d1 => exact e1
  case d2 => exact e2
  case d3 => exact e3
  case d4 => exact e4
  case d5 => exact e5
  case d6 => exact e6
  case d7 => exact e7
  case d8 => exact e8
  refine ⟨rfl, F'.keep, ⟨⟨ps, h234⟩, trivial⟩, sh.os, sh.bare ?_⟩
  exact AllBare.of_eq G9
end
