import PyProof.Rows.All
import Wide.All
import OpenK.AllK
import KE.KSetAt
import KE.KDictText
import KE.KCompText
import KE.KCompIf
import KE.KLcPair
import KE.LcSums
import KE.KPop
import Wide.FinOn
import PySem.Challenge.RW_sl0017_01
open PySem PySem.W PyProof.Rows PySem.Calls
set_option Elab.async false
set_option maxRecDepth 100000
set_option maxHeartbeats 8000000
set_option linter.all false
namespace Mine
theorem small : @instDecidableEqStr = @instDecidableEqStr := rfl
name_quick tw8075568018651887793 for instDecidableEqStr by Mine.small
name_quick tw14979626087600564940 for instDecidableEqStr by Mine.small
name_quick tw16851712826922971589 for instDecidableEqStr by Mine.small
name_quick tw6748821791490077771 for instDecidableEqStr by Mine.small
name_quick tw15313067249213587214 for instDecidableEqStr by Mine.small
name_quick tw8867366115056585528 for instDecidableEqStr by Mine.small
name_quick tw8753696776887207221 for instDecidableEqStr by Mine.small
name_quick tw10948738476641704880 for instDecidableEqStr by Mine.small
name_quick tw17111948838632640456 for instDecidableEqStr by Mine.small
name_quick tw14473539162793888280 for instDecidableEqStr by Mine.small
name_quick tw1702518465993881591 for instDecidableEqStr by Mine.small
name_quick tw17888162413812561239 for instDecidableEqStr by Mine.small
name_quick tw10938465397075749097 for instDecidableEqStr by Mine.small
name_quick tw8424611434330503625 for instDecidableEqStr by Mine.small
name_quick tw10833955939284561965 for instDecidableEqStr by Mine.small
open_top hd for PySem.Challenge.rw_sl0017_01
abbrev PR := PySem.Challenge.rw_sl0017_01.row.prog
abbrev TopM (mean : ExcName → Option Value) (mg mb : Str → Option Value) (h : Heap) : Prop :=
  Top hd.view_39 (looseW hd.view_39 [Str.ofString "bisect_right", Str.ofString "EXACT_TOKEN_TYPES"]) mean mg mb h

/-- the frame of what every call of mine is proved for -/
abbrev CallTells (w : World) (mean : ExcName → Option Value) (mg mb : Str → Option Value) (d u : Nat)
    (f : Addr) (vs : List Value) (news : List (Addr × Obj)) (R : (Value → List (Addr × Obj) → Prop)) : Prop :=
  ∀ (dp un : Nat) (gd : Option (List Code)) (cn : Str) (cs : Scope) (a : Addr) (ccd : Value) (cl : List (Str × Addr)) (outer : List Env) (A₀ : Around) (base h₀ : Heap) (L : Addr) (m : Str → Option Value) (s : Shared) (Q E : Value → Shared → Prop),
    Below A₀ base outer h₀ → Fr h₀ L s.heap m → (hd.heap_39 w.params).In h₀ → News h₀ L s.heap news → TopM mean mg mb h₀ → AllBare s.gens → cs.kind = .function →
    dp + d < recursionLimit → un + u < cLine →
    (∀ (v : Value) (tl : List (Addr × Obj)) (h' : Heap) (G' : Array GenState) (tk' : Nat), R v tl → (∀ p ∈ news, ∀ q ∈ tl, p.1 ≠ q.1) → Fr h₀ L h' m → News h₀ L h' (tl ++ news) → AllBare G' →
      Q v { heap := h', gens := G', drawn := s.drawn, toks := tk', os := s.os }) →
    wpAny (model PR w) (ktrTop dp un gd cn cs L a ccd cl outer) (call (.ref f) vs) Q E s
def dummy (w : World) : Prop := hd.heap_39 w.params = hd.heap_39 w.params ∧ PySem.Challenge.rw_sl0017_01 = PySem.Challenge.rw_sl0017_01

theorem dummy_ (w : World) : dummy w := by
  unfold dummy
  k_fill
  exact ⟨rfl, rfl⟩
section
variable {M : Model} {A : Around} {R : GenEnd} {Y : Protocol} {n : Nat} {s₀ : Shared} {c : Code} {fs : List Frame} {s : Shared} {env : Env}
  {K : Flow → Sem Fin} {H : Value → Sem Fin} {gd : Bool → Bool} {lv : List Value → List Value}

/-- what a loop of a generator's body hands back to the block it stands in -/
def backK (env : Env) (K : Flow → Sem Fin) (H : Value → Sem Fin) (gd : Bool → Bool) (lv : List Value → List Value) (r : Result) : Sem Fin :=
  ((match r with | .ok f => (.pure f : Sem Flow) | .error e => .raise e).onRaise fun (x : Value) => do
        if (← field x 1) == Value.none then unsupported "frame.own-activation:exception-without-traceback"
        setFlight x env.frame).wrap K H gd lv

theorem seg_For {target iter : Expr} {body orelse : List Stmt} {pos : Pos}
    (hs : ∀ x, foldedSetIterable iter env x = pure x)
    (h : wpAny M (A.over c fs) (eval iter env) (fun x s₁ => wpAny M (A.over c fs) (pyIter x) (fun it s₂ =>
      ∀ p, Seg M A R Y n s₀ (.forLoop target it body orelse env) (M.den (.forLoop target it body orelse env))
        (.ret (backK env K H gd lv) none (gd false) (lv []) c p [] :: fs) s₂) (fun _ _ => False) s₁) (fun _ _ => False) s) :
    Seg M A R Y n s₀ c ((exec (.For target iter body orelse pos) env).wrap K H gd lv) fs s := by
  rw [exec_For]
  refine seg_bind_wrap (wpAny_standAt ?_)
  refine seg_bind_wrap (wpAny_mono h (fun x s₁ h₁ => ?_) fun _ _ x => x.elim)
  refine seg_bind_wrap (wpAny_of_eq (hs x) ?_)
  refine seg_bind_wrap (wpAny_standAt ?_)
  refine seg_bind_wrap (wpAny_holding (wpAny_mono h₁ (fun it s₂ h₂ => ?_) fun _ _ x => x.elim))
  exact seg_call h₂

theorem seg_If {test : Expr} {body orelse : List Stmt} {pos : Pos}
    (h : wpAny M (A.over c fs) (isTrue test env (eval test env)) (fun b s₁ => if b = true then Seg M A R Y n s₀ c ((execs body env).wrap K H gd lv) fs s₁ else Seg M A R Y n s₀ c ((execs orelse env).wrap K H gd lv) fs s₁) (fun _ _ => False) s) :
    Seg M A R Y n s₀ c ((exec (.If test body orelse pos) env).wrap K H gd lv) fs s := by
  rw [exec_If]
  refine seg_bind_wrap (wpAny_standAt ?_)
  refine seg_bind_wrap (wpAny_mono h (fun b s₁ h₁ => ?_) fun _ _ x => x.elim)
  cases b
  · rw [if_neg Bool.false_ne_true] at h₁ ⊢; exact h₁
  · rw [if_pos rfl] at h₁ ⊢; exact h₁

theorem seg_exec {st : Stmt} (h : wpAny M (A.over c fs) (exec st env) (fun f s₁ => Seg M A R Y n s₀ c (K f) fs s₁) (fun _ _ => False) s) :
    Seg M A R Y n s₀ c ((exec st env).wrap K H gd lv) fs s := seg_wrap (wpAny_mono h (fun _ _ x => x) fun _ _ x => x.elim)
end
section
variable {prog : Program} {w : World} {A : Around} {R : GenEnd} {Y : Protocol} {n : Nat} {s₀ : Shared} {fs : List Frame} {s : Shared} {env : Env}

theorem seg_forLoop {target : Expr} {it : Value} {body : List Stmt}
    (h : wpAny (model prog w) (A.over (.forLoop target it body [] env) fs) (pyNext it) (fun r s₁ => match r with
        | none => Seg (model prog w) A R Y n s₀ (.block [] env) (.pure (.done .next)) fs s₁
        | some v => wpAny (model prog w) (A.over (.forLoop target it body [] env) fs) (letOwnedTupleGo target it v) (fun _ s₂ =>
            wpAny (model prog w) (A.over (.forLoop target it body [] env) fs) (assign target env v) (fun _ s₃ =>
              Seg (model prog w) A R Y n s₀ (.forLoop target it body [] env) ((execs body env).wrap (fun f => match f with
                | .next | .cont => .pure (.again (.forLoop target it body [] env))
                | .brk => .pure (.done .next)
                | .ret v => .pure (.done (.ret v))) (fun e => (do noteFrame e env; theTreesLotGoes e : Sem Unit).wrap (fun _ => .raise e) .raise id id) id id) fs s₃)
              (fun _ _ => False) s₂) (fun _ _ => False) s₁) (fun _ _ => False) s) :
    Seg (model prog w) A R Y n s₀ (.forLoop target it body [] env) ((model prog w).den (.forLoop target it body [] env)) fs s := by
  show Seg _ A R Y n s₀ _ ((forTurn target it body [] env).onRaise (fun x => do noteFrame x env; theTreesLotGoes x)) fs s
  unfold forTurn
  rw [Sem.onRaise_eq_wrap]
  refine seg_bind_wrap (wpAny_standAt ?_)
  refine seg_bind_wrap (wpAny_onRaise (wpAny_mono h (fun r s₁ h₁ => ?_) fun _ _ x => x.elim))
  cases r with
  | none =>
    refine seg_again rfl ?_
    exact h₁
  | some v =>
    refine seg_bind_wrap (wpAny_mono h₁ (fun _ s₂ h₂ => ?_) fun _ _ x => x.elim)
    refine seg_bind_wrap (wpAny_mono h₂ (fun _ s₃ h₃ => ?_) fun _ _ x => x.elim)
    rw [Sem.bind_eq_wrap', Sem.wrap_wrap]
    rw [Sem.wrap_congr (execs body env) _ _ (K' := fun f => match f with
            | .next | .cont => .pure (.again (.forLoop target it body [] env))
            | .brk => .pure (.done .next)
            | .ret v => .pure (.done (.ret v))) (H' := (fun e => (do noteFrame e env; theTreesLotGoes e : Sem Unit).wrap (fun _ => .raise e) .raise id id))
        (fun f => by cases f <;> rfl)
        (fun e => by first | exact Sem.bind_eq_wrap _ _ | (show (do noteFrame e env; theTreesLotGoes e : Sem Unit).bind (fun _ => .raise e) = _; rw [Sem.bind_eq_wrap]))]
    exact h₃
end

noncomputable section

def fnData (w : World) (a : Addr) : Option FuncData := match (hd.heap_39 w.params).lookup a with
  | some ⟨_, _, .func fd, _⟩ => some fd
  | _ => none
def fnBody (w : World) (a : Addr) : List Stmt := match fnData w a with
  | some fd => (match fd.body with | .stmts b => b | _ => [])
  | _ => []
def fnScope (w : World) (a : Addr) : Scope := match fnData w a with
  | some fd => fd.scope
  | _ => default
def nthStmt (b : List Stmt) (i : Nat) : Stmt := match b.drop i with | s :: _ => s | [] => .Pass default
def forTarget : Stmt → Expr | .For t _ _ _ _ => t | _ => .Name (Str.ofString "") default
def forBody : Stmt → List Stmt | .For _ _ b _ _ => b | .While _ b _ _ => b | .If _ b _ _ => b | _ => []

/-- what the reader of escaped signs yields: the place, the piece -/
def escGo : Nat → Bool → List Nat → List (Nat × List Nat)
  | i, esc, [] => if esc then [(i - 1, [92])] else []
  | i, esc, c :: r => if esc then (i, [92, c]) :: escGo (i + 1) false r else if c = 92 then escGo (i + 1) true r else (i, [c]) :: escGo (i + 1) false r

def escOf (x : Str) : List (Nat × List Nat) := escGo 0 false x.cps.toList

def SinceO (own : List Addr) (s₀ s : Shared) : Prop :=
  ∃ h' tk, s = { s₀ with heap := h', toks := tk } ∧ ∀ b o, b ∉ own → s₀.heap.get? b = some o → h'.get? b = some o
theorem SinceO.refl (own : List Addr) (s : Shared) : SinceO own s s := ⟨s.heap, s.toks, rfl, fun _ _ _ e => e⟩
theorem SinceO.step {own : List Addr} {s₀ s : Shared} (x : SinceO own s₀ s) {h' : Heap} {tk : Nat} (hk : ∀ b o, b ∉ own → s.heap.get? b = some o → h'.get? b = some o) :
    SinceO own s₀ { s with heap := h', toks := tk } := by
  obtain ⟨h₁, tk₁, rfl, hk₁⟩ := x
  exact ⟨h', tk, rfl, fun b o hw e => hk b o hw (hk₁ b o hw e)⟩

def TupQ (h : Heap) (T : Addr) (q : Nat × List Nat) : Prop := ∃ t u, h.IsTuple T #[.int q.1 t, .str ⟨q.2.toArray⟩ u]

def escProto (own : List Addr) (items : List (Nat × List Nat)) : Protocol := fun m s₀ v s kap =>
  (∃ q T, items[items.length - 1 - m]? = some q ∧ v = .ref T ∧ TupQ s.heap T q) ∧ SinceO own s₀ s ∧
    ∀ s'' : Shared, (∀ b ∈ own, ∀ o, s.heap.get? b = some o → s''.heap.get? b = some o) → kap (.send .none) s''
abbrev escEnd (own : List Addr) : GenEnd := fun n s₀ r s₁ => r = .ok (.ret .none) ∧ (n = 0 ∧ SinceO own s₀ s₁)

abbrev escEnv (w : World) (L : Addr) : Env := envOf (Str.ofString "_iter_escaped_chars") (fnScope w 30) L 30 (.ref 29)

abbrev sPos : Str := Str.ofString "pos"
abbrev sCh : Str := Str.ofString "ch"
abbrev sEsc : Str := Str.ofString "escape"

theorem esc_at {items pre : List (Nat × List Nat)} {q : Nat × List Nat} {r : List (Nat × List Nat)} (e : items = pre ++ q :: r) : items[items.length - 1 - r.length]? = some q := by
  subst e
  simp only [List.length_append, List.length_cons]
  have : pre.length + (r.length + 1) - 1 - r.length = pre.length := by omega
  rw [this]; simp

section
variable {w : World} {A : Around}
theorem ns_set {h : Heap} {L : Addr} {m m' : Str → Option Value} (x : h.Ns L m) (e : ∀ y, m y = m' y) : h.Ns L m' := by
  have : m = m' := funext e
  exact this ▸ x

/-- a value is stored in a name of the generator's frame -/
theorem esc_store {L : Addr} {E : Value → Shared → Prop} {s : Shared} {m : Str → Option Value} {x : Str} {v : Value} {Q : Unit → Shared → Prop} (hx : (escEnv w L).kindOf x = some .local)
    (hn : s.heap.Ns L m) (h : ∀ h', h'.Ns L (fun y => if y = x then some v else m y) → Heap.SameBut L s.heap h' → Q () { s with heap := h', toks := s.toks + 1 }) :
    wpAny (model PR w) A (storeName (escEnv w L) x v) Q E s := wpAny_storeName_local hx hn h rfl
theorem esc_load {L : Addr} {E : Value → Shared → Prop} {s : Shared} {m : Str → Option Value} {x : Str} {v : Value} {pos : Pos} {Q : Value → Shared → Prop} (hx : (escEnv w L).kindOf x = some .local)
    (hd : (x == ("__debug__" : Str)) = false) (hn : s.heap.Ns L m) (hv : m x = some v) (h : Q v s) :
    wpAny (model PR w) A (eval (.Name x pos) (escEnv w L)) Q E s := wpAny_Name (wpAny_loadName_local rfl hx hn hv h) hd

theorem escBody_ex (w : World) : ∃ p1 p2 k1 p3 p4 p5 k2 p6 p7 p8 p9 k3 p10 p11 p12 p13 k4 p14 p15 p16 p17 k5 p18 p19 p20 p21 k6 p22 p23 p24,
   forBody (nthStmt (fnBody w 30) 2) = [.If (.Name sEsc p1) [.Expr (.Yield (some (.Tuple [.Name sPos p2, .BinOp (.Constant (.str (Str.ofString "\\")) k1 p3) .Add (.Name sCh p4) p5] k2 p6)) p7) p8, .Assign [.Name sEsc p9] (.Constant (.bool false) k3 p10) p11]
   [.If (.Compare (.Name sCh p12) [.Eq] [.Constant (.str (Str.ofString "\\")) k4 p13] p14) [.Assign [.Name sEsc p15] (.Constant (.bool true) k5 p16) p17] [.Expr (.Yield (some (.Tuple [.Name sPos p18, .Name sCh p19] k6 p20)) p21) p22] p23] p24] := by
  exact ⟨_, _, _, _, _, _, _, _, _, _, _, _, _, _, _, _, _, _, _, _, _, _, _, _, _, _, _, _, _, _, rfl⟩
theorem escFor_ex (w : World) : ∃ p1 k1 p2 p3 p4 k2 p5 p6 p7 p8 k3 p9 p10 p11 p12 p13 p14 p15 k4 p16 k5 p17 p18 p19 p20,
   fnBody w 30 = [.Assign [.Name sPos p1] (.Constant (.int 0) k1 p2) p3, .Assign [.Name sEsc p4] (.Constant (.bool false) k2 p5) p6, .For (.Tuple [.Name sPos p7, .Name sCh p8] k3 p9) (.Call (.Name (Str.ofString "enumerate") p10) [.Name (Str.ofString "addr") p11] [] p12) (forBody (nthStmt (fnBody w 30) 2)) [] p13,
   .If (.Name sEsc p14) [.Expr (.Yield (some (.Tuple [.Name sPos p15, .Constant (.str (Str.ofString "\\")) k4 p16] k5 p17)) p18) p19] [] p20] := by
  exact ⟨_, _, _, _, _, _, _, _, _, _, _, _, _, _, _, _, _, _, _, _, _, _, _, _, _, rfl⟩

theorem esc_pair {L : Addr} {E : Value → Shared → Prop} {s : Shared} {Q : Value → Shared → Prop} {x1 : Str} {e2 : Expr} {k : Nat} {p p1 : Pos} {m : Str → Option Value} {v : Value}
    (hx : (escEnv w L).kindOf x1 = some .local) (hd : (x1 == ("__debug__" : Str)) = false) (hn : s.heap.Ns L m) (hv : m x1 = some v)
    (he : starEach [e2] (escEnv w L) = [(false, eval e2 (escEnv w L))])
    (h : wpAny (model PR w) A (eval e2 (escEnv w L)) (fun u s₂ => Q (.ref s₂.heap.objs.size) { s₂ with heap := s₂.heap.push { cls := .type "tuple", data := .seq #[v, u] } }) E s) :
    wpAny (model PR w) A (eval (.Tuple [.Name x1 p1, e2] k p) (escEnv w L)) Q E s := by
  refine Tuple_ (spliced_more (esc_load hx hd hn hv (spliced_more (wpAny_mono h (fun u s₂ h₂ => spliced_none (wpAny_newTuple h₂ (show 2 ≤ sizeLine by decide))) fun _ _ x => x) he)))

theorem esc_yield {own : List Addr} {items : List (Nat × List Nat)} {s₀ s s₂ : Shared} {q : Nat × List Nat} {rest : List (Nat × List Nat)} {pre : List (Nat × List Nat)} {t u : Tok} {kap : Resume → Shared → Prop}
    (hit : items = pre ++ q :: rest) (hsince : SinceO own s₀ s) (hs₂ : ∃ tk, s₂ = { s with toks := tk })
    (hk : ∀ s'' : Shared, (∀ b ∈ own, ∀ o, s.heap.get? b = some o → s''.heap.get? b = some o) → kap (.send .none) s'') :
    escProto own items rest.length s₀ (.ref s₂.heap.objs.size) { s₂ with heap := s₂.heap.push { cls := .type "tuple", data := .seq #[.int q.1 t, .str ⟨q.2.toArray⟩ u] } } kap := by
  obtain ⟨tk, rfl⟩ := hs₂
  refine ⟨⟨q, _, esc_at hit, rfl, t, u, _, Heap.get?_push_size _ rfl, rfl, _, rfl⟩, hsince.step fun b o _ e => Heap.get?_push_of_some _ e, fun s'' hal => hk s'' fun b hb o e => hal b hb o (Heap.get?_push_of_some _ e)⟩

theorem bs_cps : (Str.ofString "\\").cps = #[92] := by decide +kernel
theorem bs_add (c : Nat) : Str.ofString "\\" ++ (⟨#[c]⟩ : Str) = ⟨[92, c].toArray⟩ := by
  show (Str.mk ((Str.ofString "\\").cps ++ #[c])) = _
  rw [bs_cps]; rfl

theorem bs_ne {c : Nat} (h : c ≠ 92) : ¬ ((⟨#[c]⟩ : Str) == Str.ofString "\\") = true := fun e => by
  have := congrArg Str.cps (beq_iff_eq.mp e)
  rw [bs_cps] at this
  exact h (by simpa using this)

theorem esc_loop {x : Str} {L e it : Addr} {items : List (Nat × List Nat)} {St : Nat → Heap → Prop} {Mid : Nat → Addr → Heap → Prop} {K : Flow → Sem Fin} {H : Value → Sem Fin} {gd : Bool → Bool} {lv : List Value → List Value}
    {tgt : Expr} {q1 q2 q3 : Pos} {k1 : Nat} (htgt : tgt = .Tuple [.Name sPos q1, .Name sCh q2] k1 q3) (hgd : gd false = false)
    (hh : A.handled = none) (hLe : L ≠ e) (hLi : L ≠ it)
    (W : ∀ A' : Around, A'.handled = none → WalksT PR w A' e [e, it] [e, it] x.cps.size (fun i vals => ∃ t v, (∃ c u, x.cps[i]? = some c ∧ v = .str ⟨#[c]⟩ u) ∧ vals = #[.int i t, v]) St Mid)
    (after : ∀ (esc : Bool) (s₀ s : Shared) (m : Str → Option Value) (pre : List (Nat × List Nat)), items = pre ++ escGo x.cps.size esc [] → s.heap.Ns L m → m sEsc = some (.bool esc) → (esc = true → ∃ t, m sPos = some (.int ((x.cps.size - 1 : Nat) : Int) t)) → SinceO [L, e, it] s₀ s →
      Seg (model PR w) A (escEnd [L, e, it]) (escProto [L, e, it] items) (escGo x.cps.size esc []).length s₀ (.func (fnBody w 30) (escEnv w L)) (K .next) [] s) :
    ∀ (r : List Nat) (i : Nat) (esc : Bool) (s₀ s : Shared) (m : Str → Option Value) (pre : List (Nat × List Nat)) (p : Pos), x.cps.toList.drop i = r → i + r.length = x.cps.size → items = pre ++ escGo i esc r → St i s.heap → s.heap.Ns L m → m sEsc = some (.bool esc) →
      (esc = true → ∃ t, m sPos = some (.int ((i - 1 : Nat) : Int) t)) → SinceO [L, e, it] s₀ s →
      Seg (model PR w) A (escEnd [L, e, it]) (escProto [L, e, it] items) (escGo i esc r).length s₀
        (.forLoop tgt (.ref e) (forBody (nthStmt (fnBody w 30) 2)) [] (escEnv w L))
        ((model PR w).den (.forLoop tgt (.ref e) (forBody (nthStmt (fnBody w 30) 2)) [] (escEnv w L)))
        [.ret (backK (escEnv w L) K H gd lv) none (gd false) (lv []) (.func (fnBody w 30) (escEnv w L)) p []] s := by
  subst htgt
  have hh' : ∀ p, (A.over (.forLoop (.Tuple [.Name sPos q1, .Name sCh q2] k1 q3) (.ref e) (forBody (nthStmt (fnBody w 30) 2)) [] (escEnv w L)) [.ret (backK (escEnv w L) K H gd lv) none (gd false) (lv []) (.func (fnBody w 30) (escEnv w L)) p []]).handled = none := fun p => hh
  intro r
  induction r with
  | nil =>
    intro i esc s₀ s m pre p hr hi hit hst hn hme hmp hsince
    have hin : i = x.cps.size := by simpa using hi
    subst hin
    refine seg_forLoop ((W _ (hh' p)).done s _ _ hst fun h' tk hk' => ?_)
    refine seg_leaf (.ok .next) ?_
    refine after esc s₀ _ m pre hit (hn.at' fun o e => hk' _ o (by simp [hLe, hLi]) e) hme hmp (hsince.step fun b o hb e => hk' b o (fun q => hb (List.mem_cons_of_mem _ q)) e)
  | cons c r ih =>
    intro i esc s₀ s m pre p hr hi hit hst hn hme hmp hsince
    have hlt : i < x.cps.size := by simp only [List.length_cons] at hi; omega
    have hc : x.cps[i]? = some c := by
      have := congrArg List.head? hr
      simpa [List.head?_drop] using this
    have hr' : x.cps.toList.drop (i + 1) = r := by
      have := congrArg List.tail hr
      simpa [List.tail_drop] using this
    have hhp := hh' p
    refine seg_forLoop ((W _ hhp).item i s _ _ hlt hst fun T vals h₁ tk₁ hPt hTs hT hMid hk₁ => ?_)
    obtain ⟨t, v, ⟨c', u, hc', rfl⟩, rfl⟩ := hPt
    rw [hc] at hc'
    cases hc'
    have hTa := (W _ hhp).apart _ _ _ hMid
    refine (W _ hhp).go _ _ _ i T _ _ _ hMid fun h₂ hst₂ hk₂ => ?_
    have hT₂ : h₂.IsTuple T #[.int i t, .str ⟨#[c]⟩ u] := let ⟨o, ho, r⟩ := hT; ⟨o, hk₂ T o hTa ho, r⟩
    refine wpAny_assign_Tuple hhp hT₂ rfl rfl fun h₃ hx₃ => ?_
    have up₃ : ∀ b o, b ∉ [e, it] → s.heap.get? b = some o → h₃.get? b = some o := fun b o hb ho => hx₃ b o (Nat.ne_of_lt (Heap.lt_size (hk₂ b o hb (hk₁ b o hb ho)))) (hk₂ b o hb (hk₁ b o hb ho))
    have hn₃ : h₃.Ns L m := hn.at' fun o ho => up₃ L o (by simp [hLe, hLi]) ho
    refine assignInOrder_cons (wpAny_assign_Name (esc_store rfl hn₃ fun h₄ hn₄ hs₄ => ?_))
    refine assignInOrder_cons (wpAny_assign_Name (esc_store rfl hn₄ fun h₅ hn₅ hs₅ => ?_))
    refine assignInOrder_nil ?_
    have hnL : ∀ b ∈ [e, it], b ≠ L := fun b hb => by
      rcases List.mem_cons.mp hb with rfl | hb
      · exact Ne.symm hLe
      · rw [List.mem_singleton.mp hb]; exact Ne.symm hLi
    have up₅ : ∀ b o, b ∉ [L, e, it] → s.heap.get? b = some o → h₅.get? b = some o := fun b o hb ho => by
      have hbL : b ≠ L := fun q => hb (q ▸ List.mem_cons_self ..)
      exact hs₅.extBut b o hbL (hs₄.extBut b o hbL (up₃ b o (fun q => hb (List.mem_cons_of_mem _ q)) ho))
    have hst₅ : St (i + 1) h₅ := (W _ hhp).frame _ _ _ hst₂ fun b hb o ho => hs₅.extBut b o (hnL b hb) (hs₄.extBut b o (hnL b hb) (hx₃ b o (Nat.ne_of_lt (Heap.lt_size ho)) ho))
    have hsince₅ : SinceO [L, e, it] s₀ { s with heap := h₅, toks := tk₁ + 1 + 1 } := hsince.step up₅
    have hn₅' : h₅.Ns L (fun y => if y = sCh then some (.str ⟨#[c]⟩ u) else if y = sPos then some (.int i t) else m y) := hn₅
    obtain ⟨p1, p2, ka1, p3, p4, p5, ka2, p6, p7, p8, p9, ka3, p10, p11, p12, p13, ka4, p14, p15, p16, p17, ka5, p18, p19, p20, p21, ka6, p22, p23, p24, hb⟩ := escBody_ex w
    rw [show execs (forBody (nthStmt (fnBody w 30) 2)) (escEnv w L) = _ from congrArg (fun b => execs b (escEnv w L)) hb]
    dsimp only
    refine seg_execs_cons (seg_If (isTrue_plain (esc_load rfl (by decide) hn₅' (v := .bool esc) (by rw [if_neg (by decide), if_neg (by decide)]; exact hme) (wpAny_truthy_bool ?_))))
    have fin : ∀ (esc' : Bool) (pre' : List (Nat × List Nat)) (s₁ s₆ : Shared) (m' : Str → Option Value), items = pre' ++ escGo (i + 1) esc' r → St (i + 1) s₆.heap → s₆.heap.Ns L m' → m' sEsc = some (.bool esc') → (esc' = true → ∃ t, m' sPos = some (.int ((i + 1 - 1 : Nat) : Int) t)) → SinceO [L, e, it] s₁ s₆ →
        Seg (model PR w) A (escEnd [L, e, it]) (escProto [L, e, it] items) (escGo (i + 1) esc' r).length s₁ (.forLoop (.Tuple [.Name sPos q1, .Name sCh q2] k1 q3) (.ref e) (forBody (nthStmt (fnBody w 30) 2)) [] (escEnv w L))
          (.pure (.again (.forLoop (.Tuple [.Name sPos q1, .Name sCh q2] k1 q3) (.ref e) (forBody (nthStmt (fnBody w 30) 2)) [] (escEnv w L)))) [.ret (backK (escEnv w L) K H gd lv) none (gd false) (lv []) (.func (fnBody w 30) (escEnv w L)) p []] s₆ :=
      fun esc' pre' s₁ s₆ m' h1 h2 h3 h4 h5 h6 => seg_again rfl (ih (i + 1) esc' s₁ s₆ m' pre' p hr' (by simp only [List.length_cons] at hi; omega) h1 h2 h3 h4 h5 h6)
    cases esc with
    | true =>
      rw [if_pos rfl]
      have hgo : escGo i true (c :: r) = (i, [92, c]) :: escGo (i + 1) false r := by simp [escGo]
      rw [hgo] at hit ⊢
      rw [List.length_cons]
      refine seg_execs_cons (seg_Expr_Yield rfl rfl (by simp [Frame.guarded, hgd]) ?_)
      refine esc_pair rfl (by decide) hn₅' (v := .int i t) (by rw [if_neg (by decide), if_pos rfl]) rfl ?_
      refine wpAny_BinOp (wpAny_Constant_str (esc_load rfl (by decide) hn₅' (v := .str ⟨#[c]⟩ u) (if_pos rfl) ?_))
      refine PyProof.Rows.add_str (fun t' tk' kap hkap => ?_) (by rw [sizeLine_eq]; show (Str.ofString "\\").cps.size + 1 ≤ _; rw [bs_cps]; decide)
      rw [bs_add]
      refine esc_yield (q := (i, [92, c])) (s := { s with heap := h₅, toks := tk₁ + 1 + 1 }) hit hsince₅ ⟨_, rfl⟩ fun s'' hal => hkap _ _ ?_
      have hn'' := hn₅'.at' fun o ho => hal L (by simp) o ho
      have hst'' : St (i + 1) s''.heap := (W _ hhp).frame _ _ _ hst₅ fun b hb o ho => hal b (List.mem_cons_of_mem _ hb) o ho
      refine seg_execs_cons (seg_exec (wpAny_Assign_Name (wpAny_Constant_bool (esc_store rfl hn'' fun h₇ hn₇ hs₇ => ?_))))
      refine seg_execs_nil (fin false (pre ++ [(i, [92, c])]) _ _ _ (by rw [hit]; simp) ((W _ hhp).frame _ _ _ hst'' fun b hb o ho => hs₇.extBut b o (hnL b hb) ho) hn₇ (by simp) (fun q => by cases q) ((SinceO.refl _ s'').step fun b o hb ho => hs₇.extBut b o (fun q => hb (q ▸ List.mem_cons_self ..)) ho))
    | false =>
      rw [if_neg Bool.false_ne_true]
      refine seg_execs_cons (seg_If (wpAny_isTrue_Compare1 (esc_load rfl (by decide) hn₅' (v := .str ⟨#[c]⟩ u) (if_pos rfl) (wpAny_Constant_str (PyProof.Rows.eq_str (wpAny_truthy_bool ?_))))))
      by_cases hcc : c = 92
      · subst hcc
        rw [if_pos (by decide +kernel)]
        have hgo : escGo i false (92 :: r) = escGo (i + 1) true r := by simp [escGo]
        rw [hgo] at hit ⊢
        refine seg_execs_cons (seg_exec (wpAny_Assign_Name (wpAny_Constant_bool (esc_store rfl hn₅' fun h₇ hn₇ hs₇ => ?_))))
        refine seg_execs_nil (seg_execs_nil (fin true pre _ _ _ hit ((W _ hhp).frame _ _ _ hst₅ fun b hb o ho => hs₇.extBut b o (hnL b hb) ho) hn₇ (by simp) (fun _ => ⟨t, ?_⟩) (hsince.step fun b o hb ho => hs₇.extBut b o (fun q => hb (q ▸ List.mem_cons_self ..)) (up₅ b o hb ho))))
        rw [if_neg (by decide), if_neg (by decide), if_pos rfl]
        rfl
      · rw [if_neg (bs_ne hcc)]
        have hgo : escGo i false (c :: r) = (i, [c]) :: escGo (i + 1) false r := by simp [escGo, hcc]
        rw [hgo] at hit ⊢
        rw [List.length_cons]
        refine seg_execs_cons (seg_Expr_Yield rfl rfl (by simp [Frame.guarded, hgd]) ?_)
        refine esc_pair rfl (by decide) hn₅' (v := .int i t) (by rw [if_neg (by decide), if_pos rfl]) rfl ?_
        refine esc_load rfl (by decide) hn₅' (v := .str ⟨#[c]⟩ u) (if_pos rfl) (fun kap hkap => ?_)
        refine esc_yield (q := (i, [c])) (s := { s with heap := h₅, toks := tk₁ + 1 + 1 }) hit hsince₅ ⟨_, rfl⟩ fun s'' hal => hkap _ _ ?_
        have hn'' := hn₅'.at' fun o ho => hal L (by simp) o ho
        have hst'' : St (i + 1) s''.heap := (W _ hhp).frame _ _ _ hst₅ fun b hb o ho => hal b (List.mem_cons_of_mem _ hb) o ho
        refine seg_execs_nil (seg_execs_nil (fin false (pre ++ [(i, [c])]) _ _ _ (by rw [hit]; simp) hst'' hn'' (by rw [if_neg (by decide), if_neg (by decide)]; exact hme) (fun q => by cases q) (SinceO.refl _ s'')))

theorem esc_start {mean : ExcName → Option Value} {mg mb : Str → Option Value} {x : Str} {tx : Tok} {L : Addr} {base : Heap} {s₀ s : Shared} {m : Str → Option Value} (hh : A.handled = none)
    (X : (hd.heap_39 w.params).In base) (T : TopM mean mg mb base) (F : Fr base L s.heap m) (hm : m (Str.ofString "addr") = some (.str x tx)) (hsince : SinceO [L, s.heap.objs.size + 1, s.heap.objs.size] s₀ s) :
    Seg (model PR w) A (escEnd [L, s.heap.objs.size + 1, s.heap.objs.size]) (escProto [L, s.heap.objs.size + 1, s.heap.objs.size] (escOf x)) (escOf x).length s₀ (.func (fnBody w 30) (escEnv w L))
      ((model PR w).den (.func (fnBody w 30) (escEnv w L))) [] s := by
  have hLlt : L < s.heap.objs.size := F.ns.lt
  obtain ⟨p1, ka1, p2, p3, p4, ka2, p5, p6, p7, p8, ka3, p9, p10, p11, p12, p13, p14, p15, ka4, p16, ka5, p17, p18, p19, p20, hb⟩ := escFor_ex w
  refine seg_func ?_
  rw [show execs (fnBody w 30) (escEnv w L) = _ from congrArg (fun b => execs b (escEnv w L)) hb]
  refine seg_execs_cons (seg_exec (wpAny_Assign_Name (wpAny_Constant_int (esc_store rfl F.ns fun h₁ hn₁ hs₁ => ?_))))
  refine seg_execs_cons (seg_exec (wpAny_Assign_Name (wpAny_Constant_bool (esc_store rfl hn₁ fun h₂ hn₂ hs₂ => ?_))))
  replace hs₁ : Heap.SameBut L s.heap h₁ := hs₁
  replace hs₂ : Heap.SameBut L h₁ h₂ := hs₂
  have hz : h₂.objs.size = s.heap.objs.size := by rw [hs₂.1, hs₁.1]
  have F₂ : Fr base L h₂ _ := (F.set hn₁ hs₁).set hn₂ hs₂
  refine seg_execs_cons (seg_For (fun _ => rfl) (Call_ ?_))
  refine name_B F₂ X (topRead_of T) (by rfl) boot_enumerate (by decide) ?_
  refine callWith_type1 (spliced_more (esc_load rfl (by decide) hn₂ (v := .str x tx) (by rw [if_neg (by decide), if_neg (by decide)]; exact hm) (spliced_none ?_)))
  refine call_enumerate_str fun h₃ he hit hsz hk₃ => ?_
  refine wpAny_pyIter_enum he ?_
  replace he : IsEnum h₃ (h₂.objs.size + 1) h₂.objs.size 0 .none := he
  replace hit : h₃.IsStrIter h₂.objs.size (strIterType x) x tx 0 := hit
  replace hk₃ : ∀ b o, h₂.get? b = some o → h₃.get? b = some o := hk₃
  rw [hz] at he hit
  show ∀ p, Seg _ _ _ _ _ _ (.forLoop _ (.ref (h₂.objs.size + 1)) _ _ _) _ _ _
  rw [hz]
  intro p
  obtain ⟨St, Mid, W, h0⟩ : ∃ (St : Nat → Heap → Prop) (Mid : Nat → Addr → Heap → Prop),
      (∀ A' : Around, A'.handled = none → WalksT PR w A' (s.heap.objs.size + 1) [s.heap.objs.size + 1, s.heap.objs.size] [s.heap.objs.size + 1, s.heap.objs.size] x.cps.size (fun i vals => ∃ t v, (∃ c u, x.cps[i]? = some c ∧ v = .str ⟨#[c]⟩ u) ∧ vals = #[.int i t, v]) St Mid) ∧ St 0 h₃ := by
    cases ha : x.cps.all (· < 128)
    · refine ⟨_, _, fun A' hA => WalksT.enumerateD (Draws.strWide (A := A'.in1) hA s.heap.objs.size x tx) _ (Nat.succ_ne_self _) (by simp) (by simp), ⟨_, he⟩, ?_⟩
      simpa [strIterType, ha] using hit
    · refine ⟨_, _, fun A' hA => WalksT.enumerateD (Draws.strAscii (A := A'.in1) hA s.heap.objs.size x tx) _ (Nat.succ_ne_self _) (by simp) (by simp), ⟨_, he⟩, ?_⟩
      simpa [strIterType, ha] using hit
  refine esc_loop (A := A) (gd := id) (lv := id) (L := L) (e := s.heap.objs.size + 1) (it := s.heap.objs.size) rfl rfl hh (Nat.ne_of_lt (Nat.lt_succ_of_lt hLlt)) (Nat.ne_of_lt hLlt) W ?_ x.cps.toList 0 false s₀ _ _ [] p rfl (by simp) rfl h0 (hn₂.keeps hk₃) (by simp) (fun q => by cases q) (hsince.step fun b o hb ho => hk₃ b o (hs₂.extBut b o (fun q => hb (q ▸ List.mem_cons_self ..)) (hs₁.extBut b o (fun q => hb (q ▸ List.mem_cons_self ..)) ho)))
  · intro esc s₁ s₂ m' pre hit' hn' hme hmp hsince'
    refine seg_execs_cons (seg_If (isTrue_plain (esc_load rfl (by decide) hn' hme (wpAny_truthy_bool ?_))))
    cases esc with
    | true =>
      rw [if_pos rfl]
      obtain ⟨t, hmp⟩ := hmp rfl
      have hgo : escGo x.cps.size true [] = [(x.cps.size - 1, [92])] := rfl
      rw [hgo] at hit' ⊢
      refine seg_execs_cons (seg_Expr_Yield rfl rfl rfl ?_)
      refine esc_pair rfl (by decide) hn' hmp rfl ?_
      refine wpAny_Constant_str (fun kap hkap => ?_)
      rw [show Str.ofString "\\" = (⟨[92].toArray⟩ : Str) by decide +kernel]
      refine esc_yield (q := (x.cps.size - 1, [92])) (rest := []) (s := s₂) hit' hsince' ⟨_, rfl⟩ fun s'' hal => hkap _ _ ?_
      refine seg_execs_nil (seg_execs_nil ?_)
      exact seg_end (.ok (.ret .none)) ⟨rfl, rfl, SinceO.refl _ s''⟩
    | false =>
      rw [if_neg Bool.false_ne_true]
      refine seg_execs_nil (seg_execs_nil ?_)
      exact seg_end (.ok (.ret .none)) ⟨rfl, rfl, hsince'⟩
end
end

noncomputable section

section
variable {prog : Program} {w : World} {A : Around} {E : Value → Shared → Prop} {s : Shared}
/-- the next of a generator function's generator -/
theorem pyNext_fnQ {a : Addr} {g n : Nat} {gs : GenState} {P : Nat → Shared → Shared → Prop} {Y : Protocol} {Q : Option Value → Shared → Prop} (hh : A.handled = none)
    (hl : s.heap.NoLimit) (hroom : A.depth < recursionLimit)
    (hg : s.heap.IsGen a g) (hgs : s.gens[g]? = some gs)
    (hgo : gs.Goes (model prog w) A.in1 (fun n s₀ r s₁ => r = .ok (.ret .none) ∧ P n s₀ s₁) Y n (.send .none) (s.setGen g .running))
    (hY : ∀ v s₁ gs', gs'.bare = true → Y (n - 1) (s.setGen g .running) v s₁ (fun r' s'' => match n with
        | 0 => False
        | m + 1 => gs'.Goes (model prog w) A.in1 (fun n s₀ r s₁ => r = .ok (.ret .none) ∧ P n s₀ s₁) Y m r' s'') → Q (some v) (s₁.setGen g gs'))
    (hP : ∀ s₁, P n (s.setGen g .running) s₁ → ∀ h', (∀ b o, s₁.heap.get? b = some o → h'.get? b = some o) → Q none { s₁.setGen g .finished with heap := h' }) :
    wpAny (model prog w) A (pyNext (.ref a)) Q E s := by
  unfold pyNext
  refine wpAny_bind (wpAny_attempt (wpAny_callSpecial?_slot (name := Str.ofString "__next__") hg.typeIs slot_gen_next
    (wpAny_call_entry slot_gen_next hg.typeIs entry_gen_next ?_ (args_gen_next _))))
  show wpAny _ A.in1 (Builtin.Generator.genWake (.ref a) (.send .none)) _ _ s
  unfold Builtin.Generator.genWake
  refine wpAny_bind (wpAny_holding (wpAny_genNumber hg (wpAny_bind (wpAny_genState hgs ?_))))
  cases gs with
  | running => exact hgo.elim
  | finished => exact hgo.elim
  | _ =>
    refine wpAny_bind (wpAny_roomToWake hl hroom ?_)
    show wpAny _ A.in1 (.resume g (.send .none) [] _) _ _ s
    refine wpAny_resumeQ hgs hgo (fun x s₁ hx => ?_) (fun v s₁ gs' hb hv => ?_)
    · obtain ⟨rfl, hp⟩ := hx
      show wpAny _ A.in1 (newExc (.type "StopIteration") [] >>= _) _ _ _
      refine wpAny_bind ?_
      simp only [newExc, newTuple]
      refine wpAny_bind (wpAny_newObj_type ?_ (by size_fits))
      refine wpAny_bind (m := firstArgMember _ _) (wpAny_of_eq (a := Value.none) (by first | rfl | (simp only [firstArgMember]; rfl)) ?_)
      refine wpAny_newObj_type ?_ (by size_fits)
      simp only [raiseNew]
      refine wpAny_bind (wpAny_bind (wpAny_handled ?_))
      first | rw [show A.in1.handled = none from hh] | rw [hh]
      refine wpAny_throw ?_
      refine wpAny_bind (wpAny_isInstance (T := "StopIteration") (b := true) ⟨_, Heap.get?_push_size _ rfl, rfl⟩ isSubtype_stop ?_)
      exact wpAny_pure (hP s₁ hp _ fun b o hb => Heap.get?_push_of_some _ (Heap.get?_push_of_some _ hb))
    · exact wpAny_pure ⟨v, rfl, wpAny_pure (hY v s₁ gs' hb hv)⟩
end

/-- the generator a, number g, stands ahead of its item j; own: the addresses that it writes -/
structure GenAt (w : World) (A : Around) (base : Heap) (a : Addr) (g : Nat) (own : List Addr) (items : List (Nat × List Nat)) (j : Nat) (s : Shared) : Prop where
  isg : s.heap.IsGen a g
  off : a ∉ own
  none : ∀ b ∈ own, base.get? b = .none
  goes : ∃ gs, s.gens[g]? = some gs ∧ ∀ s'' : Shared, (∀ b o, base.get? b = some o → s''.heap.get? b = some o) → (∀ b ∈ own, ∀ o, s.heap.get? b = some o → s''.heap.get? b = some o) →
     ∃ own', (∀ b ∈ own', b ∈ own ∨ s''.heap.objs.size ≤ b) ∧ gs.Goes (model PR w) A.in1 (escEnd own') (escProto own' items) (items.length - j) (.send .none) s''

section
variable {w : World} {A : Around} {E : Value → Shared → Prop} {s : Shared} {base : Heap} {a : Addr} {g : Nat} {own : List Addr} {items : List (Nat × List Nat)} {j : Nat}

theorem GenAt.keeps (x : GenAt w A base a g own items j s) {h' : Heap} {tk : Nat} (ha : ∀ o, s.heap.get? a = some o → h'.get? a = some o) (ho : ∀ b ∈ own, ∀ o, s.heap.get? b = some o → h'.get? b = some o) :
    GenAt w A base a g own items j { s with heap := h', toks := tk } :=
  ⟨let ⟨o, nm, qn, e, r⟩ := x.isg; ⟨o, nm, qn, ha o e, r⟩, x.off, x.none, let ⟨gs, e, k⟩ := x.goes; ⟨gs, e, fun s'' hb hw => k s'' hb fun b hbo o eo => hw b hbo o (ho b hbo o eo)⟩⟩

theorem gen_fresh {mean : ExcName → Option Value} {mg mb : Str → Option Value} {x : Str} {tx : Tok} {L : Addr} {m : Str → Option Value} (hh : A.handled = none)
    (X : (hd.heap_39 w.params).In base) (T : TopM mean mg mb base) (F : Fr base L s.heap m) (hm : m (Str.ofString "addr") = some (.str x tx))
    (hg : s.heap.IsGen a g) (hgs : s.gens[g]? = some (.fresh (.func (fnBody w 30) (escEnv w L)))) (haL : a ≠ L) : GenAt w A base a g [L] (escOf x) 0 s where
  isg := hg
  off := by simpa using haL
  none := fun b hb => by rw [List.mem_singleton.mp hb]; exact Heap.get?_none_of_le F.above
  goes := ⟨_, hgs, fun s'' hb hw => ⟨[L, s''.heap.objs.size + 1, s''.heap.objs.size], fun b hbm => by
      rcases List.mem_cons.mp hbm with rfl | hbm
      · exact .inl (by simp)
      · rcases List.mem_cons.mp hbm with rfl | hbm
        · exact .inr (Nat.le_succ _)
        · rw [List.mem_singleton.mp hbm]; exact .inr (Nat.le_refl _),
      rfl, esc_start (A := A.in1) hh X T ⟨F.ns.at' fun o e => hw L (by simp) o e, hb, F.above⟩ hm (SinceO.refl _ _)⟩⟩

theorem allBare_set {G : Array GenState} (h : AllBare G) {x : GenState} (hx : x.bare = true) : AllBare (G.setIfInBounds g x) := fun y hy => by
  rcases Array.mem_or_eq_of_mem_setIfInBounds hy with h1 | h1
  · exact h y h1
  · exact h1 ▸ hx

theorem next_gen {Q : Option Value → Shared → Prop} (hh : A.handled = none) (hroom : A.depth < recursionLimit) (hl : base.NoLimit) (hkb : ∀ b o, base.get? b = some o → s.heap.get? b = some o)
    (x : GenAt w A base a g own items j s) (hbare : AllBare s.gens)
    (hQ : ∀ q T own' h' G' tk, items[j]? = some q → TupQ h' T q → AllBare G' → (∀ b ∈ own', b ∈ own ∨ s.heap.objs.size ≤ b) → (∀ b o, b ∉ own → s.heap.get? b = some o → h'.get? b = some o) →
      GenAt w A base a g own' items (j + 1) { heap := h', gens := G', drawn := s.drawn, toks := tk, os := s.os } → Q (some (.ref T)) { heap := h', gens := G', drawn := s.drawn, toks := tk, os := s.os })
    (hE : items.length ≤ j → ∀ h' G' tk, AllBare G' → (∀ b o, b ∉ own → s.heap.get? b = some o → h'.get? b = some o) → Q none { heap := h', gens := G', drawn := s.drawn, toks := tk, os := s.os }) :
    wpAny (model PR w) A (pyNext (.ref a)) Q E s := by
  obtain ⟨gs, hgs, hgo⟩ := x.goes
  obtain ⟨own', hown, hgo⟩ := hgo (s.setGen g .running) hkb fun _ _ _ e => e
  have keep : ∀ (b : Addr) (o : Obj) (h' : Heap), (∀ b o, b ∉ own' → s.heap.get? b = some o → h'.get? b = some o) → b ∉ own → s.heap.get? b = some o → h'.get? b = some o := fun b o h' hk hb e => hk b o (fun hm => by
    rcases hown b hm with h1 | h1
    · exact hb h1
    · exact Nat.lt_irrefl _ (Nat.lt_of_lt_of_le (Heap.lt_size e) h1)) e
  have lim : s.heap.NoLimit := hl.keeps hkb
  by_cases hj : j < items.length
  · obtain ⟨m, hm⟩ : ∃ m, items.length - j = m + 1 := ⟨items.length - j - 1, by omega⟩
    rw [hm] at hgo
    refine pyNext_fnQ hh lim hroom x.isg hgs hgo (fun v s₁ gs' hb hv => ?_) (fun s₁ hp h' hk => absurd hp.1 (Nat.succ_ne_zero m))
    obtain ⟨⟨q, T, hq, rfl, hT⟩, ⟨h₁, tk₁, rfl, hk₁⟩, hkap⟩ := hv
    have hidx : items.length - 1 - (m + 1 - 1) = j := by omega
    rw [hidx] at hq
    have hlive : g < s.gens.size := by
      rcases Nat.lt_or_ge g s.gens.size with h' | h'
      · exact h'
      · rw [Array.getElem?_eq_none h'] at hgs; cases hgs
    refine hQ q T own' h₁ _ tk₁ hq hT (allBare_set (allBare_set hbare rfl) hb) hown (fun b o hb e => keep b o _ hk₁ hb e) ⟨?_, ?_, ?_, gs', ?_, fun s'' _ hal => ⟨own', fun b hb => .inl hb, ?_⟩⟩
    · obtain ⟨o, nm, qn, e, r⟩ := x.isg
      exact ⟨o, nm, qn, keep a o _ hk₁ x.off e, r⟩
    · intro hm'
      obtain ⟨o, nm, qn, e, r⟩ := x.isg
      rcases hown a hm' with h1 | h1
      · exact x.off h1
      · exact Nat.lt_irrefl _ (Nat.lt_of_lt_of_le (Heap.lt_size e) h1)
    · intro b hb'
      rcases hown b hb' with h1 | h1
      · exact x.none b h1
      · cases e : base.get? b with
        | none => rfl
        | some o => exact absurd (Nat.lt_of_lt_of_le (Heap.lt_size (hkb b o e)) h1) (Nat.lt_irrefl _)
    · simp [Shared.setGen, hlive]
    · have e : items.length - (j + 1) = m := by omega
      rw [e]
      exact hkap s'' hal
  · have h0 : items.length - j = 0 := by omega
    rw [h0] at hgo
    refine pyNext_fnQ hh lim hroom x.isg hgs hgo (fun v s₁ gs' hb hv => ?_) (fun s₁ hp h' hk => ?_)
    · obtain ⟨_, _, hkap⟩ := hv
      exact False.elim (hkap s₁ fun _ _ _ e => e)
    · obtain ⟨_, h₁, tk₁, rfl, hk₁⟩ := hp
      exact hE (Nat.le_of_not_lt hj) h' _ tk₁ (allBare_set (allBare_set hbare rfl) rfl) fun b o hb e => hk b o (keep b o _ hk₁ hb e)
end
end

noncomputable section
section
variable {w : World} {A : Around} {E : Value → Shared → Prop} {s : Shared} {h₀ : Heap} {L : Addr} {m : Str → Option Value} {news : List (Addr × Obj)}

theorem fn30 (w : World) : ∃ fd o1 o2 o3, (hd.heap_39 w.params).lookup 30 = some ⟨o1, o2, .func fd, o3⟩ ∧ fnData w 30 = some fd ∧ fd.scope.isCoroutine = false ∧ fd.scope.isGenerator = true ∧ fd.body = .stmts (fnBody w 30) ∧ codeIn (hd.heap_39 w.params) fd.code fd.qualname = true ∧
   (∀ v, bindArgs fd ⟨[v], []⟩ = pure [(Str.ofString "addr", v)]) ∧ fd.closure = [] ∧ fd.scope = fnScope w 30 ∧ (∀ L, newEnv fd.scope L fd.globals fd.closure (fd.qualname ++ ".<locals>.") (some 30) fd.code none fd.builtins = escEnv w L) ∧
   (∀ x ∈ fd.scope.names, x.2 ≠ .cell) ∧ fd.scope.kind = .function ∧ fd.scope.names.lookup (Str.ofString "addr") = some .local :=
  ⟨_, _, _, _, rfl, rfl, rfl, rfl, rfl, rfl, fun _ => rfl, rfl, rfl, fun _ => rfl, by decide, rfl, rfl⟩

theorem call_iter {mean : ExcName → Option Value} {mg mb : Str → Option Value} {x : Str} {tx : Tok} {Q : Value → Shared → Prop} (F : Fr h₀ L s.heap m) (N : News h₀ L s.heap news) (X : (hd.heap_39 w.params).In h₀) (T : TopM mean mg mb h₀)
    (hroom : A.depth < recursionLimit) (hbare : AllBare s.gens)
    (hQ : ∀ a g Lg h' G' tk', Fr h₀ L h' m → News h₀ L h' news → AllBare G' → s.heap.objs.size ≤ Lg → s.heap.objs.size ≤ a → (∀ b o, s.heap.get? b = some o → h'.get? b = some o) →
      (∀ A' : Around, A'.handled = none → GenAt w A' h₀ a g [Lg] (escOf x) 0 { heap := h', gens := G', drawn := s.drawn, toks := tk', os := s.os }) → Q (.ref a) { heap := h', gens := G', drawn := s.drawn, toks := tk', os := s.os }) :
    wpAny (model PR w) A (call (.ref 30) [.str x tx]) Q E s := by
  obtain ⟨fd, o1, o2, o3, hlook, hdat, hco, hgen, hbody, hcd, hbind, hclo, hsc, henv, hcell, hkind, hloc⟩ := fn30 w
  have X' := X.keeps F.keep
  refine wpAny_call (codeAny_call_generator hroom (X' _ _ hlook) rfl hco hgen hbody (codeRec_of X' hcd) ?_)
  refine wpAny_of_eq (hbind _) ?_
  refine wpAny_newFunctionEnv hcell (fun y hy => by rw [List.mem_singleton.mp hy]; exact hloc) (fun h₁ hn₁ hs₁ => ?_) hkind
  rw [henv]
  have up : ∀ b o, s.heap.get? b = some o → h₁.get? b = some o := fun b o e => hs₁.extBut b o (Nat.ne_of_lt (Heap.lt_size e)) (Heap.get?_push_of_some _ e)
  have F₁ : Fr h₀ L h₁ m := ⟨F.ns.keeps up, fun b o e => up b o (F.keep b o e), F.above⟩
  have N₁ : News h₀ L h₁ news := fun p hp => ⟨up _ _ (N p hp).1, (N p hp).2⟩
  refine ⟨T.nolimit.keeps F₁.keep, ?_⟩
  dsimp only
  have hz : s.heap.objs.size < h₁.objs.size := by rw [hs₁.1, Heap.size_push]; exact Nat.lt_succ_self _
  have up₂ : ∀ (o' : Obj) b o, s.heap.get? b = some o → (h₁.push o').get? b = some o := fun o' b o e => Heap.get?_push_of_some _ (up b o e)
  refine hQ _ s.gens.size s.heap.objs.size _ _ _ (F₁.push _) (fun p hp => ⟨Heap.get?_push_of_some _ (N₁ p hp).1, (N₁ p hp).2⟩) ?_ (Nat.le_refl _) (Nat.le_of_lt hz) (up₂ _) (fun A' hA => ?_)
  · intro y hy
    rcases Array.mem_push.mp hy with h1 | h1
    · exact hbare y h1
    · rw [h1]; rfl
  · have hab : h₀.objs.size ≤ s.heap.objs.size := Nat.le_trans F.above (Nat.le_of_lt F.ns.lt)
    refine gen_fresh (x := x) (tx := tx) (m := fun y => [(Str.ofString "addr", Value.str x tx)].reverse.lookup y) hA X T ⟨?_, fun b o e => Heap.get?_push_of_some _ (F₁.keep b o e), hab⟩ rfl ⟨_, _, _, Heap.get?_push_size _ rfl, rfl, rfl, rfl⟩ ?_ (Nat.ne_of_gt hz)
    · exact hn₁.push _
    · show (s.gens.push _)[s.gens.size]? = _
      simp
end
end

noncomputable section
section
variable {w : World} {A : Around} {E : Value → Shared → Prop} {s : Shared} {h₀ : Heap} {env : Env}

def liveOf (h : Heap) (as : List Addr) : List (Addr × Obj) := as.filterMap fun b => (h.get? b).map fun o => (b, o)
theorem liveOf_mem {h : Heap} {as : List Addr} {b : Addr} {o : Obj} (hb : b ∈ as) (e : h.get? b = some o) : (b, o) ∈ liveOf h as :=
  List.mem_filterMap.mpr ⟨b, hb, by rw [e]; rfl⟩
theorem liveOf_spec {h : Heap} {as : List Addr} {p : Addr × Obj} (hp : p ∈ liveOf h as) : p.1 ∈ as ∧ h.get? p.1 = some p.2 := by
  obtain ⟨b, hb, e⟩ := List.mem_filterMap.mp hp
  cases q : h.get? b with
  | none => rw [q] at e; cases e
  | some o => rw [q] at e; cases e; exact ⟨hb, q⟩

def GTurn (h₀ : Heap) (L : Addr) (s₁ : Shared) (ownL : List (Addr × Obj)) (as : List Addr) (I : (Str → Option Value) → List (Addr × Obj) → Prop) (s₃ : Shared) : Prop :=
  ∃ h' tk' m' nw', s₃ = { s₁ with heap := h', toks := tk' } ∧ Fr h₀ L h' m' ∧ News h₀ L h' (nw' ++ ownL) ∧ nw'.map (·.1) = as ∧ I m' nw'
theorem GTurn.intro {h₀ : Heap} {L : Addr} {s₁ : Shared} {ownL : List (Addr × Obj)} {as : List Addr} {I : (Str → Option Value) → List (Addr × Obj) → Prop} {h' : Heap} {tk' : Nat} {m' : Str → Option Value} (nw' : List (Addr × Obj))
    (F : Fr h₀ L h' m') (N : News h₀ L h' (nw' ++ ownL)) (ha : nw'.map (·.1) = as) (hi : I m' nw') : GTurn h₀ L s₁ ownL as I { s₁ with heap := h', toks := tk' } := ⟨h', tk', m', nw', rfl, F, N, ha, hi⟩

theorem go_gen {a : Addr} {g : Nat} {elts : List Expr} {k : Nat} {p : Pos} {T : Addr} {Q : Unit → Shared → Prop} (hg : s.heap.IsGen a g) (h : Q () s) :
    wpAny (model PR w) A (letOwnedTupleGo (.Tuple elts k p) (.ref a) (.ref T)) Q E s := by
  obtain ⟨o, nm, qn, ho, hc, hd, _⟩ := hg
  unfold letOwnedTupleGo
  refine wpAny_bind (wpAny_load ho ?_)
  rw [hc, hd]
  exact wpAny_pure h

theorem For_gen {Q : Flow → Shared → Prop} {xi xc : Str} {pi pc pt pos : Pos} {k : Nat} {iter : Expr} {body : List Stmt} (I : Nat → (Str → Option Value) → List (Addr × Obj) → Prop)
    (hh : A.handled = none) (hroom : A.depth < recursionLimit) (hl : h₀.NoLimit) (hxi : env.kindOf xi = some .local) (hxc : env.kindOf xc = some .local)
    (hp : (env.scope.kind == .class || (env.scope.kind == .module && env.locals != env.globals)) = false) (hs : ∀ x, foldedSetIterable iter env x = pure x)
    (h : wpAny (model PR w) A (eval iter env) (fun xv s₁ => ∃ ag g own items m news, xv = .ref ag ∧ GenAt w A h₀ ag g own items 0 s₁ ∧ AllBare s₁.gens ∧ Fr h₀ env.locals s₁.heap m ∧ News h₀ env.locals s₁.heap news ∧
      (∀ b ∈ ag :: own, b ≠ env.locals ∧ h₀.get? b = none ∧ ∀ p ∈ news, p.1 ≠ b) ∧ I 0 m news ∧
      (∀ j q m' nw ownL t u h G tk, items[j]? = some q → I j m' nw → nw.map (·.1) = news.map (·.1) → (∀ p ∈ nw, ∀ o ∈ ownL, p.1 ≠ o.1) →
        Fr h₀ env.locals h (fun y => if y = xc then some (.str ⟨q.2.toArray⟩ u) else if y = xi then some (.int q.1 t) else m' y) → News h₀ env.locals h (nw ++ ownL) → AllBare G →
        wpAny (model PR w) A (execs body env) (fun f s₃ => match f with
            | .next | .cont => GTurn h₀ env.locals { heap := h, gens := G, drawn := s₁.drawn, toks := tk, os := s₁.os } ownL (news.map (·.1)) (I (j + 1)) s₃
            | .brk => False
            | .ret v => Q (.ret v) s₃) (fun _ _ => False) { heap := h, gens := G, drawn := s₁.drawn, toks := tk, os := s₁.os }) ∧
      (∀ m' nw h G tk, I items.length m' nw → nw.map (·.1) = news.map (·.1) → Fr h₀ env.locals h m' → News h₀ env.locals h nw → AllBare G → Q .next { heap := h, gens := G, drawn := s₁.drawn, toks := tk, os := s₁.os })) (fun _ _ => False) s) :
    wpAny (model PR w) A (exec (.For (.Tuple [.Name xi pi, .Name xc pc] k pt) iter body [] pos) env) Q E s := by
  refine wpAny_mono (E := fun _ _ => False) ?_ (fun _ _ x => x) fun _ _ x => x.elim
  refine wpAny_For (wpAny_mono h (fun xv s₁ h₁ => ?_) fun _ _ x => x) hs
  obtain ⟨ag, g, own, items, m, news, rfl, X₀, hb₀, F₀, N₀, hap₀, hI₀, turn, done⟩ := h₁
  refine wpAny_pyIter_gen X₀.isg ?_
  refine codeAny_forLoop_any (fun n s' => ∃ j own h' G' tk m' nw, s' = { heap := h', gens := G', drawn := s₁.drawn, toks := tk, os := s₁.os } ∧ n = items.length + 1 - j ∧ j ≤ items.length ∧ GenAt w A h₀ ag g own items j s' ∧ AllBare G' ∧ Fr h₀ env.locals h' m' ∧
      News h₀ env.locals h' nw ∧ nw.map (·.1) = news.map (·.1) ∧ (∀ b ∈ ag :: own, b ≠ env.locals ∧ h₀.get? b = none ∧ ∀ p ∈ nw, p.1 ≠ b) ∧ I j m' nw) ?_ (items.length + 1)
    ⟨0, own, s₁.heap, s₁.gens, s₁.toks, m, news, rfl, rfl, Nat.zero_le _, X₀, hb₀, F₀, N₀, rfl, hap₀, hI₀⟩
  rintro n s' ⟨j, own, H, G, tk, m', nw, rfl, rfl, hj, X, hb, F, N, hadr, hap, hI⟩
  have hoff : ∀ b, b ∉ ag :: own → b ∉ own := fun b hb hm => hb (List.mem_cons_of_mem _ hm)
  have hLown : env.locals ∉ own := fun hm => (hap _ (List.mem_cons_of_mem _ hm)).1 rfl
  have hbase : ∀ b o, h₀.get? b = some o → b ∉ own := fun b o e hm => by rw [(hap b (List.mem_cons_of_mem _ hm)).2.1] at e; cases e
  refine next_gen (s := { heap := H, gens := G, drawn := s₁.drawn, toks := tk, os := s₁.os }) hh hroom hl F.keep X hb ?_ ?_
  · intro q T own' h₁ G₁ tk₁ hq hT hb₁ hown' hk₁ X₁
    have F₁ : Fr h₀ env.locals h₁ m' := ⟨F.ns.at' fun o e => hk₁ _ o hLown e, fun b o e => hk₁ b o (hbase b o e) (F.keep b o e), F.above⟩
    have N₁ : News h₀ env.locals h₁ nw := fun p hp => ⟨hk₁ _ _ (fun hm => (hap _ (List.mem_cons_of_mem _ hm)).2.2 p hp rfl) (N p hp).1, (N p hp).2⟩
    have hap₁ : ∀ b ∈ ag :: own', b ≠ env.locals ∧ h₀.get? b = none ∧ ∀ p ∈ nw, p.1 ≠ b := fun b hbm => by
      rcases List.mem_cons.mp hbm with rfl | hbm
      · exact hap _ (List.mem_cons_self ..)
      · rcases hown' b hbm with h1 | h1
        · exact hap b (List.mem_cons_of_mem _ h1)
        · replace h1 : H.objs.size ≤ b := h1
          refine ⟨Nat.ne_of_gt (Nat.lt_of_lt_of_le F.ns.lt h1), ?_, fun p hp => Nat.ne_of_lt (Nat.lt_of_lt_of_le (Heap.lt_size (N p hp).1) h1)⟩
          cases e : h₀.get? b with
          | none => rfl
          | some o => exact absurd (Nat.lt_of_lt_of_le (Heap.lt_size (F.keep b o e)) h1) (Nat.lt_irrefl _)
    obtain ⟨t, u, hT⟩ := hT
    refine go_gen X₁.isg ?_
    refine wpAny_assign_Tuple hh hT rfl rfl fun h₂ hx₂ => ?_
    replace hx₂ : Heap.ExtBut h₁.objs.size h₁ h₂ := hx₂
    have up₂ : ∀ b o, h₁.get? b = some o → h₂.get? b = some o := fun b o e => hx₂ b o (Nat.ne_of_lt (Heap.lt_size e)) e
    have F₂ := F₁.keeps up₂
    have N₂ : News h₀ env.locals h₂ nw := N₁.grown up₂
    refine assignInOrder_cons (wpAny_assign_Name (wpAny_storeName_local hxi F₂.ns (fun h₃ hn₃ hs₃ => ?_) hp))
    refine assignInOrder_cons (wpAny_assign_Name (wpAny_storeName_local hxc hn₃ (fun h₄ hn₄ hs₄ => ?_) hp))
    refine assignInOrder_nil ?_
    have F₄ := (F₂.set hn₃ hs₃).set hn₄ hs₄
    have N₄ := (N₂.set hs₃).set hs₄
    replace hs₃ : Heap.SameBut env.locals h₂ h₃ := hs₃
    replace hs₄ : Heap.SameBut env.locals h₃ h₄ := hs₄
    have up₄ : ∀ b o, b ≠ env.locals → h₁.get? b = some o → h₄.get? b = some o := fun b o hb e => hs₄.extBut b o hb (hs₃.extBut b o hb (up₂ b o e))
    have X₄ : GenAt w A h₀ ag g own' items (j + 1) { heap := h₄, gens := G₁, drawn := s₁.drawn, toks := tk₁ + 1 + 1, os := s₁.os } :=
      X₁.keeps (fun o e => up₄ ag o (hap₁ _ (List.mem_cons_self ..)).1 e) fun b hb o e => up₄ b o (hap₁ _ (List.mem_cons_of_mem _ hb)).1 e
    have hlt : j < items.length := (List.getElem?_eq_some_iff.mp hq).1
    refine wpAny_mono (turn j q m' nw (liveOf h₄ (ag :: own')) t u h₄ G₁ (tk₁ + 1 + 1) hq hI hadr (fun p hp o ho => (hap₁ _ (liveOf_spec ho).1).2.2 p hp) F₄ (fun p hp => ?_) hb₁) (fun f s₃ h₃ => ?_) fun _ _ x => x.elim
    · rcases List.mem_append.mp hp with hp | hp
      · exact N₄ p hp
      · have z := liveOf_spec hp
        exact ⟨z.2, (hap₁ _ z.1).1, (hap₁ _ z.1).2.1⟩
    · have fin : GTurn h₀ env.locals { heap := h₄, gens := G₁, drawn := s₁.drawn, toks := tk₁ + 1 + 1, os := s₁.os } (liveOf h₄ (ag :: own')) (news.map (·.1)) (I (j + 1)) s₃ → ∃ k, k < items.length + 1 - j ∧
          ∃ j own h' G' tk m' nw, s₃ = { heap := h', gens := G', drawn := s₁.drawn, toks := tk, os := s₁.os } ∧ k = items.length + 1 - j ∧ j ≤ items.length ∧ GenAt w A h₀ ag g own items j s₃ ∧ AllBare G' ∧ Fr h₀ env.locals h' m' ∧
            News h₀ env.locals h' nw ∧ nw.map (·.1) = news.map (·.1) ∧ (∀ b ∈ ag :: own, b ≠ env.locals ∧ h₀.get? b = none ∧ ∀ p ∈ nw, p.1 ≠ b) ∧ I j m' nw := by
        rintro ⟨h', tk', m'', nw', rfl, F', N', ha', hI'⟩
        have N'l : News h₀ env.locals h' (liveOf h₄ (ag :: own')) := fun p hp => N' p (List.mem_append_right _ hp)
        refine ⟨items.length + 1 - (j + 1), by omega, j + 1, own', h', G₁, tk', m'', nw', rfl, rfl, hlt, X₄.keeps (fun o e => (N'l _ (liveOf_mem (List.mem_cons_self ..) e)).1) (fun b hb o e => (N'l _ (liveOf_mem (List.mem_cons_of_mem _ hb) e)).1),
          hb₁, F', fun p hp => N' p (List.mem_append_left _ hp), ha', fun b hb => ⟨(hap₁ b hb).1, (hap₁ b hb).2.1, fun p hp e => ?_⟩, hI'⟩
        have : p.1 ∈ nw.map (·.1) := by rw [hadr, ← ha']; exact List.mem_map_of_mem hp
        obtain ⟨p', hp', e'⟩ := List.mem_map.mp this
        exact (hap₁ b hb).2.2 p' hp' (e'.trans e)
      cases f with
      | next => exact fin h₃
      | cont => exact fin h₃
      | brk => exact h₃.elim
      | ret v => exact h₃
  · intro hge h₁ G₁ tk₁ hb₁ hk₁
    have hje : j = items.length := Nat.le_antisymm hj hge
    subst hje
    refine wpAny_execs_nil ?_
    exact done m' nw h₁ G₁ tk₁ hI hadr ⟨F.ns.at' fun o e => hk₁ _ o hLown e, fun b o e => hk₁ b o (hbase b o e) (F.keep b o e), F.above⟩
      (fun p hp => ⟨hk₁ _ _ (fun hm => (hap _ (List.mem_cons_of_mem _ hm)).2.2 p hp rfl) (N p hp).1, (N p hp).2⟩) hb₁

def GenSrc (w : World) (A : Around) (h₀ : Heap) (L : Addr) (env : Env) (xi xc : Str) (body : List Stmt) (I : Nat → (Str → Option Value) → List (Addr × Obj) → Prop) (Q : Flow → Shared → Prop) (xv : Value) (s₁ : Shared) : Prop :=
  ∃ ag g own items m news, xv = .ref ag ∧ GenAt w A h₀ ag g own items 0 s₁ ∧ AllBare s₁.gens ∧ Fr h₀ L s₁.heap m ∧ News h₀ L s₁.heap news ∧
      (∀ b ∈ ag :: own, b ≠ L ∧ h₀.get? b = none ∧ ∀ p ∈ news, p.1 ≠ b) ∧ I 0 m news ∧
      (∀ j q m' nw ownL t u h G tk, items[j]? = some q → I j m' nw → nw.map (·.1) = news.map (·.1) → (∀ p ∈ nw, ∀ o ∈ ownL, p.1 ≠ o.1) →
        Fr h₀ L h (fun y => if y = xc then some (.str ⟨q.2.toArray⟩ u) else if y = xi then some (.int q.1 t) else m' y) → News h₀ L h (nw ++ ownL) → AllBare G →
        wpAny (model PR w) A (execs body env) (fun f s₃ => match f with
            | .next | .cont => GTurn h₀ L { heap := h, gens := G, drawn := s₁.drawn, toks := tk, os := s₁.os } ownL (news.map (·.1)) (I (j + 1)) s₃
            | .brk => False
            | .ret v => Q (.ret v) s₃) (fun _ _ => False) { heap := h, gens := G, drawn := s₁.drawn, toks := tk, os := s₁.os }) ∧
      (∀ m' nw h G tk, I items.length m' nw → nw.map (·.1) = news.map (·.1) → Fr h₀ L h m' → News h₀ L h nw → AllBare G → Q .next { heap := h, gens := G, drawn := s₁.drawn, toks := tk, os := s₁.os })

theorem For_genL {L : Addr} (hL : env.locals = L) {Q : Flow → Shared → Prop} {xi xc : Str} {pi pc pt pos : Pos} {k : Nat} {iter : Expr} {body : List Stmt} (I : Nat → (Str → Option Value) → List (Addr × Obj) → Prop)
    (hh : A.handled = none) (hroom : A.depth < recursionLimit) (hl : h₀.NoLimit) (hxi : env.kindOf xi = some .local) (hxc : env.kindOf xc = some .local)
    (hp : (env.scope.kind == .class || (env.scope.kind == .module && env.locals != env.globals)) = false) (hs : ∀ x, foldedSetIterable iter env x = pure x)
    (h : wpAny (model PR w) A (eval iter env) (GenSrc w A h₀ L env xi xc body I Q) (fun _ _ => False) s) :
    wpAny (model PR w) A (exec (.For (.Tuple [.Name xi pi, .Name xc pc] k pt) iter body [] pos) env) Q E s := by
  subst hL
  exact For_gen I hh hroom hl hxi hxc hp hs h

theorem GenSrc.intro {L : Addr} {xi xc : Str} {body : List Stmt} {I : Nat → (Str → Option Value) → List (Addr × Obj) → Prop} {Q : Flow → Shared → Prop} {x : Str} {h₁ : Heap} {dr : Drawn} {oS : OsState} {h' : Heap} {G' : Array GenState} {tk' : Nat} {m : Str → Option Value} {news : List (Addr × Obj)} {ag g Lg : Addr}
    (hh : A.handled = none) (F₀ : Fr h₀ L h₁ m) (N₀ : News h₀ L h₁ news) (F : Fr h₀ L h' m) (N : News h₀ L h' news) (hg : AllBare G') (hLg : h₁.objs.size ≤ Lg) (ha : h₁.objs.size ≤ ag)
    (gen : ∀ A' : Around, A'.handled = none → GenAt w A' h₀ ag g [Lg] (escOf x) 0 { heap := h', gens := G', drawn := dr, toks := tk', os := oS }) (hI : I 0 m news)
    (turn : ∀ j q m' nw ownL t u h G tk, (escOf x)[j]? = some q → I j m' nw → nw.map (·.1) = news.map (·.1) → (∀ p ∈ nw, ∀ o ∈ ownL, p.1 ≠ o.1) →
        Fr h₀ L h (fun y => if y = xc then some (.str ⟨q.2.toArray⟩ u) else if y = xi then some (.int q.1 t) else m' y) → News h₀ L h (nw ++ ownL) → AllBare G →
        wpAny (model PR w) A (execs body env) (fun f s₃ => match f with
            | .next | .cont => GTurn h₀ L { heap := h, gens := G, drawn := dr, toks := tk, os := oS } ownL (news.map (·.1)) (I (j + 1)) s₃
            | .brk => False
            | .ret v => Q (.ret v) s₃) (fun _ _ => False) { heap := h, gens := G, drawn := dr, toks := tk, os := oS })
    (done : ∀ m' nw h G tk, I (escOf x).length m' nw → nw.map (·.1) = news.map (·.1) → Fr h₀ L h m' → News h₀ L h nw → AllBare G → Q .next { heap := h, gens := G, drawn := dr, toks := tk, os := oS }) :
    GenSrc w A h₀ L env xi xc body I Q (.ref ag) { heap := h', gens := G', drawn := dr, toks := tk', os := oS } := by
  have new : ∀ b, h₁.objs.size ≤ b → b ≠ L ∧ h₀.get? b = none ∧ ∀ p ∈ news, p.1 ≠ b := fun b hb => by
    refine ⟨Nat.ne_of_gt (Nat.lt_of_lt_of_le F₀.ns.lt hb), ?_, fun p hp => Nat.ne_of_lt (Nat.lt_of_lt_of_le (Heap.lt_size (N₀ p hp).1) hb)⟩
    cases e : h₀.get? b with
    | none => rfl
    | some o => exact absurd (Nat.lt_of_lt_of_le (Heap.lt_size (F₀.keep b o e)) hb) (Nat.lt_irrefl _)
  refine ⟨ag, g, [Lg], escOf x, m, news, rfl, gen A hh, hg, F, N, fun b hb => ?_, hI, turn, done⟩
  rcases List.mem_cons.mp hb with rfl | hb
  · exact new _ ha
  · rw [List.mem_singleton.mp hb]; exact new _ hLg

theorem map_set {m : Str → Option Value} {x : Str} {v : Option Value} (e : m x = v) : m = fun y => if y = x then v else m y := funext fun y => by
  split
  · rename_i h; rw [h, e]
  · rfl
end
end

/-- the pure readings -/
def stripGo (addr : List Nat) : List (Nat × List Nat) → Nat → Option Nat → List (List Nat) → Nat × Option Nat × List (List Nat)
  | [], st, op, res => (st, op, res)
  | (p, c) :: r, st, op, res => if c = [34] then (match op with
      | none => stripGo addr r st (some p) res
      | some o => if st ≠ o then stripGo addr r (p + 1) none (res ++ [(addr.take o).drop st]) else stripGo addr r (p + 1) none res)
    else stripGo addr r st op res
def stripL (addr : List Nat) : List Nat :=
  if 34 ∈ addr then
    let q := stripGo addr (escGo 0 false addr) 0 none []
    if q.1 < addr.length then (q.2.2 ++ [addr.drop q.1]).flatten else q.2.2.flatten
  else addr
def stripF (x : Str) : Str := ⟨(stripL x.cps.toList).toArray⟩
def checkGo : List (Nat × List Nat) → Int → Bool
  | [], n => n == 0
  | (_, c) :: r, n => if c = [40] then checkGo r (n + 1) else if c = [41] then (if n - 1 < 0 then false else checkGo r (n - 1)) else checkGo r n
def checkF (x : Str) : Bool := checkGo (escOf (stripF x)) 0

theorem CallTells.use {w : World} {mean : ExcName → Option Value} {mg mb : Str → Option Value} {d u : Nat} {f : Addr} {vs : List Value} {news : List (Addr × Obj)} {R : Value → List (Addr × Obj) → Prop}
    {dp un : Nat} {gd : Option (List Code)} {cn : Str} {cs : Scope} {a : Addr} {ccd : Value} {cl : List (Str × Addr)} {outer : List Env} {A₀ : Around} {base h₀ : Heap} {L : Addr} {m : Str → Option Value} {s : Shared} {Q E : Value → Shared → Prop}
    (C : CallTells w mean mg mb d u f vs news R) (B : Below A₀ base outer h₀) (F : Fr h₀ L s.heap m) (X : (hd.heap_39 w.params).In h₀) (N : News h₀ L s.heap news) (T : TopM mean mg mb h₀) (hg : AllBare s.gens) (hk : cs.kind = .function)
    (hd : dp + d < recursionLimit) (hu : un + u < cLine)
    (ret : ∀ (v : Value) (tl : List (Addr × Obj)) (h' : Heap) (G' : Array GenState) (tk' : Nat), R v tl → (∀ p ∈ news, ∀ q ∈ tl, p.1 ≠ q.1) → Fr h₀ L h' m → News h₀ L h' (tl ++ news) → AllBare G' →
      Q v { heap := h', gens := G', drawn := s.drawn, toks := tk', os := s.os }) :
    wpAny (model PR w) (ktrTop dp un gd cn cs L a ccd cl outer) (call (.ref f) vs) Q E s := C _ _ _ _ _ _ _ _ _ _ _ _ _ _ _ _ _ B F X N T hg hk hd hu ret

section
open PySem.Builtin.Str
theorem drop_take_nat {α : Type} (l : List α) (st o : Nat) : (l.take o).drop st = (l.drop st).take (o - st) := by
  rw [List.drop_take]

theorem indices_nat (st o n : Nat) : strSliceIndices (some (st : Int)) (some (o : Int)) 1 n = strSliceIndices (some ((min st n : Nat) : Int)) (some ((max (min st n) (min o n) : Nat) : Int)) 1 n := by
  have h0 : ¬ ((st : Int) < 0) := by omega
  have h1 : ¬ ((o : Int) < 0) := by omega
  have h2 : ¬ (((min st n : Nat) : Int) < 0) := by omega
  have h3 : ¬ (((max (min st n) (min o n) : Nat) : Int) < 0) := by omega
  have h4 : (1 : Int) > 0 := by decide
  simp only [strSliceIndices, h0, h1, h2, h3, h4, if_false, if_true]
  have e1 : max 0 (min (st : Int) (n : Int)) = ((min st n : Nat) : Int) := by omega
  have e2 : max 0 (min (o : Int) (n : Int)) = ((min o n : Nat) : Int) := by omega
  have e3 : max 0 (min ((min st n : Nat) : Int) (n : Int)) = ((min st n : Nat) : Int) := by omega
  have e4 : max 0 (min ((max (min st n) (min o n) : Nat) : Int) (n : Int)) = ((max (min st n) (min o n) : Nat) : Int) := by omega
  rw [e1, e2, e3, e4]
  unfold sliceRange
  simp only [h4, if_true]
  congr 2
  congr 1
  split <;> split <;> omega

theorem slice_nat (x : Str) (st o : Nat) : Txt.slice x (some (st : Int)) (some (o : Int)) = ⟨((x.cps.toList.take o).drop st).toArray⟩ := by
  have hn : x.cps.toList.length = x.length := by simp [Str.length]
  have e : Txt.slice x (some (st : Int)) (some (o : Int)) = Txt.slice x (some ((min st x.length : Nat) : Int)) (some ((max (min st x.length) (min o x.length) : Nat) : Int)) := by
    unfold Txt.slice
    rw [indices_nat]
  rw [e, beq_iff_eq.mp (slice_closes (x := x) (i := ((min st x.length : Nat) : Int)) (j := ((max (min st x.length) (min o x.length) : Nat) : Int)) ⟨by omega, Int.ofNat_le.mpr (Nat.le_max_left _ _), by rw [hn]; exact Int.ofNat_le.mpr (Nat.max_le.mpr ⟨Nat.min_le_right _ _, Nat.min_le_right _ _⟩)⟩)]
  rw [drop_take_nat]
  have e2 : ∀ a b : Nat, ((b : Int) - (a : Int)).toNat = b - a := by intros; omega
  have e3 : max (min st x.length) (min o x.length) - min st x.length = min o x.length - min st x.length := by omega
  rw [Int.toNat_natCast, e2, e3]
  clear e2 e3 e
  congr 2
  by_cases h : st ≤ x.length
  · rw [Nat.min_eq_left h]
    by_cases h' : o ≤ x.length
    · rw [Nat.min_eq_left h']
    · rw [Nat.min_eq_right (by omega : x.length ≤ o), List.take_of_length_le (by rw [List.length_drop, hn]; omega : ((x.cps.toList.drop st).length ≤ x.length - st)), List.take_of_length_le (by rw [List.length_drop, hn]; omega)]
  · have h' : x.length ≤ st := Nat.le_of_lt (Nat.lt_of_not_le h)
    rw [Nat.min_eq_right h', List.drop_of_length_le (by rw [hn]; exact Nat.le_refl _), List.drop_of_length_le (by rw [hn]; exact h')]
    simp

theorem slice_tail (x : Str) (st : Nat) (h : (st : Int) < x.length) : Txt.slice x (some (st : Int)) none = ⟨(x.cps.toList.drop st).toArray⟩ := by
  rw [slice_from_eq (b := (x.length : Int)) (by omega) (by omega) rfl]
  congr 2
  rw [Int.toNat_natCast]
  exact List.take_of_length_le (by rw [List.length_drop]; simp only [Str.length, Array.length_toList]; omega)

theorem join_empty (ls : List (List Nat)) : Txt.join (Str.ofString "") (ls.map fun l => (⟨l.toArray⟩ : Str)) = ⟨ls.flatten.toArray⟩ := by
  show Builtin.Str.glued _ _ = _
  rw [StrLaws.glued_eq_join]
  have e0 : Str.ofString "" = (⟨#[]⟩ : Str) := by decide +kernel
  rw [e0]
  induction ls with
  | nil => rfl
  | cons a r ih =>
    cases r with
    | nil => simp [Str.join]
    | cons b r =>
      show (⟨a.toArray⟩ : Str) ++ ⟨#[]⟩ ++ Str.join ⟨#[]⟩ ((b :: r).map _) = _
      rw [ih]
      show (Str.mk (((a.toArray ++ #[]) ++ (List.flatten (b :: r)).toArray))) = _
      simp

theorem esc_len : ∀ (r : List Nat) (i : Nat) (esc : Bool), (escGo i esc r).length ≤ r.length + (if esc then 1 else 0)
  | [], i, esc => by cases esc <;> simp [escGo]
  | c :: r, i, esc => by
    unfold escGo
    cases esc
    · simp only [Bool.false_eq_true, if_false]
      split
      · have := esc_len r (i + 1) true; simp only [if_true] at this; simp only [List.length_cons]; omega
      · have := esc_len r (i + 1) false; simp only [Bool.false_eq_true, if_false] at this; simp only [List.length_cons]; omega
    · simp only [if_true]
      have := esc_len r (i + 1) false; simp only [Bool.false_eq_true, if_false] at this; simp only [List.length_cons]; omega
theorem escOf_len (x : Str) : (escOf x).length ≤ x.length := by
  have := esc_len x.cps.toList 0 false
  simpa [escOf, Str.length] using this
theorem sum_len_le (ls : List (List Nat)) (B : Nat) (h : ∀ l ∈ ls, l.length ≤ B) : ((ls.map fun l => (⟨l.toArray⟩ : Str)).map (·.length)).sum ≤ ls.length * B := by
  induction ls with
  | nil => simp
  | cons a r ih =>
    have h1 := ih fun l hl => h l (List.mem_cons_of_mem _ hl)
    have h2 := h a (List.mem_cons_self ..)
    simp only [List.map_cons, List.sum_cons, List.length_cons, Nat.succ_mul]
    show a.toArray.size + _ ≤ _
    rw [List.size_toArray]
    omega
def stripT (addr : List Nat) (r : List (Nat × List Nat)) (q : Nat × List Nat) (st : Nat) (op : Option Nat) (res : List (List Nat)) : Nat × Option Nat × List (List Nat) :=
  if q.2 = [34] then (match op with
      | none => stripGo addr r st (some q.1) res
      | some o => if st ≠ o then stripGo addr r (q.1 + 1) none (res ++ [(addr.take o).drop st]) else stripGo addr r (q.1 + 1) none res)
    else stripGo addr r st op res
theorem strip_turn {addr : List Nat} {items : List (Nat × List Nat)} {j : Nat} {q : Nat × List Nat} {st : Nat} {op : Option Nat} {res : List (List Nat)} {b : Nat × Option Nat × List (List Nat)} (hq : items[j]? = some q) (h : stripGo addr (items.drop j) st op res = b) : stripT addr (items.drop (j + 1)) q st op res = b := by
  obtain ⟨hlt, e⟩ := List.getElem?_eq_some_iff.mp hq
  rw [← h, List.drop_eq_getElem_cons hlt, e]
  cases op <;> rfl
theorem mark_eq (l : List Nat) : ((⟨l.toArray⟩ : Str) == Str.ofString "\"") = decide (l = [34]) := by
  rw [show Str.ofString "\"" = (⟨[34].toArray⟩ : Str) by decide +kernel]
  by_cases h : l = [34]
  · subst h; decide
  · rw [decide_eq_false h]; exact beq_eq_false_iff_ne.mpr fun e => h (by injection e with e; injection e)
theorem strsAre_snoc {y : PySem.Str} {t : Tok} {vs : List Value} {ys : List PySem.Str} (h : StrsAre vs ys) : StrsAre (vs ++ [.str y t]) (ys ++ [y]) := kct_snoc h
theorem strsAre_len : ∀ {vs : List Value} {ys : List Str}, StrsAre vs ys → vs.length = ys.length
  | _, _, .nil => rfl
  | _, _, .cons _ _ r => by simp [strsAre_len r]
abbrev mapOf {h₀ : Heap} {L : Addr} {h : Heap} {m : Str → Option Value} (_ : Fr h₀ L h m) : Str → Option Value := m
abbrev toS (l : List Nat) : Str := ⟨l.toArray⟩
theorem toS_len (l : List Nat) : (toS l).length = l.length := by show l.toArray.size = _; rw [List.size_toArray]
theorem toS_add (a b : List Nat) : toS a ++ toS b = toS (a ++ b) := by show Str.mk (a.toArray ++ b.toArray) = _; simp
theorem strsAre_at : ∀ {vs : List Value} {ys : List Str}, StrsAre vs ys → ∀ {i : Nat} {y : Str}, ys[i]? = some y → ∃ t, vs[i]? = some (.str y t)
  | _, _, .cons y t r, 0, _, e => by cases e; exact ⟨t, rfl⟩
  | _, _, .cons y t r, i + 1, _, e => strsAre_at r e
section
variable {prog : Program} {w : World} {A : Around} {E : Value → Shared → Prop} {s : Shared} {h₀ : Heap} {L : Addr} {news : List (Addr × Obj)} {value slice : Expr} {l : Addr} {vs : List Value} {n : Nat} {rs : List (List Nat)} {k : Int} {u : Tok} {Q : Value → Shared → Prop}
theorem item_strsK (N : News h₀ L s.heap news) (hm : (l, listOf vs.toArray n) ∈ news) (hS : StrsAre vs (rs.map toS)) (hB : ∀ l ∈ rs, l.length ≤ 4) (hfit : rs.length ≤ 1000) (h0 : 0 ≤ k) (h1 : k < rs.length)
    (h : ∀ t, (toS (rs.getD k.toNat [])).length ≤ 4 → Q (.str (toS (rs.getD k.toNat [])) t) s)
    (hs : subscripted slice false (.ref l) (.int k u) = operate [.ref l, .int k u] (getItem (.ref l) (.int k u)) := by with_unfolding_all rfl) (hg : ∀ r, letTemporaryGo value (.ref l) r = pure () := by intro _; with_unfolding_all rfl) :
    wpAny (model prog w) A (subscriptTail value slice (.ref l) (.int k u)) Q E s := by
  have hk : k.toNat < rs.length := by omega
  have e : (rs.map toS)[k.toNat]? = some (toS (rs.getD k.toNat [])) := by
    rw [List.getElem?_map, List.getD_eq_getElem?_getD, List.getElem?_eq_getElem hk]; rfl
  obtain ⟨t, ht⟩ := strsAre_at hS e
  refine kim_list N hm rfl rfl h0 (by omega) ht (h t ?_) hs hg
  rw [toS_len, List.getD_eq_getElem?_getD, List.getElem?_eq_getElem hk]
  exact hB _ (List.getElem_mem hk)
end
section
variable {prog : Program} {w : World} {A : Around} {E : Value → Shared → Prop} {s : Shared} {h₀ : Heap} {L : Addr} {news : List (Addr × Obj)} {l : Addr} {vs : List Value} {n : Nat} {Q : Value → Shared → Prop}
theorem len_intsN {ns : List Int} (N : News h₀ L s.heap news) (hm : (l, listOf vs.toArray n) ∈ news) (hi : IntsAre vs ns) (hfit : ns.length ≤ 1000) (h : Q (.int (ns.length : Int) (s.toks + 1)) { s with toks := s.toks + 1 + 1 }) :
    wpAny (model prog w) A (call (.builtin "len") [.ref l]) Q E s := by
  have e : vs.toArray.size = ns.length := by rw [List.size_toArray]; exact hi.length
  exact len_list (items := vs.toArray) ⟨_, (N _ hm).1, rfl, _, rfl⟩ (by rw [e]; omega) (by rw [e]; exact h)
end
theorem list_strK {prog : Program} {w : World} {A : Around} {E : Value → Shared → Prop} {s : Shared} {h₀ : Heap} {L : Addr} {news : List (Addr × Obj)} {m : Str → Option Value} {Q : Value → Shared → Prop} {x : Str} {t : Tok} (hh : A.handled = none) (F : Fr h₀ L s.heap m) (N : News h₀ L s.heap news)
    (h : ∀ D h' tk vs n, Fr h₀ L h' m → News h₀ L h' ((D, listOf vs.toArray n) :: news) → StrsAre vs (signs x) → (∀ p ∈ news, p.1 ≠ D) → Q (.ref D) { s with heap := h', toks := tk }) (hsz : x.length ≤ sizeLine := by size_fits) :
    wpAny (model prog w) A (call (.type "list") [.str x t]) Q E s := by
  refine list_strD hh F N (fun h' tk ys F' N' hk hn hl P hc => ?_) hsz
  obtain ⟨n, NX⟩ := made_enters P F' N' hn
  exact h _ h' tk ys n F' NX (StrsAre.of_carried hc) P.2
theorem off1_mem {D : Addr} : ∀ {l : List (Addr × Obj)}, LCg.Off1 D l → ∀ p ∈ l, p.1 ≠ D
  | [], _, _, h => nomatch h
  | _ :: _, x, p, h => by
    rcases List.mem_cons.mp h with rfl | h
    · exact x.1
    · exact off1_mem x.2 p h
def Stopped (P : Prop) : Prop := P
theorem Stopped.go {P : Prop} (h : Stopped P) : P := h
theorem Stopped.of {P : Prop} (h : P) : Stopped P := h
end
section
variable {w : World} {A : Around} {E : Value → Shared → Prop} {s : Shared} {h₀ : Heap} {env : Env}

def WTurn (h₀ : Heap) (L : Addr) (d : Drawn) (o : OsState) (J : Nat → (Str → Option Value) → List (Addr × Obj) → Prop) (n : Nat) (s₃ : Shared) : Prop :=
  ∃ k h G tk m nw, k < n ∧ s₃ = { heap := h, gens := G, drawn := d, toks := tk, os := o } ∧ Fr h₀ L h m ∧ News h₀ L h nw ∧ AllBare G ∧ J k m nw
theorem WTurn.intro {L : Addr} {d : Drawn} {o : OsState} {J : Nat → (Str → Option Value) → List (Addr × Obj) → Prop} {n k : Nat} {h : Heap} {G : Array GenState} {tk : Nat} {m : Str → Option Value} {nw : List (Addr × Obj)} (hk : k < n)
    (F : Fr h₀ L h m) (N : News h₀ L h nw) (hg : AllBare G) (hj : J k m nw) : WTurn h₀ L d o J n { heap := h, gens := G, drawn := d, toks := tk, os := o } := ⟨k, h, G, tk, m, nw, hk, rfl, F, N, hg, hj⟩

/-- a while by an invariant over the frame's map and the ledger, and a measure -/
theorem While_K {L : Addr} {Q : Flow → Shared → Prop} {test : Expr} {body : List Stmt} {pos : Pos} (J : Nat → (Str → Option Value) → List (Addr × Obj) → Prop) {h : Heap} {G : Array GenState} {dr : Drawn} {tk : Nat} {oS : OsState} {m : Str → Option Value} {news : List (Addr × Obj)} (n : Nat)
    (F : Fr h₀ L h m) (N : News h₀ L h news) (hg : AllBare G) (hj : J n m news)
    (turn : ∀ n h G tk m nw, J n m nw → Fr h₀ L h m → News h₀ L h nw → AllBare G →
      wpAny (model PR w) A (isTrue test env (eval test env)) (fun b s₂ => if b = true then wpAny (model PR w) A (execs body env) (fun f s₃ => match f with
            | .next | .cont => WTurn h₀ L dr oS J n s₃
            | .brk => Q .next s₃
            | .ret v => Q (.ret v) s₃) (fun _ _ => False) s₂ else Q .next s₂) (fun _ _ => False) { heap := h, gens := G, drawn := dr, toks := tk, os := oS }) :
    wpAny (model PR w) A (exec (.While test body [] pos) env) Q E { heap := h, gens := G, drawn := dr, toks := tk, os := oS } := by
  refine wpAny_mono (E := fun _ _ => False) ?_ (fun _ _ x => x) fun _ _ x => x.elim
  refine wpAny_While (codeAny_whileLoop (fun n s' => ∃ h G tk m nw, s' = { heap := h, gens := G, drawn := dr, toks := tk, os := oS } ∧ Fr h₀ L h m ∧ News h₀ L h nw ∧ AllBare G ∧ J n m nw) ?_ n ⟨h, G, tk, m, news, rfl, F, N, hg, hj⟩)
  rintro n s' ⟨h, G, tk, m, nw, rfl, F, N, hg, hj⟩
  refine wpAny_mono (turn n h G tk m nw hj F N hg) (fun b s₂ h₂ => ?_) fun _ _ x => x.elim
  cases b with
  | false =>
    rw [if_neg Bool.false_ne_true] at h₂
    simp only [Bool.false_eq_true, if_false]
    exact wpAny_execs_nil h₂
  | true =>
    rw [if_pos rfl] at h₂
    simp only [if_true]
    refine wpAny_mono h₂ (fun f s₃ h₃ => ?_) fun _ _ x => x.elim
    have fin : WTurn h₀ L dr oS J n s₃ → ∃ k, k < n ∧ ∃ h G tk m nw, s₃ = { heap := h, gens := G, drawn := dr, toks := tk, os := oS } ∧ Fr h₀ L h m ∧ News h₀ L h nw ∧ AllBare G ∧ J k m nw := by
      rintro ⟨k, h, G, tk, m, nw, hk, e, F, N, hg, hj⟩
      exact ⟨k, hk, h, G, tk, m, nw, e, F, N, hg, hj⟩
    cases f with
    | next => exact fin h₃
    | cont => exact fin h₃
    | brk => exact h₃
    | ret v => exact h₃

def FTurn (h₀ : Heap) (L : Addr) (d : Drawn) (o : OsState) (ownL : List (Addr × Obj)) (as : List Addr) (J : (Str → Option Value) → List (Addr × Obj) → Prop) (s₃ : Shared) : Prop :=
  ∃ h G tk m nw, s₃ = { heap := h, gens := G, drawn := d, toks := tk, os := o } ∧ Fr h₀ L h m ∧ News h₀ L h (nw ++ ownL) ∧ nw.map (·.1) = as ∧ AllBare G ∧ J m nw
theorem FTurn.intro {L : Addr} {d : Drawn} {o : OsState} {ownL : List (Addr × Obj)} {as : List Addr} {J : (Str → Option Value) → List (Addr × Obj) → Prop} {h : Heap} {G : Array GenState} {tk : Nat} {m : Str → Option Value} (nw : List (Addr × Obj))
    (F : Fr h₀ L h m) (N : News h₀ L h (nw ++ ownL)) (ha : nw.map (·.1) = as) (hg : AllBare G) (hj : J m nw) : FTurn h₀ L d o ownL as J { heap := h, gens := G, drawn := d, toks := tk, os := o } := ⟨h, G, tk, m, nw, rfl, F, N, ha, hg, hj⟩

theorem For_walks {L : Addr} (hL : env.locals = L) {I : Addr} {fp : List Addr} {n : Nat} {P : Nat → Value → Prop} {St : Nat → Heap → Prop} {x : Str} {px : Pos} {body : List Stmt} {S : List (Addr × Obj) → Prop} {Q : Flow → Shared → Prop}
    (J : Nat → (Str → Option Value) → List (Addr × Obj) → Prop) {hp : Heap} {G : Array GenState} {dr : Drawn} {tk : Nat} {oS : OsState} {m : Str → Option Value} {news : List (Addr × Obj)}
    (W : Walks PR w A I fp [I] n P St) (hlive : ∀ j h, St j h → ∃ o, h.get? I = some o)
    (hSt : ∀ j h h' nw, St j h → (∀ o, h.get? I = some o → h'.get? I = some o) → News h₀ L h' nw → S nw → St j h') (hS : ∀ j m nw, J j m nw → S nw)
    (hx : env.kindOf x = some .local) (hk : (env.scope.kind == .class || (env.scope.kind == .module && env.locals != env.globals)) = false)
    (F₀ : Fr h₀ L hp m) (N₀ : News h₀ L hp news) (hg₀ : AllBare G) (hI : I ≠ L ∧ h₀.get? I = none ∧ ∀ p ∈ news, p.1 ≠ I) (h0 : St 0 hp) (hJ : J 0 m news)
    (turn : ∀ j v m' nw ownL h G tk, j < n → P j v → J j m' nw → nw.map (·.1) = news.map (·.1) → (∀ p ∈ nw, ∀ o ∈ ownL, p.1 ≠ o.1) → Fr h₀ L h (fun y => if y = x then some v else m' y) → News h₀ L h (nw ++ ownL) → AllBare G →
      wpAny (model PR w) A (execs body env) (fun f s₃ => match f with
            | .next | .cont => FTurn h₀ L dr oS ownL (news.map (·.1)) (J (j + 1)) s₃
            | .brk => False
            | .ret v => Q (.ret v) s₃) (fun _ _ => False) { heap := h, gens := G, drawn := dr, toks := tk, os := oS })
    (done : ∀ m' nw h G tk, J n m' nw → nw.map (·.1) = news.map (·.1) → Fr h₀ L h m' → News h₀ L h nw → AllBare G → Q .next { heap := h, gens := G, drawn := dr, toks := tk, os := oS }) :
    codeAny (model PR w) A (.forLoop (.Name x px) (.ref I) body [] env) (fun r s' => match r with | .ok f => Q f s' | .error e => cameBackBy (model PR w) A env (fun _ _ => False) e s') { heap := hp, gens := G, drawn := dr, toks := tk, os := oS } := by
  subst hL
  refine codeAny_forLoop_any (fun k s' => ∃ j h' G' tk m' nw, s' = { heap := h', gens := G', drawn := dr, toks := tk, os := oS } ∧ k = n + 1 - j ∧ j ≤ n ∧ St j h' ∧ AllBare G' ∧ Fr h₀ env.locals h' m' ∧
      News h₀ env.locals h' nw ∧ nw.map (·.1) = news.map (·.1) ∧ J j m' nw) ?_ (n + 1)
    ⟨0, hp, G, tk, m, news, rfl, rfl, Nat.zero_le _, h0, hg₀, F₀, N₀, rfl, hJ⟩
  rintro k s' ⟨j, H, G, tk, m', nw, rfl, rfl, hj, hst, hb, F, N, hadr, hJ⟩
  have hapI : ∀ p ∈ nw, p.1 ≠ I := fun p hp e => by
    have : p.1 ∈ news.map (·.1) := by rw [← hadr]; exact List.mem_map_of_mem hp
    obtain ⟨p', hp', e'⟩ := List.mem_map.mp this
    exact hI.2.2 p' hp' (e'.trans e)
  have step : ∀ h' : Heap, (∀ b o, b ∉ [I] → H.get? b = some o → h'.get? b = some o) → Fr h₀ env.locals h' m' ∧ News h₀ env.locals h' nw := fun h' hk' =>
    ⟨⟨F.ns.at' fun o e => hk' _ o (by simpa using Ne.symm hI.1) e, fun b o e => hk' b o (fun q => by rw [List.mem_singleton.mp q, hI.2.1] at e; cases e) (F.keep b o e), F.above⟩,
     fun p hp => ⟨hk' _ _ (by simpa using hapI p hp) (N p hp).1, (N p hp).2⟩⟩
  by_cases hlt : j < n
  · refine W.item j _ _ _ hlt hst fun v h₁ tk₁ hP hst₁ hk₁ => ?_
    obtain ⟨F₁, N₁⟩ := step h₁ hk₁
    refine wpAny_of_eq (rfl : letOwnedTupleGo (.Name x px) (.ref I) v = pure ()) ?_
    refine wpAny_assign_Name (wpAny_storeName_local hx F₁.ns (fun h₂ hn₂ hs₂ => ?_) hk)
    have F₂ := F₁.set hn₂ hs₂
    have N₂ := N₁.set hs₂
    replace hs₂ : Heap.SameBut env.locals h₁ h₂ := hs₂
    have hst₂ : St (j + 1) h₂ := hSt _ _ _ nw hst₁ (fun o e => hs₂.extBut I o hI.1 e) N₂ (hS _ _ _ hJ)
    obtain ⟨oI, heI⟩ := hlive _ _ hst₂
    refine wpAny_mono (turn j v m' nw [(I, oI)] h₂ G (tk₁ + 1) hlt hP hJ hadr (fun p hp o ho => by rw [List.mem_singleton.mp ho]; exact hapI p hp) F₂ (fun p hp => ?_) hb) (fun f s₃ h₃ => ?_) fun _ _ x => x.elim
    · rcases List.mem_append.mp hp with hp | hp
      · exact N₂ p hp
      · rw [List.mem_singleton.mp hp]; exact ⟨heI, hI.1, hI.2.1⟩
    · have fin : FTurn h₀ env.locals dr oS [(I, oI)] (news.map (·.1)) (J (j + 1)) s₃ → ∃ k, k < n + 1 - j ∧ ∃ j h' G' tk m' nw, s₃ = { heap := h', gens := G', drawn := dr, toks := tk, os := oS } ∧ k = n + 1 - j ∧ j ≤ n ∧ St j h' ∧ AllBare G' ∧ Fr h₀ env.locals h' m' ∧
          News h₀ env.locals h' nw ∧ nw.map (·.1) = news.map (·.1) ∧ J j m' nw := by
        rintro ⟨h', G', tk', m'', nw', rfl, F', N', ha', hg', hJ'⟩
        have N'' : News h₀ env.locals h' nw' := fun p hp => N' p (List.mem_append_left _ hp)
        refine ⟨n + 1 - (j + 1), by omega, j + 1, h', G', tk', m'', nw', rfl, rfl, hlt, hSt _ _ _ nw' hst₂ (fun o e => ?_) N'' (hS _ _ _ hJ'), hg', F', N'', ha', hJ'⟩
        rw [heI] at e
        cases e
        exact (N' (I, oI) (List.mem_append_right _ List.mem_cons_self)).1
      cases f with
      | next => exact fin h₃
      | cont => exact fin h₃
      | brk => exact h₃.elim
      | ret v => exact h₃
  · obtain rfl : j = n := Nat.le_antisymm hj (Nat.le_of_not_lt hlt)
    refine W.done _ _ _ hst fun h₁ tk₁ hk₁ => ?_
    obtain ⟨F₁, N₁⟩ := step h₁ hk₁
    exact wpAny_execs_nil (done m' nw h₁ G tk₁ hJ hadr F₁ N₁ hb)

def RangeSrc (w : World) (A : Around) (h₀ : Heap) (L : Addr) (env : Env) (x : Str) (body : List Stmt) (J : Nat → (Str → Option Value) → List (Addr × Obj) → Prop) (Q : Flow → Shared → Prop) (xv : Value) (s₁ : Shared) : Prop :=
  ∃ r a b t u v n m news, xv = .ref r ∧ IsRange s₁.heap r a b 1 t u v ∧ Builtin.Range.small a b 1 = true ∧ Builtin.Range.rangeSize a b 1 = ((n : Nat) : Int) ∧ AllBare s₁.gens ∧ Fr h₀ L s₁.heap m ∧ News h₀ L s₁.heap news ∧ J 0 m news ∧
    (∀ j t m' nw ownL h G tk, j < n → J j m' nw → nw.map (·.1) = news.map (·.1) → (∀ p ∈ nw, ∀ o ∈ ownL, p.1 ≠ o.1) → Fr h₀ L h (fun y => if y = x then some (.int (a + (j : Int)) t) else m' y) → News h₀ L h (nw ++ ownL) → AllBare G →
      wpAny (model PR w) A (execs body env) (fun f s₃ => match f with
            | .next | .cont => FTurn h₀ L s₁.drawn s₁.os ownL (news.map (·.1)) (J (j + 1)) s₃
            | .brk => False
            | .ret v => Q (.ret v) s₃) (fun _ _ => False) { heap := h, gens := G, drawn := s₁.drawn, toks := tk, os := s₁.os }) ∧
    (∀ m' nw h G tk, J n m' nw → nw.map (·.1) = news.map (·.1) → Fr h₀ L h m' → News h₀ L h nw → AllBare G → Q .next { heap := h, gens := G, drawn := s₁.drawn, toks := tk, os := s₁.os })

theorem For_range {L : Addr} (hL : env.locals = L) {x : Str} {px pos : Pos} {iter : Expr} {body : List Stmt} {Q : Flow → Shared → Prop} (J : Nat → (Str → Option Value) → List (Addr × Obj) → Prop)
    (hh : A.handled = none) (hx : env.kindOf x = some .local) (hk : (env.scope.kind == .class || (env.scope.kind == .module && env.locals != env.globals)) = false) (hs : ∀ x, foldedSetIterable iter env x = pure x)
    (h : wpAny (model PR w) A (eval iter env) (RangeSrc w A h₀ L env x body J Q) (fun _ _ => False) s) :
    wpAny (model PR w) A (exec (.For (.Name x px) iter body [] pos) env) Q E s := by
  refine wpAny_mono (E := fun _ _ => False) ?_ (fun _ _ x => x) fun _ _ x => x.elim
  refine wpAny_For (wpAny_mono h (fun xv s₁ h₁ => ?_) fun _ _ x => x) hs
  obtain ⟨r, a, b, t, u, v, n, m, news, rfl, hr, hsm, hn, hg, F, N, hJ, turn, done⟩ := h₁
  refine wpAny_pyIter_range hr hsm ?_
  have up : ∀ (o : Obj) b x, s₁.heap.get? b = some x → (s₁.heap.push o).get? b = some x := fun o b x e => Heap.get?_push_of_some _ e
  refine For_walks (I := s₁.heap.objs.size) (S := fun _ => True) hL J (LCg.range_walks hh a n) (fun i h st => ⟨_, st⟩) (fun j h h' nw st hI _ _ => ?_) (fun _ _ _ _ => trivial) hx hk (F.keeps (up _)) (N.grown (up _)) hg
    ⟨Nat.ne_of_gt F.ns.lt, next_is_new F, fun p hp => Nat.ne_of_lt (Heap.lt_size (N p hp).1)⟩ ?_ hJ (fun j v m' nw ownL h G tk hj hP hJ' ha hap F' N' hg' => ?_) done
  · have st' : h.get? s₁.heap.objs.size = some _ := st
    show h'.get? s₁.heap.objs.size = some _
    exact hI _ st'
  · show IsRangeIter _ _ _ _ _; rw [hn]; simpa using Heap.get?_push_size _ rfl
  · obtain ⟨t', rfl⟩ := hP
    exact turn j t' m' nw ownL h G tk hj hJ' ha hap F' N' hg'

def ListSrc (w : World) (A : Around) (h₀ : Heap) (L : Addr) (env : Env) (x : Str) (body : List Stmt) (J : Nat → (Str → Option Value) → List (Addr × Obj) → Prop) (Q : Flow → Shared → Prop) (xv : Value) (s₁ : Shared) : Prop :=
  ∃ l its k m news, xv = .ref l ∧ (l, listOf its k) ∈ news ∧ (∀ j m nw, J j m nw → (l, listOf its k) ∈ nw) ∧ AllBare s₁.gens ∧ Fr h₀ L s₁.heap m ∧ News h₀ L s₁.heap news ∧ J 0 m news ∧
    (∀ j v m' nw ownL h G tk, its[j]? = some v → J j m' nw → nw.map (·.1) = news.map (·.1) → (∀ p ∈ nw, ∀ o ∈ ownL, p.1 ≠ o.1) → Fr h₀ L h (fun y => if y = x then some v else m' y) → News h₀ L h (nw ++ ownL) → AllBare G →
      wpAny (model PR w) A (execs body env) (fun f s₃ => match f with
            | .next | .cont => FTurn h₀ L s₁.drawn s₁.os ownL (news.map (·.1)) (J (j + 1)) s₃
            | .brk => False
            | .ret v => Q (.ret v) s₃) (fun _ _ => False) { heap := h, gens := G, drawn := s₁.drawn, toks := tk, os := s₁.os }) ∧
    (∀ m' nw h G tk, J its.size m' nw → nw.map (·.1) = news.map (·.1) → Fr h₀ L h m' → News h₀ L h nw → AllBare G → Q .next { heap := h, gens := G, drawn := s₁.drawn, toks := tk, os := s₁.os })

theorem For_list {L : Addr} (hL : env.locals = L) {x : Str} {px pos : Pos} {iter : Expr} {body : List Stmt} {Q : Flow → Shared → Prop} (J : Nat → (Str → Option Value) → List (Addr × Obj) → Prop)
    (hh : A.handled = none) (hx : env.kindOf x = some .local) (hk : (env.scope.kind == .class || (env.scope.kind == .module && env.locals != env.globals)) = false) (hs : ∀ x, foldedSetIterable iter env x = pure x)
    (h : wpAny (model PR w) A (eval iter env) (ListSrc w A h₀ L env x body J Q) (fun _ _ => False) s) :
    wpAny (model PR w) A (exec (.For (.Name x px) iter body [] pos) env) Q E s := by
  refine wpAny_mono (E := fun _ _ => False) ?_ (fun _ _ x => x) fun _ _ x => x.elim
  refine wpAny_For (wpAny_mono h (fun xv s₁ h₁ => ?_) fun _ _ x => x) hs
  obtain ⟨l, its, k, m, news, rfl, hm, hJm, hg, F, N, hJ, turn, done⟩ := h₁
  have hl : s₁.heap.IsList l its := ⟨_, (N _ hm).1, rfl, _, rfl⟩
  refine wpAny_pyIter_list hl ?_
  have hlt : l < s₁.heap.objs.size := Heap.lt_size (N _ hm).1
  have up : ∀ (o : Obj) b x, s₁.heap.get? b = some x → (s₁.heap.push o).get? b = some x := fun o b x e => Heap.get?_push_of_some _ e
  refine For_walks (I := s₁.heap.objs.size) (S := fun nw => (l, listOf its k) ∈ nw) hL J (Walks.list hh s₁.heap.objs.size l (Nat.ne_of_lt hlt) its) (fun i h st => by obtain ⟨o, e, _⟩ := st.1; exact ⟨o, e⟩) (fun j h h' nw st hI N' hS => ?_) (fun j m nw hj => hJm j m nw hj) hx hk (F.keeps (up _)) (N.grown (up _)) hg
    ⟨Nat.ne_of_gt F.ns.lt, next_is_new F, fun p hp => Nat.ne_of_lt (Heap.lt_size (N p hp).1)⟩ ⟨⟨_, Heap.get?_push_size _ rfl, rfl, rfl⟩, hl.push _⟩ hJ (fun j v m' nw ownL h G tk hj hP hJ' ha hap F' N' hg' => turn j v m' nw ownL h G tk hP hJ' ha hap F' N' hg') done
  exact ⟨by obtain ⟨o, e, r⟩ := st.1; exact ⟨o, hI o e, r⟩, ⟨_, (N' _ hS).1, rfl, _, rfl⟩⟩
end

section
variable {w : World} {A : Around} {E : Value → Shared → Prop} {s : Shared} {h₀ : Heap} {env : Env}
theorem For_rangeF {L : Addr} {m₀ : Str → Option Value} (F₀ : Fr h₀ L s.heap m₀) (hL : env.locals = L) {x : Str} {px pos : Pos} {iter : Expr} {body : List Stmt} {Q : Flow → Shared → Prop} (J : Nat → (Str → Option Value) → List (Addr × Obj) → Prop)
    (hh : A.handled = none) (hx : env.kindOf x = some .local) (hk : (env.scope.kind == .class || (env.scope.kind == .module && env.locals != env.globals)) = false) (hs : ∀ x, foldedSetIterable iter env x = pure x)
    (h : wpAny (model PR w) A (eval iter env) (RangeSrc w A h₀ L env x body J Q) (fun _ _ => False) s) :
    wpAny (model PR w) A (exec (.For (.Name x px) iter body [] pos) env) Q E s := For_range hL J hh hx hk hs h
theorem For_listF {L : Addr} {m₀ : Str → Option Value} (F₀ : Fr h₀ L s.heap m₀) (hL : env.locals = L) {x : Str} {px pos : Pos} {iter : Expr} {body : List Stmt} {Q : Flow → Shared → Prop} (J : Nat → (Str → Option Value) → List (Addr × Obj) → Prop)
    (hh : A.handled = none) (hx : env.kindOf x = some .local) (hk : (env.scope.kind == .class || (env.scope.kind == .module && env.locals != env.globals)) = false) (hs : ∀ x, foldedSetIterable iter env x = pure x)
    (h : wpAny (model PR w) A (eval iter env) (ListSrc w A h₀ L env x body J Q) (fun _ _ => False) s) :
    wpAny (model PR w) A (exec (.For (.Name x px) iter body [] pos) env) Q E s := For_list hL J hh hx hk hs h
end

theorem strs_set : ∀ {vs : List Value} {ys : List Str}, StrsAre vs ys → ∀ (i : Nat) (y : Str) (t : Tok), StrsAre (vs.set i (.str y t)) (ys.set i y)
  | _, _, .nil, _, _, _ => .nil
  | _, _, .cons _ _ r, 0, y, t => .cons y t r
  | _, _, .cons a b r, i + 1, y, t => .cons a b (strs_set r i y t)
theorem set_strsK {prog : Program} {w : World} {A : Around} {E : Value → Shared → Prop} {s : Shared} {h₀ : Heap} {L D : Addr} {m : Str → Option Value} {news news' : List (Addr × Obj)} {vs : List Value} {rs : List (List Nat)} {n : Nat} {k : Int} {x : Str} {l : List Nat} {t u : Tok} {Q : Unit → Shared → Prop}
    (F : Fr h₀ L s.heap m) (N : News h₀ L s.heap news) (U : Upd D (listOf vs.toArray n) (listOf (vs.set k.toNat (.str x u)).toArray n) news news') (hi : StrsAre vs (rs.map toS)) (h0 : 0 ≤ k) (h1 : k < rs.length) (hfit : k < 2 ^ 63) (hx : x = toS l)
    (h : ∀ h', Fr h₀ L h' m → News h₀ L h' news' → StrsAre (vs.set k.toNat (.str x u)) ((rs.set k.toNat l).map toS) → (rs.set k.toNat l).length = rs.length → Q () { s with heap := h' }) :
    wpAny (model prog w) A (setItem (.ref D) (.int k t) (.str x u)) Q E s := by
  obtain ⟨pre, post, rfl, rfl, a, b⟩ := U.split
  have z := N (D, listOf vs.toArray n) (List.mem_append.mpr (.inr (.head _)))
  have hl : vs.length = rs.length := by rw [strsAre_len hi, List.length_map]
  have hs : vs.toArray.size = rs.length := by rw [List.size_toArray]; exact hl
  have hj : k.toNat < rs.length := by omega
  refine ki_setAt z.1 h0 hfit (by omega) (h _ (F.change (Heap.SameBut.update ..) z.2.1 z.2.2) (ki_turn _ N a b ?_ ?_) ?_ (List.length_set ..))
  · show vs.toArray.setIfInBounds k.toNat (.str x u) = (vs.set k.toNat (.str x u)).toArray
    apply Array.toList_inj.mp
    simp
  · simp
  · rw [List.map_set, ← hx]; exact strs_set hi _ _ _

def tokC : List (Str × Int) := [("!",54),("!=",28),("%",24),("%=",40),("&",19),("&=",41),("(",7),(")",8),("*",16),("**",35),("**=",46),("*=",38),("+",14),("+=",36),(",",12),("-",15),("-=",37),("->",51),(".",23),("...",52),("/",17),("//",47),("//=",48),("/=",39),(":",11),(":=",53),(";",13),("<",20),("<<",33),("<<=",44),("<=",29),("=",22),("==",27),(">",21),(">=",30),(">>",34),(">>=",45),("@",49),("@=",50),("[",9),("]",10),("^",32),("^=",43),("{",25),("|",18),("|=",42),("}",26),("~",31)].map fun p => (Str.ofString p.1, p.2)
theorem tok_tab (w : World) {h : Heap} (X : (hd.heap_39 w.params).In h) : StrTab PR w h 45 (kdpD tokC) := by
  have T := kt_tab_in (a := 45) PR w X (D := tokC.map fun p => (p.1, PyData.int p.2)) (by kernel_rfl) (by decide +kernel) (by kernel_rfl)
  rw [List.map_map] at T
  exact T

def rowsLed : List Addr → List (List Value × Nat) → List (Addr × Obj)
  | a :: as, b :: bs => (a, listOf b.1.toArray b.2) :: rowsLed as bs
  | _, _ => []
theorem rowsLed_mem : ∀ {as : List Addr} {bs : List (List Value × Nat)} {k : Nat} {a : Addr} {b : List Value × Nat}, as[k]? = some a → bs[k]? = some b → (a, listOf b.1.toArray b.2) ∈ rowsLed as bs
  | [], _, _, _, _, h, _ => by simp at h
  | _ :: _, [], _, _, _, _, h => by simp at h
  | a :: as, b :: bs, 0, _, _, h, h' => by
    simp only [List.getElem?_cons_zero, Option.some.injEq] at h h'
    subst h; subst h'
    exact List.mem_cons_self
  | a :: as, b :: bs, k + 1, _, _, h, h' => by
    simp only [List.getElem?_cons_succ] at h h'
    exact List.mem_cons_of_mem _ (rowsLed_mem h h')
theorem rowsLed_addr : ∀ {as : List Addr} {bs : List (List Value × Nat)}, ∀ p ∈ rowsLed as bs, p.1 ∈ as
  | [], _, _, h => by simp [rowsLed] at h
  | _ :: _, [], _, h => by simp [rowsLed] at h
  | a :: as, b :: bs, p, h => by
    rcases List.mem_cons.mp h with rfl | h
    · exact List.mem_cons_self
    · exact List.mem_cons_of_mem _ (rowsLed_addr p h)
theorem rowsLed_upd : ∀ {as : List Addr} {bs : List (List Value × Nat)} {k : Nat} {a : Addr} {b b' : List Value × Nat} {rest : List (Addr × Obj)}, as.Nodup → (∀ p ∈ rest, p.1 ≠ a) → as[k]? = some a → bs[k]? = some b →
    Upd a (listOf b.1.toArray b.2) (listOf b'.1.toArray b'.2) (rowsLed as bs ++ rest) (rowsLed as (bs.set k b') ++ rest)
  | [], _, _, _, _, _, _, _, _, h, _ => by simp at h
  | _ :: _, [], _, _, _, _, _, _, _, _, h => by simp at h
  | a :: as, b :: bs, 0, _, _, b', rest, hn, hr, h, h' => by
    simp only [List.getElem?_cons_zero, Option.some.injEq] at h h'
    subst h; subst h'
    refine Upd.head fun p hp => ?_
    rcases List.mem_append.mp hp with hp | hp
    · intro e
      have := rowsLed_addr p hp
      rw [e] at this
      exact (List.nodup_cons.mp hn).1 this
    · exact hr p hp
  | a :: as, b :: bs, k + 1, a', _, b', rest, hn, hr, h, h' => by
    simp only [List.getElem?_cons_succ] at h h'
    refine Upd.tail (fun e => ?_) (rowsLed_upd (List.nodup_cons.mp hn).2 hr h h')
    have e : a = a' := e
    subst e
    exact (List.nodup_cons.mp hn).1 (List.mem_of_getElem? h)
theorem rowsLed_snoc : ∀ {as : List Addr} {bs : List (List Value × Nat)} {a : Addr} {b : List Value × Nat}, as.length = bs.length → rowsLed (as ++ [a]) (bs ++ [b]) = rowsLed as bs ++ [(a, listOf b.1.toArray b.2)]
  | [], [], _, _, _ => rfl
  | [], _ :: _, _, _, h => by simp at h
  | _ :: _, [], _, _, h => by simp at h
  | a :: as, b :: bs, _, _, h => by
    simp only [List.length_cons, Nat.add_right_cancel_iff] at h
    show _ :: _ = _ :: _
    rw [List.append_eq, List.append_eq, rowsLed_snoc h]; rfl
section
variable {prog : Program} {w : World} {A : Around} {h₀ : Heap} {L : Addr} {m : Str → Option Value} {env : Env} {elt : Expr} {x : Str} {scope : Scope} {cl : List (Str × Addr)} {s : Shared} {S : List (Addr × Obj) → Prop} {P : Nat → Value → Prop} {Fin : List Value → List (Addr × Obj) → Prop} {news : List (Addr × Obj)}
/-- a comprehension whose element is a fresh empty list -/
theorem kcr_rest {n : Nat}
    (turn : ∀ v I oI C oC D m₂ ys h tk (E' : Value → Shared → Prop) nw, LCg.NsObj oC m₂ → m₂ x = some v → Fr h₀ L h m → News h₀ L h ((I, oI) :: (C, oC) :: (D, LCg.lst ys) :: nw) → LCg.Off3 I C D nw → ((@Ne Nat I C) ∧ (@Ne Nat I D) ∧ (@Ne Nat C D)) →
      wpAny (model prog w) A (eval elt (compEnvC scope cl C env)) (fun y s₂ => ∃ h' tk l, y = .ref l ∧ s₂ = { s with heap := h', toks := tk } ∧ Fr h₀ L h' m ∧ News h₀ L h' ((l, listOf #[] 0) :: (I, oI) :: (C, oC) :: (D, LCg.lst ys) :: nw) ∧ (∀ p ∈ (I, oI) :: (C, oC) :: (D, LCg.lst ys) :: nw, p.1 < l)) E' { s with heap := h, toks := tk })
    (hS : ∀ nw, S nw)
    (fin : ∀ as : List Addr, as.length = n → as.Nodup → (∀ a ∈ as, ∀ p ∈ news, p.1 < a) → Fin (as.map Value.ref) (rowsLed as (List.replicate n ([], 0)) ++ news)) : LCg.CompRest prog w A h₀ L m env elt x scope cl s S P Fin n 0 [] news := by
  have key : ∀ (j i : Nat) (as : List Addr), i + j = n → as.length = i → as.Nodup → (∀ a ∈ as, ∀ p ∈ news, p.1 < a) →
      LCg.CompRest prog w A h₀ L m env elt x scope cl s S P Fin j i (as.map Value.ref) (rowsLed as (List.replicate i ([], 0)) ++ news) := by
    intro j
    induction j with
    | zero =>
      intro i as hi hl hn ha
      have e : i = n := by omega
      subst e
      exact LCg.CompRest.zero (fin as hl hn ha)
    | succ j ih =>
      intro i as hi hl hn ha
      refine LCg.CompRest.succ ?_
      intro v I oI C oC D m₂ h tk E' hv hC hx F N off ne
      refine wpAny_mono (turn v I oI C oC D m₂ _ h tk E' _ hC hx F N off ne) (fun y s₂ hq => ?_) fun _ _ e => e
      obtain ⟨h', tk', l, rfl, rfl, F', N', hlt⟩ := hq
      have hal : ∀ a ∈ as, a < l := fun a h => by
        obtain ⟨k, hk, e⟩ := List.getElem_of_mem h
        have := rowsLed_mem (as := as) (bs := List.replicate i ([], 0)) (k := k) (a := a) (b := ([], 0)) (by rw [List.getElem?_eq_getElem hk, e]) (by rw [List.getElem?_replicate, if_pos (by omega)])
        exact hlt _ (List.mem_cons_of_mem _ (List.mem_cons_of_mem _ (List.mem_cons_of_mem _ (List.mem_append_left _ this))))
      have hnl : ∀ p ∈ news, p.1 < l := fun p hp => hlt p (List.mem_cons_of_mem _ (List.mem_cons_of_mem _ (List.mem_cons_of_mem _ (List.mem_append_right _ hp))))
      have hle : rowsLed (as ++ [l]) (List.replicate (i + 1) ([], 0)) ++ news = rowsLed as (List.replicate i ([], 0)) ++ ((l, listOf #[] 0) :: news) := by
        rw [List.replicate_succ', rowsLed_snoc (by rw [hl, List.length_replicate]), List.append_assoc]; rfl
      have hsub : ∀ p ∈ rowsLed as (List.replicate i ([], 0)) ++ ((l, listOf #[] 0) :: news), p = (l, listOf #[] 0) ∨ p ∈ rowsLed as (List.replicate i ([], 0)) ++ news := fun p hp => by
        rcases List.mem_append.mp hp with hp | hp
        · exact .inr (List.mem_append_left _ hp)
        · rcases List.mem_cons.mp hp with rfl | hp
          · exact .inl rfl
          · exact .inr (List.mem_append_right _ hp)
      refine LCg.CompEnd.intro F' N' (rowsLed (as ++ [l]) (List.replicate (i + 1) ([], 0)) ++ news) ?_ ?_ (hS _) ?_
      · rw [hle]
        refine List.forall_mem_cons.mpr ⟨List.mem_cons_of_mem _ List.mem_cons_self, List.forall_mem_cons.mpr ⟨List.mem_cons_of_mem _ (List.mem_cons_of_mem _ List.mem_cons_self), List.forall_mem_cons.mpr ⟨List.mem_cons_of_mem _ (List.mem_cons_of_mem _ (List.mem_cons_of_mem _ List.mem_cons_self)), fun p hp => ?_⟩⟩⟩
        rcases hsub p hp with rfl | hp
        · exact List.mem_cons_self
        · exact List.mem_cons_of_mem _ (List.mem_cons_of_mem _ (List.mem_cons_of_mem _ (List.mem_cons_of_mem _ hp)))
      · rw [hle]
        refine LCg.Off3.of fun p hp => ?_
        rcases hsub p hp with rfl | hp
        · exact ⟨Nat.ne_of_gt (hlt _ List.mem_cons_self), Nat.ne_of_gt (hlt _ (List.mem_cons_of_mem _ List.mem_cons_self)), Nat.ne_of_gt (hlt _ (List.mem_cons_of_mem _ (List.mem_cons_of_mem _ List.mem_cons_self)))⟩
        · exact off.mem p hp
      · have := ih (i + 1) (as ++ [l]) (by omega) (by rw [List.length_append, hl]; rfl) (List.nodup_append.mpr ⟨hn, by simp, fun a ha b hb => by rw [List.mem_singleton.mp hb]; exact Nat.ne_of_lt (hal a ha)⟩) (fun a h p hp => by
          rcases List.mem_append.mp h with h | h
          · exact ha a h p hp
          · rw [List.mem_singleton.mp h]; exact hnl p hp)
        rw [List.map_append] at this
        exact this
  exact key n 0 [] (by omega) rfl List.nodup_nil (by simp)
end

section
variable {w : World} {A : Around} {E : Value → Shared → Prop} {s : Shared} {h₀ : Heap} {L : Addr} {m : Str → Option Value} {news : List (Addr × Obj)} {env : Env}
theorem call_iter2 {mean : ExcName → Option Value} {mg mb : Str → Option Value} {x : Str} {tx : Tok} {Q : Value → Shared → Prop} (F : Fr h₀ L s.heap m) (N : News h₀ L s.heap news) (X : (hd.heap_39 w.params).In h₀) (T : TopM mean mg mb h₀)
    (hroom : A.depth < recursionLimit) (hbare : AllBare s.gens)
    (hQ : ∀ a g Lg h' G' tk', Fr h₀ L h' m → News h₀ L h' news → AllBare G' → s.heap.objs.size ≤ Lg → Lg < h'.objs.size → s.heap.objs.size ≤ a → 
      (∀ A' : Around, A'.handled = none → GenAt w A' h₀ a g [Lg] (escOf x) 0 { heap := h', gens := G', drawn := s.drawn, toks := tk', os := s.os }) → Q (.ref a) { heap := h', gens := G', drawn := s.drawn, toks := tk', os := s.os }) :
    wpAny (model PR w) A (call (.ref 30) [.str x tx]) Q E s := by
  obtain ⟨fd, o1, o2, o3, hlook, hdat, hco, hgen, hbody, hcd, hbind, hclo, hsc, henv, hcell, hkind, hloc⟩ := fn30 w
  have X' := X.keeps F.keep
  refine wpAny_call (codeAny_call_generator hroom (X' _ _ hlook) rfl hco hgen hbody (codeRec_of X' hcd) ?_)
  refine wpAny_of_eq (hbind _) ?_
  refine wpAny_newFunctionEnv hcell (fun y hy => by rw [List.mem_singleton.mp hy]; exact hloc) (fun h₁ hn₁ hs₁ => ?_) hkind
  rw [henv]
  have up : ∀ b o, s.heap.get? b = some o → h₁.get? b = some o := fun b o e => hs₁.extBut b o (Nat.ne_of_lt (Heap.lt_size e)) (Heap.get?_push_of_some _ e)
  have F₁ : Fr h₀ L h₁ m := ⟨F.ns.keeps up, fun b o e => up b o (F.keep b o e), F.above⟩
  have N₁ : News h₀ L h₁ news := fun p hp => ⟨up _ _ (N p hp).1, (N p hp).2⟩
  refine ⟨T.nolimit.keeps F₁.keep, ?_⟩
  dsimp only
  have hz : s.heap.objs.size < h₁.objs.size := by rw [hs₁.1, Heap.size_push]; exact Nat.lt_succ_self _
  refine hQ _ s.gens.size s.heap.objs.size _ _ _ (F₁.push _) (fun p hp => ⟨Heap.get?_push_of_some _ (N₁ p hp).1, (N₁ p hp).2⟩) ?_ (Nat.le_refl _) (by rw [Heap.size_push]; exact Nat.lt_succ_of_lt hz) (Nat.le_of_lt hz) (fun A' hA => ?_)
  · intro y hy
    rcases Array.mem_push.mp hy with h1 | h1
    · exact hbare y h1
    · rw [h1]; rfl
  · have hab : h₀.objs.size ≤ s.heap.objs.size := Nat.le_trans F.above (Nat.le_of_lt F.ns.lt)
    refine gen_fresh (x := x) (tx := tx) (m := fun y => [(Str.ofString "addr", Value.str x tx)].reverse.lookup y) hA X T ⟨?_, fun b o e => Heap.get?_push_of_some _ (F₁.keep b o e), hab⟩ rfl ⟨_, _, _, Heap.get?_push_size _ rfl, rfl, rfl, rfl⟩ ?_ (Nat.ne_of_gt hz)
    · exact hn₁.push _
    · show (s.gens.push _)[s.gens.size]? = _
      simp
/-- where a comprehension over the generator begins -/
def CSrc (w : World) (A : Around) (h₀ : Heap) (L : Addr) (m : Str → Option Value) (Q : Value → Shared → Prop) (xv : Value) (s₁ : Shared) : Prop :=
  ∃ ag g own items news, xv = .ref ag ∧ GenAt w A h₀ ag g own items 0 s₁ ∧ AllBare s₁.gens ∧ Fr h₀ L s₁.heap m ∧ News h₀ L s₁.heap news ∧
      (∀ b ∈ ag :: own, b ≠ L ∧ h₀.get? b = none ∧ b < s₁.heap.objs.size ∧ ∀ p ∈ news, p.1 ≠ b) ∧ items.length ≤ sizeLine ∧
      (∀ D vs n h G tk, Fr h₀ L h m → News h₀ L h ((D, listOf vs.toArray n) :: news) → (∀ p ∈ news, p.1 ≠ D) → StrsAre vs (items.map fun q => toS q.2) → AllBare G → Q (.ref D) { heap := h, gens := G, drawn := s₁.drawn, toks := tk, os := s₁.os })
theorem CSrc.intro {Q : Value → Shared → Prop} {x : Str} {h₁ : Heap} {dr : Drawn} {oS : OsState} {h' : Heap} {G' : Array GenState} {tk' : Nat} {ag g Lg : Addr}
    (hh : A.handled = none) (F₀ : Fr h₀ L h₁ m) (N₀ : News h₀ L h₁ news) (F : Fr h₀ L h' m) (N : News h₀ L h' news) (hg : AllBare G') (hLg : h₁.objs.size ≤ Lg) (hLt : Lg < h'.objs.size) (ha : h₁.objs.size ≤ ag)
    (gen : ∀ A' : Around, A'.handled = none → GenAt w A' h₀ ag g [Lg] (escOf x) 0 { heap := h', gens := G', drawn := dr, toks := tk', os := oS }) (hsz : (escOf x).length ≤ sizeLine)
    (fin : ∀ D vs n h G tk, Fr h₀ L h m → News h₀ L h ((D, listOf vs.toArray n) :: news) → (∀ p ∈ news, p.1 ≠ D) → StrsAre vs ((escOf x).map fun q => toS q.2) → AllBare G → Q (.ref D) { heap := h, gens := G, drawn := dr, toks := tk, os := oS }) :
    CSrc w A h₀ L m Q (.ref ag) { heap := h', gens := G', drawn := dr, toks := tk', os := oS } := by
  have new : ∀ b, h₁.objs.size ≤ b → b ≠ L ∧ h₀.get? b = none ∧ ∀ p ∈ news, p.1 ≠ b := fun b hb => by
    refine ⟨Nat.ne_of_gt (Nat.lt_of_lt_of_le F₀.ns.lt hb), ?_, fun p hp => Nat.ne_of_lt (Nat.lt_of_lt_of_le (Heap.lt_size (N₀ p hp).1) hb)⟩
    cases e : h₀.get? b with
    | none => rfl
    | some o => exact absurd (Nat.lt_of_lt_of_le (Heap.lt_size (F₀.keep b o e)) hb) (Nat.lt_irrefl _)
  have X := gen A hh
  refine ⟨ag, g, [Lg], escOf x, news, rfl, X, hg, F, N, fun b hb => ?_, hsz, fin⟩
  rcases List.mem_cons.mp hb with rfl | hb
  · obtain ⟨o, nm, qn, e, r⟩ := X.isg
    have z := new _ ha
    exact ⟨z.1, z.2.1, Heap.lt_size e, z.2.2⟩
  · rw [List.mem_singleton.mp hb]
    have z := new _ hLg
    exact ⟨z.1, z.2.1, hLt, z.2.2⟩
theorem ListComp_G {iter : Expr} {x x₂ : Str} {px px₂ tp pe : Pos} {tk} {scope : Scope} {cl : List (Str × Addr)} {pos : Pos} {Q : Value → Shared → Prop} (hh : A.handled = none) (hroom : A.depth < recursionLimit) (hl : h₀.NoLimit)
    (hclos : closureFor scope env = pure cl) (hcell : ∀ y ∈ scope.names, y.2 ≠ .cell) (hkind : scope.kind = .function)
    (hnames : ∀ y ∈ scope.names, y.2 = .local → scope.names.lookup y.1 = some .local) (hx : scope.names.lookup x = some .local) (hx₂ : scope.names.lookup x₂ = some .local) (hdb : (x₂ == ("__debug__" : Str)) = false)
    (hs : ∀ x, foldedSetIterable iter env x = pure x)
    (h : wpAny (model PR w) A (eval iter env) (CSrc w A h₀ L m Q) E s) :
    wpAny (model PR w) A (eval (.ListComp (.Name x₂ pe) [⟨.Tuple [.Name x px, .Name x₂ px₂] tk tp, iter, [], 0⟩] scope pos) env) Q E s := by
  rw [eval_ListComp]
  refine wpAny_comprehension_free (use := none) rfl hs hclos hkind hnames (wpAny_mono h (fun xv s₁ h₁ => ?_) fun _ _ e => e)
  obtain ⟨ag, g, own, items, news, rfl, X₀, hb₀, F₀, N₀, hap₀, hsz, fin⟩ := h₁
  refine wpAny_pyIter_gen X₀.isg ?_
  refine wpAny_newObj_type (wpAny_newFunctionEnv hcell (by intro y hy; simp at hy) (fun h₁ hns₁ hsb₁ => ?_) hkind)
  dsimp only at hns₁ hsb₁ ⊢
  generalize hH2 : s₁.heap.push { cls := .type "list", dict := none, data := .seq ([] : List Value).toArray } = H2 at hns₁ hsb₁ ⊢
  have hC : H2.objs.size = s₁.heap.objs.size + 1 := by rw [← hH2, Heap.size_push]
  generalize hCe : H2.objs.size = C at hC hns₁ hsb₁ ⊢
  generalize hDe : s₁.heap.objs.size = D at hC ⊢
  have hDC : D ≠ C := Nat.ne_of_lt (by omega)
  have lt1 : ∀ b o, s₁.heap.get? b = some o → @LT.lt Nat _ b D := fun b o e => hDe ▸ Heap.lt_size e
  have old : ∀ b o, s₁.heap.get? b = some o → h₁.get? b = some o := fun b o e => hsb₁.extBut b o (Nat.ne_of_lt (by have := lt1 b o e; omega)) (Heap.get?_push_of_some _ (hH2 ▸ Heap.get?_push_of_some _ e))
  have hacc : h₁.get? D = some (LCg.lst []) := hsb₁.extBut _ _ hDC (Heap.get?_push_of_some _ (hH2 ▸ hDe ▸ Heap.get?_push_size _ rfl))
  have fresh₀ : ∀ a, D ≤ a → h₀.get? a = none := fun a ha => by
    cases e : h₀.get? a with
    | none => rfl
    | some o' => exact absurd (Heap.lt_size (F₀.keep a o' e)) (by rw [hDe]; exact Nat.not_lt.mpr ha)
  have hLlt : @LT.lt Nat _ L D := by have := F₀.ns.lt; rw [hDe] at this; exact this
  have hND : ∀ p ∈ news, @LT.lt Nat _ p.1 D := fun p hp => by have := Heap.lt_size (N₀ p hp).1; rw [hDe] at this; exact this
  have hDC' : D < C := by omega
  have hD₀ := fresh₀ D (Nat.le_refl _)
  have hC₀ := fresh₀ C (by omega)
  have hsize : D < h₁.objs.size := Heap.lt_size hacc
  have loop : ∀ s₃ : Shared, s₃ = { s₁ with heap := h₁, toks := s₁.toks + ([] : List (Str × Value)).length } →
      codeAny (model PR w) A (.compLoop (.ListComp (.Name x₂ pe) [⟨.Tuple [.Name x px, .Name x₂ px₂] tk tp, iter, [], 0⟩] scope pos) 0 (.ref ag) (.ref D) (compEnvC scope cl C env))
        (compPost (model PR w) A E none Q (.ref D) C) s₃ := by
    rintro s₃ rfl
    refine LCp.codeAny_compLoop_pair
      (fun k s' => ∃ j own h' G' tk ys m', s' = { heap := h', gens := G', drawn := s₁.drawn, toks := tk, os := s₁.os } ∧ k = items.length + 1 - j ∧ j ≤ items.length ∧ GenAt w A h₀ ag g own items j s' ∧ AllBare G' ∧ Fr h₀ L h' m ∧ h'.Ns C m' ∧
        News h₀ L h' ((D, LCg.lst ys) :: news) ∧ (∀ b ∈ ag :: own, b ≠ L ∧ b ≠ C ∧ b ≠ D ∧ h₀.get? b = none ∧ ∀ p ∈ news, p.1 ≠ b) ∧ StrsAre ys ((items.take j).map fun q => toS q.2)) ?_ (items.length + 1)
      ⟨0, own, h₁, s₁.gens, _, [], _, rfl, rfl, Nat.zero_le _, X₀.keeps (fun o e => old _ o e) (fun b _ o e => old b o e), hb₀, F₀.keeps old, hns₁, fun p hp => ?_, fun b hb => ?_, .nil⟩
    · rintro k s' ⟨j, own, H, G, tk, ys, m', rfl, rfl, hj, X, hb, F, hn, N, hap, hys⟩
      have hbase : ∀ b o, h₀.get? b = some o → b ∉ own := fun b o e hm => by rw [(hap b (List.mem_cons_of_mem _ hm)).2.2.2.1] at e; cases e
      have hLown : L ∉ own := fun hm => (hap _ (List.mem_cons_of_mem _ hm)).1 rfl
      have hCown : C ∉ own := fun hm => (hap _ (List.mem_cons_of_mem _ hm)).2.1 rfl
      have hDown : D ∉ own := fun hm => (hap _ (List.mem_cons_of_mem _ hm)).2.2.1 rfl
      have hnew : ∀ p ∈ (D, LCg.lst ys) :: news, p.1 ∉ own := fun p hp hm => by
        rcases List.mem_cons.mp hp with rfl | hp
        · exact hDown hm
        · exact (hap _ (List.mem_cons_of_mem _ hm)).2.2.2.2 p hp rfl
      have lC : C < H.objs.size := by obtain ⟨o, e, _⟩ := LCg.ns_obj hn; exact Heap.lt_size e
      have lD : D < H.objs.size := Heap.lt_size (N (D, LCg.lst ys) List.mem_cons_self).1
      refine next_gen (s := { heap := H, gens := G, drawn := s₁.drawn, toks := tk, os := s₁.os }) hh hroom hl F.keep X hb ?_ ?_
      · intro q T own' h₁ G₁ tk₁ hq hT hb₁ hown' hk₁ X₁
        have F₁ : Fr h₀ L h₁ m := ⟨F.ns.at' fun o e => hk₁ _ o hLown e, fun b o e => hk₁ b o (hbase b o e) (F.keep b o e), F.above⟩
        have N₁ : News h₀ L h₁ ((D, LCg.lst ys) :: news) := fun p hp => ⟨hk₁ _ _ (hnew p hp) (N p hp).1, (N p hp).2⟩
        have hn₁ := hn.at' fun o e => hk₁ _ o hCown e
        have hap₁ : ∀ b ∈ ag :: own', b ≠ L ∧ b ≠ C ∧ b ≠ D ∧ h₀.get? b = none ∧ ∀ p ∈ news, p.1 ≠ b := fun b hbm => by
          rcases List.mem_cons.mp hbm with rfl | hbm
          · exact hap _ List.mem_cons_self
          · rcases hown' b hbm with h1 | h1
            · exact hap b (List.mem_cons_of_mem _ h1)
            · replace h1 : H.objs.size ≤ b := h1
              refine ⟨Nat.ne_of_gt (by omega), Nat.ne_of_gt (by omega), Nat.ne_of_gt (by omega), fresh₀ b (by omega), fun p hp => ?_⟩
              have := Heap.lt_size (N p (List.mem_cons_of_mem _ hp)).1
              exact Nat.ne_of_lt (Nat.lt_of_lt_of_le this h1)
        obtain ⟨t, u, hT⟩ := hT
        refine go_gen X₁.isg ?_
        refine wpAny_assign_Tuple hh hT rfl rfl fun h₂ hx₂' => ?_
        replace hx₂' : Heap.ExtBut h₁.objs.size h₁ h₂ := hx₂'
        have up₂ : ∀ b o, h₁.get? b = some o → h₂.get? b = some o := fun b o e => hx₂' b o (Nat.ne_of_lt (Heap.lt_size e)) e
        refine assignInOrder_cons (wpAny_assign_Name (wpAny_storeName_local (lookup_relabel_local hx) (hn₁.keeps up₂) (fun h₃ hn₃ hs₃ => ?_) (by simp [compEnvC, relabel, hkind])))
        refine assignInOrder_cons (wpAny_assign_Name (wpAny_storeName_local (lookup_relabel_local hx₂) hn₃ (fun h₄ hn₄ hs₄ => ?_) (by simp [compEnvC, relabel, hkind])))
        refine assignInOrder_nil ?_
        replace hs₃ : Heap.SameBut C h₂ h₃ := hs₃
        replace hs₄ : Heap.SameBut C h₃ h₄ := hs₄
        have up₄ : ∀ b o, b ≠ C → h₁.get? b = some o → h₄.get? b = some o := fun b o hb e => hs₄.extBut b o hb (hs₃.extBut b o hb (up₂ b o e))
        have hlt : j < items.length := (List.getElem?_eq_some_iff.mp hq).1
        rw [eval_Name (hd := hdb)]
        refine wpAny_bind (wpAny_standAt (wpAny_loadName_local (v := .str (toS q.2) u) (by simp [compEnvC, relabel, hkind]) (lookup_relabel_local hx₂) hn₄ (by simp) ?_))
        refine append_at (hsz := by show ys.toArray.size ≤ sizeLine; rw [List.size_toArray, strsAre_len hys, List.length_map, List.length_take]; omega) (up₄ D _ hDC (N₁ (D, LCg.lst ys) List.mem_cons_self).1) fun h₅ hs₅ hD₅ => ?_
        have up₅ : ∀ b o, b ≠ C → b ≠ D → h₁.get? b = some o → h₅.get? b = some o := fun b o hb hd e => hs₅.extBut b o hd (up₄ b o hb e)
        refine ⟨items.length + 1 - (j + 1), by omega, j + 1, own', h₅, G₁, _, ys ++ [.str (toS q.2) u], _, rfl, rfl, hlt, X₁.keeps (fun o e => up₅ ag o (hap₁ _ List.mem_cons_self).2.1 (hap₁ _ List.mem_cons_self).2.2.1 e) (fun b hb o e => up₅ b o (hap₁ _ (List.mem_cons_of_mem _ hb)).2.1 (hap₁ _ (List.mem_cons_of_mem _ hb)).2.2.1 e),
          hb₁, ?_, hn₄.sameBut hs₅ (Ne.symm hDC), fun p hp => ?_, hap₁, ?_⟩
        · exact ⟨F₁.ns.at' fun o e => up₅ L o (Nat.ne_of_lt (by omega)) (Nat.ne_of_lt (by omega)) e, fun b o e => up₅ b o (fun q => by rw [q, hC₀] at e; cases e) (fun q => by rw [q, hD₀] at e; cases e) (F₁.keep b o e), F₁.above⟩
        · rcases List.mem_cons.mp hp with rfl | hp
          · exact ⟨hD₅.trans (congrArg some (LCg.lst_snoc ys _)), Nat.ne_of_gt hLlt, hD₀⟩
          · have z := N₁ p (List.mem_cons_of_mem _ hp)
            have hpl := hND p hp
            exact ⟨up₅ _ _ (Nat.ne_of_lt (by omega)) (Nat.ne_of_lt hpl) z.1, z.2⟩
        · rw [List.take_add_one, hq]
          simpa using strsAre_snoc hys
      · intro hge h₁ G₁ tk₁ hb₁ hk₁
        have hje : j = items.length := Nat.le_antisymm hj hge
        subst hje
        rw [List.take_length] at hys
        refine ⟨m', hn.at' fun o e => hk₁ _ o hCown e, fun h'' hs'' => ?_⟩
        refine fin D ys ys.length h'' G₁ tk₁ ?_ (fun p hp => ?_) (fun p hp => Nat.ne_of_lt (hND p hp)) hys hb₁
        · exact Fr.change ⟨F.ns.at' fun o e => hk₁ _ o hLown e, fun b o e => hk₁ b o (hbase b o e) (F.keep b o e), F.above⟩ hs'' (Nat.ne_of_gt (by omega)) hC₀
        · have z := N p hp
          refine ⟨hs''.extBut _ _ ?_ (hk₁ _ _ (hnew p hp) z.1), z.2⟩
          rcases List.mem_cons.mp hp with rfl | hp
          · exact hDC
          · have := hND p hp; exact Nat.ne_of_lt (by omega)
    · rcases List.mem_cons.mp hp with rfl | hp
      · exact ⟨hacc, Nat.ne_of_gt hLlt, hD₀⟩
      · exact ⟨old _ _ (N₀ p hp).1, (N₀ p hp).2⟩
    · have z := hap₀ b hb
      have zl : @LT.lt Nat _ b D := hDe ▸ z.2.2.1
      exact ⟨z.1, Nat.ne_of_lt (by omega), Nat.ne_of_lt zl, z.2.1, z.2.2.2⟩
  exact codeAny_compStart_list (loop _ rfl) (wpAny_pyIter_gen (X₀.keeps (fun o e => old _ o e) (fun b _ o e => old b o e)).isg (loop _ rfl))
end

section
variable {prog : Program} {w : World} {A : Around} {s : Shared} {h₀ : Heap} {L : Addr} {m : Str → Option Value} {news : List (Addr × Obj)} {env : Env} {ct elt : Expr} {x : Str} {scope : Scope} {cl : List (Str × Addr)} {S : List (Addr × Obj) → Prop} {P : Nat → Value → Prop} {Fin : List Value → List (Addr × Obj) → Prop}
theorem news_tl {h : Heap} {p : Addr × Obj} {l : List (Addr × Obj)} (N : News h₀ L h (p :: l)) : News h₀ L h l := fun q hq => N q (List.mem_cons_of_mem _ hq)
theorem news_tl2 {h : Heap} {p q : Addr × Obj} {l : List (Addr × Obj)} (N : News h₀ L h (p :: q :: l)) : News h₀ L h (p :: l) := fun r hr => N r (by
  rcases List.mem_cons.mp hr with rfl | hr
  · exact List.mem_cons_self
  · exact List.mem_cons_of_mem _ (List.mem_cons_of_mem _ hr))
/-- a comprehension by an invariant over what is built -/
theorem comp_inv {n : Nat} (J : Nat → List Value → Prop) (h0 : J 0 [])
    (turn : ∀ i v I oI C oC D m₂ ys h tk (E' : Value → Shared → Prop), i < n → P i v → J i ys → LCg.NsObj oC m₂ → m₂ x = some v → Fr h₀ L h m → News h₀ L h ((I, oI) :: (C, oC) :: (D, LCg.lst ys) :: news) → LCg.Off3 I C D news → ((@Ne Nat I C) ∧ (@Ne Nat I D) ∧ (@Ne Nat C D)) →
      wpAny (model prog w) A (eval elt (compEnvC scope cl C env)) (LCg.CompEnd h₀ L m { s with heap := h, toks := tk } I oI C oC D (LCg.lst ys) S (fun y news' => news' = news ∧ J (i + 1) (ys ++ [y]))) E' { s with heap := h, toks := tk })
    (fin : ∀ ys, J n ys → Fin ys news) : LCg.CompRest prog w A h₀ L m env elt x scope cl s S P Fin n 0 [] news := by
  have key : ∀ (j i : Nat) (ys : List Value), i + j = n → J i ys → LCg.CompRest prog w A h₀ L m env elt x scope cl s S P Fin j i ys news := by
    intro j
    induction j with
    | zero =>
      intro i ys hi hy
      obtain rfl : i = n := by omega
      exact LCg.CompRest.zero (fin ys hy)
    | succ j ih =>
      intro i ys hi hy
      refine LCg.CompRest.succ ?_
      intro v I oI C oC D m₂ h tk E' hv hC hx F N off ne
      refine wpAny_mono (turn i v I oI C oC D m₂ ys h tk E' (by omega) hv hy hC hx F N off ne) (fun y s₂ hq => ?_) fun _ _ e => e
      obtain ⟨h', tk', nw, e, F', N', off', hS, hn, hy'⟩ := hq
      rw [hn] at N' off' hS
      exact ⟨h', tk', news, e, F', N', off', hS, ih (i + 1) _ (by omega) hy'⟩
  exact key n 0 [] (by omega) h0
theorem comp_invT {n : Nat} (J : Nat → List Value → Prop) (h0 : J 0 [])
    (turn : ∀ i v I oI C oC D m₂ ys h tk (E' : Value → Shared → Prop), i < n → P i v → J i ys → LCg.NsObj oC m₂ → m₂ x = some v → Fr h₀ L h m → News h₀ L h ((I, oI) :: (C, oC) :: (D, LCg.lst ys) :: news) → LCg.Off3 I C D news → ((@Ne Nat I C) ∧ (@Ne Nat I D) ∧ (@Ne Nat C D)) →
      wpAny (model prog w) A (isTrue ct (compEnvC scope cl C env) (eval ct (compEnvC scope cl C env))) (fun b s' => if b = true then wpAny (model prog w) A (eval elt (compEnvC scope cl C env)) (LCg.CompEnd h₀ L m { s with heap := h, toks := tk } I oI C oC D (LCg.lst ys) S (fun y news' => news' = news ∧ J (i + 1) (ys ++ [y]))) E' s'
        else LCg.CompEnd h₀ L m { s with heap := h, toks := tk } I oI C oC D (LCg.lst ys) S (fun _ news' => news' = news ∧ J (i + 1) ys) Value.none s') E' { s with heap := h, toks := tk })
    (fin : ∀ ys, J n ys → Fin ys news) : LCt.CompRestT prog w A h₀ L m env ct elt x scope cl s S P Fin n 0 [] news := by
  have key : ∀ (j i : Nat) (ys : List Value), i + j = n → J i ys → LCt.CompRestT prog w A h₀ L m env ct elt x scope cl s S P Fin j i ys news := by
    intro j
    induction j with
    | zero =>
      intro i ys hi hy
      obtain rfl : i = n := by omega
      exact LCt.CompRestT.zero (fin ys hy)
    | succ j ih =>
      intro i ys hi hy
      refine LCt.CompRestT.succ ?_
      intro v I oI C oC D m₂ h tk E' hv hC hx F N off ne
      refine wpAny_mono (turn i v I oI C oC D m₂ ys h tk E' (by omega) hv hy hC hx F N off ne) (fun b s₂ hq => ?_) fun _ _ e => e
      cases b with
      | true =>
        simp only [if_true] at hq ⊢
        refine wpAny_mono hq (fun y s₃ hr => ?_) fun _ _ e => e
        obtain ⟨h', tk', nw, e, F', N', off', hS, hn, hy'⟩ := hr
        rw [hn] at N' off' hS
        exact ⟨h', tk', news, e, F', N', off', hS, ih (i + 1) _ (by omega) hy'⟩
      | false =>
        simp only [Bool.false_eq_true, if_false] at hq ⊢
        obtain ⟨h', tk', nw, e, F', N', off', hS, hn, hy'⟩ := hq
        rw [hn] at N' off' hS
        exact ⟨h', tk', news, e, F', N', off', hS, ih (i + 1) _ (by omega) hy'⟩
  exact key n 0 [] (by omega) h0
end
section
variable {prog : Program} {w : World} {A : Around} {E : Value → Shared → Prop} {s : Shared} {h₀ : Heap} {L : Addr} {news : List (Addr × Obj)} {value slice : Expr} {l : Addr} {vs : List Value} {n : Nat} {rs : List (List Nat)} {k : Int} {u : Tok} {Q : Value → Shared → Prop}
theorem item_strsT (N : News h₀ L s.heap news) (hm : (l, listOf vs.toArray n) ∈ news) (hS : StrsAre vs (rs.map toS)) (h0 : 0 ≤ k) (h1 : k < rs.length) (hfit : rs.length ≤ 1000)
    (h : ∀ t, Q (.str (toS (rs.getD k.toNat [])) t) s)
    (hs : subscripted slice false (.ref l) (.int k u) = operate [.ref l, .int k u] (getItem (.ref l) (.int k u)) := by with_unfolding_all rfl) :
    wpAny (model prog w) A (subscriptTail value slice (.ref l) (.int k u)) Q E s := by
  have hk : k.toNat < rs.length := by omega
  have e : (rs.map toS)[k.toNat]? = some (toS (rs.getD k.toNat [])) := by
    rw [List.getElem?_map, List.getD_eq_getElem?_getD, List.getElem?_eq_getElem hk]; rfl
  obtain ⟨t, ht⟩ := strsAre_at hS e
  have hl : s.heap.IsList l vs.toArray := ⟨_, (N _ hm).1, rfl, _, rfl⟩
  exact tail_any hl.typeIs slot_list_getitem.lookup (wpAny_getItem_list hl h0 (by omega) (by simpa using ht) (h t)) hs
end
theorem len_any {prog : Program} {w : World} {A : Around} {E : Value → Shared → Prop} {s : Shared} {h₀ : Heap} {L : Addr} {news : List (Addr × Obj)} {l : Addr} {vs : List Value} {n k : Nat} {Q : Value → Shared → Prop}
    (N : News h₀ L s.heap news) (hm : (l, listOf vs.toArray n) ∈ news) (hk : vs.length = k) (hfit : k ≤ 1000) (h : Q (.int (k : Int) (s.toks + 1)) { s with toks := s.toks + 1 + 1 }) :
    wpAny (model prog w) A (call (.builtin "len") [.ref l]) Q E s := by
  have e : vs.toArray.size = k := by rw [List.size_toArray]; exact hk
  exact len_list (items := vs.toArray) ⟨_, (N _ hm).1, rfl, _, rfl⟩ (by rw [e]; omega) (by rw [e]; exact h)
theorem str_at {vs : List Value} {P : List (List Nat)} (h : StrsAre vs (P.map toS)) {i : Nat} {v : Value} (hv : vs.toArray[i]? = some v) : ∃ p t, P[i]? = some p ∧ v = .str (toS p) t := by
  have hv' : vs[i]? = some v := by simpa using hv
  have hi : i < vs.length := (List.getElem?_eq_some_iff.mp hv').1
  have hl : i < P.length := by rw [strsAre_len h, List.length_map] at hi; exact hi
  obtain ⟨t, e⟩ := strsAre_at h (i := i) (y := toS P[i]) (by rw [List.getElem?_map, List.getElem?_eq_getElem hl]; rfl)
  rw [hv'] at e
  exact ⟨P[i], t, List.getElem?_eq_getElem hl, Option.some.inj e⟩
theorem sorted_S {prog : Program} {w : World} {A : Around} {E : Value → Shared → Prop} {s : Shared} {h₀ : Heap} {L : Addr} {m : Str → Option Value} {news : List (Addr × Obj)} {l : Addr} {vs : List Value} {ns : List Int} {Q : Value → Shared → Prop}
    (F : Fr h₀ L s.heap m) (N : News h₀ L s.heap news) (hl : s.heap.IsList l vs.toArray) (hI : IntsAre vs ns) (h64 : vs.length < 64)
    (h : ∀ (D : Addr) (h' : Heap) (vs' : List Value) (ns' : List Int) (e : Nat), Fr h₀ L h' m → News h₀ L h' ((D, listOf vs'.toArray e) :: news) → (∀ p ∈ news, p.1 ≠ D) →
      IntsAre vs' ns' → ns'.Perm ns → ns'.Pairwise (· ≤ ·) → Q (.ref D) { s with heap := h' }) :
    wpAny (model prog w) A (call (.builtin "sorted") [.ref l]) Q E s :=
  sorted_N F N hl hI h64 fun h' vs' ns' e F' N' a b c => h _ h' vs' ns' e F' N' (fun p hp => Nat.ne_of_lt (Nat.lt_succ_of_lt (Heap.lt_size (N p hp).1))) a b c

local macro_rules | `(tactic| k_room) => `(tactic| ktr_room)
local macro_rules | `(tactic| k_enter) => `(tactic| (refine' code_defC ?k1 ?k2 ?k3 ?k4 ?k5 ?kA ?kF ?kK ?k6 ?k7 ?k8 ?k9 ?kB ?kD ?_ ?c2 ?c3 ?c4; (case kA => exact rfl); (case kF => exact rfl); (case kK => first | exact rfl | assumption); (case k1 => k_asm); (case k2 => k_asm); (case k3 => k_asm); (case k4 => k_asm); (case k5 => k_asm); (case k6 => k_is); (case k7 => k_is); (case k8 => k_room); (case k9 => first | exact BindsTo.of_eq rfl | exact kp_binds (by k_in) (fun _ => rfl) | fail "k_enter: no rule for these arguments"); (case kB => exact rfl); (case kD => decide +kernel); (case c2 => exact rfl); (case c3 => exact rfl); (case c4 => exact rfl); k_whole; intro g' L' h' tk' cells' FG' F' N' Y' B' X' T' l1; (try k_lt l1); k_cells Y'; (try simp only [List.cons_append, List.nil_append] at N'); (try dsimp only); (try k_lift B'); (try k_fold)))
local macro_rules | `(tactic| k_enter) => `(tactic| (refine' code_def ?k1 ?k2 ?k3 ?k4 ?k5 ?kA ?kF ?kK ?k6 ?k7 ?k8 ?k9 ?kB ?_ ?c2 ?c3 ?c4 ?c5; (case kA => exact rfl); (case kF => exact rfl); (case kK => first | exact rfl | assumption); (case k1 => k_asm); (case k2 => k_asm); (case k3 => k_asm); (case k4 => k_asm); (case k5 => k_asm); (case k6 => k_is); (case k7 => k_is); (case k8 => k_room); (case k9 => first | exact BindsTo.of_eq rfl | exact kp_binds (by k_in) (fun _ => rfl) | fail "k_enter: no rule for these arguments"); (case c5 => decide); (case kB => exact locs rfl); (case c2 => exact rfl); (case c3 => exact rfl); (case c4 => exact rfl); k_whole; intro g' L' h' FG' F' N' B' X' T'; (try dsimp only); (try k_lift B'); (try k_fold)))
local macro_rules | `(tactic| walk_at "call ref") => `(tactic| (k_here; (with_reducible show wpAny _ _ (call (Value.ref 30) [Value.str _ _]) _ _ _); k_dflt ((refine' call_iter ?F ?N ?X ?T ?hr ?hg ?_); (case F => k_asm); (case N => k_asm); (case X => k_asm); (case T => k_asm); (case hg => k_asm); (case hr => ktr_room); k_whole); intro a' g' Lg' h' G' tk' F' N' hg' lLg' la' up' gen'; (try dsimp only)))

def optV (t : Tok) : Option Nat → Value
  | none => .none
  | some n => .int n t
abbrev mStrip (st : Nat) (t : Tok) (o : Value) (D : Addr) (p c : Option Value) (a : Value) (m : Str → Option Value) : Str → Option Value := fun y => if y = Str.ofString "result" then some (.ref D) else if y = Str.ofString "open_pos" then some o else if y = Str.ofString "start" then some (.int st t) else
   if y = Str.ofString "pos" then p else if y = Str.ofString "ch" then c else if y = Str.ofString "addr" then some a else m y
theorem mStrip_start {m : Str → Option Value} {t : Tok} {D : Addr} {a : Value} (h1 : m (Str.ofString "result") = some (.ref D)) (h2 : m (Str.ofString "open_pos") = some .none) (h3 : m (Str.ofString "start") = some (.int 0 t)) (h4 : m (Str.ofString "addr") = some a) :
    m = mStrip 0 t .none D (m (Str.ofString "pos")) (m (Str.ofString "ch")) a m := funext fun y => by
  unfold mStrip
  split
  · rename_i e; rw [e, h1]
  · split
    · rename_i e; rw [e, h2]
    · split
      · rename_i e; rw [e, h3]; rfl
      · split
        · rename_i e; rw [e]
        · split
          · rename_i e; rw [e]
          · split
            · rename_i e; rw [e, h4]
            · rfl
theorem mStrip_all {f g : Str → Option Value} (h1 : f (Str.ofString "result") = g (Str.ofString "result")) (h2 : f (Str.ofString "open_pos") = g (Str.ofString "open_pos")) (h3 : f (Str.ofString "start") = g (Str.ofString "start"))
    (h4 : f (Str.ofString "pos") = g (Str.ofString "pos")) (h5 : f (Str.ofString "ch") = g (Str.ofString "ch")) (h6 : f (Str.ofString "addr") = g (Str.ofString "addr"))
    (h : ∀ y, y ≠ Str.ofString "result" → y ≠ Str.ofString "open_pos" → y ≠ Str.ofString "start" → y ≠ Str.ofString "pos" → y ≠ Str.ofString "ch" → y ≠ Str.ofString "addr" → f y = g y) : f = g := funext fun y => by
  by_cases e1 : y = Str.ofString "result"; · rw [e1, h1]
  by_cases e2 : y = Str.ofString "open_pos"; · rw [e2, h2]
  by_cases e3 : y = Str.ofString "start"; · rw [e3, h3]
  by_cases e4 : y = Str.ofString "pos"; · rw [e4, h4]
  by_cases e5 : y = Str.ofString "ch"; · rw [e5, h5]
  by_cases e6 : y = Str.ofString "addr"; · rw [e6, h6]
  exact h y e1 e2 e3 e4 e5 e6
theorem strip_yes {x : Str} (h : (Builtin.Str.occurrences x (Str.ofString "\"") 0 x.length 1).isEmpty = true) : stripF x = x := by
  have e : Str.ofString "\"" = (⟨#[34]⟩ : Str) := by decide +kernel
  rw [e, empty_one] at h
  have h' : 34 ∉ x.cps.toList := by simpa using h
  unfold stripF stripL
  rw [if_neg h']
theorem strip_no {x : Str} (h : (Builtin.Str.occurrences x (Str.ofString "\"") 0 x.length 1).isEmpty = false) : 34 ∈ x.cps.toList := by
  have e : Str.ofString "\"" = (⟨#[34]⟩ : Str) := by decide +kernel
  rw [e, empty_one] at h
  simpa using h
theorem strip_tells (w : World) (mean mg mb) (x : Str) (t : Tok) (news) (hx : x.length ≤ 1000) : CallTells w mean mg mb 4 24 37 [.str x t] news (fun v tl => tl = [] ∧ ∃ t', v = .str (stripF x) t') := by
  w_top off
  unfold CallTells
  intro dp un gd cn cs a ccd cl outer A₀ base h₀ L m s Q E B F X N T hg hk hd hu hret
  refine wpAny_call ?_
  (first | k_dflt k_enter | ktn_no "the def is not entered")
  k_steps
  · rename_i he _ _
    exact hret _ [] _ _ _ ⟨rfl, t, by rw [strip_yes (by assumption)]⟩ (by simp) (by k_asm) (by k_asm) (by k_asm)
  have h34 := strip_no (by assumption : (Builtin.Str.occurrences x (Str.ofString "\"") 0 x.length 1).isEmpty = false)
  rename_i D hA l1 hB F1 N1
  rename Top _ _ _ _ _ _ => T1
  obtain ⟨m0, hE⟩ : ∃ m0, m0 = mapOf F1 := ⟨_, rfl⟩
  refine For_genL (I := fun j m' nw => ∃ st op res vs n t1 t2 p c, nw = (D, listOf vs.toArray n) :: news ∧ StrsAre vs (res.map fun l => (⟨l.toArray⟩ : Str)) ∧ m' = mStrip st t1 (optV t2 op) D p c (.str x t) m0 ∧ stripGo x.cps.toList ((escOf x).drop j) st op res = stripGo x.cps.toList (escOf x) 0 none [] ∧
     res.length ≤ j ∧ ∀ l ∈ res, l.length ≤ 1000) rfl rfl (by ktr_room) T1.nolimit rfl rfl rfl (fun _ => rfl) ?_
  k_steps
  rename Fr _ _ _ _ => F3
  rename News _ _ _ _ => N3
  rename AllBare _ => hg3
  rename (∀ A' : Around, A'.handled = none → GenAt _ A' _ _ _ _ _ _ _) => gen3
  have hlen := escOf_len x
  refine GenSrc.intro (A := (ktrTop dp un gd cn cs L a ccd cl outer).deeper _) rfl F1 N1 F3 N3 hg3 (by assumption) (by assumption) gen3 ?_ ?_ ?_
  · exact ⟨0, none, [], [], 0, _, 0, _, _, rfl, .nil, by rw [hE]; exact mStrip_start rfl rfl rfl rfl, rfl, Nat.le_refl _, by simp⟩
  · clear F1 N1 F3 N3 hE
    intro j q m' nw ownL t' u h G tk hq hI hadr hap F4 N4 hg4
    obtain ⟨st, op, res, vs, n, t1, t2, p, c, rfl, hS, rfl, hI, hrl, hrb⟩ := hI
    have hjl : j < (escOf x).length := (List.getElem?_eq_some_iff.mp hq).1
    have hT := strip_turn hq hI
    have hvs := strsAre_len hS
    rw [List.length_map] at hvs
    have hoff : ∀ p ∈ news ++ ownL, p.1 ≠ D := fun p hp => by
      rcases List.mem_append.mp hp with hp | hp
      · exact Nat.ne_of_lt (l1 p hp)
      · exact Ne.symm (hap _ (List.mem_cons_self ..) p hp)
    unfold stripT at hT
    cases op with
    | none =>
      dsimp only [optV] at F4
      k_steps
      all_goals (simp only [mark_eq, decide_eq_true_eq, decide_eq_false_iff_not] at *)
      · rw [if_pos (by assumption)] at hT
        rename Fr _ _ _ _ => FZ
        rename News _ _ _ _ => NZ
        exact GTurn.intro ((D, listOf vs.toArray n) :: news) FZ NZ rfl ⟨st, some q.1, res, vs, n, _, _, _, _, rfl, hS, mStrip_all rfl rfl rfl rfl rfl rfl (fun y e1 e2 e3 e4 e5 e6 => by simp only [mStrip, e1, e2, e3, e4, e5, e6, if_false]), hT, by omega, hrb⟩
      · rw [if_neg (by assumption)] at hT
        rename Fr _ _ _ _ => FZ
        rename News _ _ _ _ => NZ
        exact GTurn.intro ((D, listOf vs.toArray n) :: news) FZ NZ rfl ⟨st, none, res, vs, n, _, t2, _, _, rfl, hS, mStrip_all rfl rfl rfl rfl rfl rfl (fun y e1 e2 e3 e4 e5 e6 => by simp only [mStrip, e1, e2, e3, e4, e5, e6, if_false, optV]), hT, by omega, hrb⟩
    | some o =>
      dsimp only [optV] at F4
      k_steps
      all_goals (simp only [mark_eq, decide_eq_true_eq, decide_eq_false_iff_not] at *)
      · rw [if_pos (by assumption)] at hT
        rw [if_pos (by omega)] at hT
        rename Fr _ _ _ _ => FZ
        rename News _ _ _ _ => NZ
        rw [slice_nat, List.push_toArray] at NZ
        exact GTurn.intro ((D, listOf (vs ++ [Value.str _ _]).toArray (n + 1)) :: news) FZ NZ rfl ⟨q.1 + 1, none, res ++ [(x.cps.toList.take o).drop st], vs ++ [Value.str _ _], n + 1, _, t2, _, _, rfl, by rw [List.map_append]; exact strsAre_snoc hS, mStrip_all rfl rfl rfl rfl rfl rfl (fun y e1 e2 e3 e4 e5 e6 => by simp only [mStrip, e1, e2, e3, e4, e5, e6, if_false]), hT, by rw [List.length_append, List.length_singleton]; omega,
          fun l hl => by
            rcases List.mem_append.mp hl with hl | hl
            · exact hrb l hl
            · rw [List.mem_singleton.mp hl, List.length_drop, List.length_take]
              have : x.cps.toList.length = x.length := by simp [Str.length]
              omega⟩
      · rw [if_pos (by assumption)] at hT
        rw [if_neg (by omega)] at hT
        rename Fr _ _ _ _ => FZ
        rename News _ _ _ _ => NZ
        exact GTurn.intro ((D, listOf vs.toArray n) :: news) FZ NZ rfl ⟨q.1 + 1, none, res, vs, n, _, t2, _, _, rfl, hS, mStrip_all rfl rfl rfl rfl rfl rfl (fun y e1 e2 e3 e4 e5 e6 => by simp only [mStrip, e1, e2, e3, e4, e5, e6, if_false]), hT, by omega, hrb⟩
      · rw [if_neg (by assumption)] at hT
        rename Fr _ _ _ _ => FZ
        rename News _ _ _ _ => NZ
        exact GTurn.intro ((D, listOf vs.toArray n) :: news) FZ NZ rfl ⟨st, some o, res, vs, n, _, t2, _, _, rfl, hS, mStrip_all rfl rfl rfl rfl rfl rfl (fun y e1 e2 e3 e4 e5 e6 => by simp only [mStrip, e1, e2, e3, e4, e5, e6, if_false, optV]), hT, by omega, hrb⟩
  · clear F1 N1 F3 N3 hE
    intro m' nw h G tk hI hadr F4 N4 hg4
    obtain ⟨st, op, res, vs, n, t1, t2, p, c, rfl, hS, rfl, hI, hrl, hrb⟩ := hI
    rw [List.drop_length] at hI
    have hvs := strsAre_len hS
    rw [List.length_map] at hvs
    have hoff : ∀ p ∈ news, p.1 ≠ D := fun p hp => Nat.ne_of_lt (l1 p hp)
    have h0 : (Str.ofString "").length = 0 := by decide +kernel
    have hjn := hrl
    have hxl : x.cps.toList.length = x.length := by simp [Str.length]
    k_steps
    · rename News _ _ _ _ => NZ
      have hlt : (st : Int) < x.length := by assumption
      have hq1 : st < x.cps.toList.length := by omega
      have hres : stripF x = ⟨(res ++ [x.cps.toList.drop st]).flatten.toArray⟩ := by
        unfold stripF stripL
        rw [if_pos h34]
        show (⟨(let q := stripGo x.cps.toList (escOf x) 0 none []; if q.1 < x.cps.toList.length then (q.2.2 ++ [x.cps.toList.drop q.1]).flatten else q.2.2.flatten).toArray⟩ : Str) = _
        rw [← hI]
        show (⟨(if st < x.cps.toList.length then (res ++ [x.cps.toList.drop st]).flatten else res.flatten).toArray⟩ : Str) = _
        rw [if_pos hq1]
      rw [slice_tail x st hlt, List.push_toArray] at NZ
      refine PyProof.Rows.join_list (ys := (res ++ [x.cps.toList.drop st]).map fun l => (⟨l.toArray⟩ : Str)) (News.isList NZ (.head _)) (by rw [List.map_append]; exact strsAre_snoc hS) ?_ fun t'' k => ?_
      · have := sum_len_le (res ++ [x.cps.toList.drop st]) 1000 fun l hl => by
          rcases List.mem_append.mp hl with hl | hl
          · exact hrb l hl
          · rw [List.mem_singleton.mp hl, List.length_drop]; omega
        rw [List.length_append, List.length_singleton] at this
        rw [h0, List.length_map]
        have : (res.length + 1) * 1000 ≤ 1001 * 1000 := Nat.mul_le_mul_right _ (by omega)
        omega
      · rw [join_empty, ← hres]
        k_steps
        exact hret _ [] _ _ _ ⟨rfl, t'', rfl⟩ (by simp) (by k_asm) (cb_drop (news' := (D, listOf (vs ++ [Value.str _ _]).toArray (n + 1)) :: news) (by k_asm) (fun p hp => List.mem_cons_of_mem _ hp)) (by k_asm)
    · rename News _ _ _ _ => NZ
      have hlt : ¬ (st : Int) < x.length := by assumption
      have hq1 : ¬ st < x.cps.toList.length := by omega
      have hres : stripF x = ⟨res.flatten.toArray⟩ := by
        unfold stripF stripL
        rw [if_pos h34]
        show (⟨(let q := stripGo x.cps.toList (escOf x) 0 none []; if q.1 < x.cps.toList.length then (q.2.2 ++ [x.cps.toList.drop q.1]).flatten else q.2.2.flatten).toArray⟩ : Str) = _
        rw [← hI]
        show (⟨(if st < x.cps.toList.length then (res ++ [x.cps.toList.drop st]).flatten else res.flatten).toArray⟩ : Str) = _
        rw [if_neg hq1]
      refine PyProof.Rows.join_list (ys := res.map fun l => (⟨l.toArray⟩ : Str)) (News.isList NZ (.head _)) hS ?_ fun t'' k => ?_
      · have := sum_len_le res 1000 hrb
        rw [h0, List.length_map]
        have : res.length * 1000 ≤ 1001 * 1000 := Nat.mul_le_mul_right _ (by omega)
        omega
      · rw [join_empty, ← hres]
        k_steps
        exact hret _ [] _ _ _ ⟨rfl, t'', rfl⟩ (by simp) (by k_asm) (cb_drop (news' := (D, listOf vs.toArray n) :: news) (by k_asm) (fun p hp => List.mem_cons_of_mem _ hp)) (by k_asm)

local macro_rules | `(tactic| walk_at "call ref") => `(tactic| (k_here; (with_reducible show wpAny _ _ (call (Value.ref 37) [Value.str _ _]) _ _ _); k_dflt ((refine' CallTells.use (strip_tells _ _ _ _ _ _ _ ?hx) ?B ?F ?X ?N ?T ?hg ?hk ?hd ?hu ?_); (case hx => assumption); (case B => k_asm); (case F => k_asm); (case X => k_asm); (case N => k_asm); (case T => k_asm); (case hg => k_asm); (case hk => first | exact rfl | assumption); (case hd => ktr_room); (case hu => ktr_units); k_whole); intro v' tl' h' G' tk' hR' hlt' F' N' hg'; (obtain ⟨hR1, t', hR2⟩ := hR'; subst hR1; subst hR2); (simp only [List.nil_append] at N'); (try dsimp only); (try k_fold)))

abbrev mCheck (n : Int) (t : Tok) (p c : Option Value) (m : Str → Option Value) : Str → Option Value := fun y => if y = Str.ofString "opens" then some (.int n t) else if y = Str.ofString "pos" then p else if y = Str.ofString "ch" then c else m y
theorem mCheck_start {m : Str → Option Value} {t0 : Tok} (h : m (Str.ofString "opens") = some (.int 0 t0)) : m = mCheck 0 t0 (m (Str.ofString "pos")) (m (Str.ofString "ch")) m := funext fun y => by
  unfold mCheck
  split
  · rename_i e; rw [e, h]
  · split
    · rename_i e; rw [e]
    · split
      · rename_i e; rw [e]
      · rfl
theorem mCheck_put {v : Option Value} {n : Int} {tn : Tok} {p c P C : Option Value} {m0 : Str → Option Value} : (fun y => if y = Str.ofString "opens" then v else if y = Str.ofString "ch" then C else if y = Str.ofString "pos" then P else mCheck n tn p c m0 y) =
    (fun y => if y = Str.ofString "opens" then v else if y = Str.ofString "pos" then P else if y = Str.ofString "ch" then C else m0 y) := by
  funext y
  by_cases h1 : y = Str.ofString "opens"
  · rw [if_pos h1, if_pos h1]
  · rw [if_neg h1, if_neg h1]
    by_cases h2 : y = Str.ofString "ch"
    · have h3 : y ≠ Str.ofString "pos" := by rw [h2]; decide
      rw [if_pos h2, if_neg h3, if_pos h2]
    · rw [if_neg h2, if_neg h2]
      by_cases h3 : y = Str.ofString "pos"
      · rw [if_pos h3, if_pos h3]
      · rw [if_neg h3, if_neg h3]; unfold mCheck; rw [if_neg h1, if_neg h3, if_neg h2]
theorem mCheck_same {n : Int} {tn : Tok} {p c P C : Option Value} {m0 : Str → Option Value} : (fun y => if y = Str.ofString "ch" then C else if y = Str.ofString "pos" then P else mCheck n tn p c m0 y) = mCheck n tn P C m0 := by
  refine Eq.trans ?_ (mCheck_put (v := some (.int n tn)) (n := n) (tn := tn) (p := p) (c := c))
  funext y
  by_cases h1 : y = Str.ofString "opens"
  · have h2 : y ≠ Str.ofString "ch" := by rw [h1]; decide
    have h3 : y ≠ Str.ofString "pos" := by rw [h1]; decide
    rw [if_neg h2, if_neg h3, if_pos h1]; unfold mCheck; rw [if_pos h1]
  · rw [if_neg h1]
theorem check_turn {items : List (Nat × List Nat)} {j : Nat} {q : Nat × List Nat} {n : Int} {b : Bool} (hq : items[j]? = some q) (h : checkGo (items.drop j) n = b) :
    (if q.2 = [40] then checkGo (items.drop (j + 1)) (n + 1) else if q.2 = [41] then (if n - 1 < 0 then false else checkGo (items.drop (j + 1)) (n - 1)) else checkGo (items.drop (j + 1)) n) = b := by
  obtain ⟨hlt, e⟩ := List.getElem?_eq_some_iff.mp hq
  rw [← h, List.drop_eq_getElem_cons hlt, e]
  rfl
theorem lpar_eq (l : List Nat) : ((⟨l.toArray⟩ : Str) == Str.ofString "(") = decide (l = [40]) := by
  rw [show Str.ofString "(" = (⟨[40].toArray⟩ : Str) by decide +kernel]
  by_cases h : l = [40]
  · subst h; decide
  · rw [decide_eq_false h]; exact beq_eq_false_iff_ne.mpr fun e => h (by injection e with e; injection e)
theorem rpar_eq (l : List Nat) : ((⟨l.toArray⟩ : Str) == Str.ofString ")") = decide (l = [41]) := by
  rw [show Str.ofString ")" = (⟨[41].toArray⟩ : Str) by decide +kernel]
  by_cases h : l = [41]
  · subst h; decide
  · rw [decide_eq_false h]; exact beq_eq_false_iff_ne.mpr fun e => h (by injection e with e; injection e)
theorem check_tells (w : World) (mean mg mb) (x : Str) (t : Tok) (news) (hx : x.length ≤ 1000) : CallTells w mean mg mb 8 48 44 [.str x t] news (fun v tl => tl = [] ∧ v = .bool (checkF x)) := by
  w_top off
  unfold CallTells
  intro dp un gd cn cs a ccd cl outer A₀ base h₀ L m s Q E B F X N T hg hk hd hu hret
  refine wpAny_call ?_
  (first | k_dflt k_enter | ktn_no "the def is not entered")
  k_steps
  rename Fr _ _ _ _ => F1
  rename News _ _ _ _ => N1
  rename Top _ _ _ _ _ _ => T1
  obtain ⟨m0, hE⟩ : ∃ m0, m0 = mapOf F1 := ⟨_, rfl⟩
  refine For_genL (I := fun j m' nw => nw = news ∧ ∃ n t p c, m' = mCheck n t p c m0 ∧ checkGo ((escOf (stripF x)).drop j) n = checkF x) rfl rfl (by ktr_room) T1.nolimit rfl rfl rfl (fun _ => rfl) ?_
  k_steps
  rename Fr _ _ _ _ => F3
  rename News _ _ _ _ => N3
  rename AllBare _ => hg3
  rename (∀ A' : Around, A'.handled = none → GenAt _ A' _ _ _ _ _ _ _) => gen3
  refine GenSrc.intro (A := (ktrTop dp un gd cn cs L a ccd cl outer).deeper _) rfl F1 N1 F3 N3 hg3 (by assumption) (by assumption) gen3 ?_ ?_ ?_
  · exact ⟨rfl, 0, _, _, _, by rw [hE]; exact mCheck_start rfl, rfl⟩
  · intro j q m' nw ownL t u h G tk hq hI hadr hap F4 N4 hg4
    obtain ⟨rfl, n, tn, p, c, rfl, hI⟩ := hI
    have hT := check_turn hq hI
    k_steps
    all_goals (simp only [lpar_eq, rpar_eq, decide_eq_true_eq, decide_eq_false_iff_not] at *)
    · rw [if_pos (by assumption)] at hT
      exact GTurn.intro nw (by k_asm) (by k_asm) rfl ⟨rfl, n + 1, _, _, _, mCheck_put, hT⟩
    · rw [if_neg (by assumption), if_pos (by assumption), if_pos (by omega)] at hT
      exact hret _ [] _ _ _ ⟨rfl, by rw [hT]⟩ (by simp) (by k_asm) (cb_drop (news' := nw ++ ownL) (by k_asm) (fun p hp => List.mem_append_left _ hp)) (by k_asm)
    · rw [if_neg (by assumption), if_pos (by assumption), if_neg (by omega)] at hT
      exact GTurn.intro nw (by k_asm) (by k_asm) rfl ⟨rfl, n - 1, _, _, _, mCheck_put, hT⟩
    · rw [if_neg (by assumption), if_neg (by assumption)] at hT
      exact GTurn.intro nw (by k_asm) (by k_asm) rfl ⟨rfl, n, _, _, _, mCheck_same, hT⟩
  · intro m' nw h G tk hI hadr F4 N4 hg4
    obtain ⟨rfl, n, tn, p, c, rfl, hI⟩ := hI
    k_steps
    rw [List.drop_length] at hI
    exact hret _ [] _ _ _ ⟨rfl, by rw [← hI]; rfl⟩ (by simp) (by k_asm) (by k_asm) (by k_asm)

local macro_rules | `(tactic| walk_at "CompSrc") => `(tactic| refine Stopped.go ?_)
local macro_rules | `(tactic| walk_at "CompSrcT") => `(tactic| refine Stopped.go ?_)
local macro_rules | `(tactic| walk_at "call builtin:str.join") => `(tactic| refine Stopped.go ?_)
local macro_rules | `(tactic| walk_at "subscriptTail") => `(tactic| (k_here; (with_reducible show wpAny _ _ (subscriptTail _ _ (Value.ref _) (Value.int _ _)) _ _ _); k_dflt (refine' item_strsK ?k1 ?k2 ?k3 ?k4 ?k5 ?k6 ?k7 ?_ ?k8 ?k9; (case k1 => k_asm); (case k2 => (repeat' (first | assumption | exact List.mem_cons_self | refine List.mem_cons_of_mem _ ?_))); (case k3 => with_reducible assumption); (case k4 => assumption); (case k5 => omega); (case k6 => omega); (case k7 => omega); (case k8 => with_unfolding_all rfl); (case k9 => (intro _; with_unfolding_all rfl)); k_whole); intro _ _))

def textF (row rid : List (List Nat)) (b n : Nat) : List Nat := ((List.range n).map fun i => row.getD (b + i) [] ++ rid.getD (b + i) []).flatten
theorem text_tells (w : World) (mean mg mb) (lr ld : Addr) (rv dv : List Value) (n1 n2 : Nat) (row rid : List (List Nat)) (b n : Nat) (t u : Tok) (news) (h1 : (lr, listOf rv.toArray n1) ∈ news) (h2 : (ld, listOf dv.toArray n2) ∈ news)
   (hr : StrsAre rv (row.map toS)) (hd' : StrsAre dv (rid.map toS)) (hrl : row.length = 10) (hdl : rid.length = 10) (hb : b + n ≤ 10) (hr4 : ∀ l ∈ row, l.length ≤ 4) (hd4 : ∀ l ∈ rid, l.length ≤ 4) :
   CallTells w mean mg mb 4 24 87 [.ref lr, .ref ld, .int b t, .int ((b + n : Nat) : Int) u] news (fun v tl => tl = [] ∧ ∃ t', v = .str (toS (textF row rid b n)) t') := by
  w_top off
  unfold CallTells
  intro dp un gd cn cs a ccd cl outer A₀ base h₀ L m s Q E B F X N T hg hk hd hu hret
  refine wpAny_call ?_
  (first | k_dflt k_enter | ktn_no "the def is not entered")
  k_steps
  refine Stopped.of ?_
  refine LCg.CompSrc.range (n := n) (by rfl) (by k_asm) (by k_asm) (by assumption) (small_one (by omega) (by omega) (by omega) (by omega)) ?_ (by rw [sizeLine_eq]; omega) (fun g => ?_)
  · rw [rangeSize_nat]; omega
  refine kct_range (fun k => toS (row.getD k.toNat [] ++ rid.getD k.toNat [])) (fun k t I oI C oC D m₂ ys h tk E' hlo hhi hC hx F N off ne mk => ?_) ?_
  · have off0 := off
    simp only [LCg.Off3, and_true] at off
    k_steps
    exact LCg.CompEnd.intro (by k_asm) (by k_asm) (_ :: _ :: news) (fun _ h => h) off0 trivial ⟨rfl, _, congrArg (fun z => Value.str z _) (toS_add _ _)⟩
  · unfold KPfDone
    intro ys hc hl
    unfold LCg.FinE
    intro D h tk F' N' o1
    k_steps
    refine Stopped.of ?_
    rename News _ _ _ _ => NZ
    refine KT.join_B 8 (News.isList NZ (.head _)) hc (fun k _ => ?_) (by omega) (by decide +kernel) fun t' k => ?_
    · rw [toS_len, List.length_append]
      have e : ∀ (ls : List (List Nat)) (i : Nat), (∀ l ∈ ls, l.length ≤ 4) → (ls.getD i []).length ≤ 4 := fun ls i h => by
        rw [List.getD_eq_getElem?_getD]
        cases q : ls[i]? with
        | none => simp
        | some l => exact h l (List.mem_of_getElem? q)
      have := e row k.toNat hr4
      have := e rid k.toNat hd4
      omega
    · have e : Txt.join (Str.ofString "") ((rangeKs (b : Int) n).map fun k => toS (row.getD k.toNat [] ++ rid.getD k.toNat [])) = toS (textF row rid b n) := by
        have := join_empty ((List.range n).map fun i => row.getD (b + i) [] ++ rid.getD (b + i) [])
        unfold textF
        refine Eq.trans ?_ this
        unfold rangeKs
        rw [List.map_map, List.map_map]
        congr 1
      rw [e]
      k_steps
      exact hret _ [] _ _ _ ⟨rfl, t', rfl⟩ (by simp) (by k_asm) (cb_drop (news' := _ :: _ :: _ :: news) (by k_asm) (fun p hp => List.mem_cons_of_mem _ (List.mem_cons_of_mem _ (List.mem_cons_of_mem _ hp)))) (by k_asm)

local macro_rules | `(tactic| walk_at "subscriptTail") => `(tactic| (k_here; (with_reducible show wpAny _ _ (subscriptTail _ _ (Value.ref _) (Value.int _ _)) _ _ _); k_dflt (refine' ksa_sub ?k1 ?k2 ?k3 ?k4 ?k5 ?k6 ?_ ?k7; (case k1 => k_asm); (case k2 => (repeat' (first | assumption | exact List.mem_cons_self | refine List.mem_cons_of_mem _ ?_))); (case k3 => with_reducible assumption); (case k4 => omega); (case k5 => omega); (case k6 => omega); (case k7 => with_unfolding_all rfl); k_whole); intro _))

def fallsG (ns : List Int) (l : List Int) (k : Int) : List Int := if 256 ≤ 256 + ns.getD k.toNat 0 - ns.getD (k + 1).toNat 0 then l ++ [k] else l
def fallsF (ns : List Int) : List Int := (rangeKs 0 4).foldl (fallsG ns) []
theorem falls_tells (w : World) (mean mg mb) (ld : Addr) (dv : List Value) (n2 : Nat) (ns : List Int) (news) (h2 : (ld, listOf dv.toArray n2) ∈ news)
   (hI : IntsAre dv ns) (hl : ns.length = 5) :
   CallTells w mean mg mb 4 24 99 [.ref ld] news (fun v tl => ∃ D vs n, tl = [(D, listOf vs.toArray n)] ∧ v = .ref D ∧ IntsAre vs (fallsF ns)) := by
  w_top off
  unfold CallTells
  intro dp un gd cn cs a ccd cl outer A₀ base h₀ L m s Q E B F X N T hg hk hd hu hret
  refine wpAny_call ?_
  (first | k_dflt k_enter | ktn_no "the def is not entered")
  k_steps
  refine Stopped.of ?_
  refine LCt.CompSrcT.range (n := 4) (by rfl) (by k_asm) (by k_asm) (by assumption) (by decide) (by decide) (by decide) (fun g => ?_)
  refine kci_range (fallsG ns) (fun k t I oI C oC D m₂ ys l h tk E' hlo hhi hy hC hx F N off ne mk => ?_) ?_ ?_
  · have off0 := off
    simp only [LCg.Off3, and_true] at off
    k_steps
    · exact LCg.CompEnd.intro (by k_asm) (by k_asm) (_ :: news) (fun _ h => h) off0 trivial ⟨rfl, k, t, rfl, by unfold fallsG; rw [if_pos (by assumption)]⟩
    · exact LCg.CompEnd.intro (by k_asm) (by k_asm) (_ :: news) (fun _ h => h) off0 trivial ⟨rfl, by unfold fallsG; rw [if_neg (by assumption)]⟩
  · unfold KPfDone
    intro ys hy hyl
    unfold LCg.FinE
    intro D h tk F' N' o1
    k_steps
    exact hret _ [(D, LCg.lst ys)] _ _ _ ⟨D, ys, ys.length, rfl, rfl, hy⟩ (fun p hp q hq => by rw [List.mem_singleton.mp hq]; exact off1_mem o1.2 p hp) (by k_asm) (cb_drop (news' := (D, LCg.lst ys) :: _ :: news) (by k_asm) (fun p hp => by
      rcases List.mem_cons.mp hp with rfl | hp
      · exact List.mem_cons_self
      · exact List.mem_cons_of_mem _ (List.mem_cons_of_mem _ hp))) (by k_asm)
  · intro l k
    unfold fallsG
    split <;> simp

local macro_rules | `(tactic| walk_at "call builtin:len") => `(tactic| (k_here; (with_reducible show wpAny _ _ (call (Value.builtin "len") [Value.ref _]) _ _ _); k_dflt (refine' len_intsN ?k1 ?k2 ?k3 ?k4 ?_; (case k1 => k_asm); (case k2 => (repeat' (first | assumption | exact List.mem_cons_self | refine List.mem_cons_of_mem _ ?_))); (case k3 => with_reducible assumption); (case k4 => omega); k_whole)))
local macro_rules | `(tactic| walk_at "exec While Compare cons nil") => `(tactic| refine Stopped.go ?_)
local macro_rules | `(tactic| walk_at "exec While UnaryOp cons nil") => `(tactic| refine Stopped.go ?_)
local macro_rules | `(tactic| walk_at "exec For Name Name cons nil") => `(tactic| refine Stopped.go ?_)
local macro_rules | `(tactic| walk_at "exec For Name Call cons nil") => `(tactic| refine Stopped.go ?_)

def bisGo (ns : List Int) (x : Int) : Nat → Nat → Nat → Nat
  | 0, lo, _ => lo
  | f + 1, lo, hi => if lo < hi then (if x < ns.getD ((lo + hi) / 2) 0 then bisGo ns x f lo ((lo + hi) / 2) else bisGo ns x f ((lo + hi) / 2 + 1) hi) else lo
def bisF (ns : List Int) (x : Int) : Nat := bisGo ns x (ns.length + 1) 0 ns.length
abbrev mBis (lo hi : Int) (t1 t2 : Tok) (l : Addr) (x : Int) (t : Tok) (M : Option Value) (m : Str → Option Value) : Str → Option Value := fun y => if y = Str.ofString "lo" then some (.int lo t1) else if y = Str.ofString "hi" then some (.int hi t2) else if y = Str.ofString "a" then some (.ref l) else if y = Str.ofString "x" then some (.int x t) else
  if y = Str.ofString "mid" then M else m y
theorem mBis_all {f g : Str → Option Value} (h1 : f (Str.ofString "lo") = g (Str.ofString "lo")) (h2 : f (Str.ofString "hi") = g (Str.ofString "hi")) (h3 : f (Str.ofString "a") = g (Str.ofString "a"))
    (h4 : f (Str.ofString "x") = g (Str.ofString "x")) (h5 : f (Str.ofString "mid") = g (Str.ofString "mid"))
    (h : ∀ y, y ≠ Str.ofString "lo" → y ≠ Str.ofString "hi" → y ≠ Str.ofString "a" → y ≠ Str.ofString "x" → y ≠ Str.ofString "mid" → f y = g y) : f = g := funext fun y => by
  by_cases e1 : y = Str.ofString "lo"; · rw [e1, h1]
  by_cases e2 : y = Str.ofString "hi"; · rw [e2, h2]
  by_cases e3 : y = Str.ofString "a"; · rw [e3, h3]
  by_cases e4 : y = Str.ofString "x"; · rw [e4, h4]
  by_cases e5 : y = Str.ofString "mid"; · rw [e5, h5]
  exact h y e1 e2 e3 e4 e5
theorem mBis_start {m : Str → Option Value} {lo hi : Int} {t1 t2 : Tok} {l : Addr} {x : Int} {t : Tok} (h1 : m (Str.ofString "lo") = some (.int lo t1)) (h2 : m (Str.ofString "hi") = some (.int hi t2)) (h3 : m (Str.ofString "a") = some (.ref l)) (h4 : m (Str.ofString "x") = some (.int x t)) :
    m = mBis lo hi t1 t2 l x t (m (Str.ofString "mid")) m := mBis_all h1 h2 h3 h4 rfl (fun y e1 e2 e3 e4 e5 => by simp only [mBis, e1, e2, e3, e4, e5, if_false])
theorem bis_tells (w : World) (mean mg mb) (l : Addr) (vs : List Value) (n1 : Nat) (ns : List Int) (x : Int) (t : Tok) (news) (h1 : (l, listOf vs.toArray n1) ∈ news)
   (hI : IntsAre vs ns) (hl : ns.length ≤ 5) :
   CallTells w mean mg mb 4 24 23 [.ref l, .int x t] news (fun v tl => tl = [] ∧ ∃ t', v = .int (bisF ns x) t') := by
  w_top off
  unfold CallTells
  intro dp un gd cn cs a ccd cl outer A₀ base h₀ L m s Q E B F X N T hg hk hd hu hret
  refine wpAny_call ?_
  (first | k_dflt k_enter | ktn_no "the def is not entered")
  have hvs := hI.length
  k_steps
  rename Fr _ _ _ _ => F1
  rename News _ _ _ _ => N1
  obtain ⟨m0, hE⟩ : ∃ m0, m0 = mapOf F1 := ⟨_, rfl⟩
  refine Stopped.of ?_
  refine While_K (fun k m' nw => nw = news ∧ ∃ lo hi t1 t2 M, m' = mBis (lo : Nat) (hi : Nat) t1 t2 l x t M m0 ∧ hi ≤ ns.length ∧ lo ≤ hi ∧ hi < lo + k ∧ bisGo ns x k lo hi = bisF ns x) (ns.length + 1) F1 N1 (by k_asm) ?_ (fun k h G tk m' nw hJ F2 N2 hg2 => ?_)
  · exact ⟨rfl, 0, ns.length, _, _, _, by rw [hE]; exact mBis_start rfl rfl rfl rfl, Nat.le_refl _, Nat.zero_le _, by omega, rfl⟩
  · obtain ⟨rfl, lo, hi, t1, t2, M, rfl, hh, hlh, hk, hR⟩ := hJ
    clear F1 N1 hE
    have hmid : ((lo : Int) + (hi : Int)).fdiv 2 = (((lo + hi) / 2 : Nat) : Int) := by
      rw [Int.fdiv_eq_ediv_of_nonneg _ (by decide)]; omega
    obtain ⟨k, rfl⟩ : ∃ j, k = j + 1 := ⟨k - 1, by omega⟩
    unfold bisGo at hR
    k_steps
    · rename Fr _ _ _ _ => F3
      rename News _ _ _ _ => N3
      have hlt : (lo : Int) < hi := by assumption
      have hc : x < ns.getD (((lo : Int) + (hi : Int)).fdiv 2).toNat 0 := by assumption
      rw [hmid] at F3 hc
      rw [Int.toNat_natCast] at hc
      rw [if_pos (by omega), if_pos hc] at hR
      exact WTurn.intro (k := k) (by omega) F3 N3 (by k_asm) ⟨rfl, lo, (lo + hi) / 2, t1, _, _, mBis_all rfl rfl rfl rfl rfl (fun y e1 e2 e3 e4 e5 => by simp only [mBis, e1, e2, e3, e4, e5, if_false]), by omega, by omega, by omega, hR⟩
    · rename Fr _ _ _ _ => F3
      rename News _ _ _ _ => N3
      have hlt : (lo : Int) < hi := by assumption
      have hc : ¬ x < ns.getD (((lo : Int) + (hi : Int)).fdiv 2).toNat 0 := by assumption
      rw [hmid] at F3 hc
      rw [Int.toNat_natCast] at hc
      rw [if_pos (by omega), if_neg hc] at hR
      exact WTurn.intro (k := k) (by omega) F3 N3 (by k_asm) ⟨rfl, (lo + hi) / 2 + 1, hi, _, t2, _, mBis_all rfl rfl rfl rfl rfl (fun y e1 e2 e3 e4 e5 => by simp only [mBis, e1, e2, e3, e4, e5, if_false]), by omega, by omega, by omega, hR⟩
    · rw [if_neg (by omega)] at hR
      exact hret _ [] _ _ _ ⟨rfl, t1, by rw [hR]⟩ (by simp) (by k_asm) (by k_asm) (by k_asm)

local macro_rules | `(tactic| walk_at "call ref") => `(tactic| ((with_reducible show wpAny _ _ (call (Value.ref 87) _) _ _ _); refine Stopped.go ?_))
local macro_rules | `(tactic| walk_at "call ref") => `(tactic| ((with_reducible show wpAny _ _ (call (Value.ref 44) _) _ _ _); refine Stopped.go ?_))
local macro_rules | `(tactic| walk_at "call ref") => `(tactic| ((with_reducible show wpAny _ _ (call (Value.ref 94) _) _ _ _); refine Stopped.go ?_))
local macro_rules | `(tactic| walk_at "call ref") => `(tactic| ((with_reducible show wpAny _ _ (call (Value.ref 99) _) _ _ _); refine Stopped.go ?_))
local macro_rules | `(tactic| walk_at "call ref") => `(tactic| ((with_reducible show wpAny _ _ (call (Value.ref 23) _) _ _ _); refine Stopped.go ?_))

def mateUp (row rid : List (List Nat)) (place : Nat) : Nat → Nat → Option Nat
  | 0, _ => none
  | f + 1, size => if place + size ≤ 10 then (if checkF (toS (textF row rid place size)) = true then some (place + size - 1) else mateUp row rid place f (size + 2)) else none
def mateDown (row rid : List (List Nat)) (place : Nat) : Nat → Nat → Option Nat
  | 0, _ => none
  | f + 1, size => if size ≤ place + 1 then (if checkF (toS (textF row rid (place + 1 - size) size)) = true then some (place + 1 - size) else mateDown row rid place f (size + 2)) else none
def mateF (row rid : List (List Nat)) (place : Nat) : Option Nat := if row.getD place [] = [40] then mateUp row rid place 6 2 else mateDown row rid place 6 2
abbrev mMate (size : Int) (t1 : Tok) (lr ld : Addr) (place : Int) (t : Tok) (m : Str → Option Value) : Str → Option Value := fun y => if y = Str.ofString "size" then some (.int size t1) else if y = Str.ofString "row" then some (.ref lr) else if y = Str.ofString "riders" then some (.ref ld) else
  if y = Str.ofString "place" then some (.int place t) else m y
theorem mMate_all {f g : Str → Option Value} (h1 : f (Str.ofString "size") = g (Str.ofString "size")) (h2 : f (Str.ofString "row") = g (Str.ofString "row")) (h3 : f (Str.ofString "riders") = g (Str.ofString "riders"))
    (h4 : f (Str.ofString "place") = g (Str.ofString "place"))
    (h : ∀ y, y ≠ Str.ofString "size" → y ≠ Str.ofString "row" → y ≠ Str.ofString "riders" → y ≠ Str.ofString "place" → f y = g y) : f = g := funext fun y => by
  by_cases e1 : y = Str.ofString "size"; · rw [e1, h1]
  by_cases e2 : y = Str.ofString "row"; · rw [e2, h2]
  by_cases e3 : y = Str.ofString "riders"; · rw [e3, h3]
  by_cases e4 : y = Str.ofString "place"; · rw [e4, h4]
  exact h y e1 e2 e3 e4
theorem mMate_start {m : Str → Option Value} {size place : Int} {t1 t : Tok} {lr ld : Addr} (h1 : m (Str.ofString "size") = some (.int size t1)) (h2 : m (Str.ofString "row") = some (.ref lr)) (h3 : m (Str.ofString "riders") = some (.ref ld)) (h4 : m (Str.ofString "place") = some (.int place t)) :
    m = mMate size t1 lr ld place t m := mMate_all h1 h2 h3 h4 (fun y e1 e2 e3 e4 => by simp only [mMate, e1, e2, e3, e4, if_false])
theorem text_len (row rid : List (List Nat)) (b n : Nat) (hn : n ≤ 10) (hr4 : ∀ l ∈ row, l.length ≤ 4) (hd4 : ∀ l ∈ rid, l.length ≤ 4) : (toS (textF row rid b n)).length ≤ 1000 := by
  rw [toS_len]
  unfold textF
  have e : ∀ (ls : List (List Nat)) (i : Nat), (∀ l ∈ ls, l.length ≤ 4) → (ls.getD i []).length ≤ 4 := fun ls i h => by
    rw [List.getD_eq_getElem?_getD]
    cases q : ls[i]? with
    | none => simp
    | some l => exact h l (List.mem_of_getElem? q)
  have key : ∀ (is : List Nat), ((is.map fun i => row.getD (b + i) [] ++ rid.getD (b + i) []).flatten).length ≤ 8 * is.length := by
    intro is
    induction is with
    | nil => simp
    | cons i r ih =>
      simp only [List.map_cons, List.flatten_cons, List.length_append, List.length_cons]
      have := e row (b + i) hr4
      have := e rid (b + i) hd4
      omega
  have := key (List.range n)
  rw [List.length_range] at this
  omega
theorem mate_tells (w : World) (mean mg mb) (lr ld : Addr) (rv dv : List Value) (n1 n2 : Nat) (row rid : List (List Nat)) (place p : Nat) (t : Tok) (news) (h1 : (lr, listOf rv.toArray n1) ∈ news) (h2 : (ld, listOf dv.toArray n2) ∈ news)
   (hr : StrsAre rv (row.map toS)) (hd' : StrsAre dv (rid.map toS)) (hrl : row.length = 10) (hdl : rid.length = 10) (hpl : place < 10) (hr4 : ∀ l ∈ row, l.length ≤ 4) (hd4 : ∀ l ∈ rid, l.length ≤ 4) (hp : mateF row rid place = some p) :
   CallTells w mean mg mb 12 64 94 [.ref lr, .ref ld, .int place t] news (fun v tl => tl = [] ∧ ∃ t', v = .int p t') := by
  w_top off
  unfold CallTells
  intro dp un gd cn cs a ccd cl outer A₀ base h₀ L m s Q E B F X N T hg hk hd hu hret
  refine wpAny_call ?_
  (first | k_dflt k_enter | ktn_no "the def is not entered")
  k_steps
  · refine Stopped.of ?_
    rename Fr _ _ _ _ => F1
    rename News _ _ _ _ => N1
    have hc := (of_decide_eq_true ((lpar_eq _).symm.trans (by assumption)) : row.getD (place : Int).toNat [] = [40])
    rw [Int.toNat_natCast] at hc
    unfold mateF at hp
    rw [if_pos hc] at hp
    obtain ⟨m0, hE⟩ : ∃ m0, m0 = mapOf F1 := ⟨_, rfl⟩
    refine While_K (fun k m' nw => nw = news ∧ ∃ size t1, m' = mMate (size : Nat) t1 lr ld place t m0 ∧ 2 ≤ size ∧ mateUp row rid place k size = some p) 6 F1 N1 (by k_asm) ?_ (fun k h G tk m' nw hJ F2 N2 hg2 => ?_)
    · exact ⟨rfl, 2, _, by rw [hE]; exact mMate_start rfl rfl rfl rfl, Nat.le_refl _, hp⟩
    obtain ⟨rfl, size, t1, rfl, h2s, hR⟩ := hJ
    clear F1 N1 hE hp
    obtain ⟨k, rfl⟩ : ∃ j, k = j + 1 := by
      cases k with
      | zero => cases hR
      | succ k => exact ⟨k, rfl⟩
    unfold mateUp at hR
    have hb : place + size ≤ 10 := by
      by_cases h : place + size ≤ 10
      · exact h
      · rw [if_neg h] at hR; cases hR
    rw [if_pos hb] at hR
    k_steps
    refine Stopped.of ?_
    have eb : ((place : Int) + (size : Int)) = ((place + size : Nat) : Int) := by omega
    rw [eb]
    refine CallTells.use (text_tells w mean mg mb lr ld rv dv n1 n2 row rid place size _ _ nw h1 h2 hr hd' hrl hdl (by omega) hr4 hd4) (by k_asm) (by k_asm) (by k_asm) (by k_asm) (by k_asm) (by k_asm) rfl (by ktr_room) (by ktr_units) ?_
    rintro _ _ h' G' tk' ⟨rfl, t', rfl⟩ _ F' N' hg'
    simp only [List.nil_append] at N'
    (try dsimp only)
    k_steps
    refine Stopped.of ?_
    refine CallTells.use (check_tells w mean mg mb (toS (textF row rid place size)) t' nw (text_len row rid place size (by omega) hr4 hd4)) (by k_asm) (by k_asm) (by k_asm) (by k_asm) (by k_asm) (by k_asm) rfl (by ktr_room) (by ktr_units) ?_
    rintro _ _ h'' G'' tk'' ⟨rfl, rfl⟩ _ F'' N'' hg''
    simp only [List.nil_append] at N''
    (try dsimp only)
    clear F' N' F2 N2
    cases hck : checkF (toS (textF row rid place size)) with
    | true =>
      rw [if_pos hck] at hR
      have hR := Option.some.inj hR
      k_steps
      exact hret _ [] _ _ _ ⟨rfl, _, congrArg (fun z => Value.int z _) (by omega)⟩ (by simp) (by k_asm) (by k_asm) (by k_asm)
    | false =>
      rw [if_neg (by rw [hck]; exact Bool.false_ne_true)] at hR
      k_steps
      rename Fr _ _ _ _ => FZ
      rename News _ _ _ _ => NZ
      exact WTurn.intro (k := k) (by omega) FZ NZ (by k_asm) ⟨rfl, size + 2, _, mMate_all rfl rfl rfl rfl (fun y e1 e2 e3 e4 => by simp only [mMate, e1, e2, e3, e4, if_false]), by omega, hR⟩
  · refine Stopped.of ?_
    rename Fr _ _ _ _ => F1
    rename News _ _ _ _ => N1
    have hc := (of_decide_eq_false ((lpar_eq _).symm.trans (by assumption)) : ¬ row.getD (place : Int).toNat [] = [40])
    rw [Int.toNat_natCast] at hc
    unfold mateF at hp
    rw [if_neg hc] at hp
    obtain ⟨m0, hE⟩ : ∃ m0, m0 = mapOf F1 := ⟨_, rfl⟩
    refine While_K (fun k m' nw => nw = news ∧ ∃ size t1, m' = mMate (size : Nat) t1 lr ld place t m0 ∧ 2 ≤ size ∧ mateDown row rid place k size = some p) 6 F1 N1 (by k_asm) ?_ (fun k h G tk m' nw hJ F2 N2 hg2 => ?_)
    · exact ⟨rfl, 2, _, by rw [hE]; exact mMate_start rfl rfl rfl rfl, Nat.le_refl _, hp⟩
    obtain ⟨rfl, size, t1, rfl, h2s, hR⟩ := hJ
    clear F1 N1 hE hp
    obtain ⟨k, rfl⟩ : ∃ j, k = j + 1 := by
      cases k with
      | zero => cases hR
      | succ k => exact ⟨k, rfl⟩
    unfold mateDown at hR
    have hb : size ≤ place + 1 := by
      by_cases h : size ≤ place + 1
      · exact h
      · rw [if_neg h] at hR; cases hR
    rw [if_pos hb] at hR
    k_steps
    refine Stopped.of ?_
    have eb : ((place : Int) + 1 - (size : Int)) = ((place + 1 - size : Nat) : Int) := by omega
    have ec : ((place : Int) + 1) = ((place + 1 - size + size : Nat) : Int) := by omega
    rw [eb, ec]
    refine CallTells.use (text_tells w mean mg mb lr ld rv dv n1 n2 row rid (place + 1 - size) size _ _ nw h1 h2 hr hd' hrl hdl (by omega) hr4 hd4) (by k_asm) (by k_asm) (by k_asm) (by k_asm) (by k_asm) (by k_asm) rfl (by ktr_room) (by ktr_units) ?_
    rintro _ _ h' G' tk' ⟨rfl, t', rfl⟩ _ F' N' hg'
    simp only [List.nil_append] at N'
    (try dsimp only)
    k_steps
    refine Stopped.of ?_
    refine CallTells.use (check_tells w mean mg mb (toS (textF row rid (place + 1 - size) size)) t' nw (text_len row rid (place + 1 - size) size (by omega) hr4 hd4)) (by k_asm) (by k_asm) (by k_asm) (by k_asm) (by k_asm) (by k_asm) rfl (by ktr_room) (by ktr_units) ?_
    rintro _ _ h'' G'' tk'' ⟨rfl, rfl⟩ _ F'' N'' hg''
    simp only [List.nil_append] at N''
    (try dsimp only)
    clear F' N' F2 N2
    cases hck : checkF (toS (textF row rid (place + 1 - size) size)) with
    | true =>
      rw [if_pos hck] at hR
      have hR := Option.some.inj hR
      k_steps
      exact hret _ [] _ _ _ ⟨rfl, _, congrArg (fun z => Value.int z _) (by omega)⟩ (by simp) (by k_asm) (by k_asm) (by k_asm)
    | false =>
      rw [if_neg (by rw [hck]; exact Bool.false_ne_true)] at hR
      k_steps
      rename Fr _ _ _ _ => FZ
      rename News _ _ _ _ => NZ
      exact WTurn.intro (k := k) (by omega) FZ NZ (by k_asm) ⟨rfl, size + 2, _, mMate_all rfl rfl rfl rfl (fun y e1 e2 e3 e4 => by simp only [mMate, e1, e2, e3, e4, if_false]), by omega, hR⟩

local macro_rules | `(tactic| walk_at "call type:list") => `(tactic| (k_here; (with_reducible show wpAny _ _ (call (Value.type _) [Value.str _ _]) _ _ _); k_dflt (refine' list_strK ?k1 ?k2 ?k3 ?_ ?k4; (case k1 => rfl); (case k2 => k_asm); (case k3 => k_asm); (case k4 => decide +kernel); k_whole); intro D' h' tk' vs' n' F' N' hS' hD'))

local macro_rules | `(tactic| k_all) => `(tactic| first | assumption | exact List.forall_mem_nil _ | (refine' List.forall_mem_cons.mpr ⟨?a, ?b⟩; (case a => first | assumption | exact Ne.symm (by assumption) | k_ne); (case b => k_all)))
local macro_rules | `(tactic| k_upd) => `(tactic| first | (refine' Upd.head ?a; (case a => k_all)) | (refine' Upd.tail ?a ?b; (case a => first | assumption | exact Ne.symm (by assumption) | k_ne); (case b => k_upd)))
local macro_rules | `(tactic| walk_at "setItem ref int") => `(tactic| (k_here; (with_reducible show wpAny _ _ (setItem (Value.ref _) (Value.int _ _) (Value.str _ _)) _ _ _); k_dflt (refine' set_strsK (l := [40]) ?k1 ?k2 ?k3 ?k4 ?k5 ?k6 ?k7 ?k8 ?_; (case k8 => decide +kernel); (case k1 => k_asm); (case k2 => k_asm); (case k3 => k_upd); (case k4 => with_reducible assumption); (case k5 => omega); (case k6 => omega); (case k7 => omega); k_whole); intro h' F' N' hi' hl'; (try k_sweep)))
local macro_rules | `(tactic| walk_at "setItem ref int") => `(tactic| (k_here; (with_reducible show wpAny _ _ (setItem (Value.ref _) (Value.int _ _) (Value.str _ _)) _ _ _); k_dflt (refine' set_strsK (l := [41]) ?k1 ?k2 ?k3 ?k4 ?k5 ?k6 ?k7 ?k8 ?_; (case k8 => decide +kernel); (case k1 => k_asm); (case k2 => k_asm); (case k3 => k_upd); (case k4 => with_reducible assumption); (case k5 => omega); (case k6 => omega); (case k7 => omega); k_whole); intro h' F' N' hi' hl'; (try k_sweep)))
local macro_rules | `(tactic| walk_at "setItem ref int") => `(tactic| (k_here; (with_reducible show wpAny _ _ (setItem (Value.ref _) (Value.int _ _) (Value.int _ _)) _ _ _); k_dflt (refine' ksa_set ?k1 ?k2 ?k3 ?k4 ?k5 ?k6 ?k7 ?_; (case k1 => k_asm); (case k2 => k_asm); (case k3 => k_upd); (case k4 => with_reducible assumption); (case k5 => omega); (case k6 => omega); (case k7 => omega); k_whole); intro h' F' N' hi' hl' hs'; (try k_sweep)))
def row0 : List (List Nat) := [[40], [40], [40], [40], [40], [41], [41], [41], [41], [41]]
theorem row0_signs : signs (Str.ofString "((((()))))") = row0.map toS := by decide +kernel
def pickF (side : Nat) (fl : List Int) : Nat := (if side = 0 then fl.getD 0 0 else fl.getD (fl.length - 1) 0).toNat
def swapF (left : List Int) (k : Nat) : List Int := (left.set k (left.getD (k + 1) 0)).set (k + 1) (left.getD k 0)
def hookRow (row : List (List Nat)) (k one other : Nat) : List (List Nat) := (((row.set (min one other) [40]).set (max one other) [41]).set k [40]).set (k + 1) [41]
def hookGo (rid : List (List Nat)) (side : Nat) : Nat → List Int → List (List Nat) → Option (List (List Nat))
  | 0, _, _ => none
  | f + 1, left, row => if fallsF left = [] then some row else
    match mateF row rid (pickF side (fallsF left)), mateF row rid (pickF side (fallsF left) + 1) with
    | some one, some other => if one < 10 ∧ other < 10 then hookGo rid side f (swapF left (pickF side (fallsF left))) (hookRow row (pickF side (fallsF left)) one other) else none
    | _, _ => none
abbrev mHook (Dl Dr Df ld : Addr) (side : Int) (ts : Tok) (K1 K2 K3 : Option Value) (m : Str → Option Value) : Str → Option Value := fun y => if y = Str.ofString "falls" then some (.ref Df) else if y = Str.ofString "row" then some (.ref Dr) else if y = Str.ofString "left" then some (.ref Dl) else
  if y = Str.ofString "riders" then some (.ref ld) else if y = Str.ofString "side" then some (.int side ts) else if y = Str.ofString "k" then K1 else if y = Str.ofString "one" then K2 else if y = Str.ofString "other" then K3 else m y
theorem mHook_all {f g : Str → Option Value} (h1 : f (Str.ofString "falls") = g (Str.ofString "falls")) (h2 : f (Str.ofString "row") = g (Str.ofString "row")) (h3 : f (Str.ofString "left") = g (Str.ofString "left"))
    (h4 : f (Str.ofString "riders") = g (Str.ofString "riders")) (h5 : f (Str.ofString "side") = g (Str.ofString "side")) (h6 : f (Str.ofString "k") = g (Str.ofString "k")) (h7 : f (Str.ofString "one") = g (Str.ofString "one")) (h8 : f (Str.ofString "other") = g (Str.ofString "other"))
    (h : ∀ y, y ≠ Str.ofString "falls" → y ≠ Str.ofString "row" → y ≠ Str.ofString "left" → y ≠ Str.ofString "riders" → y ≠ Str.ofString "side" → y ≠ Str.ofString "k" → y ≠ Str.ofString "one" → y ≠ Str.ofString "other" → f y = g y) : f = g := funext fun y => by
  by_cases e1 : y = Str.ofString "falls"; · rw [e1, h1]
  by_cases e2 : y = Str.ofString "row"; · rw [e2, h2]
  by_cases e3 : y = Str.ofString "left"; · rw [e3, h3]
  by_cases e4 : y = Str.ofString "riders"; · rw [e4, h4]
  by_cases e5 : y = Str.ofString "side"; · rw [e5, h5]
  by_cases e6 : y = Str.ofString "k"; · rw [e6, h6]
  by_cases e7 : y = Str.ofString "one"; · rw [e7, h7]
  by_cases e8 : y = Str.ofString "other"; · rw [e8, h8]
  exact h y e1 e2 e3 e4 e5 e6 e7 e8
theorem mHook_start {m : Str → Option Value} {Dl Dr Df ld : Addr} {side : Int} {ts : Tok} (h1 : m (Str.ofString "falls") = some (.ref Df)) (h2 : m (Str.ofString "row") = some (.ref Dr)) (h3 : m (Str.ofString "left") = some (.ref Dl)) (h4 : m (Str.ofString "riders") = some (.ref ld)) (h5 : m (Str.ofString "side") = some (.int side ts)) :
    m = mHook Dl Dr Df ld side ts (m (Str.ofString "k")) (m (Str.ofString "one")) (m (Str.ofString "other")) m := mHook_all h1 h2 h3 h4 h5 rfl rfl rfl (fun y e1 e2 e3 e4 e5 e6 e7 e8 => by simp only [mHook, e1, e2, e3, e4, e5, e6, e7, e8, if_false])
theorem falls_mem (ns : List Int) : ∀ k ∈ fallsF ns, 0 ≤ k ∧ k < 4 := by
  have key : ∀ (ks : List Int) (l : List Int), (∀ k ∈ ks, 0 ≤ k ∧ k < 4) → (∀ k ∈ l, 0 ≤ k ∧ k < 4) → ∀ k ∈ ks.foldl (fallsG ns) l, 0 ≤ k ∧ k < 4 := by
    intro ks
    induction ks with
    | nil => intro l _ h; exact h
    | cons a r ih =>
      intro l h1 h2
      rw [List.foldl_cons]
      refine ih _ (fun k hk => h1 k (List.mem_cons_of_mem _ hk)) fun k hk => ?_
      unfold fallsG at hk
      split at hk
      · rcases List.mem_append.mp hk with hk | hk
        · exact h2 k hk
        · rw [List.mem_singleton.mp hk]; exact h1 a List.mem_cons_self
      · exact h2 k hk
  exact key _ [] (by decide) (by simp)
theorem falls_len (ns : List Int) : (fallsF ns).length ≤ 4 := by
  have := kpf_len (g := fallsG ns) (fun l k => by unfold fallsG; split <;> simp) (rangeKs 0 4) []
  rw [rangeKs_length] at this
  simpa [fallsF] using this
theorem pick_lt {side : Nat} {fl : List Int} (hne : fl ≠ []) (hp : ∀ k ∈ fl, 0 ≤ k ∧ k < 4) : pickF side fl < 4 := by
  unfold pickF
  have hl : 0 < fl.length := List.length_pos_iff.mpr hne
  have e : ∀ i, i < fl.length → fl.getD i 0 ∈ fl := fun i hi => by rw [List.getD_eq_getElem?_getD, List.getElem?_eq_getElem hi]; exact List.getElem_mem hi
  split
  · have := hp _ (e 0 hl); omega
  · have := hp _ (e (fl.length - 1) (by omega)); omega
theorem pick_item {prog : Program} {w : World} {A : Around} {E : Value → Shared → Prop} {s : Shared} {h₀ : Heap} {L : Addr} {news : List (Addr × Obj)} {value slice : Expr} {l : Addr} {vs : List Value} {n : Nat} {fl : List Int} {side : Nat} {u : Tok} {Q : Value → Shared → Prop}
    (N : News h₀ L s.heap news) (hm : (l, listOf vs.toArray n) ∈ news) (hI : IntsAre vs fl) (hne : fl ≠ []) (hp : ∀ k ∈ fl, 0 ≤ k ∧ k < 4) (hlen : fl.length ≤ 4) (hside : side = 0 ∨ side = 1)
    (h : ∀ t, Q (.int ((pickF side fl : Nat) : Int) t) s)
    (hs : subscripted slice false (.ref l) (.int (-(side : Int)) u) = operate [.ref l, .int (-(side : Int)) u] (getItem (.ref l) (.int (-(side : Int)) u))) (hg : ∀ r, letTemporaryGo value (.ref l) r = pure ()) :
    wpAny (model prog w) A (subscriptTail value slice (.ref l) (.int (-(side : Int)) u)) Q E s := by
  have hl : 0 < fl.length := List.length_pos_iff.mpr hne
  have hvl := hI.length
  have e : ∀ i, i < fl.length → ∃ t, vs[i]? = some (.int (fl.getD i 0) t) ∧ 0 ≤ fl.getD i 0 := fun i hi => by
    obtain ⟨t, ht⟩ := hI.get i fl[i] (List.getElem?_eq_getElem hi)
    rw [List.getD_eq_getElem?_getD, List.getElem?_eq_getElem hi]
    exact ⟨t, ht, (hp _ (List.getElem_mem hi)).1⟩
  rcases hside with rfl | rfl
  · obtain ⟨t, ht, h0⟩ := e 0 hl
    have hv : fl.getD 0 0 = ((pickF 0 fl : Nat) : Int) := by unfold pickF; rw [if_pos rfl]; omega
    rw [hv] at ht
    exact kim_list N hm rfl rfl (by decide) (by decide) ht (h t) hs hg
  · obtain ⟨t, ht, h0⟩ := e (fl.length - 1) (by omega)
    have hv : fl.getD (fl.length - 1) 0 = ((pickF 1 fl : Nat) : Int) := by unfold pickF; rw [if_neg (by decide)]; omega
    rw [hv] at ht
    refine kim_back N hm rfl rfl (by decide) (by omega) (by decide) (x := .int ((pickF 1 fl : Nat) : Int) t) ?_ (h t) hs hg
    have : (-((1 : Nat) : Int) + (vs.length : Int)).toNat = fl.length - 1 := by omega
    rw [this]; exact ht
theorem ints_cast {vs : List Value} {a b : List Int} (h : IntsAre vs a) (e : a = b) : IntsAre vs b := e ▸ h
theorem strs_cast {vs : List Value} {a b : List Str} (h : StrsAre vs a) (e : a = b) : StrsAre vs b := e ▸ h
theorem hook_tells (w : World) (mean mg mb) (ln ld : Addr) (nv dv : List Value) (n1 n2 : Nat) (ns : List Int) (rid R : List (List Nat)) (side : Nat) (t : Tok) (news) (h1 : (ln, listOf nv.toArray n1) ∈ news) (h2 : (ld, listOf dv.toArray n2) ∈ news)
   (hI : IntsAre nv ns) (hd' : StrsAre dv (rid.map toS)) (hnl : ns.length = 5) (hdl : rid.length = 10) (hd4 : ∀ l ∈ rid, l.length ≤ 4) (hside : side = 0 ∨ side = 1) (hR : hookGo rid side 11 ns row0 = some R) :
   CallTells w mean mg mb 20 96 106 [.ref ln, .ref ld, .int side t] news (fun v tl => ∃ D vs n, tl = [(D, listOf vs.toArray n)] ∧ v = .ref D ∧ StrsAre vs (R.map toS)) := by
  w_top off
  unfold CallTells
  intro dp un gd cn cs a ccd cl outer A₀ base h₀ L m s Q E B F X N T hg hk hd hu hret
  refine wpAny_call ?_
  (first | k_dflt k_enter | ktn_no "the def is not entered")
  k_steps
  refine Stopped.of ?_
  rename_i Dl lv _ l1 hIl _ _ _ Dr _ _ rv nr hSr hDr _ F1 N1
  rw [row0_signs] at hSr
  refine CallTells.use (falls_tells w mean mg mb Dl lv 0 ns _ (List.mem_cons_of_mem _ List.mem_cons_self) hIl hnl) (by k_asm) F1 (by k_asm) N1 (by k_asm) (by k_asm) rfl (by ktr_room) (by ktr_units) ?_
  rintro _ _ h' G' tk' ⟨Df, fv, nf, rfl, rfl, hIf⟩ hlt F' N' hg'
  simp only [List.cons_append, List.nil_append] at N'
  (try dsimp only)
  clear F1 N1
  k_steps
  refine Stopped.of ?_
  rename Fr _ _ _ _ => F1
  rename News _ _ _ _ => N1
  obtain ⟨m0, hE⟩ : ∃ m0, m0 = mapOf F1 := ⟨_, rfl⟩
  have a1 : Dl ≠ Dr := hDr _ List.mem_cons_self
  have a2 : ∀ p ∈ news, p.1 ≠ Dl := fun p hp => Nat.ne_of_lt (l1 p hp)
  have a3 : ∀ p ∈ news, p.1 ≠ Dr := fun p hp => hDr p (List.mem_cons_of_mem _ hp)
  refine While_K (fun k m' nw => ∃ left row Df lv rv fv nl nr nf K1 K2 K3, nw = (Df, listOf fv.toArray nf) :: (Dr, listOf rv.toArray nr) :: (Dl, listOf lv.toArray nl) :: news ∧ IntsAre lv left ∧ StrsAre rv (row.map toS) ∧ IntsAre fv (fallsF left) ∧
    left.length = 5 ∧ row.length = 10 ∧ (∀ l ∈ row, l.length ≤ 4) ∧ Dr ≠ Df ∧ Dl ≠ Df ∧ m' = mHook Dl Dr Df ld side t K1 K2 K3 m0 ∧ hookGo rid side k left row = some R) 11 F1 N1 (by k_asm) ?_ (fun k h G tk m' nw hJ F2 N2 hg2 => ?_)
  · exact ⟨ns, row0, Df, lv, rv, fv, 0, nr, nf, _, _, _, rfl, hIl, hSr, hIf, hnl, rfl, by decide, hlt _ List.mem_cons_self _ List.mem_cons_self, hlt _ (List.mem_cons_of_mem _ List.mem_cons_self) _ List.mem_cons_self, by rw [hE]; exact mHook_start rfl rfl rfl rfl rfl, hR⟩
  clear F1 N1 hE hSr hIf hlt hIl
  obtain ⟨left, row, Df, lv, rv, fv, nl, nr, nf, K1, K2, K3, rfl, hIl, hSr, hIf, hll, hrl, hr4, b1, b2, rfl, hG⟩ := hJ
  obtain ⟨k, rfl⟩ : ∃ j, k = j + 1 := by
    cases k with
    | zero => cases hG
    | succ k => exact ⟨k, rfl⟩
  unfold hookGo at hG
  k_steps
  · have he : fallsF left = [] := of_decide_eq_true (by assumption)
    rw [if_pos he] at hG
    cases hG
    exact hret _ [(Dr, listOf rv.toArray nr)] _ _ _ ⟨Dr, rv, nr, rfl, rfl, hSr⟩ (fun p hp q hq => by rw [List.mem_singleton.mp hq]; exact a3 p hp) (by k_asm) (cb_drop (news' := _ :: _ :: (Dr, listOf rv.toArray nr) :: _ :: news) (by k_asm) (fun p hp => by
      rcases List.mem_cons.mp hp with rfl | hp
      · exact List.mem_cons_of_mem _ (List.mem_cons_of_mem _ List.mem_cons_self)
      · exact List.mem_cons_of_mem _ (List.mem_cons_of_mem _ (List.mem_cons_of_mem _ (List.mem_cons_of_mem _ hp))))) (by k_asm)
  have he : ¬ fallsF left = [] := of_decide_eq_false (by assumption)
  rw [if_neg he] at hG
  refine pick_item (n := nf) (by k_asm) (List.mem_cons_of_mem _ List.mem_cons_self) hIf he (falls_mem left) (falls_len left) hside (fun tk0 => ?_) (by with_unfolding_all rfl) (by intro _; with_unfolding_all rfl)
  have hk4 := pick_lt (side := side) he (falls_mem left)
  generalize pickF side (fallsF left) = kn at hG hk4 ⊢
  k_steps
  refine Stopped.of ?_
  obtain ⟨one, other, e1, e2, ho1, ho2, hG'⟩ : ∃ one other, mateF row rid kn = some one ∧ mateF row rid (kn+1) = some other ∧ one < 10 ∧ other < 10 ∧ hookGo rid side k (swapF left kn) (hookRow row kn one other) = some R := by
    cases e1 : mateF row rid kn with
    | none => rw [e1] at hG; cases hG
    | some one => cases e2 : mateF row rid (kn+1) with
      | none => rw [e1,e2] at hG; cases hG
      | some other => rw [e1,e2] at hG; dsimp only at hG; split at hG; exact ⟨_, _, rfl, rfl, (by assumption : _ ∧ _).1, (by assumption : _ ∧ _).2, hG⟩; cases hG
  clear hG
  rename Fr _ _ _ _ => F3
  rename News _ _ _ _ => N3
  refine CallTells.use (mate_tells w mean mg mb Dr ld rv dv nr n2 row rid kn one tk0 _ (by repeat first | exact List.mem_cons_self | apply List.mem_cons_of_mem) (by repeat first | exact h2 | apply List.mem_cons_of_mem) hSr hd' hrl hdl (by omega) hr4 hd4 e1) (by k_asm) F3 (by k_asm) N3 (by k_asm) (by k_asm) rfl (by ktr_room) (by ktr_units) ?_
  rintro _ _ h5 G5 tk5 ⟨rfl, t5, rfl⟩ - F5 N5 hg5
  simp only [List.nil_append] at N5
  (try dsimp only)
  clear F3 N3
  k_steps
  refine Stopped.of ?_
  rename Fr _ _ _ _ => F3
  rename News _ _ _ _ => N3
  refine CallTells.use (mate_tells w mean mg mb Dr ld rv dv nr n2 row rid (kn+1) other _ _ (by repeat first | exact List.mem_cons_self | apply List.mem_cons_of_mem) (by repeat first | exact h2 | apply List.mem_cons_of_mem) hSr hd' hrl hdl (by omega) hr4 hd4 e2) (by k_asm) F3 (by k_asm) N3 (by k_asm) (by k_asm) rfl (by ktr_room) (by ktr_units) ?_
  rintro _ _ h6 G6 tk6 ⟨rfl, t6, rfl⟩ - F6 N6 hg6
  simp only [List.nil_append] at N6
  (try dsimp only)
  clear F3 N3
  k_steps
  have eM : (if (other : Int) < (one : Int) then (other : Int) else (one : Int)) = ((min one other : Nat) : Int) := by split <;> omega
  have eX : (if (other : Int) > (one : Int) then (other : Int) else (one : Int)) = ((max one other : Nat) : Int) := by split <;> omega
  refine Stopped.of ?_
  have eN : ((kn : Int) + 1).toNat = kn + 1 := by omega
  rename IntsAre _ _ => hIs
  rename StrsAre _ _ => hSs
  have hI2 := ints_cast hIs (b := swapF left kn) (by simp only [swapF, Int.toNat_natCast, eN])
  have hS2 := strs_cast hSs (b := (hookRow row kn one other).map toS) (by simp only [hookRow, Int.toNat_natCast, eN, eM, eX])
  clear hIs hSs
  rename Fr _ _ _ _ => F3
  rename News _ _ _ _ => N3
  refine CallTells.use (falls_tells w mean mg mb Dl _ nl (swapF left kn) _ (by repeat first | exact List.mem_cons_self | apply List.mem_cons_of_mem) hI2 (by simp [swapF, hll])) (by k_asm) F3 (by k_asm) N3 (by k_asm) (by k_asm) rfl (by ktr_room) (by ktr_units) ?_
  rintro _ _ h8 G8 tk8 ⟨D8, fv8, nf8, rfl, rfl, hI8⟩ hlt8 F8 N8 hg8
  simp only [List.cons_append, List.nil_append] at N8
  (try dsimp only)
  clear F3 N3
  k_steps
  rename Fr _ _ _ _ => FZ
  rename News _ _ _ _ => NZ
  have hr8 : ∀ l ∈ hookRow row kn one other, l.length ≤ 4 := by
    intro l hl
    unfold hookRow at hl
    rcases List.mem_or_eq_of_mem_set hl with hl | rfl
    · rcases List.mem_or_eq_of_mem_set hl with hl | rfl
      · rcases List.mem_or_eq_of_mem_set hl with hl | rfl
        · rcases List.mem_or_eq_of_mem_set hl with hl | rfl
          · exact hr4 l hl
          · decide
        · decide
      · decide
    · decide
  refine WTurn.intro (k := k) (by omega) FZ (cb_drop (news' := (D8, listOf fv8.toArray nf8) :: _ :: _ :: (Df, _) :: (Dr, listOf _ nr) :: (Dl, listOf _ nl) :: news) NZ ?_) (by k_asm) ⟨swapF left kn, hookRow row kn one other, D8, _, _, fv8, nl, nr, nf8, _, _, _, rfl, hI2, hS2, hI8, by simp [swapF, hll], by simp [hookRow, hrl], hr8, ?_, ?_, mHook_all rfl rfl rfl rfl rfl rfl rfl rfl (fun y e1 e2 e3 e4 e5 e6 e7 e8 => by simp only [mHook, e1, e2, e3, e4, e5, e6, e7, e8, if_false]), hG'⟩
  · exact List.forall_mem_cons.mpr ⟨(by repeat first | exact List.mem_cons_self | apply List.mem_cons_of_mem), List.forall_mem_cons.mpr ⟨(by repeat first | exact List.mem_cons_self | apply List.mem_cons_of_mem), List.forall_mem_cons.mpr ⟨(by repeat first | exact List.mem_cons_self | apply List.mem_cons_of_mem), fun p hp => by repeat first | exact hp | apply List.mem_cons_of_mem⟩⟩⟩
  · exact hlt8 (Dr, listOf _ nr) ((by repeat first | exact List.mem_cons_self | apply List.mem_cons_of_mem)) _ List.mem_cons_self
  · exact hlt8 (Dl, listOf _ nl) ((by repeat first | exact List.mem_cons_self | apply List.mem_cons_of_mem)) _ List.mem_cons_self

def opsL : List (List Nat) := (Txt.split (Str.ofString "( ) [ ] , ; { } == != <= >= ~ += -= *= /= %= &= |= ^= <<= >>= **= //= @= -> ... :=") (Str.ofString " ")).map (·.cps.toList)
theorem opsL_eq : Txt.split (Str.ofString "( ) [ ] , ; { } == != <= >= ~ += -= *= /= %= &= |= ^= <<= >>= **= //= @= -> ... :=") (Str.ofString " ") = opsL.map toS := by
  unfold opsL
  rw [List.map_map]
  exact ((List.map_congr_left fun a _ => by cases a; simp [toS]).trans (List.map_id _)).symm
theorem oper_tells (w : World) (mean mg mb) (news) :
   CallTells w mean mg mb 4 24 68 [] news (fun v tl => ∃ D vs n, tl = [(D, listOf vs.toArray n)] ∧ v = .ref D ∧ StrsAre vs (opsL.map toS)) := by
  w_top off
  unfold CallTells
  intro dp un gd cn cs a ccd cl outer A₀ base h₀ L m s Q E B F X N T hg hk hd hu hret
  refine wpAny_call ?_
  (first | k_dflt k_enter | ktn_no "the def is not entered")
  k_steps
  rename StrsAre _ _ => a
  rename _ = Txt.split _ _ => e
  rename (∀ p ∈ news, p.1 < _) => l1
  rw [e, opsL_eq] at a
  exact hret _ [_] _ _ _ ⟨_, _, 0, rfl, rfl, a⟩ (fun p hp q hq => by rw [List.mem_singleton.mp hq]; exact Nat.ne_of_lt (l1 p hp)) (by k_asm) (by k_asm) (by k_asm)

local macro_rules | `(tactic| walk_at "compareOp NotIn str ref") => `(tactic| ((with_reducible show wpAny _ _ (compareOp CmpOp.NotIn (Value.str _ _) (Value.ref 45)) _ _ _); refine Stopped.go ?_))
local macro_rules | `(tactic| walk_at "subscriptTail") => `(tactic| ((with_reducible show wpAny _ _ (subscriptTail _ _ (Value.ref 45) (Value.str _ _)) _ _ _); refine Stopped.go ?_))

theorem tok_here {w : World} {h₀ h : Heap} {L : Addr} {m : Str → Option Value} (X : (hd.heap_39 w.params).In h₀) (F : Fr h₀ L h m) : StrTab PR w h 45 (kdpD tokC) := tok_tab w fun b o q => F.keep b o (X b o q)
abbrev mCut (Dn : Addr) (text : List Nat) (tt : Tok) (K1 : Option Value) (m : Str → Option Value) : Str → Option Value := fun y => if y = Str.ofString "text" then some (.str (toS text) tt) else if y = Str.ofString "numbers" then some (.ref Dn) else if y = Str.ofString "size" then K1 else m y
theorem mCut_all {f g : Str → Option Value} (h1 : f (Str.ofString "text") = g (Str.ofString "text")) (h2 : f (Str.ofString "numbers") = g (Str.ofString "numbers")) (h3 : f (Str.ofString "size") = g (Str.ofString "size"))
    (h : ∀ y, y ≠ Str.ofString "text" → y ≠ Str.ofString "numbers" → y ≠ Str.ofString "size" → f y = g y) : f = g := funext fun y => by
  by_cases e1 : y = Str.ofString "text"; · rw [e1, h1]
  by_cases e2 : y = Str.ofString "numbers"; · rw [e2, h2]
  by_cases e3 : y = Str.ofString "size"; · rw [e3, h3]
  exact h y e1 e2 e3
theorem mCut_start {m : Str → Option Value} {Dn : Addr} {text : List Nat} {tt : Tok} (h1 : m (Str.ofString "text") = some (.str (toS text) tt)) (h2 : m (Str.ofString "numbers") = some (.ref Dn)) :
    m = mCut Dn text tt (m (Str.ofString "size")) m := mCut_all h1 h2 rfl (fun y e1 e2 e3 => by simp only [mCut, e1, e2, e3, if_false])
theorem slice_head0 (x : Str) (o : Nat) : Txt.slice x none (some (o : Int)) = Txt.slice x (some ((0 : Nat) : Int)) (some (o : Int)) := by
  unfold Txt.slice
  have h2 : ¬ (((0 : Nat) : Int) < 0) := by omega
  have h4 : (1 : Int) > 0 := by decide
  have e : PySem.Builtin.Str.strSliceIndices none (some (o : Int)) 1 x.length = PySem.Builtin.Str.strSliceIndices (some ((0 : Nat) : Int)) (some (o : Int)) 1 x.length := by
    simp only [PySem.Builtin.Str.strSliceIndices, h2, h4, if_false, if_true]
    have e3 : max 0 (min ((0 : Nat) : Int) (x.length : Int)) = 0 := by omega
    rw [e3]
  rw [e]
theorem slice_take (l : List Nat) (o : Nat) : Txt.slice (toS l) none (some (o : Int)) = toS (l.take o) := by
  rw [slice_head0, slice_nat, List.drop_zero]
theorem slice_end (x : Str) (st : Nat) : Txt.slice x (some (st : Int)) none = Txt.slice x (some (st : Int)) (some (x.length : Int)) := by
  unfold Txt.slice
  have h3 : ¬ (((x.length : Nat) : Int) < 0) := by omega
  have h4 : (1 : Int) > 0 := by decide
  have e : PySem.Builtin.Str.strSliceIndices (some (st : Int)) none 1 x.length = PySem.Builtin.Str.strSliceIndices (some (st : Int)) (some (x.length : Int)) 1 x.length := by
    simp only [PySem.Builtin.Str.strSliceIndices, h3, h4, if_false, if_true]
    have e3 : max 0 (min ((x.length : Nat) : Int) (x.length : Int)) = (x.length : Int) := by omega
    rw [e3]
  rw [e]
theorem slice_drop (l : List Nat) (st : Nat) : Txt.slice (toS l) (some (st : Int)) none = toS (l.drop st) := by
  rw [slice_end, slice_nat]
  have : (toS l).cps.toList.length = (toS l).length := by simp [Str.length]
  rw [← this, List.take_length]
def cutSize (text : List Nat) : Nat → Option Nat
  | 0 => none
  | n + 1 => if kdpHas tokC (toS (text.take (n + 1))) = true then some (n + 1) else cutSize text n
def cutGo : Nat → List Nat → Option (List Int)
  | 0, _ => none
  | f + 1, t => if t = [] then some [] else match cutSize t 3 with
    | none => none
    | some z => (cutGo f (t.drop z)).map (kdpLook tokC (toS (t.take z)) 0 :: ·)
theorem empty_ne (l : List Nat) : (toS l != Str.ofString "") = !decide (l = []) := by
  rw [show Str.ofString "" = toS [] by decide +kernel]
  by_cases h : l = []
  · subst h; decide
  · rw [decide_eq_false h]
    exact bne_iff_ne.mpr fun e => h (by injection e with e; injection e)
theorem cut_tells (w : World) (mean mg mb) (text : List Nat) (t : Tok) (R : List Int) (news) (hlen : text.length ≤ 15) (hR : cutGo 16 text = some R) :
   CallTells w mean mg mb 4 24 75 [.str (toS text) t] news (fun v tl => ∃ D vs n, tl = [(D, listOf vs.toArray n)] ∧ v = .ref D ∧ IntsAre vs R) := by
  w_top off
  unfold CallTells
  intro dp un gd cn cs a ccd cl outer A₀ base h₀ L m s Q E B F X N T hg hk hd hu hret
  refine wpAny_call ?_
  (first | k_dflt k_enter | ktn_no "the def is not entered")
  k_steps
  refine Stopped.of ?_
  rename Fr _ _ _ _ => F1
  rename News _ _ _ _ => N1
  rename_i Dn _ l1 _
  obtain ⟨m0, hE⟩ : ∃ m0, m0 = mapOf F1 := ⟨_, rfl⟩
  refine While_K (fun k m' nw => ∃ (text : List Nat) (tt : Tok) (lv : List Value) (nl : Nat) (K1 : Option Value) (acc r : List Int), nw = (Dn, listOf lv.toArray nl) :: news ∧ text.length ≤ 15 ∧ m' = mCut Dn text tt K1 m0 ∧ IntsAre lv acc ∧ acc.length + k ≤ 16 ∧ cutGo k text = some r ∧ acc ++ r = R) 16 F1 N1 (by k_asm) ?_ (fun k h G tk m' nw hJ F2 N2 hg2 => ?_)
  · exact ⟨text, t, [], 0, _, [], R, rfl, hlen, by rw [hE]; exact mCut_start rfl rfl, .nil, by decide, hR, rfl⟩
  clear F1 N1 hE hlen hR text
  obtain ⟨text, tt, lv, nl, K1, acc, r, rfl, hlen, rfl, hI, hal, hG, rfl⟩ := hJ
  obtain ⟨k, rfl⟩ : ∃ j, k = j + 1 := by
    cases k with
    | zero => cases hG
    | succ k => exact ⟨k, rfl⟩
  unfold cutGo at hG
  k_steps
  case' _ => refine Stopped.of ?_
  · have hne : ¬ text = [] := by
      have : (toS text != Str.ofString "") = true := by assumption
      rw [empty_ne] at this
      intro e
      rw [decide_eq_true e] at this
      cases this
    rw [if_neg hne] at hG
    obtain ⟨z, r', hz, hr', rfl⟩ : ∃ z r', cutSize text 3 = some z ∧ cutGo k (text.drop z) = some r' ∧ r = kdpLook tokC (toS (text.take z)) 0 :: r' := by
      cases hz : cutSize text 3 with
      | none => rw [hz] at hG; cases hG
      | some z =>
        rw [hz] at hG
        obtain ⟨r', h1, h2⟩ := Option.map_eq_some_iff.mp hG
        exact ⟨z, r', rfl, h1, h2.symm⟩
    clear hG
    rename Fr _ _ _ _ => F1
    rename News _ _ _ _ => N1
    refine While_K (fun k m' nw => nw = (Dn, listOf lv.toArray nl) :: news ∧ ∃ t1, m' = mCut Dn text tt (some (.int ((k : Nat) : Int) t1)) m0 ∧ k ≤ 3 ∧ cutSize text k = some z) 3 F1 N1 (by k_asm) ?_ (fun j h G tk m' nw hJ F2 N2 hg2 => ?_)
    · exact ⟨rfl, _, mCut_all rfl rfl rfl (fun y e1 e2 e3 => by simp only [mCut, e1, e2, e3, if_false]), by omega, hz⟩
    clear F1 N1 hz
    obtain ⟨rfl, t1, rfl, hj3, hz⟩ := hJ
    obtain ⟨j, rfl⟩ : ∃ i, j = i + 1 := by
      cases j with
      | zero => cases hz
      | succ j => exact ⟨j, rfl⟩
    unfold cutSize at hz
    k_steps
    refine Stopped.of ?_
    rename Fr _ _ _ _ => F3
    rw [slice_take]
    refine kdp_notin (tok_here (by assumption) F3) ?_
    cases hh : kdpHas tokC (toS (text.take (j + 1))) with
    | true =>
      rw [if_pos hh] at hz
      have hz := Option.some.inj hz
      subst hz
      (try dsimp only [Bool.not_true])
      k_steps
      refine Stopped.of ?_
      rename Fr _ _ _ _ => F4
      rw [slice_take]
      refine kdp_item (tok_here (by assumption) F4) hh (fun tk0 => ?_)
      k_steps
      rename Fr _ _ _ _ => FZ
      rename News _ _ _ _ => NZ
      rw [List.push_toArray] at NZ
      simp only [slice_drop] at FZ
      exact WTurn.intro (k := k) (by omega) FZ NZ (by k_asm) ⟨text.drop (j + 1), _, _, nl + 1, _, acc ++ [kdpLook tokC (toS (text.take (j + 1))) 0], r', rfl, by rw [List.length_drop]; omega, mCut_all rfl rfl rfl (fun y e1 e2 e3 => by simp only [mCut, e1, e2, e3, if_false]), ksk_snoc hI, by rw [List.length_append]; simp only [List.length_cons, List.length_nil]; omega, hr', by rw [List.append_assoc]; rfl⟩
    | false =>
      rw [if_neg (by rw [hh]; exact Bool.false_ne_true)] at hz
      (try dsimp only [Bool.not_false])
      k_steps
      rename Fr _ _ _ _ => FZ
      rename News _ _ _ _ => NZ
      have ej : ((j + 1 : Nat) : Int) - 1 = ((j : Nat) : Int) := by omega
      simp only [ej] at FZ
      exact WTurn.intro (k := j) (by omega) FZ NZ (by k_asm) ⟨rfl, _, mCut_all rfl rfl rfl (fun y e1 e2 e3 => by simp only [mCut, e1, e2, e3, if_false]), by omega, hz⟩
  · have he : text = [] := by
      have : (toS text != Str.ofString "") = false := by assumption
      rw [empty_ne] at this
      by_cases e : text = []
      · exact e
      · rw [decide_eq_false e] at this; cases this
    rw [if_pos he] at hG
    cases hG
    rw [List.append_nil] at hret
    exact hret _ [_] _ _ _ ⟨_, _, nl, rfl, rfl, hI⟩ (fun p hp q hq => by rw [List.mem_singleton.mp hq]; exact Nat.ne_of_lt (l1 p hp)) (by k_asm) (by k_asm) (by k_asm)

section
def bitOf (c : Int) (k : Nat) : Int := (c.fdiv (2 ^ k)).fmod 2
theorem bit_01 (c : Int) (k : Nat) : bitOf c k = 0 ∨ bitOf c k = 1 := by
  unfold bitOf
  rw [Int.fmod_eq_emod_of_nonneg _ (by decide)]
  omega
def ordUp (c : Int) : Nat → List Int × List Int
  | 0 => ([], [])
  | j + 1 => if bitOf c j = 0 then ((ordUp c j).1 ++ [(j : Int)], (ordUp c j).2) else ((ordUp c j).1, (ordUp c j).2 ++ [(j : Int)])
abbrev mOrd (c : Int) (t : Tok) (Dl : Addr) (K1 K2 K3 : Option Value) (m : Str → Option Value) : Str → Option Value := fun y => if y = Str.ofString "code" then some (.int c t) else if y = Str.ofString "lines" then some (.ref Dl) else
  if y = Str.ofString "k" then K1 else if y = Str.ofString "order" then K2 else if y = Str.ofString "line" then K3 else m y
theorem mOrd_all {f g : Str → Option Value} (h1 : f (Str.ofString "code") = g (Str.ofString "code")) (h2 : f (Str.ofString "lines") = g (Str.ofString "lines")) (h3 : f (Str.ofString "k") = g (Str.ofString "k")) (h4 : f (Str.ofString "order") = g (Str.ofString "order")) (h5 : f (Str.ofString "line") = g (Str.ofString "line"))
    (h : ∀ y, y ≠ Str.ofString "code" → y ≠ Str.ofString "lines" → y ≠ Str.ofString "k" → y ≠ Str.ofString "order" → y ≠ Str.ofString "line" → f y = g y) : f = g := funext fun y => by
  by_cases e1 : y = Str.ofString "code"; · rw [e1, h1]
  by_cases e2 : y = Str.ofString "lines"; · rw [e2, h2]
  by_cases e3 : y = Str.ofString "k"; · rw [e3, h3]
  by_cases e4 : y = Str.ofString "order"; · rw [e4, h4]
  by_cases e5 : y = Str.ofString "line"; · rw [e5, h5]
  exact h y e1 e2 e3 e4 e5
theorem mOrd_start {m : Str → Option Value} {c : Int} {t : Tok} {Dl : Addr} (h1 : m (Str.ofString "code") = some (.int c t)) (h2 : m (Str.ofString "lines") = some (.ref Dl)) :
    m = mOrd c t Dl (m (Str.ofString "k")) (m (Str.ofString "order")) (m (Str.ofString "line")) m := mOrd_all h1 h2 rfl rfl rfl (fun y e1 e2 e3 e4 e5 => by simp only [mOrd, e1, e2, e3, e4, e5, if_false])
theorem ordUp_len (c : Int) : ∀ j, (ordUp c j).1.length + (ordUp c j).2.length = j
  | 0 => rfl
  | j + 1 => by
    have := ordUp_len c j
    unfold ordUp
    split
    · simp only [List.length_append, List.length_cons, List.length_nil]; omega
    · simp only [List.length_append, List.length_cons, List.length_nil]; omega
def ordDn (c : Int) : Nat → (List Int × List Int) × List Int
  | 0 => (ordUp c 5, [])
  | j + 1 => if bitOf c (5 + j) = 0 then
      (match (ordDn c j).1.1 with
      | x :: a => ((a, (ordDn c j).1.2), (ordDn c j).2 ++ [x])
      | [] => (((ordDn c j).1.1, (ordDn c j).1.2.tail), (ordDn c j).2 ++ [(ordDn c j).1.2.headD 0]))
    else (match (ordDn c j).1.2 with
      | x :: b => (((ordDn c j).1.1, b), (ordDn c j).2 ++ [x])
      | [] => (((ordDn c j).1.1.tail, (ordDn c j).1.2), (ordDn c j).2 ++ [(ordDn c j).1.1.headD 0]))
theorem ordDn_len (c : Int) : ∀ j, j ≤ 5 → (ordDn c j).1.1.length + (ordDn c j).1.2.length = 5 - j
  | 0, _ => ordUp_len c 5
  | j + 1, h => by
    have := ordDn_len c j (by omega)
    unfold ordDn
    split
    · split
      · rename_i e; rw [e] at this; simp only [List.length_cons] at this ⊢; omega
      · rename_i e; rw [e] at this; simp only [List.length_nil, List.length_tail] at this ⊢; rw [e]; simp only [List.length_nil]; omega
    · split
      · rename_i e; rw [e] at this; simp only [List.length_cons] at this ⊢; omega
      · rename_i e; rw [e] at this; simp only [List.length_nil, List.length_tail] at this ⊢; rw [e]; simp only [List.length_nil]; omega
theorem ordDn_olen (c : Int) : ∀ j, (ordDn c j).2.length = j
  | 0 => rfl
  | j + 1 => by
    have := ordDn_olen c j
    rw [ordDn]
    split <;> split <;> simp only [List.length_append, List.length_cons, List.length_nil] <;> omega
theorem pop_first {prog : Program} {w : World} {A : Around} {E : Value → Shared → Prop} {s : Shared} {h₀ : Heap} {L D : Addr} {m : Str → Option Value} {news news' : List (Addr × Obj)} {q : List Value} {y : Value} {n : Nat} {u : Tok} {Q : Value → Shared → Prop}
    (F : Fr h₀ L s.heap m) (N : News h₀ L s.heap news) (U : Upd D (listOf (y :: q).toArray n) (listOf q.toArray (n + 1)) news news') (hz : q.length + 1 ≤ sizeLine)
    (h : ∀ h', Fr h₀ L h' m → News h₀ L h' news' → Q y { s with heap := h' }) : wpAny (model prog w) A (call (.builtin "list.pop") [.ref D, .int 0 u]) Q E s :=
  kl_popAt (p := []) (k := 0) (q := q) F N (by decide) (by rw [List.size_toArray, List.length_cons]; unfold seqIndex?; simp) rfl U (by simpa using hz) h
local macro_rules | `(tactic| walk_at "call builtin:list.pop") => `(tactic| (refine Stopped.go ?_))
theorem order_tells (w : World) (mean mg mb) (c : Int) (t : Tok) (news) (h0 : 0 ≤ c) (h1 : c < 1024) :
   CallTells w mean mg mb 4 96 82 [.int c t] news (fun v tl => ∃ D vs n, tl = [(D, listOf vs.toArray n)] ∧ v = .ref D ∧ IntsAre vs (ordDn c 5).2) := by
  w_top off
  unfold CallTells
  intro dp un gd cn cs a ccd cl outer A₀ base h₀ L m s Q E B F X N T hg hk hd hu hret
  refine wpAny_call ?_
  (first | k_dflt k_enter | ktn_no "the def is not entered")
  k_steps
  refine Stopped.of ?_
  rename Fr _ _ _ _ => F1
  rename News _ _ _ _ => N1
  rename_i Da _ la Db _ lb Dl _ ll _
  obtain ⟨m0, hE⟩ : ∃ m0, m0 = mapOf F1 := ⟨_, rfl⟩
  refine For_rangeF F1 rfl (fun j m' nw => ∃ (av bv : List Value) (na nb : Nat) (K1 K2 K3 : Option Value), nw = (Dl, listOf #[.ref Da, .ref Db] 0) :: (Db, listOf bv.toArray nb) :: (Da, listOf av.toArray na) :: news ∧ IntsAre av (ordUp c j).1 ∧ IntsAre bv (ordUp c j).2 ∧ m' = mOrd c t Dl K1 K2 K3 m0) (by rfl) rfl rfl (fun _ => rfl) ?_
  k_steps
  unfold RangeSrc
  rename Fr _ _ _ _ => F1
  rename News _ _ _ _ => N1
  refine ⟨_, 0, 5, _, _, _, 5, _, _, rfl, by assumption, by decide, by decide, by k_asm, F1, N1, ⟨[], [], 0, 0, _, _, _, rfl, .nil, .nil, by rw [hE]; exact mOrd_start rfl rfl⟩, fun j t1 m' nw ownL h G tk hj hJ hnm hap F2 N2 hg2 => ?_, fun m' nw h G tk hJ hnm F2 N2 hg2 => ?_⟩
  · clear F1 N1 hE
    obtain ⟨av, bv, na, nb, K1, K2, K3, rfl, hA, hB, rfl⟩ := hJ
    have o1 : ∀ p ∈ news ++ ownL, p.1 ≠ Da := fun p hp => (List.mem_append.mp hp).elim (fun hp => Nat.ne_of_lt (la p hp)) (fun hp => Ne.symm (hap (Da, _) (List.mem_cons_of_mem _ (List.mem_cons_of_mem _ List.mem_cons_self)) p hp))
    have o2 : ∀ p ∈ ownL, p.1 ≠ Db := fun p hp => Ne.symm (hap (Db, _) (List.mem_cons_of_mem _ List.mem_cons_self) p hp)
    have d1 : Da < Db := lb.1
    have o3 : ∀ p ∈ (Da, listOf av.toArray na) :: (news ++ ownL), p.1 ≠ Db := List.forall_mem_cons.mpr ⟨Nat.ne_of_lt d1, fun p hp => (List.mem_append.mp hp).elim (fun hp => Nat.ne_of_lt (Nat.lt_trans (la p hp) d1)) (o2 p)⟩
    simp only [List.cons_append] at N2
    simp only [Int.zero_add] at F2
    k_steps
    have eb : (c.fdiv (2 ^ ((j : Nat) : Int).toNat)).fmod 2 = bitOf c j := rfl
    rw [eb]
    have hlj := ordUp_len c j
    rcases bit_01 c j with hb | hb
    · rw [hb]
      k_steps
      rename Fr _ _ _ _ => FZ
      rename News _ _ _ _ => NZ
      rw [List.push_toArray] at NZ
      exact FTurn.intro ((Dl, listOf #[.ref Da, .ref Db] 0) :: (Db, listOf bv.toArray nb) :: (Da, _) :: news) FZ NZ hnm (by k_asm) ⟨_, bv, na + 1, nb, _, _, _, rfl, by unfold ordUp; rw [if_pos hb]; exact ksk_snoc hA, by unfold ordUp; rw [if_pos hb]; exact hB, mOrd_all rfl rfl rfl rfl rfl (fun y e1 e2 e3 e4 e5 => by simp only [mOrd, e1, e2, e3, e4, e5, if_false])⟩
    · rw [hb]
      have hb' : ¬ bitOf c j = 0 := by rw [hb]; decide
      k_steps
      rename Fr _ _ _ _ => FZ
      rename News _ _ _ _ => NZ
      rw [List.push_toArray] at NZ
      exact FTurn.intro ((Dl, listOf #[.ref Da, .ref Db] 0) :: (Db, _) :: (Da, listOf av.toArray na) :: news) FZ NZ hnm (by k_asm) ⟨av, _, na, nb + 1, _, _, _, rfl, by unfold ordUp; rw [if_neg hb']; exact hA, by unfold ordUp; rw [if_neg hb']; exact ksk_snoc hB, mOrd_all rfl rfl rfl rfl rfl (fun y e1 e2 e3 e4 e5 => by simp only [mOrd, e1, e2, e3, e4, e5, if_false])⟩
  · clear F1 N1 hE
    obtain ⟨av, bv, na, nb, K1, K2, K3, rfl, hA, hB, rfl⟩ := hJ
    k_steps
    refine Stopped.of ?_
    rename Fr _ _ _ _ => F1
    rename News _ _ _ _ => N1
    rename_i Do _ _ _ lo _
    obtain ⟨d1, d2, d3, lo⟩ := lo
    obtain ⟨e1, e2, le⟩ := ll
    have d1' := lb.1
    refine For_rangeF F1 rfl (fun j m' nw => ∃ (av bv ov : List Value) (na nb no : Nat) (K1 K3 : Option Value), nw = (Do, listOf ov.toArray no) :: (Dl, listOf #[.ref Da, .ref Db] 0) :: (Db, listOf bv.toArray nb) :: (Da, listOf av.toArray na) :: news ∧ IntsAre av (ordDn c j).1.1 ∧ IntsAre bv (ordDn c j).1.2 ∧ IntsAre ov (ordDn c j).2 ∧ m' = mOrd c t Dl K1 (some (.ref Do)) K3 m0) (by rfl) rfl rfl (fun _ => rfl) ?_
    k_steps
    unfold RangeSrc
    rename Fr _ _ _ _ => F1
    rename News _ _ _ _ => N1
    refine ⟨_, 5, 10, _, _, _, 5, _, _, rfl, by assumption, by decide, by decide, by k_asm, F1, N1, ⟨av, bv, [], na, nb, 0, _, _, rfl, hA, hB, .nil, mOrd_all rfl rfl rfl rfl rfl (fun y e1 e2 e3 e4 e5 => by simp only [mOrd, e1, e2, e3, e4, e5, if_false])⟩, fun j t1 m' nw ownL h G tk hj hJ hnm hap F2 N2 hg2 => ?_, fun m' nw h G tk hJ hnm F2 N2 hg2 => ?_⟩
    · clear F1 N1 hA hB hnm
      obtain ⟨av, bv, ov, na, nb, no, K1, K3, rfl, hA, hB, hO, rfl⟩ := hJ
      have o1 : ∀ p ∈ news ++ ownL, p.1 ≠ Da := fun p hp => (List.mem_append.mp hp).elim (fun hp => Nat.ne_of_lt (la p hp)) (fun hp => Ne.symm (hap (Da, _) (List.mem_cons_of_mem _ (List.mem_cons_of_mem _ (List.mem_cons_of_mem _ List.mem_cons_self))) p hp))
      have o2 : ∀ p ∈ ownL, p.1 ≠ Db := fun p hp => Ne.symm (hap (Db, _) (List.mem_cons_of_mem _ (List.mem_cons_of_mem _ List.mem_cons_self)) p hp)
      have o3 : ∀ p ∈ news ++ ownL, p.1 ≠ Db := fun p hp => (List.mem_append.mp hp).elim (fun hp => Nat.ne_of_lt (Nat.lt_trans (la p hp) d1')) (o2 p)
      have o4 : ∀ p ∈ news ++ ownL, p.1 ≠ Do := fun p hp => (List.mem_append.mp hp).elim (fun hp => Nat.ne_of_lt (Nat.lt_trans (la p hp) (by assumption))) (fun hp => Ne.symm (hap (Do, _) List.mem_cons_self p hp))
      simp only [List.cons_append] at N2
      have hlj := ordDn_len c j (by omega)
      have hla := hA.length
      have hlb := hB.length
      have hz := sizeLine_eq
      have hov : ov.toArray.size ≤ sizeLine := by rw [List.size_toArray, hO.length, ordDn_olen, hz]; omega
      have e5 : ((5 : Int) + (j : Int)) = ((5 + j : Nat) : Int) := by omega
      simp only [e5] at F2
      k_steps
      have eb : (c.fdiv (2 ^ ((5 + j : Nat) : Int).toNat)).fmod 2 = bitOf c (5 + j) := rfl
      rw [eb]
      rcases bit_01 c (5 + j) with hb | hb
      · rw [hb]
        k_steps
        · have h00 : (ordDn c j).1.1 = [] := of_decide_eq_true (by assumption)
          have hne : ¬ (ordDn c j).1.2 = [] := fun e => by rw [h00, e] at hlj; simp only [List.length_nil] at hlj; omega
          obtain ⟨x, q, hq⟩ : ∃ x q, (ordDn c j).1.2 = x :: q := List.exists_cons_of_ne_nil hne
          have hs : ordDn c (j + 1) = (((ordDn c j).1.1, q), (ordDn c j).2 ++ [x]) := by rw [ordDn]; simp only [if_pos hb, h00, hq, List.tail_cons, List.headD_cons]
          rw [eb, hb]
          rw [show (1 : Int) - 0 = 1 from rfl]
          k_steps
          refine Stopped.of ?_
          rw [hq] at hB
          obtain ⟨tx, vq, rfl, hvq⟩ : ∃ tx vq, bv = .int x tx :: vq ∧ IntsAre vq q := by cases hB; exact ⟨_, _, rfl, by assumption⟩
          rename Fr _ _ _ _ => F3
          rename News _ _ _ _ => N3
          refine pop_first F3 N3 (by k_upd) (by rw [hq] at hlb; simp only [List.length_cons] at hlb; rw [hq] at hlj; simp only [List.length_cons] at hlj; omega) (fun h' F' N' => ?_)
          clear F3 N3
          k_steps
          rename Fr _ _ _ _ => FZ
          rename News _ _ _ _ => NZ
          rw [List.push_toArray] at NZ
          exact FTurn.intro ((Do, listOf (ov ++ [Value.int x tx]).toArray (no + 1)) :: (Dl, listOf #[.ref Da, .ref Db] 0) :: (Db, listOf vq.toArray (nb + 1)) :: (Da, listOf av.toArray (na)) :: news) FZ (cb_drop (news' := _ :: _) NZ (fun p hp => by repeat first | exact hp | apply List.mem_cons_of_mem)) rfl (by k_asm) ⟨av, vq, ov ++ [Value.int x tx], na, nb + 1, no + 1, _, _, rfl, by rw [hs]; exact hA, by rw [hs]; exact hvq, by rw [hs]; exact ksk_snoc hO, mOrd_all rfl rfl rfl rfl rfl (fun y e1 e2 e3 e4 e5 => by simp only [mOrd, e1, e2, e3, e4, e5, if_false])⟩
        · have hne : ¬ (ordDn c j).1.1 = [] := of_decide_eq_false (by assumption)
          obtain ⟨x, q, hq⟩ : ∃ x q, (ordDn c j).1.1 = x :: q := List.exists_cons_of_ne_nil hne
          have hs : ordDn c (j + 1) = ((q, (ordDn c j).1.2), (ordDn c j).2 ++ [x]) := by rw [ordDn]; simp only [if_pos hb, hq]
          refine Stopped.of ?_
          rw [hq] at hA
          obtain ⟨tx, vq, rfl, hvq⟩ : ∃ tx vq, av = .int x tx :: vq ∧ IntsAre vq q := by cases hA; exact ⟨_, _, rfl, by assumption⟩
          rename Fr _ _ _ _ => F3
          rename News _ _ _ _ => N3
          refine pop_first F3 N3 (by k_upd) (by rw [hq] at hla; simp only [List.length_cons] at hla; rw [hq] at hlj; simp only [List.length_cons] at hlj; omega) (fun h' F' N' => ?_)
          clear F3 N3
          k_steps
          rename Fr _ _ _ _ => FZ
          rename News _ _ _ _ => NZ
          rw [List.push_toArray] at NZ
          exact FTurn.intro ((Do, listOf (ov ++ [Value.int x tx]).toArray (no + 1)) :: (Dl, listOf #[.ref Da, .ref Db] 0) :: (Db, listOf bv.toArray (nb)) :: (Da, listOf vq.toArray (na + 1)) :: news) FZ (cb_drop (news' := _ :: _) NZ (fun p hp => by repeat first | exact hp | apply List.mem_cons_of_mem)) rfl (by k_asm) ⟨vq, bv, ov ++ [Value.int x tx], na + 1, nb, no + 1, _, _, rfl, by rw [hs]; exact hvq, by rw [hs]; exact hB, by rw [hs]; exact ksk_snoc hO, mOrd_all rfl rfl rfl rfl rfl (fun y e1 e2 e3 e4 e5 => by simp only [mOrd, e1, e2, e3, e4, e5, if_false])⟩
      · rw [hb]
        have hb' : ¬ bitOf c (5 + j) = 0 := by rw [hb]; decide
        k_steps
        · have h00 : (ordDn c j).1.2 = [] := of_decide_eq_true (by assumption)
          have hne : ¬ (ordDn c j).1.1 = [] := fun e => by rw [h00, e] at hlj; simp only [List.length_nil] at hlj; omega
          obtain ⟨x, q, hq⟩ : ∃ x q, (ordDn c j).1.1 = x :: q := List.exists_cons_of_ne_nil hne
          have hs : ordDn c (j + 1) = ((q, (ordDn c j).1.2), (ordDn c j).2 ++ [x]) := by rw [ordDn]; simp only [if_neg hb', h00, hq, List.tail_cons, List.headD_cons]
          rw [eb, hb]
          rw [show (1 : Int) - 1 = 0 from rfl]
          k_steps
          refine Stopped.of ?_
          rw [hq] at hA
          obtain ⟨tx, vq, rfl, hvq⟩ : ∃ tx vq, av = .int x tx :: vq ∧ IntsAre vq q := by cases hA; exact ⟨_, _, rfl, by assumption⟩
          rename Fr _ _ _ _ => F3
          rename News _ _ _ _ => N3
          refine pop_first F3 N3 (by k_upd) (by rw [hq] at hla; simp only [List.length_cons] at hla; rw [hq] at hlj; simp only [List.length_cons] at hlj; omega) (fun h' F' N' => ?_)
          clear F3 N3
          k_steps
          rename Fr _ _ _ _ => FZ
          rename News _ _ _ _ => NZ
          rw [List.push_toArray] at NZ
          exact FTurn.intro ((Do, listOf (ov ++ [Value.int x tx]).toArray (no + 1)) :: (Dl, listOf #[.ref Da, .ref Db] 0) :: (Db, listOf bv.toArray (nb)) :: (Da, listOf vq.toArray (na + 1)) :: news) FZ (cb_drop (news' := _ :: _) NZ (fun p hp => by repeat first | exact hp | apply List.mem_cons_of_mem)) rfl (by k_asm) ⟨vq, bv, ov ++ [Value.int x tx], na + 1, nb, no + 1, _, _, rfl, by rw [hs]; exact hvq, by rw [hs]; exact hB, by rw [hs]; exact ksk_snoc hO, mOrd_all rfl rfl rfl rfl rfl (fun y e1 e2 e3 e4 e5 => by simp only [mOrd, e1, e2, e3, e4, e5, if_false])⟩
        · have hne : ¬ (ordDn c j).1.2 = [] := of_decide_eq_false (by assumption)
          obtain ⟨x, q, hq⟩ : ∃ x q, (ordDn c j).1.2 = x :: q := List.exists_cons_of_ne_nil hne
          have hs : ordDn c (j + 1) = (((ordDn c j).1.1, q), (ordDn c j).2 ++ [x]) := by rw [ordDn]; simp only [if_neg hb', hq]
          refine Stopped.of ?_
          rw [hq] at hB
          obtain ⟨tx, vq, rfl, hvq⟩ : ∃ tx vq, bv = .int x tx :: vq ∧ IntsAre vq q := by cases hB; exact ⟨_, _, rfl, by assumption⟩
          rename Fr _ _ _ _ => F3
          rename News _ _ _ _ => N3
          refine pop_first F3 N3 (by k_upd) (by rw [hq] at hlb; simp only [List.length_cons] at hlb; rw [hq] at hlj; simp only [List.length_cons] at hlj; omega) (fun h' F' N' => ?_)
          clear F3 N3
          k_steps
          rename Fr _ _ _ _ => FZ
          rename News _ _ _ _ => NZ
          rw [List.push_toArray] at NZ
          exact FTurn.intro ((Do, listOf (ov ++ [Value.int x tx]).toArray (no + 1)) :: (Dl, listOf #[.ref Da, .ref Db] 0) :: (Db, listOf vq.toArray (nb + 1)) :: (Da, listOf av.toArray (na)) :: news) FZ (cb_drop (news' := _ :: _) NZ (fun p hp => by repeat first | exact hp | apply List.mem_cons_of_mem)) rfl (by k_asm) ⟨av, vq, ov ++ [Value.int x tx], na, nb + 1, no + 1, _, _, rfl, by rw [hs]; exact hA, by rw [hs]; exact hvq, by rw [hs]; exact ksk_snoc hO, mOrd_all rfl rfl rfl rfl rfl (fun y e1 e2 e3 e4 e5 => by simp only [mOrd, e1, e2, e3, e4, e5, if_false])⟩
    · obtain ⟨av, bv, ov, na, nb, no, K1, K3, rfl, hA, hB, hO, rfl⟩ := hJ
      clear F1 N1
      k_steps
      exact hret _ [(Do, listOf ov.toArray no)] _ _ _ ⟨Do, ov, no, rfl, rfl, hO⟩ (fun p hp q hq => by rw [List.mem_singleton.mp hq]; exact Nat.ne_of_lt (Nat.lt_trans (la p hp) (by assumption))) (by k_asm) (cb_drop (news' := (Do, listOf ov.toArray no) :: _ :: _ :: _ :: news) (by k_asm) (fun p hp => by
        rcases List.mem_cons.mp hp with rfl | hp
        · exact List.mem_cons_self
        · exact List.mem_cons_of_mem _ (List.mem_cons_of_mem _ (List.mem_cons_of_mem _ (List.mem_cons_of_mem _ hp))))) (by k_asm)
end
local macro_rules | `(tactic| k_updF) => `(tactic| first | (refine' UpdF.head ?a; (case a => k_all)) | (refine' UpdF.tail ?a ?b; (case a => first | assumption | exact Ne.symm (by assumption) | k_ne); (case b => k_updF)))

section

theorem join_map (f : Int → Nat) (ks : List Int) : Txt.join (Str.ofString "") (ks.map fun x => toS [f x]) = toS (ks.map f) := by
  have := join_empty (ks.map fun x => [f x])
  rw [List.map_map] at this
  refine this.trans (congrArg (fun l : List Nat => (⟨l.toArray⟩ : Str)) ?_)
  induction ks with
  | nil => rfl
  | cons a r ih => rw [List.map_cons, List.map_cons, List.flatten_cons, ih (by rw [← join_empty, List.map_map])]; rfl
theorem any_in {l : List Int} {k : Int} (h : (l.any fun x => x == k) = true) : k ∈ l := by
  obtain ⟨z, hz, e⟩ := List.any_eq_true.mp h
  rw [← beq_iff_eq.mp e]; exact hz
theorem any_out {l : List Int} {k : Int} (h : (l.any fun x => x == k) = false) : k ∉ l := fun hm => by
  have := List.any_eq_false.mp h k hm
  exact this (beq_self_eq_true k)
theorem rowsLed_fst : ∀ {as : List Addr} {bs : List (List Value × Nat)}, as.length = bs.length → (rowsLed as bs).map (·.1) = as
  | [], _, _ => by cases ‹List (List Value × Nat)› <;> rfl
  | _ :: _, [], h => by simp at h
  | a :: as, b :: bs, h => by
    show _ :: _ = _ :: _
    rw [rowsLed_fst (by simpa using h)]
theorem allLt_mem {d : Nat} : ∀ {l : List (Addr × Obj)}, AllLt d l → ∀ p ∈ l, p.1 < d
  | [], _, _, h => by simp at h
  | _ :: _, h, p, hp => by
    rcases List.mem_cons.mp hp with rfl | hp
    · exact h.1
    · exact allLt_mem h.2 p hp
theorem all4_lt {I C D l : Nat} {oI oC oD : Obj} {nw : List (Addr × Obj)} {p : Addr × Obj} (h : I < l ∧ C < l ∧ D < l ∧ AllLt l nw) (hp : p ∈ (I, oI) :: (C, oC) :: (D, oD) :: nw) : p.1 < l := by
  obtain ⟨z1, z2, z3, z4⟩ := h
  rcases List.mem_cons.mp hp with rfl | hp
  · exact z1
  rcases List.mem_cons.mp hp with rfl | hp
  · exact z2
  rcases List.mem_cons.mp hp with rfl | hp
  · exact z3
  exact allLt_mem z4 p hp
theorem cell_off {as : List Addr} {bs : List (List Value × Nat)} {news : List (Addr × Obj)} {Lc : Nat} {oc : Obj} (l1 : ∀ p ∈ news, p.1 < Lc) (hap : ∀ a ∈ as, ∀ p ∈ (Lc + 1, oc) :: news, p.1 < a) : ∀ p ∈ rowsLed as bs ++ news, p.1 ≠ Lc + 1 := fun p hp => by
  rcases List.mem_append.mp hp with hp | hp
  · exact Nat.ne_of_gt (hap _ (rowsLed_addr p hp) _ List.mem_cons_self)
  · exact Nat.ne_of_lt (Nat.lt_succ_of_lt (l1 p hp))
theorem led_swap {h₀ h : Heap} {L : Addr} {d c : Addr × Obj} {R news : List (Addr × Obj)} (N : News h₀ L h (d :: (R ++ c :: news))) : News h₀ L h (d :: c :: (R ++ news)) := fun p hp => N p (by
  simp only [List.mem_cons, List.mem_append] at hp ⊢
  rcases hp with h | h | h | h
  · exact .inl h
  · exact .inr (.inr (.inl h))
  · exact .inr (.inl h)
  · exact .inr (.inr (.inr h)))
theorem off1_swap {D : Addr} {c : Addr × Obj} {R news : List (Addr × Obj)} (o : LCg.Off1 D (R ++ c :: news)) : c.1 ≠ D ∧ ∀ p ∈ R ++ news, p.1 ≠ D :=
  ⟨off1_mem o c (by simp), fun p hp => off1_mem o p (by simp only [List.mem_cons, List.mem_append] at hp ⊢; rcases hp with h | h; exact .inl h; exact .inr (.inr h))⟩
def insGo : Nat → List (List Int) → Nat → Int → Nat → Option (List (List Int) × Nat)
  | 0, _, _, _, _ => none
  | f + 1, rows, k, x, place => if place < (rows.getD k []).length then
      (if k + 1 < 6 then insGo f (rows.set k ((rows.getD k []).set place x)) (k + 1) ((rows.getD k []).getD place 0) (bisF ((rows.set k ((rows.getD k []).set place x)).getD (k + 1) []) ((rows.getD k []).getD place 0)) else none)
    else some (rows.set k (rows.getD k [] ++ [x]), k)
def dueRows : List Int → List (List Int) → List Int → Option (List (List Int) × List Int)
  | [], rows, told => some (rows, told)
  | x :: r, rows, told => match insGo 7 rows 0 x (bisF (rows.getD 0 []) x) with
    | none => none
    | some p => dueRows r p.1 (told ++ [(p.2 : Int)])
def RowsAre (bs : List (List Value × Nat)) (rows : List (List Int)) : Prop := bs.length = 6 ∧ rows.length = 6 ∧ ∀ (i : Nat) (b : List Value × Nat) (r : List Int), bs[i]? = some b → rows[i]? = some r → IntsAre b.1 r
abbrev mDue (ln Dt : Addr) (K1 K2 K3 : Option Value) (m : Str → Option Value) : Str → Option Value := fun y => if y = Str.ofString "numbers" then some (.ref ln) else if y = Str.ofString "told" then some (.ref Dt) else
  if y = Str.ofString "number" then K1 else if y = Str.ofString "k" then K2 else if y = Str.ofString "place" then K3 else m y
theorem mDue_all {f g : Str → Option Value} (h1 : f (Str.ofString "numbers") = g (Str.ofString "numbers")) (h2 : f (Str.ofString "told") = g (Str.ofString "told")) (h3 : f (Str.ofString "number") = g (Str.ofString "number")) (h4 : f (Str.ofString "k") = g (Str.ofString "k")) (h5 : f (Str.ofString "place") = g (Str.ofString "place"))
    (h : ∀ y, y ≠ Str.ofString "numbers" → y ≠ Str.ofString "told" → y ≠ Str.ofString "number" → y ≠ Str.ofString "k" → y ≠ Str.ofString "place" → f y = g y) : f = g := funext fun y => by
  by_cases e1 : y = Str.ofString "numbers"; · rw [e1, h1]
  by_cases e2 : y = Str.ofString "told"; · rw [e2, h2]
  by_cases e3 : y = Str.ofString "number"; · rw [e3, h3]
  by_cases e4 : y = Str.ofString "k"; · rw [e4, h4]
  by_cases e5 : y = Str.ofString "place"; · rw [e5, h5]
  exact h y e1 e2 e3 e4 e5
def dueF (R : List (List Int) × List Int) (srt : List Int) : List Nat := (srt.map fun x => if x ∈ R.1.getD 0 [] then 40 else 41) ++ R.2.reverse.map fun k => if k = 0 then 41 else 40
theorem mDue_start {m : Str → Option Value} {ln Dt : Addr} (h1 : m (Str.ofString "numbers") = some (.ref ln)) (h2 : m (Str.ofString "told") = some (.ref Dt)) :
    m = mDue ln Dt (m (Str.ofString "number")) (m (Str.ofString "k")) (m (Str.ofString "place")) m := mDue_all h1 h2 rfl rfl rfl (fun y e1 e2 e3 e4 e5 => by simp only [mDue, e1, e2, e3, e4, e5, if_false])
theorem rowsAre_start : RowsAre (List.replicate 6 ([], 0)) (List.replicate 6 []) := ⟨rfl, rfl, fun i b r hb hr => by
  have hb := List.eq_of_mem_replicate (List.mem_of_getElem? hb)
  have hr := List.eq_of_mem_replicate (List.mem_of_getElem? hr)
  subst hb; subst hr; exact .nil⟩
theorem rows_item {prog : Program} {w : World} {A : Around} {E : Value → Shared → Prop} {s : Shared} {h₀ : Heap} {L D : Addr} {news : List (Addr × Obj)} {value slice : Expr} {as : List Addr} {k : Nat} {a : Addr} {u : Tok} {Q : Value → Shared → Prop}
    (N : News h₀ L s.heap news) (hm : (D, LCg.lst (as.map Value.ref)) ∈ news) (hal : as.length = 6) (hk : as[k]? = some a) (h : Q (.ref a) s)
    (hs : subscripted slice false (.ref D) (.int ((k : Nat) : Int) u) = operate [.ref D, .int ((k : Nat) : Int) u] (getItem (.ref D) (.int ((k : Nat) : Int) u))) (hg : ∀ r, letTemporaryGo value (.ref D) r = pure ()) :
    wpAny (model prog w) A (subscriptTail value slice (.ref D) (.int ((k : Nat) : Int) u)) Q E s := by
  have hlt : k < 6 := by
    have := (List.getElem?_eq_some_iff.mp hk).1
    omega
  exact kim_list (n := (as.map Value.ref).length) N hm rfl rfl (by omega) (by omega) (by rw [List.getElem?_map, Int.toNat_natCast, hk]; rfl) h hs hg
theorem bisGo_le (ns : List Int) (x : Int) : ∀ f lo hi, lo ≤ hi → bisGo ns x f lo hi ≤ hi
  | 0, _, _, h => h
  | f + 1, lo, hi, h => by
    unfold bisGo
    split
    · split
      · have := bisGo_le ns x f lo ((lo + hi) / 2) (by omega); omega
      · exact bisGo_le ns x f ((lo + hi) / 2 + 1) hi (by omega)
    · exact h
theorem bisF_le (ns : List Int) (x : Int) : bisF ns x ≤ ns.length := bisGo_le ns x _ 0 _ (Nat.zero_le _)
theorem rowsAre_set {bs : List (List Value × Nat)} {rows : List (List Int)} {k : Nat} {b' : List Value × Nat} {r' : List Int} (h : RowsAre bs rows) (hI : IntsAre b'.1 r') : RowsAre (bs.set k b') (rows.set k r') := by
  obtain ⟨h1, h2, h3⟩ := h
  refine ⟨by rw [List.length_set, h1], by rw [List.length_set, h2], fun i b r hb hr => ?_⟩
  rw [List.getElem?_set] at hb hr
  by_cases e : k = i
  · rw [if_pos e] at hb hr
    subst e
    split at hb
    · split at hr
      · cases hb; cases hr; exact hI
      · cases hr
    · cases hb
  · rw [if_neg e] at hb hr
    exact h3 i b r hb hr
theorem as_led {as : List Addr} {bs : List (List Value × Nat)} {P : Addr → Prop} {rest : List (Addr × Obj)} (hl : as.length = bs.length) (h : ∀ p ∈ rowsLed as bs ++ rest, P p.1) : ∀ a ∈ as, P a := fun a ha => by
  obtain ⟨k, hk, e⟩ := List.getElem_of_mem ha
  exact h _ (List.mem_append_left _ (rowsLed_mem (as := as) (bs := bs) (k := k) (a := a) (b := bs[k]'(by omega)) (by rw [List.getElem?_eq_getElem hk, e]) (List.getElem?_eq_getElem _)))
theorem rows_get {as : List Addr} {bs : List (List Value × Nat)} {rows : List (List Int)} {j : Nat} (hal : as.length = 6) (hRA : RowsAre bs rows) (hrl : ∀ r ∈ rows, r.length ≤ j) (k : Nat) (hk : k < 6) :
    ∃ a b, as[k]? = some a ∧ bs[k]? = some b ∧ IntsAre b.1 (rows.getD k []) ∧ (rows.getD k []).length ≤ j := by
  obtain ⟨h1, h2, h3⟩ := hRA
  refine ⟨as[k], bs[k], List.getElem?_eq_getElem _, List.getElem?_eq_getElem _, ?_, ?_⟩
  · rw [List.getD_eq_getElem?_getD, List.getElem?_eq_getElem (by omega)]
    exact h3 k _ _ (List.getElem?_eq_getElem _) (List.getElem?_eq_getElem (by omega))
  · rw [List.getD_eq_getElem?_getD, List.getElem?_eq_getElem (by omega)]
    exact hrl _ (List.getElem_mem (by omega))
local macro_rules | `(tactic| walk_at "subscriptTail") => `(tactic| (refine Stopped.go ?_))
local macro_rules | `(tactic| walk_at "eval ListComp") => `(tactic| ((with_reducible show wpAny _ _ (eval (Expr.ListComp (Expr.IfExp _ _ _ _) _ _ _) _) _ _ _); refine Stopped.go ?_))
local macro_rules | `(tactic| walk_at "call builtin:sorted") => `(tactic| (refine Stopped.go ?_))
local macro_rules | `(tactic| walk_at "compareOp In") => `(tactic| (refine Stopped.go ?_))
theorem due_tells (w : World) (mean mg mb) (ln : Addr) (nv : List Value) (n1 : Nat) (ns : List Int) (R : List (List Int) × List Int) (news) (h1 : (ln, listOf nv.toArray n1) ∈ news) (hI : IntsAre nv ns) (hnl : ns.length = 5) (hR : dueRows ns (List.replicate 6 []) [] = some R) :
   CallTells w mean mg mb 12 96 111 [.ref ln] news (fun v tl => tl = [] ∧ ∃ srt t, srt.Perm ns ∧ srt.Pairwise (· ≤ ·) ∧ v = .str (toS (dueF R srt)) t) := by
  w_top off
  unfold CallTells
  intro dp un gd cn cs a ccd cl outer A₀ base h₀ L m s Q E B F X N T hg hk hd hu hret
  refine wpAny_call ?_
  k_dflt (refine' code_defC ?k1 ?k2 ?k3 ?k4 ?k5 ?kA ?kF ?kK ?k6 ?k7 ?k8 ?k9 ?kB ?kD ?_ ?c2 ?c3 ?c4; (case kA => exact rfl); (case kF => exact rfl); (case kK => first | exact rfl | assumption); (case k1 => k_asm); (case k2 => k_asm); (case k3 => k_asm); (case k4 => k_asm); (case k5 => k_asm); (case k6 => k_is); (case k7 => k_is); (case k8 => k_room); (case k9 => first | exact BindsTo.of_eq rfl | exact kp_binds (by k_in) (fun _ => rfl) | fail "k_enter: no rule for these arguments"); (case kB => exact rfl); (case kD => decide +kernel); (case c2 => exact rfl); (case c3 => exact rfl); (case c4 => exact rfl); k_whole; intro g' L' h' tk' cells' FG' F' N' Y' B' X' T' l1; (try k_lt l1); k_cells Y'; (try simp only [List.cons_append, List.nil_append] at N'); (try dsimp only); (try k_lift B'); (try k_fold))
  k_steps
  refine Stopped.of ?_
  refine LCg.CompSrc.range (n := 6) (by rfl) (by k_asm) (by k_asm) (by assumption) (by decide) (by decide) (by decide) (fun g => ?_)
  refine kcr_rest (fun v I oI C oC D m₂ ys h tk E' nw hC hx F N off ne => ?_) (fun _ => trivial) (fun as hal hnd hap => ?_)
  · have off0 := off
    k_steps
    · k_asm
    · k_asm
    · exact all4_lt (by assumption) (by assumption)
  · unfold LCg.FinE
    intro D h tk F' N' o1
    rename (∀ p ∈ news, p.1 < _) => l1
    have c1 := cell_off (bs := List.replicate 6 ([], 0)) l1 hap
    have N2 := led_swap N'
    obtain ⟨c2, c3⟩ := off1_swap o1
    dsimp only at c2
    clear N'
    k_steps
    refine Stopped.of ?_
    rename Fr _ _ _ _ => F1
    rename News _ _ _ _ => N1
    rename Obj => oc
    rename_i Dt _ lt1 _
    rename _ = Data.cell (some (Value.ref D)) => dc
    obtain ⟨m0, hE⟩ : ∃ m0, m0 = mapOf F1 := ⟨_, rfl⟩
    obtain ⟨t1, t2, t3⟩ := lt1
    refine For_listF (L := L') F1 rfl (fun j m' nw => ∃ (bs : List (List Value × Nat)) (rows : List (List Int)) (tv : List Value) (told : List Int) (nt : Nat) (K1 K2 K3 : Option Value), nw = (Dt, listOf tv.toArray nt) :: (D, LCg.lst (as.map Value.ref)) :: (L' + 1, oc) :: (rowsLed as bs ++ news) ∧ RowsAre bs rows ∧ (∀ r ∈ rows, r.length ≤ j) ∧ IntsAre tv told ∧ told.length = j ∧ dueRows (ns.drop j) rows told = some R ∧ m' = mDue ln Dt K1 K2 K3 m0) (by rfl) rfl rfl (fun _ => rfl) ?_
    k_steps
    have q1 : ∀ a ∈ as, a ≠ Dt := as_led (P := fun a => a ≠ Dt) (by rw [hal]; rfl) (fun p hp => Nat.ne_of_lt (allLt_mem t3 p hp))
    have q2 : ∀ a ∈ as, a ≠ D := as_led (P := fun a => a ≠ D) (by rw [hal]; rfl) c3
    have q3 : ∀ a ∈ as, a ≠ L' + 1 := as_led (P := fun a => a ≠ L' + 1) (by rw [hal]; rfl) c1
    have dD : D ≠ Dt := Nat.ne_of_lt t1
    have dC : L' + 1 ≠ Dt := Nat.ne_of_lt t2
    have dR : ∀ p ∈ news, p.1 ≠ Dt := fun p hp => Nat.ne_of_lt (allLt_mem t3 p (List.mem_append_right _ hp))
    clear t1 t2 t3
    unfold ListSrc
    refine ⟨ln, nv.toArray, n1, _, _, rfl, (by repeat first | exact h1 | apply List.mem_cons_of_mem | apply List.mem_append_right), fun j m nw hJ => ?_, by k_asm, F1, N1, ⟨List.replicate 6 ([], 0), List.replicate 6 [], [], [], 0, _, _, _, rfl, rowsAre_start, by simp, .nil, rfl, hR, by rw [hE]; exact mDue_start rfl rfl⟩, fun j v m' nw ownL h G tk hv hJ hnm hap2 F2 N2 hg2 => ?_, fun m' nw h G tk hJ hnm F2 N2 hg2 => ?_⟩
    · obtain ⟨bs, rows, tv, told, nt, K1, K2, K3, rfl, -⟩ := hJ
      repeat first | exact h1 | apply List.mem_cons_of_mem | apply List.mem_append_right
    · clear F1 N1 hE
      obtain ⟨bs, rows, tv, told, nt, K1, K2, K3, rfl, hRA, hrl, hTA, htl, hG, rfl⟩ := hJ
      obtain ⟨x, tx, hx, rfl⟩ : ∃ x tx, ns[j]? = some x ∧ v = .int x tx := by
        obtain ⟨x, t, e, hk⟩ := IntsAre.at hI j v (by simpa using hv)
        exact ⟨x, t, hk, e⟩
      simp only [List.cons_append, List.append_assoc] at N2
      k_steps
      refine Stopped.of ?_
      rename Fr _ _ _ _ => F3
      rename News _ _ _ _ => N3
      obtain ⟨a0, b0, ha0, hb0, hI0, hl0⟩ := rows_get hal hRA hrl 0 (by omega)
      refine rows_item (k := 0) N3 (List.mem_cons_of_mem _ List.mem_cons_self) hal ha0 ?_ (by with_unfolding_all rfl) (by intro _; with_unfolding_all rfl)
      k_steps
      refine Stopped.of ?_
      have hj5 : j < 5 := by
        have := (List.getElem?_eq_some_iff.mp hx).1
        omega
      refine CallTells.use (bis_tells w mean mg mb a0 b0.1 b0.2 (rows.getD 0 []) x tx _ (List.mem_cons_of_mem _ (List.mem_cons_of_mem _ (List.mem_cons_of_mem _ (List.mem_append_left _ (rowsLed_mem ha0 hb0))))) hI0 (by omega)) (by k_asm) F3 (by k_asm) N3 (by k_asm) (by k_asm) rfl (by ktr_room) (by ktr_units) ?_
      rintro _ _ h5 G5 tk5 ⟨rfl, t5, rfl⟩ - F5 N5 hg5
      simp only [List.nil_append] at N5
      (try dsimp only)
      clear F3 N3
      k_steps
      refine Stopped.of ?_
      rename Fr _ _ _ _ => F3
      rename News _ _ _ _ => N3
      obtain ⟨r, hr⟩ : ∃ r, ns.drop j = x :: r := ⟨ns.drop (j + 1), by
        have := List.getElem?_eq_some_iff.mp hx
        obtain ⟨h1, h2⟩ := this
        rw [← h2]; exact List.drop_eq_getElem_cons h1⟩
      rw [hr] at hG
      unfold dueRows at hG
      obtain ⟨P, hP, hG⟩ : ∃ P, insGo 7 rows 0 x (bisF (rows.getD 0 []) x) = some P ∧ dueRows r P.1 (told ++ [(P.2 : Int)]) = some R := by
        cases e : insGo 7 rows 0 x (bisF (rows.getD 0 []) x) with
        | none => rw [e] at hG; cases hG
        | some P => rw [e] at hG; exact ⟨P, rfl, hG⟩
      have hro : ∀ a ∈ as, ∀ p ∈ news ++ ownL, p.1 ≠ a := fun a ha p hp => (List.mem_append.mp hp).elim (fun hp => Nat.ne_of_lt (hap a ha p (List.mem_cons_of_mem _ hp))) (fun hp => by
        obtain ⟨k, hk, e⟩ := List.getElem_of_mem ha
        have := rowsLed_mem (as := as) (bs := bs) (k := k) (a := a) (b := bs[k]'(by rw [hRA.1]; omega)) (by rw [List.getElem?_eq_getElem hk, e]) (List.getElem?_eq_getElem _)
        exact Ne.symm (hap2 _ (List.mem_cons_of_mem _ (List.mem_cons_of_mem _ (List.mem_cons_of_mem _ (List.mem_append_left _ this)))) p hp))
      refine While_K (fun f m' nw => ∃ (bs : List (List Value × Nat)) (rows : List (List Int)) (k place : Nat) (xc : Int) (t1 t2 t3 : Tok), nw = (Dt, listOf tv.toArray nt) :: (D, LCg.lst (as.map Value.ref)) :: (L' + 1, oc) :: (rowsLed as bs ++ (news ++ ownL)) ∧ RowsAre bs rows ∧ (∀ r ∈ rows, r.length ≤ j) ∧ k < 6 ∧ insGo f rows k xc place = some P ∧ place ≤ 5 ∧
        m' = mDue ln Dt (some (.int xc t1)) (some (.int ((k : Nat) : Int) t2)) (some (.int ((place : Nat) : Int) t3)) m0) 7 F3 N3 (by k_asm) ?_ (fun f h G tk m' nw hJ F2 N2 hg2 => ?_)
      · exact ⟨bs, rows, 0, _, x, _, _, _, rfl, hRA, hrl, by omega, hP, by have := bisF_le (rows.getD 0 []) x; omega, mDue_all rfl rfl rfl rfl rfl (fun y e1 e2 e3 e4 e5 => by simp only [mDue, e1, e2, e3, e4, e5, if_false])⟩
      clear F3 N3 hP hRA hrl hI0 hl0 ha0 hb0
      obtain ⟨bs, rows, k, place, xc, t1, t2, t3, rfl, hRA, hrl, hk6, hP, hp5, rfl⟩ := hJ
      obtain ⟨f, rfl⟩ : ∃ i, f = i + 1 := by
        cases f with
        | zero => cases hP
        | succ f => exact ⟨f, rfl⟩
      obtain ⟨a1, b1, ha1, hb1, hI1, hl1⟩ := rows_get hal hRA hrl k hk6
      unfold insGo at hP
      k_steps
      refine Stopped.of ?_
      rename Fr _ _ _ _ => F3
      rename News _ _ _ _ => N3
      refine rows_item N3 (List.mem_cons_of_mem _ List.mem_cons_self) hal ha1 ?_ (by with_unfolding_all rfl) (by intro _; with_unfolding_all rfl)
      k_steps
      have hm1 : ∀ X Y Z : Addr × Obj, (a1, listOf b1.1.toArray b1.2) ∈ X :: Y :: Z :: (rowsLed as bs ++ (news ++ ownL)) := fun _ _ _ => List.mem_cons_of_mem _ (List.mem_cons_of_mem _ (List.mem_cons_of_mem _ (List.mem_append_left _ (rowsLed_mem ha1 hb1))))
      refine len_intsN N3 (hm1 _ _ _) hI1 (by omega) ?_
      k_steps
      case' _ => refine Stopped.of ?_
      · have hlt : place < (rows.getD k []).length := by omega
        rw [if_pos hlt] at hP
        obtain ⟨hk1, hP⟩ : k + 1 < 6 ∧ insGo f (rows.set k ((rows.getD k []).set place xc)) (k + 1) ((rows.getD k []).getD place 0) (bisF ((rows.set k ((rows.getD k []).set place xc)).getD (k + 1) []) ((rows.getD k []).getD place 0)) = some P := by
          by_cases e : k + 1 < 6
          · rw [if_pos e] at hP; exact ⟨e, hP⟩
          · rw [if_neg e] at hP; cases hP
        have m1 : a1 ∈ as := List.mem_of_getElem? ha1
        refine rows_item N3 (List.mem_cons_of_mem _ List.mem_cons_self) hal ha1 ?_ (by with_unfolding_all rfl) (by intro _; with_unfolding_all rfl)
        k_steps
        refine Stopped.of ?_
        refine ksa_sub N3 (hm1 _ _ _) hI1 (by omega) (by omega) (by omega) (fun ty => ?_) (by with_unfolding_all rfl)
        rw [Int.toNat_natCast]
        k_steps
        refine Stopped.of ?_
        rename Fr _ _ _ _ => F4
        rename News _ _ _ _ => N4
        refine rows_item N4 (by repeat first | exact List.mem_cons_self | apply List.mem_cons_of_mem) hal ha1 ?_ (by with_unfolding_all rfl) (by intro _; with_unfolding_all rfl)
        k_steps
        have N6 : News g' L' _ ((Dt, listOf tv.toArray nt) :: (D, LCg.lst (as.map Value.ref)) :: (L' + 1, oc) :: (rowsLed as bs ++ (news ++ ownL))) := cb_drop (news' := _ :: _) N4 (fun p hp => List.mem_cons_of_mem _ hp)
        refine ksa_set F4 N6 (Upd.tail (Ne.symm (q1 a1 m1)) (Upd.tail (Ne.symm (q2 a1 m1)) (Upd.tail (Ne.symm (q3 a1 m1)) (rowsLed_upd (b' := (b1.1.set (place : Int).toNat (.int xc t1), b1.2)) hnd (hro a1 m1) ha1 hb1)))) hI1 (by omega) (by omega) (by omega) (fun h7 F7 N7 hi7 hl7 hs7 => ?_)
        clear F4 N4 N6 hs7
        k_steps
        refine Stopped.of ?_
        rename Fr _ _ _ _ => F8
        rename News _ _ _ _ => N8
        have ek : ((k : Int) + 1) = ((k + 1 : Nat) : Int) := by omega
        rw [Int.toNat_natCast] at hi7
        have hRA' := rowsAre_set (k := k) (b' := (b1.1.set (place : Int).toNat (.int xc t1), b1.2)) hRA hi7
        have hrl' : ∀ r ∈ rows.set k ((rows.getD k []).set place xc), r.length ≤ j := fun r hr => by
          rcases List.mem_or_eq_of_mem_set hr with h | rfl
          · exact hrl r h
          · rw [List.length_set]; exact hl1
        obtain ⟨a2, b2, ha2, hb2, hI2, hl2⟩ := rows_get hal hRA' hrl' (k + 1) hk1
        rw [ek]
        refine rows_item N8 (by repeat first | exact List.mem_cons_self | apply List.mem_cons_of_mem) hal ha2 ?_ (by with_unfolding_all rfl) (by intro _; with_unfolding_all rfl)
        k_steps
        refine Stopped.of ?_
        refine CallTells.use (bis_tells w mean mg mb a2 b2.1 b2.2 _ _ ty _ (List.mem_cons_of_mem _ (List.mem_cons_of_mem _ (List.mem_cons_of_mem _ (List.mem_append_left _ (rowsLed_mem ha2 hb2))))) hI2 (by omega)) (by k_asm) F8 (by k_asm) N8 (by k_asm) (by k_asm) rfl (by ktr_room) (by ktr_units) ?_
        rintro _ _ h5 G5 tk5 ⟨rfl, t5, rfl⟩ - F5 N5 hg5
        simp only [List.nil_append] at N5
        (try dsimp only)
        clear F8 N8
        k_steps
        rename Fr _ _ _ _ => FZ
        rename News _ _ _ _ => NZ
        rw [ek] at FZ
        exact WTurn.intro (k := f) (by omega) FZ NZ (by k_asm) ⟨_, _, k + 1, _, _, _, _, _, rfl, hRA', hrl', hk1, hP, by have := bisF_le ((rows.set k ((rows.getD k []).set place xc)).getD (k + 1) []) ((rows.getD k []).getD place 0); omega, mDue_all rfl rfl rfl rfl rfl (fun y e1 e2 e3 e4 e5 => by simp only [mDue, e1, e2, e3, e4, e5, if_false])⟩
      · have hnl : ¬ place < (rows.getD k []).length := by omega
        rw [if_neg hnl] at hP
        have hP := Option.some.inj hP
        subst hP
        refine rows_item N3 (List.mem_cons_of_mem _ List.mem_cons_self) hal ha1 ?_ (by with_unfolding_all rfl) (by intro _; with_unfolding_all rfl)
        k_steps
        have m1 : a1 ∈ as := List.mem_of_getElem? ha1
        refine listMethod_K N3 (hm1 _ _ _) PySem.F.slot_list_append PySem.F.type_list_append ?_
        k_steps
        have U := rowsLed_upd (b' := (b1.1 ++ [Value.int xc t1], b1.2 + 1)) hnd (hro a1 m1) ha1 hb1
        rw [← List.push_toArray] at U
        rename Fr _ _ _ _ => F4
        rename News _ _ _ _ => N4
        refine append_K F4 N4 (Upd.tail (Ne.symm (q1 a1 m1)) (Upd.tail (Ne.symm (q2 a1 m1)) (Upd.tail (Ne.symm (q3 a1 m1)) U))) (fun h7 F7 N7 => ?_) (by rw [List.size_toArray, hI1.length, sizeLine_eq]; omega)
        clear F4 N4 U
        k_steps
        rename Fr _ _ _ _ => F8
        rename News _ _ _ _ => N8
        have hall : ∀ (bs : List (List Value × Nat)), ∀ p ∈ (D, LCg.lst (as.map Value.ref)) :: (L' + 1, oc) :: (rowsLed as bs ++ (news ++ ownL)), p.1 ≠ Dt := fun bs p hp => by
          rcases List.mem_cons.mp hp with rfl | hp
          · exact dD
          rcases List.mem_cons.mp hp with rfl | hp
          · exact dC
          rcases List.mem_append.mp hp with hp | hp
          · exact q1 _ (rowsLed_addr p hp)
          rcases List.mem_append.mp hp with hp | hp
          · exact dR p hp
          · exact Ne.symm (hap2 _ List.mem_cons_self p hp)
        have U2 : ∀ (rest : List (Addr × Obj)), (∀ p ∈ rest, p.1 ≠ Dt) → Upd Dt (listOf tv.toArray nt) (listOf (tv ++ [Value.int ((k : Nat) : Int) t2]).toArray (nt + 1)) ((Dt, listOf tv.toArray nt) :: rest) ((Dt, listOf (tv ++ [Value.int ((k : Nat) : Int) t2]).toArray (nt + 1)) :: rest) := fun rest h => Upd.head h
        have U3 := U2 _ (hall (bs.set k (b1.1 ++ [Value.int xc t1], b1.2 + 1)))
        rw [← List.push_toArray] at U3
        refine append_K F8 N8 U3 (fun h9 F9 N9 => ?_) (by rw [List.size_toArray, hTA.length, sizeLine_eq]; omega)
        clear F8 N8 U2 U3
        k_steps
        have er : ns.drop (j + 1) = r := by rw [← List.tail_drop, hr]; rfl
        rw [List.push_toArray] at N9
        have N10 : News g' L' h9 (((Dt, listOf (tv ++ [Value.int ((k : Nat) : Int) t2]).toArray (nt + 1)) :: (D, LCg.lst (as.map Value.ref)) :: (L' + 1, oc) :: (rowsLed as (bs.set k (b1.1 ++ [Value.int xc t1], b1.2 + 1)) ++ news)) ++ ownL) := by
          simpa only [List.cons_append, List.append_assoc] using N9
        refine FTurn.intro (nw := (Dt, listOf (tv ++ [Value.int ((k : Nat) : Int) t2]).toArray (nt + 1)) :: (D, LCg.lst (as.map Value.ref)) :: (L' + 1, oc) :: (rowsLed as (bs.set k (b1.1 ++ [Value.int xc t1], b1.2 + 1)) ++ news)) F9 N10 ?_ (by k_asm)
          ⟨_, rows.set k (rows.getD k [] ++ [xc]), _, told ++ [(k : Int)], _, _, _, _, rfl, rowsAre_set hRA (ksk_snoc hI1), fun r' hr' => ?_, ksk_snoc hTA, by rw [List.length_append, htl]; rfl, by rw [er]; exact hG, rfl⟩
        · have e1 : (rowsLed as (bs.set k (b1.1 ++ [Value.int xc t1], b1.2 + 1))).map (·.1) = (rowsLed as (List.replicate 6 ([], 0))).map (·.1) := by
            rw [rowsLed_fst (by rw [hal, List.length_set, hRA.1]), rowsLed_fst (by rw [hal]; rfl)]
          simp only [List.map_cons, List.map_append, e1]
        · rcases List.mem_or_eq_of_mem_set hr' with h | rfl
          · have := hrl r' h; omega
          · rw [List.length_append]; simp only [List.length_singleton]; omega
    · obtain ⟨bs, rows, tv, told, nt, K1, K2, K3, rfl, hRA, hrl, hTA, htl, hG, rfl⟩ := hJ
      have hnsz : nv.toArray.size = ns.length := by rw [List.size_toArray]; exact hI.length
      rw [hnsz] at hG hrl htl
      rw [List.drop_length] at hG
      have hG := Option.some.inj hG
      subst hG
      k_steps
      refine Stopped.of ?_
      refine LCg.ListComp_U (F₀ := F2) (by with_unfolding_all rfl) (by decide) (by rfl) (by decide) (by rfl) ?_
      k_steps
      refine Stopped.of ?_
      have hlL : ∀ D1 D2 D3 : Addr × Obj, (ln, listOf nv.toArray n1) ∈ D1 :: D2 :: D3 :: (rowsLed as bs ++ news) := fun _ _ _ => List.mem_cons_of_mem _ (List.mem_cons_of_mem _ (List.mem_cons_of_mem _ (List.mem_append_right _ h1)))
      refine sorted_N F2 N2 ⟨_, (N2 _ (hlL _ _ _)).1, rfl, _, rfl⟩ hI (by rw [hI.length]; omega) (fun h' vs' ns' e' F' N' hI' hp' hs' => ?_)
      k_steps
      refine Stopped.of ?_
      have hns5 : ns'.length = 5 := by rw [hp'.length_eq]; exact hnl
      refine LCg.CompSrc.ledger (by rfl) F' N' List.mem_cons_self (by rw [List.size_toArray, hI'.length, sizeLine_eq]; omega) (fun g => ?_)
      obtain ⟨a0, b0, ha0, hb0, hI0, hl0⟩ := rows_get hal hRA hrl 0 (by omega)
      refine kct_list (fun x => toS [if x ∈ rows.getD 0 [] then 40 else 41]) hI' (fun k t I oI C oC De m₂ ys hE tk E' hk hC hx F N off ne mk => ?_) ?_
      · have off0 := off
        k_steps
        refine Stopped.of ?_
        refine rows_item (k := 0) N (by repeat first | exact List.mem_cons_self | apply List.mem_cons_of_mem) hal ha0 ?_ (by with_unfolding_all rfl) (by intro _; with_unfolding_all rfl)
        k_steps
        refine Stopped.of ?_
        have hm0 : ∀ X1 X2 X3 X4 X5 X6 X7 : Addr × Obj, (a0, listOf b0.1.toArray b0.2) ∈ X1 :: X2 :: X3 :: X4 :: X5 :: X6 :: X7 :: (rowsLed as bs ++ news) := fun _ _ _ _ _ _ _ => by
          have := List.mem_append_left news (rowsLed_mem ha0 hb0)
          repeat first | exact this | apply List.mem_cons_of_mem
        refine in_list_ints ⟨_, (N _ (hm0 _ _ _ _ _ _ _)).1, rfl, _, rfl⟩ hI0 ?_
        k_steps
        · have e1 : Str.ofString "(" = toS [if k ∈ rows.getD 0 [] then 40 else 41] := by
            rw [if_pos (any_in (by assumption))]
            decide +kernel
          exact LCg.CompEnd.intro (by k_asm) (by k_asm) _ (fun _ h => h) off0 (.inr ⟨_, List.mem_cons_self, rfl, _, rfl⟩) ⟨rfl, _, congrArg (fun z => Value.str z _) e1⟩
        · have e1 : Str.ofString ")" = toS [if k ∈ rows.getD 0 [] then 40 else 41] := by
            rw [if_neg (any_out (by assumption))]
            decide +kernel
          exact LCg.CompEnd.intro (by k_asm) (by k_asm) _ (fun _ h => h) off0 (.inr ⟨_, List.mem_cons_self, rfl, _, rfl⟩) ⟨rfl, _, congrArg (fun z => Value.str z _) e1⟩
      · unfold KPfDone
        intro ys hc hl
        unfold LCg.FinE
        intro De hE tk F' N' o1
        k_steps
        refine Stopped.of ?_
        rename News _ _ _ _ => NZ
        refine KT.join_B 8 (News.isList NZ (.head _)) hc (fun k _ => ?_) (by omega) (by decide +kernel) fun t' k => ?_
        · rw [toS_len]; exact Nat.le_of_ble_eq_true rfl
        rw [join_map]
        k_steps
        refine Stopped.of ?_
        refine LCg.ListComp_U (F₀ := by k_asm) (by with_unfolding_all rfl) (by decide) (by rfl) (by decide) (by rfl) ?_
        k_steps
        refine Stopped.of ?_
        rename News _ _ _ _ => NR
        rename IntsAre _ told.reverse => hTR
        refine LCg.CompSrc.ledger (by rfl) (by k_asm) NR List.mem_cons_self (by rw [List.size_toArray, hTR.length, List.length_reverse, htl, sizeLine_eq]; omega) (fun g => ?_)
        refine kct_list (fun x => toS [if x = 0 then 41 else 40]) hTR (fun k t I oI C oC De m₂ ys hE tk E' hk hC hx F N off ne mk => ?_) ?_
        · have off0 := off
          k_steps
          · have e1 : Str.ofString ")" = toS [if k = 0 then 41 else 40] := by
              rw [if_pos (by first | assumption | omega)]
              decide +kernel
            exact LCg.CompEnd.intro (by k_asm) (by k_asm) _ (fun _ h => h) off0 (.inr ⟨_, List.mem_cons_self, rfl, _, rfl⟩) ⟨rfl, _, congrArg (fun z => Value.str z _) e1⟩
          · have e1 : Str.ofString "(" = toS [if k = 0 then 41 else 40] := by
              rw [if_neg (by first | assumption | omega)]
              decide +kernel
            exact LCg.CompEnd.intro (by k_asm) (by k_asm) _ (fun _ h => h) off0 (.inr ⟨_, List.mem_cons_self, rfl, _, rfl⟩) ⟨rfl, _, congrArg (fun z => Value.str z _) e1⟩
        · unfold KPfDone
          intro ys2 hc2 hl2
          unfold LCg.FinE
          intro De2 hE2 tk2 F' N' o2
          k_steps
          refine Stopped.of ?_
          rename News _ _ _ _ => NZ
          refine KT.join_B 8 (News.isList NZ (.head _)) hc2 (fun k _ => ?_) (by rw [List.length_reverse]; omega) (by decide +kernel) fun t2 k => ?_
          · rw [toS_len]; exact Nat.le_of_ble_eq_true rfl
          rw [join_map]
          have lA : (toS (ns'.map fun x => if x ∈ rows.getD 0 [] then 40 else 41)).length ≤ 5 := by rw [toS_len, List.length_map]; omega
          have lB : (toS (told.reverse.map fun x => if x = 0 then 41 else 40)).length ≤ 5 := by rw [toS_len, List.length_map, List.length_reverse]; omega
          k_steps
          rename News h₀ L _ _ => NZ2
          have NF : News h₀ L _ ([] ++ news) := cb_drop NZ2 (fun p hp => by
            have hp : p ∈ news := hp
            repeat first | exact hp | apply List.mem_cons_of_mem | apply List.mem_append_right)
          exact hret _ [] _ _ _ ⟨rfl, ns', _, hp', hs', by rw [toS_add]; rfl⟩ (by simp) (by k_asm) NF (by k_asm)
end
/-- balance of a row of round brackets -/
def balB : List Nat → Int → Bool
  | [], n => n == 0
  | c :: r, n => if c = 40 then balB r (n + 1) else if c = 41 then (if n - 1 < 0 then false else balB r (n - 1)) else balB r n
def Par (l : List Nat) : Prop := ∀ c ∈ l, c = 40 ∨ c = 41
theorem Par.append {a b : List Nat} (ha : Par a) (hb : Par b) : Par (a ++ b) := fun c h => (List.mem_append.mp h).elim (ha c) (hb c)
theorem Par.left {a b : List Nat} (h : Par (a ++ b)) : Par a := fun c hc => h c (List.mem_append_left _ hc)
theorem Par.right {a b : List Nat} (h : Par (a ++ b)) : Par b := fun c hc => h c (List.mem_append_right _ hc)
def posOf : Nat → List Nat → List (Nat × List Nat)
  | _, [] => []
  | i, c :: r => (i, [c]) :: posOf (i + 1) r
theorem esc_pre : ∀ (a r : List Nat) (i : Nat), Par a → escGo i false (a ++ r) = posOf i a ++ escGo (i + a.length) false r
  | [], r, i, _ => by simp [posOf]
  | c :: a, r, i, h => by
    have hc : c ≠ 92 := by rcases h c List.mem_cons_self with e | e <;> omega
    have ih := esc_pre a r (i + 1) fun x hx => h x (List.mem_cons_of_mem _ hx)
    show escGo i false (c :: (a ++ r)) = _
    rw [escGo, if_neg Bool.false_ne_true, if_neg hc, ih, List.length_cons, show i + 1 + a.length = i + (a.length + 1) by omega]
    rfl
theorem esc_par (a : List Nat) (i : Nat) (h : Par a) : escGo i false a = posOf i a := by
  have := esc_pre a [] i h
  rw [List.append_nil] at this
  rw [this]; simp [escGo]
theorem check_pre : ∀ (a : List Nat) (i : Nat) (R : List (Nat × List Nat)) (R' : List Nat) (n : Int), Par a → (∀ n, checkGo R n = balB R' n) → checkGo (posOf i a ++ R) n = balB (a ++ R') n
  | [], _, _, _, _, _, h => h _
  | c :: a, i, R, R', n, hp, h => by
    have ih := fun n => check_pre a (i + 1) R R' n (fun x hx => hp x (List.mem_cons_of_mem _ hx)) h
    show checkGo ((i, [c]) :: (posOf (i + 1) a ++ R)) n = balB (c :: (a ++ R')) n
    rw [checkGo, balB]
    rcases hp c List.mem_cons_self with rfl | rfl
    · simp only [if_true]; exact ih _
    · simp only [show ([41] : List Nat) ≠ [40] by decide, show (41 : Nat) ≠ 40 by decide, if_false, if_true]
      rw [ih]
theorem check_par (a : List Nat) (i : Nat) (n : Int) (h : Par a) : checkGo (posOf i a) n = balB a n := by
  have := check_pre a i [] [] n h (fun n => rfl)
  rwa [List.append_nil, List.append_nil] at this
theorem strip_pre (addr : List Nat) : ∀ (a : List Nat) (i : Nat) (R : List (Nat × List Nat)) (st : Nat) (op : Option Nat) (res : List (List Nat)), Par a → stripGo addr (posOf i a ++ R) st op res = stripGo addr R st op res
  | [], _, _, _, _, _, _ => rfl
  | c :: a, i, R, st, op, res, h => by
    have hc : ([c] : List Nat) ≠ [34] := by
      intro e
      injection e with e
      rcases h c List.mem_cons_self with e' | e' <;> omega
    show stripGo addr ((i, [c]) :: (posOf (i + 1) a ++ R)) st op res = _
    have e : stripGo addr ((i, [c]) :: (posOf (i + 1) a ++ R)) st op res = stripGo addr (posOf (i + 1) a ++ R) st op res := by
      cases op <;> simp only [stripGo, if_neg hc]
    rw [e]
    exact strip_pre addr a (i + 1) R st op res fun x hx => h x (List.mem_cons_of_mem _ hx)
theorem strip_par (addr a : List Nat) (i : Nat) (st : Nat) (op : Option Nat) (res : List (List Nat)) (h : Par a) : stripGo addr (posOf i a) st op res = (st, op, res) := by
  have := strip_pre addr a i [] st op res h
  rw [List.append_nil] at this
  rw [this]; rfl
theorem par_not {a : List Nat} (h : Par a) : 34 ∉ a := fun hm => by rcases h _ hm with e | e <;> omega
/-- the hidden pieces, and what the strip leaves of them -/
def hidL : List (List Nat) := [[92, 41], [34, 40, 34], [92, 40], [92, 34], [92, 92]]
def hidS (H : List Nat) : List Nat := if H = [34, 40, 34] then [] else H
theorem strip_hid {H pre post : List Nat} (hH : H = [] ∨ H ∈ hidL) (h1 : Par pre) (h2 : Par post) : stripL (pre ++ H ++ post) = pre ++ hidS H ++ post := by
  have n1 := par_not h1
  have n2 := par_not h2
  unfold stripL
  rcases hH with rfl | hH
  · rw [if_neg (by simp [n1, n2])]; rfl
  · simp only [hidL, List.mem_cons, List.not_mem_nil, or_false] at hH
    rcases hH with rfl | rfl | rfl | rfl | rfl
    · rw [if_neg (by simp [n1, n2])]; rfl
    · rw [if_pos (by simp)]
      have e : escGo 0 false (pre ++ [34, 40, 34] ++ post) = posOf 0 pre ++ ((pre.length, [34]) :: (pre.length + 1, [40]) :: (pre.length + 2, [34]) :: posOf (pre.length + 3) post) := by
        rw [List.append_assoc, esc_pre _ _ _ h1]
        simp only [List.cons_append, List.nil_append, escGo, Nat.zero_add, if_neg Bool.false_ne_true, show (34 : Nat) ≠ 92 by decide, show (40 : Nat) ≠ 92 by decide, if_false]
        rw [esc_par _ _ h2]
      simp only [e, strip_pre _ _ _ _ _ _ _ h1]
      simp only [stripGo, if_true, show ([40] : List Nat) ≠ [34] by decide, if_false]
      have t1 : ((pre ++ [34, 40, 34] ++ post).take pre.length).drop 0 = pre := by simp
      have t2 : (pre ++ [34, 40, 34] ++ post).drop (pre.length + 2 + 1) = post := by
        rw [List.drop_append, List.drop_of_length_le (by simp)]; simp
      have t3 : (pre ++ [34, 40, 34] ++ post).length = pre.length + 3 + post.length := by simp; omega
      by_cases h0 : 0 ≠ pre.length
      · rw [if_pos h0, strip_par _ _ _ _ _ _ h2]
        simp only [t1, t2, t3]
        split
        · simp [hidS]
        · have : post = [] := List.eq_nil_of_length_eq_zero (by omega)
          subst this; simp [hidS]
      · rw [if_neg h0, strip_par _ _ _ _ _ _ h2]
        have : pre = [] := List.eq_nil_of_length_eq_zero (by omega)
        subst this
        simp only [t2, t3]
        split
        · simp [hidS]
        · have : post = [] := List.eq_nil_of_length_eq_zero (by omega)
          subst this; simp [hidS]
    · rw [if_neg (by simp [n1, n2])]; rfl
    · rw [if_pos (by simp)]
      have e : escGo 0 false (pre ++ [92, 34] ++ post) = posOf 0 pre ++ ((pre.length + 1, [92, 34]) :: posOf (pre.length + 2) post) := by
        rw [List.append_assoc, esc_pre _ _ _ h1]
        simp only [List.cons_append, List.nil_append, escGo, Nat.zero_add, if_neg Bool.false_ne_true, if_true]
        rw [esc_par _ _ h2]
      simp only [e, strip_pre _ _ _ _ _ _ _ h1]
      simp only [stripGo, show ([92, 34] : List Nat) ≠ [34] by decide, if_false]
      rw [strip_par _ _ _ _ _ _ h2]
      simp [hidS]
    · rw [if_neg (by simp [n1, n2])]; rfl
/-- the pieces behind the strip -/
theorem esc_hid {H pre post : List Nat} (hH : H = [] ∨ H ∈ hidL) (h1 : Par pre) (h2 : Par post) :
    ∃ i j, escGo 0 false (pre ++ hidS H ++ post) = posOf 0 pre ++ ((if hidS H = [] then [] else [(i, hidS H)]) ++ posOf j post) := by
  rw [List.append_assoc, esc_pre _ _ _ h1]
  rcases hH with rfl | hH
  · exact ⟨0, _, by rw [show hidS [] = [] from rfl, List.nil_append, esc_par _ _ h2]; rfl⟩
  · simp only [hidL, List.mem_cons, List.not_mem_nil, or_false] at hH
    rcases hH with rfl | rfl | rfl | rfl | rfl
    · exact ⟨_, _, by simp only [show hidS [92, 41] = [92, 41] from rfl, List.cons_append, List.nil_append, escGo, if_neg Bool.false_ne_true, if_true]; rw [esc_par _ _ h2]; rfl⟩
    · exact ⟨0, _, by rw [show hidS [34, 40, 34] = [] from rfl, List.nil_append, esc_par _ _ h2]; rfl⟩
    · exact ⟨_, _, by simp only [show hidS [92, 40] = [92, 40] from rfl, List.cons_append, List.nil_append, escGo, if_neg Bool.false_ne_true, if_true]; rw [esc_par _ _ h2]; rfl⟩
    · exact ⟨_, _, by simp only [show hidS [92, 34] = [92, 34] from rfl, List.cons_append, List.nil_append, escGo, if_neg Bool.false_ne_true, if_true]; rw [esc_par _ _ h2]; rfl⟩
    · exact ⟨_, _, by simp only [show hidS [92, 92] = [92, 92] from rfl, List.cons_append, List.nil_append, escGo, if_neg Bool.false_ne_true, if_true]; rw [esc_par _ _ h2]; rfl⟩
theorem hid_piece {H : List Nat} (hH : H = [] ∨ H ∈ hidL) : hidS H ≠ [40] ∧ hidS H ≠ [41] := by
  rcases hH with rfl | hH
  · exact ⟨by decide, by decide⟩
  · simp only [hidL, List.mem_cons, List.not_mem_nil, or_false] at hH
    rcases hH with rfl | rfl | rfl | rfl | rfl <;> exact ⟨by decide, by decide⟩
theorem check_hid {H pre post : List Nat} (hH : H = [] ∨ H ∈ hidL) (h1 : Par pre) (h2 : Par post) : checkF (toS (pre ++ H ++ post)) = balB (pre ++ post) 0 := by
  unfold checkF escOf stripF
  show checkGo (escGo 0 false (stripL (pre ++ H ++ post).toArray.toList).toArray.toList) 0 = _
  rw [List.toList_toArray, List.toList_toArray, strip_hid hH h1 h2]
  obtain ⟨i, j, e⟩ := esc_hid hH h1 h2
  rw [e]
  refine check_pre _ _ _ _ _ h1 fun n => ?_
  obtain ⟨p1, p2⟩ := hid_piece hH
  split
  · exact check_par _ _ _ h2
  · show checkGo ((i, hidS H) :: posOf j post) n = _
    rw [checkGo, if_neg p1, if_neg p2]
    exact check_par _ _ _ h2
theorem posOf_snd : ∀ (a : List Nat) (i : Nat), (posOf i a).map (·.2) = a.map fun c => [c]
  | [], _ => rfl
  | c :: a, i => by show _ :: _ = _ :: _; rw [posOf_snd a]
/-- the pieces that the law tells -/
def piecesF (T : List Nat) : List (List Nat) := (escOf (stripF (toS T))).map (·.2)
theorem pieces_hid {H pre post : List Nat} (hH : H = [] ∨ H ∈ hidL) (h1 : Par pre) (h2 : Par post) :
    piecesF (pre ++ H ++ post) = pre.map (fun c => [c]) ++ ((if hidS H = [] then [] else [hidS H]) ++ post.map fun c => [c]) := by
  unfold piecesF escOf stripF
  show (escGo 0 false (stripL (pre ++ H ++ post).toArray.toList).toArray.toList).map (·.2) = _
  rw [List.toList_toArray, List.toList_toArray, strip_hid hH h1 h2]
  obtain ⟨i, j, e⟩ := esc_hid hH h1 h2
  rw [e, List.map_append, List.map_append, posOf_snd, posOf_snd]
  congr 2
  split <;> rfl
/-- a stretch of the row with its riders -/
theorem text_off {row rid : List (List Nat)} {b : Nat} : ∀ n, (∀ i, b ≤ i → i < b + n → rid.getD i [] = []) → textF row rid b n = textF row [] b n := fun n h => by
  unfold textF
  congr 1
  refine List.map_congr_left fun i hi => ?_
  rw [List.mem_range] at hi
  rw [h (b + i) (by omega) (by omega)]
  rfl
theorem text_snoc (row rid : List (List Nat)) (b n : Nat) : textF row rid b (n + 1) = textF row rid b n ++ (row.getD (b + n) [] ++ rid.getD (b + n) []) := by
  unfold textF
  rw [List.range_succ, List.map_append, List.flatten_append]; simp
theorem text_par {row : List (List Nat)} {b : Nat} (hr : ∀ l ∈ row, Par l) (n : Nat) : Par (textF row [] b n) := fun c hc => by
  unfold textF at hc
  obtain ⟨l, hl, hc⟩ := List.mem_flatten.mp hc
  obtain ⟨i, -, rfl⟩ := List.mem_map.mp hl
  rw [show ([] : List (List Nat)).getD (b + i) [] = [] by simp, List.append_nil, List.getD_eq_getElem?_getD] at hc
  cases q : row[b + i]? with
  | none => rw [q] at hc; cases hc
  | some l => rw [q] at hc; exact hr l (List.mem_of_getElem? q) c hc
theorem text_seg {row rid : List (List Nat)} {b q : Nat} {H : List Nat} (hr : ∀ l ∈ row, Par l) (hq : rid.getD q [] = H) (ho : ∀ i, i ≠ q → rid.getD i [] = []) :
    ∀ n, ∃ H' pre post, (H' = [] ∨ H' = H) ∧ Par pre ∧ Par post ∧ textF row rid b n = pre ++ H' ++ post ∧ pre ++ post = textF row [] b n := by
  intro n
  by_cases hin : b ≤ q ∧ q < b + n
  · obtain ⟨k, hk⟩ : ∃ k, n = (q - b) + 1 + k := ⟨n - (q - b) - 1, by omega⟩
    have key : ∀ k, ∃ pre post, Par pre ∧ Par post ∧ textF row rid b ((q - b) + 1 + k) = pre ++ H ++ post ∧ pre ++ post = textF row [] b ((q - b) + 1 + k) := by
      intro k
      induction k with
      | zero =>
        have e1 := text_off (row := row) (rid := rid) (b := b) (q - b) fun i h1 h2 => ho i (by omega)
        refine ⟨textF row [] b (q - b + 1), [], text_par hr _, fun _ h => (nomatch h), ?_, by simp⟩
        rw [Nat.add_zero, text_snoc, text_snoc, e1, show b + (q - b) = q by omega, hq]
        simp
      | succ k ih =>
        obtain ⟨pre, post, h1, h2, h3, h4⟩ := ih
        have hg : Par (row.getD (b + (q - b + 1 + k)) []) := by
          rw [List.getD_eq_getElem?_getD]
          cases e : row[b + (q - b + 1 + k)]? with
          | none => exact fun _ h => (nomatch h)
          | some l => exact hr l (List.mem_of_getElem? e)
        refine ⟨pre, post ++ row.getD (b + (q - b + 1 + k)) [], h1, h2.append hg, ?_, ?_⟩
        · rw [show q - b + 1 + (k + 1) = (q - b + 1 + k) + 1 by omega, text_snoc, h3, ho _ (by omega)]; simp
        · rw [show q - b + 1 + (k + 1) = (q - b + 1 + k) + 1 by omega, text_snoc, ← h4]; simp
    subst hk
    obtain ⟨pre, post, h⟩ := key k
    exact ⟨H, pre, post, .inr rfl, h⟩
  · refine ⟨[], textF row [] b n, [], .inl rfl, text_par hr n, fun _ h => (nomatch h), ?_, by simp⟩
    rw [text_off n fun i h1 h2 => ho i fun e => hin (by omega)]
    simp
/-- a rider does not change what the reader of brackets says -/
theorem check_text {row rid : List (List Nat)} {b q n : Nat} {H : List Nat} (hr : ∀ l ∈ row, Par l) (hq : rid.getD q [] = H) (ho : ∀ i, i ≠ q → rid.getD i [] = []) (hH : H = [] ∨ H ∈ hidL) :
    checkF (toS (textF row rid b n)) = balB (textF row [] b n) 0 := by
  obtain ⟨H', pre, post, h1, h2, h3, h4, h5⟩ := text_seg (b := b) hr hq ho n
  rw [h4, ← h5]
  refine check_hid ?_ h2 h3
  rcases h1 with rfl | rfl
  · exact .inl rfl
  · exact hH

/-- v rises on 0..4 -/
def Rises (v : Int → Int) : Prop := ∀ a b, 0 ≤ a → a < b → b ≤ 4 → v a < v b
def In5 (l : List Int) : Prop := ∀ x ∈ l, 0 ≤ x ∧ x ≤ 4
theorem Rises.lt_iff {v : Int → Int} (h : Rises v) {a b : Int} (ha : 0 ≤ a ∧ a ≤ 4) (hb : 0 ≤ b ∧ b ≤ 4) : v a < v b ↔ a < b := by
  constructor
  · intro hv
    rcases Int.lt_trichotomy a b with e | e | e
    · exact e
    · subst e; exact absurd hv (Int.lt_irrefl _)
    · have := h b a hb.1 e ha.2; omega
  · exact fun e => h a b ha.1 e hb.2
theorem Rises.inj {v : Int → Int} (h : Rises v) {a b : Int} (ha : 0 ≤ a ∧ a ≤ 4) (hb : 0 ≤ b ∧ b ≤ 4) : v a = v b ↔ a = b := by
  have := h.lt_iff ha hb
  have := h.lt_iff hb ha
  constructor
  · intro e; omega
  · rintro rfl; rfl
theorem getD_map {α β : Type} {v : α → β} {l : List α} {k : Nat} {d : β} {d' : α} (h : k < l.length) : (l.map v).getD k d = v (l.getD k d') := by
  rw [List.getD_eq_getElem?_getD, List.getD_eq_getElem?_getD, List.getElem?_map, List.getElem?_eq_getElem h]; rfl
theorem in5_getD {l : List Int} (h : In5 l) (k : Nat) : 0 ≤ l.getD k 0 ∧ l.getD k 0 ≤ 4 := by
  rw [List.getD_eq_getElem?_getD]
  cases e : l[k]? with
  | none => decide
  | some x => exact h x (List.mem_of_getElem? e)
theorem in5_set {l : List Int} {k : Nat} {x : Int} (h : In5 l) (hx : 0 ≤ x ∧ x ≤ 4) : In5 (l.set k x) := fun y hy => by
  rcases List.mem_or_eq_of_mem_set hy with h' | rfl
  · exact h y h'
  · exact hx
theorem falls_map {v : Int → Int} (hv : Rises v) {l : List Int} (hl : l.length = 5) (h : In5 l) : fallsF (l.map v) = fallsF l := by
  have step : ∀ (k : Int) (acc : List Int), 0 ≤ k → k < 4 → fallsG (l.map v) acc k = fallsG l acc k := fun k acc h0 h4 => by
    unfold fallsG
    rw [getD_map (d' := 0) (by omega), getD_map (d' := 0) (by omega)]
    have e := hv.lt_iff (in5_getD h k.toNat) (in5_getD h (k + 1).toNat)
    split <;> split <;> first | rfl | omega
  have e : rangeKs 0 4 = [0, 1, 2, 3] := by decide
  unfold fallsF
  rw [e]
  simp only [List.foldl_cons, List.foldl_nil]
  rw [step 0 _ (by decide) (by decide), step 1 _ (by decide) (by decide), step 2 _ (by decide) (by decide), step 3 _ (by decide) (by decide)]
theorem swap_map {v : Int → Int} {l : List Int} {k : Nat} (hl : l.length = 5) (hk : k < 4) : swapF (l.map v) k = (swapF l k).map v := by
  unfold swapF
  rw [getD_map (d' := 0) (by omega), getD_map (d' := 0) (by omega), List.map_set, List.map_set]
theorem swap_in5 {l : List Int} {k : Nat} (h : In5 l) : In5 (swapF l k) := in5_set (in5_set h (in5_getD h _)) (in5_getD h _)
theorem swap_len {l : List Int} {k : Nat} : (swapF l k).length = l.length := by unfold swapF; rw [List.length_set, List.length_set]
theorem hook_map {v : Int → Int} (hv : Rises v) (rid : List (List Nat)) (side : Nat) : ∀ (f : Nat) (l : List Int) (row : List (List Nat)), l.length = 5 → In5 l → hookGo rid side f (l.map v) row = hookGo rid side f l row
  | 0, _, _, _, _ => rfl
  | f + 1, l, row, hl, h => by
    rw [hookGo, hookGo, falls_map hv hl h]
    by_cases e : fallsF l = []
    · rw [if_pos e, if_pos e]
    · rw [if_neg e, if_neg e]
      have hk := pick_lt (side := side) e (falls_mem l)
      rw [swap_map hl hk]
      cases mateF row rid (pickF side (fallsF l)) with
      | none => rfl
      | some one =>
        cases mateF row rid (pickF side (fallsF l) + 1) with
        | none => rfl
        | some other =>
          dsimp only
          rw [hook_map hv rid side f _ _ (by rw [swap_len, hl]) (swap_in5 h)]
/-- riders do not change the mates -/
structure Riders (rid : List (List Nat)) (q : Nat) (H : List Nat) : Prop where
  at' : rid.getD q [] = H
  off : ∀ i, i ≠ q → rid.getD i [] = []
  hid : H = [] ∨ H ∈ hidL
theorem riders_nil : Riders [] 0 [] := ⟨rfl, fun _ _ => rfl, .inl rfl⟩
theorem mate_riders {row rid : List (List Nat)} {q : Nat} {H : List Nat} (hr : ∀ l ∈ row, Par l) (hd : Riders rid q H) (place : Nat) : mateF row rid place = mateF row [] place := by
  have ck : ∀ b n, checkF (toS (textF row rid b n)) = checkF (toS (textF row [] b n)) := fun b n => by
    rw [check_text hr hd.at' hd.off hd.hid, check_text hr riders_nil.at' riders_nil.off riders_nil.hid]
  have up : ∀ f size, mateUp row rid place f size = mateUp row [] place f size := by
    intro f
    induction f with
    | zero => intro _; rfl
    | succ f ih => intro size; rw [mateUp, mateUp, ck, ih]
  have down : ∀ f size, mateDown row rid place f size = mateDown row [] place f size := by
    intro f
    induction f with
    | zero => intro _; rfl
    | succ f ih => intro size; rw [mateDown, mateDown, ck, ih]
  unfold mateF
  rw [up, down]
theorem par_set {row : List (List Nat)} {k : Nat} {l : List Nat} (hr : ∀ l ∈ row, Par l) (hl : Par l) : ∀ x ∈ row.set k l, Par x := fun x hx => by
  rcases List.mem_or_eq_of_mem_set hx with h | rfl
  · exact hr x h
  · exact hl
theorem par40 : Par [40] := fun c h => .inl (List.mem_singleton.mp h)
theorem par41 : Par [41] := fun c h => .inr (List.mem_singleton.mp h)
theorem hook_riders {rid : List (List Nat)} {q : Nat} {H : List Nat} (hd : Riders rid q H) (side : Nat) : ∀ (f : Nat) (l : List Int) (row : List (List Nat)), (∀ l ∈ row, Par l) → hookGo rid side f l row = hookGo [] side f l row
  | 0, _, _, _ => rfl
  | f + 1, l, row, hr => by
    rw [hookGo, hookGo, mate_riders hr hd, mate_riders hr hd]
    cases mateF row [] (pickF side (fallsF l)) with
    | none => rfl
    | some one =>
      cases mateF row [] (pickF side (fallsF l) + 1) with
      | none => rfl
      | some other =>
        dsimp only
        rw [hook_riders hd side f _ (hookRow row (pickF side (fallsF l)) one other) (by unfold hookRow; exact par_set (par_set (par_set (par_set hr par40) par41) par40) par41)]
/-- bisect by ranks -/
theorem bis_map {v : Int → Int} (hv : Rises v) {l : List Int} (h : In5 l) {x : Int} (hx : 0 ≤ x ∧ x ≤ 4) : bisF (l.map v) (v x) = bisF l x := by
  have go : ∀ f lo hi, hi ≤ l.length → bisGo (l.map v) (v x) f lo hi = bisGo l x f lo hi := by
    intro f
    induction f with
    | zero => intros; rfl
    | succ f ih =>
      intro lo hi hh
      rw [bisGo, bisGo]
      by_cases e : lo < hi
      · rw [if_pos e, if_pos e, getD_map (d' := 0) (by omega)]
        have e2 := hv.lt_iff hx (in5_getD h ((lo + hi) / 2))
        rw [ih lo _ (by omega), ih _ hi hh]
        split <;> split <;> first | rfl | omega
      · rw [if_neg e, if_neg e]
  unfold bisF
  rw [List.length_map]
  exact go _ _ _ (Nat.le_refl _)

def opAt (code k : Int) : List Nat := opsL.getD (code.fmod 5 + (1 + (code.fdiv 5).fmod 6) * k).toNat []
def ords : List (List Int) := [[0,1,2,3,4],[0,1,2,4,3],[0,1,3,2,4],[0,1,3,4,2],[0,1,4,2,3],[0,2,1,3,4],[0,2,1,4,3],[0,2,3,1,4],[0,2,3,4,1],[0,2,4,1,3],[0,3,1,2,4],[0,3,1,4,2],[0,3,4,1,2],[0,4,1,2,3],[1,0,2,3,4],[1,0,2,4,3],[1,0,3,2,4],[1,0,3,4,2],[1,0,4,2,3],[1,2,0,3,4],[1,2,0,4,3],[1,2,3,0,4],[1,2,3,4,0],[1,2,4,0,3],[1,3,0,2,4],[1,3,0,4,2],[1,3,4,0,2],[1,4,0,2,3],[2,0,1,3,4],[2,0,1,4,3],[2,0,3,1,4],[2,0,3,4,1],[2,0,4,1,3],[2,3,0,1,4],[2,3,0,4,1],[2,3,4,0,1],[2,4,0,1,3],[3,0,1,2,4],[3,0,1,4,2],[3,0,4,1,2],[3,4,0,1,2],[4,0,1,2,3]]
theorem ord_in (c : Int) (h0 : 0 ≤ c) (h1 : c < 1024) : (ordDn c 5).2 ∈ ords := by
  obtain ⟨n, rfl⟩ : ∃ n : Nat, c = n := ⟨c.toNat, by omega⟩
  have key : ∀ n : Fin 1024, (ordDn ((n.val : Nat) : Int) 5).2 ∈ ords := by decide +kernel
  exact key ⟨n, by omega⟩
theorem ord_ok : ∀ l ∈ ords, l.length = 5 ∧ ∀ x ∈ l, 0 ≤ x ∧ x ≤ 4 := by decide +kernel
theorem ord_op {code k : Int} (hk : 0 ≤ k ∧ k ≤ 4) : 0 ≤ code.fmod 5 + (1 + (code.fdiv 5).fmod 6) * k ∧ code.fmod 5 + (1 + (code.fdiv 5).fmod 6) * k < 29 := by
  have a := Int.fmod_nonneg_of_pos code (by decide : (0 : Int) < 5)
  have b := Int.fmod_lt_of_pos code (by decide : (0 : Int) < 5)
  have c := Int.fmod_nonneg_of_pos (code.fdiv 5) (by decide : (0 : Int) < 6)
  have d := Int.fmod_lt_of_pos (code.fdiv 5) (by decide : (0 : Int) < 6)
  generalize code.fmod 5 = p at *
  generalize (code.fdiv 5).fmod 6 = q at *
  have hq : q = 0 ∨ q = 1 ∨ q = 2 ∨ q = 3 ∨ q = 4 ∨ q = 5 := by omega
  rcases hq with rfl | rfl | rfl | rfl | rfl | rfl <;> omega

def tokK : List (List Nat) := tokC.map (·.1.cps.toList)
theorem has_iff (l : List Nat) : kdpHas tokC (toS l) = true ↔ l ∈ tokK := by
  unfold kdpHas tokK
  rw [List.any_eq_true, List.mem_map]
  constructor
  · rintro ⟨p, hp, e⟩
    exact ⟨p, hp, by rw [of_decide_eq_true e]⟩
  · rintro ⟨p, hp, rfl⟩
    exact ⟨p, hp, decide_eq_true (by cases h : p.1; simp [toS])⟩
theorem ops_ok : ∀ op ∈ opsL, op ∈ tokK ∧ op ≠ [] ∧ op.length ≤ 3 ∧ ∀ key ∈ tokK, op.isPrefixOf key = true → key = op := by decide +kernel
theorem cut_step {op : List Nat} (ho : op ∈ opsL) (rest : List Nat) : ∀ n, op.length ≤ n → ∃ z, cutSize (op ++ rest) n = some z ∧ (op ++ rest).take z = op ∧ (op ++ rest).drop z = rest := by
  obtain ⟨h1, h2, h3, h4⟩ := ops_ok op ho
  intro n
  induction n with
  | zero => intro h; exact absurd (List.eq_nil_of_length_eq_zero (Nat.le_zero.mp h)) h2
  | succ n ih =>
    intro hn
    unfold cutSize
    by_cases hk : kdpHas tokC (toS ((op ++ rest).take (n + 1))) = true
    · rw [if_pos hk]
      have hm := (has_iff _).mp hk
      have hp : op.isPrefixOf ((op ++ rest).take (n + 1)) = true := by
        rw [List.isPrefixOf_iff_prefix, List.take_append]
        exact ⟨rest.take (n + 1 - op.length), by rw [List.take_of_length_le hn]⟩
      have e := h4 _ hm hp
      refine ⟨n + 1, rfl, e, ?_⟩
      have e2 := List.take_append_drop (n + 1) (op ++ rest)
      rw [e] at e2
      exact List.append_cancel_left e2
    · rw [if_neg hk]
      refine ih ?_
      rcases Nat.lt_or_ge op.length (n + 1) with h | h
      · omega
      · have : op.length = n + 1 := by omega
        exfalso
        apply hk
        rw [← this, List.take_left]
        exact (has_iff _).mpr h1
/-- the numbers of the operators -/
def numAt (code k : Int) : Int := kdpLook tokC (toS (opAt code k)) 0
theorem op_in {code k : Int} (hk : 0 ≤ k ∧ k ≤ 4) : opAt code k ∈ opsL := by
  have := ord_op (code := code) hk
  unfold opAt
  have hl : opsL.length = 29 := by decide +kernel
  have hlt : (code.fmod 5 + (1 + (code.fdiv 5).fmod 6) * k).toNat < opsL.length := by rw [hl]; omega
  rw [List.getD_eq_getElem?_getD, List.getElem?_eq_getElem hlt]
  exact List.getElem_mem hlt
theorem op_len {code k : Int} (hk : 0 ≤ k ∧ k ≤ 4) : (opAt code k).length ≤ 3 := (ops_ok _ (op_in hk)).2.2.1
theorem cut_all (code : Int) : ∀ (ks : List Int) (f : Nat), ks.length < f → In5 ks → cutGo f (ks.map (opAt code)).flatten = some (ks.map (numAt code))
  | [], f + 1, _, _ => by unfold cutGo; rfl
  | k :: ks, f + 1, hf, h5 => by
    have hk := h5 k List.mem_cons_self
    have ho := op_in (code := code) hk
    have ih := cut_all code ks f (by simpa using hf) fun x hx => h5 x (List.mem_cons_of_mem _ hx)
    obtain ⟨z, e1, e2, e3⟩ := cut_step ho (ks.map (opAt code)).flatten 3 (ops_ok _ ho).2.2.1
    rw [List.map_cons, List.flatten_cons]
    unfold cutGo
    have hne : opAt code k ++ (ks.map (opAt code)).flatten ≠ [] := fun e => (ops_ok _ ho).2.1 (List.append_eq_nil_iff.mp e).1
    rw [if_neg hne, e1]
    show (cutGo f ((opAt code k ++ (ks.map (opAt code)).flatten).drop z)).map (kdpLook tokC (toS ((opAt code k ++ (ks.map (opAt code)).flatten).take z)) 0 :: ·) = _
    rw [e2, e3, ih]
    rfl
theorem text_len5 {code : Int} : ∀ {ks : List Int}, In5 ks → (ks.map (opAt code)).flatten.length ≤ 3 * ks.length
  | [], _ => by simp
  | k :: ks, h5 => by
    have := op_len (code := code) (h5 k List.mem_cons_self)
    have := text_len5 (code := code) (ks := ks) fun x hx => h5 x (List.mem_cons_of_mem _ hx)
    rw [List.map_cons, List.flatten_cons, List.length_append, List.length_cons]
    omega
theorem nums_rise : (opsL.map fun o => kdpLook tokC (toS o) 0).Pairwise (· < ·) := by decide +kernel
theorem num_rises (code : Int) : Rises (numAt code) := by
  intro a b ha hab hb
  have ia := ord_op (code := code) (k := a) ⟨ha, by omega⟩
  have ib := ord_op (code := code) (k := b) ⟨by omega, hb⟩
  have hs := Int.fmod_nonneg_of_pos (code.fdiv 5) (by decide : (0 : Int) < 6)
  have hlt : code.fmod 5 + (1 + (code.fdiv 5).fmod 6) * a < code.fmod 5 + (1 + (code.fdiv 5).fmod 6) * b := Int.add_lt_add_left (Int.mul_lt_mul_of_pos_left hab (by omega)) _
  unfold numAt opAt
  generalize code.fmod 5 + (1 + (code.fdiv 5).fmod 6) * a = i at *
  generalize code.fmod 5 + (1 + (code.fdiv 5).fmod 6) * b = j at *
  have hl : opsL.length = 29 := by decide +kernel
  have h := List.pairwise_iff_getElem.mp nums_rise i.toNat j.toNat (by rw [List.length_map, hl]; omega) (by rw [List.length_map, hl]; omega) (by omega)
  rw [List.getElem_map, List.getElem_map] at h
  rw [List.getD_eq_getElem?_getD, List.getD_eq_getElem?_getD, List.getElem?_eq_getElem (by rw [hl]; omega), List.getElem?_eq_getElem (by rw [hl]; omega)]
  exact h
/-- sorting the numbers -/
theorem perm_sorted_eq {a b : List Int} (hp : a.Perm b) (ha : a.Pairwise (· ≤ ·)) (hb : b.Pairwise (· ≤ ·)) : a = b := by
  exact hp.eq_of_pairwise (fun _ _ _ _ h1 h2 => Int.le_antisymm h1 h2) ha hb
theorem ords_perm : ∀ l ∈ ords, l.Perm [0, 1, 2, 3, 4] := by decide +kernel
theorem sort_is {v : Int → Int} (hv : Rises v) {ord srt : List Int} (ho : ord ∈ ords) (hp : srt.Perm (ord.map v)) (hs : srt.Pairwise (· ≤ ·)) : srt = [v 0, v 1, v 2, v 3, v 4] := by
  have h := hp.trans ((ords_perm ord ho).map v)
  refine perm_sorted_eq h hs ?_
  have a := hv 0 1 (by decide) (by decide) (by decide)
  have b := hv 1 2 (by decide) (by decide) (by decide)
  have c := hv 2 3 (by decide) (by decide) (by decide)
  have d := hv 3 4 (by decide) (by decide) (by decide)
  simp only [List.map_cons, List.map_nil, List.pairwise_cons, List.mem_cons, List.not_mem_nil, or_false, forall_eq_or_imp, forall_eq, false_implies, implies_true, and_true, List.Pairwise.nil]
  omega
theorem ranks_back {v : Int → Int} {ord : List Int} (h5 : In5 ord) : (ord.map fun k => ([v 0, v 1, v 2, v 3, v 4] : List Int).getD k.toNat 0) = ord.map v := by
  refine List.map_congr_left fun k hk => ?_
  have := h5 k hk
  have hk' : k = 0 ∨ k = 1 ∨ k = 2 ∨ k = 3 ∨ k = 4 := by omega
  rcases hk' with rfl | rfl | rfl | rfl | rfl <;> rfl

def In55 (rows : List (List Int)) : Prop := ∀ r ∈ rows, In5 r
theorem in55_get {rows : List (List Int)} (h : In55 rows) (k : Nat) : In5 (rows.getD k []) := by
  rw [List.getD_eq_getElem?_getD]
  cases e : rows[k]? with
  | none => exact fun _ h => (nomatch h)
  | some r => exact h r (List.mem_of_getElem? e)
theorem in55_set {rows : List (List Int)} {k : Nat} {r : List Int} (h : In55 rows) (hr : In5 r) : In55 (rows.set k r) := fun x hx => by
  rcases List.mem_or_eq_of_mem_set hx with h' | rfl
  · exact h x h'
  · exact hr
theorem rows_map_get (v : Int → Int) (rows : List (List Int)) (k : Nat) : (rows.map (List.map v)).getD k [] = (rows.getD k []).map v := by
  rw [List.getD_eq_getElem?_getD, List.getD_eq_getElem?_getD, List.getElem?_map]
  cases rows[k]? <;> rfl
theorem ins_map {v : Int → Int} (hv : Rises v) : ∀ (f : Nat) (rows : List (List Int)) (k : Nat) (x : Int) (place : Nat), In55 rows → 0 ≤ x ∧ x ≤ 4 →
    insGo f (rows.map (List.map v)) k (v x) place = (insGo f rows k x place).map (fun p => (p.1.map (List.map v), p.2)) ∧ ∀ p, insGo f rows k x place = some p → In55 p.1
  | 0, _, _, _, _, _, _ => ⟨rfl, fun _ h => (nomatch h)⟩
  | f + 1, rows, k, x, place, hr, hx => by
    unfold insGo
    rw [rows_map_get, List.length_map]
    by_cases h : place < (rows.getD k []).length
    · rw [if_pos h, if_pos h]
      by_cases h6 : k + 1 < 6
      · rw [if_pos h6, if_pos h6, getD_map (d' := 0) h, ← List.map_set, ← List.map_set, rows_map_get]
        have hy := in5_getD (in55_get hr k) place
        have hr' : In55 (rows.set k ((rows.getD k []).set place x)) := in55_set hr (in5_set (in55_get hr k) hx)
        rw [bis_map hv (in55_get hr' (k + 1)) hy]
        exact ins_map hv f _ _ _ _ hr' hy
      · rw [if_neg h6, if_neg h6]
        exact ⟨rfl, fun _ h => (nomatch h)⟩
    · rw [if_neg h, if_neg h]
      refine ⟨?_, fun p hp => ?_⟩
      · rw [show (rows.getD k []).map v ++ [v x] = (rows.getD k [] ++ [x]).map v by rw [List.map_append]; rfl, ← List.map_set]; rfl
      · rw [← Option.some.inj hp]
        exact in55_set hr fun y hy => (List.mem_append.mp hy).elim (in55_get hr k y) fun h => by rw [List.mem_singleton.mp h]; exact hx
theorem due_map {v : Int → Int} (hv : Rises v) : ∀ (l : List Int) (rows : List (List Int)) (told : List Int), In5 l → In55 rows →
    dueRows (l.map v) (rows.map (List.map v)) told = (dueRows l rows told).map (fun p => (p.1.map (List.map v), p.2)) ∧ ∀ p, dueRows l rows told = some p → In55 p.1
  | [], rows, told, _, hr => ⟨rfl, fun p hp => by rw [← Option.some.inj hp]; exact hr⟩
  | x :: l, rows, told, hl, hr => by
    have hx := hl x List.mem_cons_self
    obtain ⟨a, b⟩ := ins_map hv 7 rows 0 x (bisF (rows.getD 0 []) x) hr hx
    rw [List.map_cons]
    unfold dueRows
    rw [rows_map_get, bis_map hv (in55_get hr 0) hx, a]
    cases e : insGo 7 rows 0 x (bisF (rows.getD 0 []) x) with
    | none => exact ⟨rfl, fun _ h => (nomatch h)⟩
    | some p => exact due_map hv l p.1 _ (fun y hy => hl y (List.mem_cons_of_mem _ hy)) (b p e)
/-- what is decided, order by order -/
def goodB (ord : List Int) (side : Nat) : Bool := match hookGo [] side 11 ord row0, dueRows ord (List.replicate 6 []) [] with
  | some R, some D => decide (R.length = 10) && R.all (fun l => l == [40] || l == [41]) && balB R.flatten 0 && !balB (R.flatten ++ [41]) 0 && decide (R.flatten = dueF D [0, 1, 2, 3, 4])
  | _, _ => false
theorem good_all : ∀ ord ∈ ords, goodB ord 0 = true ∧ goodB ord 1 = true := by decide +kernel
structure GoodR (ord : List Int) (R : List (List Nat)) (D : List (List Int) × List Int) : Prop where
  len : R.length = 10
  one : ∀ l ∈ R, l = [40] ∨ l = [41]
  bal : balB R.flatten 0 = true
  bal2 : balB (R.flatten ++ [41]) 0 = false
  due : R.flatten = dueF D [0, 1, 2, 3, 4]
theorem good_of {ord : List Int} (ho : ord ∈ ords) {side : Nat} (hs : side = 0 ∨ side = 1) : ∃ R D, hookGo [] side 11 ord row0 = some R ∧ dueRows ord (List.replicate 6 []) [] = some D ∧ GoodR ord R D := by
  have h : goodB ord side = true := by
    rcases hs with rfl | rfl
    · exact (good_all ord ho).1
    · exact (good_all ord ho).2
  unfold goodB at h
  cases e1 : hookGo [] side 11 ord row0 with
  | none => rw [e1] at h; cases h
  | some R =>
    cases e2 : dueRows ord (List.replicate 6 []) [] with
    | none => rw [e1, e2] at h; cases h
    | some D =>
      rw [e1, e2] at h
      dsimp only at h
      simp only [Bool.and_eq_true, decide_eq_true_eq, List.all_eq_true, Bool.or_eq_true, beq_iff_eq, Bool.not_eq_true'] at h
      obtain ⟨⟨⟨⟨a, b⟩, c⟩, d⟩, e⟩ := h
      exact ⟨R, D, rfl, rfl, a, b, c, d, e⟩
theorem row0_par : ∀ l ∈ row0, Par l := by
  intro l hl
  have : l = [40] ∨ l = [41] := (by decide : ∀ l ∈ row0, l = [40] ∨ l = [41]) l hl
  rcases this with rfl | rfl
  · exact par40
  · exact par41
theorem GoodR.par {ord : List Int} {R : List (List Nat)} {D : List (List Int) × List Int} (g : GoodR ord R D) : ∀ l ∈ R, Par l := fun l hl => by
  rcases g.one l hl with rfl | rfl
  · exact par40
  · exact par41
theorem GoodR.small {ord : List Int} {R : List (List Nat)} {D : List (List Int) × List Int} (g : GoodR ord R D) : ∀ l ∈ R, l.length ≤ 4 := fun l hl => by
  rcases g.one l hl with rfl | rfl <;> decide
/-- the whole of the hooking, for the numbers and the riders of the law -/
theorem hook_ok {v : Int → Int} (hv : Rises v) {ord : List Int} (ho : ord ∈ ords) {rid : List (List Nat)} {q : Nat} {H : List Nat} (hd : Riders rid q H) {side : Nat} (hs : side = 0 ∨ side = 1) :
    ∃ R D, hookGo rid side 11 (ord.map v) row0 = some R ∧ dueRows (ord.map v) (List.replicate 6 []) [] = some (D.1.map (List.map v), D.2) ∧ GoodR ord R D ∧ In55 D.1 := by
  obtain ⟨R, D, h1, h2, g⟩ := good_of ho hs
  have h5 : In5 ord := (ord_ok ord ho).2
  have hr0 : In55 (List.replicate 6 []) := fun r hr => by rw [List.eq_of_mem_replicate hr]; exact fun _ h => (nomatch h)
  obtain ⟨a, b⟩ := due_map hv ord (List.replicate 6 []) [] h5 hr0
  refine ⟨R, D, ?_, ?_, g, b D h2⟩
  · rw [hook_map hv rid side 11 ord row0 (ord_ok ord ho).1 h5, hook_riders hd side 11 ord row0 row0_par, h1]
  · rw [h2] at a
    exact a
theorem due_same {v : Int → Int} (hv : Rises v) {D : List (List Int) × List Int} (hD : In55 D.1) : dueF (D.1.map (List.map v), D.2) [v 0, v 1, v 2, v 3, v 4] = dueF D [0, 1, 2, 3, 4] := by
  unfold dueF
  congr 1
  show ([0, 1, 2, 3, 4] : List Int).map (fun x => if v x ∈ (D.1.map (List.map v)).getD 0 [] then 40 else 41) = _
  refine List.map_congr_left fun x hx => ?_
  have hx5 : 0 ≤ x ∧ x ≤ 4 := (by decide : ∀ x ∈ ([0, 1, 2, 3, 4] : List Int), 0 ≤ x ∧ x ≤ 4) x hx
  rw [rows_map_get]
  have e : v x ∈ (D.1.getD 0 []).map v ↔ x ∈ D.1.getD 0 [] := by
    constructor
    · intro h
      obtain ⟨y, hy, e⟩ := List.mem_map.mp h
      rw [← (hv.inj (in55_get hD 0 y hy) hx5).mp e]
      exact hy
    · exact fun h => List.mem_map_of_mem h
  by_cases h : x ∈ D.1.getD 0 []
  · rw [if_pos h, if_pos (e.mpr h)]
  · rw [if_neg h, if_neg fun h' => h (e.mp h')]

theorem text_full {R : List (List Nat)} (hR : R.length = 10) : textF R [] 0 10 = R.flatten := by
  unfold textF
  congr 1
  refine List.ext_getElem (by simp [hR]) fun i h1 h2 => ?_
  rw [List.getElem_map, List.getElem_range, Nat.zero_add, List.getD_eq_getElem?_getD, List.getElem?_eq_getElem h2]
  simp
theorem riders_of {p : Int} {H : List Nat} (hp : 0 ≤ p ∧ p < 10) (hH : H ∈ hidL) : Riders ((rangeKs 0 10).map fun k => if k = p then H else []) p.toNat H := by
  have key : ∀ i, ((rangeKs 0 10).map fun k => if k = p then H else []).getD i [] = if (i : Int) = p then H else [] := fun i => by
    rw [List.getD_eq_getElem?_getD, List.getElem?_map]
    unfold rangeKs
    rw [List.getElem?_map]
    by_cases h : i < 10
    · rw [List.getElem?_range h]
      simp
    · rw [List.getElem?_eq_none (by rw [List.length_range]; omega), if_neg (by omega)]; rfl
  refine ⟨by rw [key, if_pos (by omega)], fun i hi => by rw [key, if_neg (by omega)], .inr hH⟩
theorem rid_len (p : Int) (H : List Nat) : ((rangeKs 0 10).map fun k => if k = p then H else []).length = 10 := by rw [List.length_map, rangeKs_length]
theorem rid_small {p : Int} {H : List Nat} (hH : H.length ≤ 4) : ∀ l ∈ ((rangeKs 0 10).map fun k => if k = p then H else []), l.length ≤ 4 := fun l hl => by
  obtain ⟨k, -, rfl⟩ := List.mem_map.mp hl
  split
  · exact hH
  · exact Nat.zero_le _
def brackB (l : List Nat) : Bool := decide (kdpLook tokC (toS l) 0 - 7 = 0) || decide (kdpLook tokC (toS l) 0 - 8 = 0)
theorem esc_small : ∀ (r : List Nat) (i : Nat) (esc : Bool), ∀ q ∈ escGo i esc r, q.2.length ≤ 2
  | [], i, esc, q, hq => by
    cases esc
    · cases hq
    · rw [List.mem_singleton.mp hq]; exact Nat.le_succ 1
  | c :: r, i, esc, q, hq => by
    unfold escGo at hq
    cases esc
    · rw [if_neg Bool.false_ne_true] at hq
      split at hq
      · exact esc_small r _ _ q hq
      · rcases List.mem_cons.mp hq with rfl | hq
        · exact Nat.le_succ 1
        · exact esc_small r _ _ q hq
    · rw [if_pos rfl] at hq
      rcases List.mem_cons.mp hq with rfl | hq
      · exact Nat.le_refl 2
      · exact esc_small r _ _ q hq
theorem pieces_small (T : List Nat) : ∀ p ∈ piecesF T, p.length ≤ 2 := fun p hp => by
  obtain ⟨q, hq, rfl⟩ := List.mem_map.mp hp
  exact esc_small _ _ _ q hq
theorem filter_pos {P : List (List Nat)} {i : Nat} {p : List Nat} (hp : P[i]? = some p) (hb : brackB p = true) : (P.take (i + 1)).filter brackB = (P.take i).filter brackB ++ [p] := by
  rw [List.take_add_one, hp, Option.toList_some, List.filter_append, List.filter_cons_of_pos hb]; rfl
theorem filter_neg {P : List (List Nat)} {i : Nat} {p : List Nat} (hp : P[i]? = some p) (hb : brackB p = false) : (P.take (i + 1)).filter brackB = (P.take i).filter brackB := by
  rw [List.take_add_one, hp, Option.toList_some, List.filter_append, List.filter_cons_of_neg (by rw [hb]; decide), List.filter_nil, List.append_nil]
theorem look_at {P : List (List Nat)} {i : Nat} {p : List Nat} (hp : P[i]? = some p) : (P.map fun p => kdpLook tokC (toS p) 0).getD (0 + (i : Int)).toNat 0 = kdpLook tokC (toS p) 0 := by
  rw [show (0 + (i : Int)).toNat = i by omega, List.getD_eq_getElem?_getD, List.getElem?_map, hp]; rfl
theorem piece_at {P : List (List Nat)} {i : Nat} {p : List Nat} (hp : P[i]? = some p) : P.getD (0 + (i : Int)).toNat [] = p := by
  rw [show (0 + (i : Int)).toNat = i by omega, List.getD_eq_getElem?_getD, hp]; rfl
theorem brack_par {a : List Nat} (h : Par a) : ((a.map fun c => [c]).filter brackB).flatten = a := by
  have e40 : brackB [40] = true := by decide +kernel
  have e41 : brackB [41] = true := by decide +kernel
  induction a with
  | nil => rfl
  | cons c a ih =>
    have ih := ih fun x hx => h x (List.mem_cons_of_mem _ hx)
    have hc : brackB [c] = true := by
      rcases h c List.mem_cons_self with rfl | rfl
      · exact e40
      · exact e41
    rw [List.map_cons, List.filter_cons_of_pos hc, List.flatten_cons, ih]
    rfl
theorem brack_hid {H : List Nat} (hH : H = [] ∨ H ∈ hidL) : ((if hidS H = [] then [] else [hidS H]).filter brackB).flatten = [] := by
  have key : ∀ H ∈ hidL, ((if hidS H = [] then [] else [hidS H]).filter brackB).flatten = [] := by decide +kernel
  rcases hH with rfl | hH
  · rfl
  · exact key H hH
theorem ones_len : ∀ {R : List (List Nat)}, (∀ l ∈ R, l.length = 1) → R.flatten.length = R.length
  | [], _ => rfl
  | l :: R, h => by
    rw [List.flatten_cons, List.length_append, ones_len fun x hx => h x (List.mem_cons_of_mem _ hx), h l List.mem_cons_self, List.length_cons]
    omega
/-- the text of the row, as the law meets it -/
theorem text_ok {ord : List Int} {R rid : List (List Nat)} {D : List (List Int) × List Int} {q : Nat} {H : List Nat} (g : GoodR ord R D) (hd : Riders rid q H) (hH4 : H.length ≤ 4) :
    checkF (toS (textF R rid 0 10)) = true ∧ checkF (toS (textF R rid 0 10 ++ [41])) = false ∧ ((piecesF (textF R rid 0 10)).filter brackB).flatten = R.flatten ∧ (textF R rid 0 10).length ≤ 14 ∧ (piecesF (textF R rid 0 10)).length ≤ 14 := by
  obtain ⟨H', pre, post, h1, h2, h3, h4, h5⟩ := text_seg (b := 0) g.par hd.at' hd.off 10
  rw [text_full g.len] at h5
  have hH' : H' = [] ∨ H' ∈ hidL := by
    rcases h1 with rfl | rfl
    · exact .inl rfl
    · exact hd.hid
  have hl : (pre ++ post).length = 10 := by
    rw [h5, ones_len fun l hl => by rcases g.one l hl with rfl | rfl <;> rfl]
    exact g.len
  have hl' : H'.length ≤ 4 := by
    rcases h1 with rfl | rfl
    · exact Nat.zero_le _
    · exact hH4
  rw [List.length_append] at hl
  rw [h4]
  refine ⟨?_, ?_, ?_, ?_, ?_⟩
  · rw [check_hid hH' h2 h3, h5]; exact g.bal
  · rw [List.append_assoc, check_hid hH' h2 (h3.append par41), ← List.append_assoc, h5]; exact g.bal2
  · rw [pieces_hid hH' h2 h3, List.filter_append, List.flatten_append, List.filter_append, List.flatten_append, brack_par h2, brack_hid hH', brack_par h3, List.nil_append, h5]
  · rw [List.length_append, List.length_append]; omega
  · rw [pieces_hid hH' h2 h3, List.length_append, List.length_append, List.length_map, List.length_map]
    split <;> simp only [List.length_nil, List.length_singleton] <;> omega

section
local macro_rules | `(tactic| walk_at "call ref") => `(tactic| ((first | (with_reducible show wpAny _ _ (call (Value.ref 82) _) _ _ _) | (with_reducible show wpAny _ _ (call (Value.ref 68) _) _ _ _) | (with_reducible show wpAny _ _ (call (Value.ref 75) _) _ _ _) | (with_reducible show wpAny _ _ (call (Value.ref 106) _) _ _ _) | (with_reducible show wpAny _ _ (call (Value.ref 87) _) _ _ _) | (with_reducible show wpAny _ _ (call (Value.ref 44) _) _ _ _) | (with_reducible show wpAny _ _ (call (Value.ref 37) _) _ _ _) | (with_reducible show wpAny _ _ (call (Value.ref 30) _) _ _ _) | (with_reducible show wpAny _ _ (call (Value.ref 111) _) _ _ _)); refine Stopped.go ?_))
local macro_rules | `(tactic| walk_at "eval ListComp") => `(tactic| (refine Stopped.go ?_))
local macro_rules | `(tactic| walk_at "binaryOp FloorDiv int int") => `(tactic| ((with_reducible show wpAny _ _ (binaryOp Operator.FloorDiv (Value.int _ _) (Value.int 5 _)) _ _ _); refine Stopped.go ?_))
local macro_rules | `(tactic| walk_at "subscriptTail") => `(tactic| ((with_reducible show wpAny _ _ (subscriptTail _ _ (Value.ref _) (Value.int _ _)) _ _ _); refine Stopped.go ?_))
local macro_rules | `(tactic| walk_at "exec Assign cons ListComp") => `(tactic| (refine Stopped.go ?_))
local macro_rules | `(tactic| walk_at "call builtin:sum") => `(tactic| ((with_reducible show wpAny _ _ (call (Value.builtin "sum") [Value.ref (HAdd.hAdd _ _)]) _ _ _); refine Stopped.go ?_))
local macro_rules | `(tactic| walk_at "call builtin:dict.get") => `(tactic| (refine Stopped.go ?_))
local macro_rules | `(tactic| walk_at "call builtin:len") => `(tactic| (refine Stopped.go ?_))
local macro_rules | `(tactic| walk_at "call builtin:sorted") => `(tactic| (refine Stopped.go ?_))
theorem post_ok (xs : List Int) : (PySem.Challenge.rw_sl0017_01.row.claim).post [ofPy (PyData.list (List.map PyData.int xs))] (.bool true) [ofPy (PyData.list (List.map PyData.int xs))] = true := by
  exact postW_of (X := true) (by wrow_shape) (by wtm_val) rfl
theorem top : PySem.Challenge.rw_sl0017_01.Holds := by
  w_top off
  refine hd ?_
  k_fill
  intro w s₀ s₁ mg mb G Y fa o pm cd doc dV kV ho hd hcd hD hmg hg args vals as hpre hlay hrd hwl hlo
  have KX := kIn_of Y
  have X := (Ground.X G).1
  have V := (Ground.X G).2
  have GL := glob_more (Ground.glob G (by first | k_qdec | decide +kernel) (by first | k_qdec | decide +kernel)) V
  refine Ground.open G ?_
  intro T B D TE TW
  try (refine guard_noD D (by decide +kernel) ?_; clear D)
  obtain ⟨_, _, M⟩ := bmod_of_top T
  have TA := at_of_top T
  try (obtain ⟨_, _, he, B0⟩ := based_of_top T rfl hmg ho hd; have he' : cd = _ := he; subst he'; clear he)
  clear hmg
  wrow_args hpre hlay hrd hwl hlo
  first | refine callC_kw (enter_call ?_) | refine enter_call ?_ | refine callC_kw (enter_callW ?_) | refine enter_callW ?_ | w_how
  w_top on
  have K0 := below_caller (Top.heap T)
  w_call any ho hd hcd hD T F
  clear hd TA
  k_drop
  try k_fold
  rename News _ _ _ _ => N0
  rename IntsAre _ _ => hI
  rename s₁.heap.IsList _ _ => hL
  rename ¬ _ => hlen
  rename_i xs _ _ _ _ _ _ _ sc vs _ _ _ _ _ _ h1 tk1 c7 c6 c5 c4 c3 c2 c1 d7 d6 d5 d4 d3 d2 d1 _
  have F1 : Fr s₁.heap s₁.heap.objs.size h1 (fun y => if y = Str.ofString "script" then some (.ref sc) else none) := F
  have e1 : c1.data = .cell none := d1
  have e2 : c2.data = .cell none := d2
  have e3 : c3.data = .cell none := d3
  have e4 : c4.data = .cell none := d4
  have e5 : c5.data = .cell none := d5
  have e6 : c6.data = .cell none := d6
  have e7 : c7.data = .cell none := d7
  clear d1 d2 d3 d4 d5 d6 d7 F
  rename CellsAre _ _ _ => XC
  clear XC hcd hD GL TW TE B M V X
  have K1 : Below callerA s₁.heap [] s₁.heap := K0
  clear K0
  have hbr : AllBare s₁.gens := .of_eq hg
  k_steps
  refine Stopped.of ?_
  rename Fr _ _ _ _ => F2
  rename News _ _ _ _ => N2
  refine CallTells.use (order_tells w (ExcName.means s₀.heap) mg mb _ _ _ ?h0 ?h1) K1 F2 KX N2 T hbr rfl ?hd ?hu ?_
  case h0 => exact Int.fmod_nonneg_of_pos _ (by decide)
  case h1 => exact Int.fmod_lt_of_pos _ (by decide)
  case hd => ktr_room
  case hu => ktr_units
  rintro _ _ h8 G8 tk8 ⟨D8, ov, no, rfl, rfl, hIo⟩ hlt8 F8 N8 hg8
  simp only [List.cons_append, List.nil_append] at N8
  (try dsimp only)
  clear F2 N2
  k_steps
  refine Stopped.of ?_
  rename Fr _ _ _ _ => F3
  rename News _ _ _ _ => N3
  refine LSm.sum_ints F3 N3 rfl ⟨_, (N3 _ List.mem_cons_self).1, rfl, _, rfl⟩ (IntsAre.pick hI none (some 63) (some 2)) (fun h4 tk4 t4 F4 N4 => ?_)
  have N5 := news_tl2 (news_tl N4)
  have z8 := fun p hp => hlt8 p hp _ List.mem_cons_self
  simp only [List.forall_mem_cons, List.not_mem_nil, false_implies, implies_true, and_true] at z8
  obtain ⟨-, n81, n82, n83, n84, n85, n86, n87⟩ := z8
  clear F3 N3 N4
  dsimp only
  k_steps
  refine Stopped.of ?_
  have hc0 : 0 ≤ ((pickNums xs none (some 63) (some 2)).sum + 131).fmod 3000 := Int.fmod_nonneg_of_pos _ (by decide)
  have hc1 : ((pickNums xs none (some 63) (some 2)).sum + 131).fmod 3000 < 3000 := Int.fmod_lt_of_pos _ (by decide)
  generalize ((pickNums xs none (some 63) (some 2)).sum + 131).fmod 3000 = code at *
  have ho0 : 0 ≤ ((xs.take 63).sum + 180).fmod 1024 := Int.fmod_nonneg_of_pos _ (by decide)
  have ho1 : ((xs.take 63).sum + 180).fmod 1024 < 1024 := Int.fmod_lt_of_pos _ (by decide)
  generalize ((xs.take 63).sum + 180).fmod 1024 = oc at *
  try dsimp only at *
  have q600 : 0 ≤ code.fdiv 600 ∧ code.fdiv 600 < 5 := by rw [Int.fdiv_eq_ediv_of_nonneg _ (by decide)]; omega
  have q60 : 0 ≤ (code.fdiv 60).fmod 10 ∧ (code.fdiv 60).fmod 10 < 10 := ⟨Int.fmod_nonneg_of_pos _ (by decide), Int.fmod_lt_of_pos _ (by decide)⟩
  have q30 : (code.fdiv 30).fmod 2 = 0 ∨ (code.fdiv 30).fmod 2 = 1 := by
    have := Int.fmod_nonneg_of_pos (code.fdiv 30) (by decide : (0 : Int) < 2)
    have := Int.fmod_lt_of_pos (code.fdiv 30) (by decide : (0 : Int) < 2)
    omega
  have q5 : 0 ≤ code.fmod 5 ∧ code.fmod 5 < 5 := ⟨Int.fmod_nonneg_of_pos _ (by decide), Int.fmod_lt_of_pos _ (by decide)⟩
  have qs : 0 ≤ (code.fdiv 5).fmod 6 ∧ (code.fdiv 5).fmod 6 < 6 := ⟨Int.fmod_nonneg_of_pos _ (by decide), Int.fmod_lt_of_pos _ (by decide)⟩
  refine floordiv_int (by decide) ?_
  k_steps
  refine Stopped.of ?_
  rename Fr _ _ _ _ => F6
  rename News _ _ _ _ => N6
  try dsimp only at *
  refine item_strsT (rs := hidL) N6 List.mem_cons_self (strs_cast (.cons _ _ (.cons _ _ (.cons _ _ (.cons _ _ (.cons _ _ .nil))))) (by decide +kernel)) q600.1 q600.2 (by decide) (fun th => ?_) (by with_unfolding_all rfl)
  have N7 := news_tl N6
  clear N6
  have hHm : hidL.getD (code.fdiv 600).toNat [] ∈ hidL := by
    have : (code.fdiv 600).toNat < hidL.length := by show _ < 5; omega
    rw [List.getD_eq_getElem?_getD, List.getElem?_eq_getElem this]
    exact List.getElem_mem this
  generalize hidL.getD (code.fdiv 600).toNat [] = H at *
  have hH4 : H.length ≤ 4 := (by decide : ∀ l ∈ hidL, l.length ≤ 4) H hHm
  k_steps
  refine Stopped.of ?_
  rename Fr _ _ _ _ => F8
  rename News _ _ _ _ => N8
  try dsimp only at *
  refine LCg.Assign_ListComp_U F8 (by rfl) (by with_unfolding_all rfl) (by with_unfolding_all rfl) (by decide) (by rfl) (by decide) (by rfl) (by rfl) (by rfl) ?_
  k_steps
  refine Stopped.of ?_
  refine LCg.CompSrc.range (n := 10) (by rfl) (by k_asm) (by k_asm) (by assumption) (by decide) (by decide) (by decide) (fun g => ?_)
  try dsimp only
  refine kct_range (fun k => toS (if k = (code.fdiv 60).fmod 10 then H else [])) (fun k t I oI C oC D m₂ ys h tk E' hlo hhi hC hx F N off ne mk => ?_) ?_
  · have off0 := off
    try dsimp only
    k_steps
    · have e1 : toS H = toS (if k = (code.fdiv 60).fmod 10 then H else []) := by rw [if_pos (by assumption)]
      exact LCg.CompEnd.intro (by k_asm) (by k_asm) _ (fun _ h => h) off0 trivial ⟨rfl, _, congrArg (fun z => Value.str z _) e1⟩
    · have e1 : Str.ofString "" = toS (if k = (code.fdiv 60).fmod 10 then H else []) := by rw [if_neg (by assumption)]; decide +kernel
      exact LCg.CompEnd.intro (by k_asm) (by k_asm) _ (fun _ h => h) off0 trivial ⟨rfl, _, congrArg (fun z => Value.str z _) e1⟩
  unfold KPfDone
  intro rv hrc hrl
  unfold LCg.FinA
  intro Dr h9 tk9 F9 N9 o9
  have hRid : StrsAre rv (((rangeKs 0 10).map fun k => if k = (code.fdiv 60).fmod 10 then H else []).map toS) := StrsAre.of_carried (by rw [List.map_map, List.map_map]; exact hrc)
  clear hrc
  simp only [LCg.Off1, and_true] at o9
  obtain ⟨r0, r1, r2, r3, r4, r5, r6, r7⟩ := o9
  generalize hrid : ((rangeKs 0 10).map fun k => if k = (code.fdiv 60).fmod 10 then H else []) = rid at hRid
  try dsimp only
  k_steps
  refine Stopped.of ?_
  rename Fr _ _ _ _ => F10
  rename News _ _ _ _ => N10
  refine CallTells.use (oper_tells w (ExcName.means s₀.heap) mg mb _) K1 F10 KX N10 T (by k_asm) rfl (by ktr_room) (by ktr_units) ?_
  rintro _ _ h11 G11 tk11 ⟨Dp, pv, np, rfl, rfl, hOps⟩ hlt11 F11 N11 hg11
  simp only [List.cons_append, List.nil_append] at N11
  have z11 := fun p hp => hlt11 p hp _ List.mem_cons_self
  simp only [List.forall_mem_cons, List.not_mem_nil, false_implies, implies_true, and_true] at z11
  obtain ⟨-, -, p1, p2, p3, p4, p5, p6, p7⟩ := z11
  clear F10 N10 hlt11
  try dsimp only
  k_steps
  refine Stopped.of ?_
  have hOrd : (ordDn oc 5).snd ∈ ords := ord_in oc ho0 ho1
  rename IntsAre ov _ => hIo
  generalize (ordDn oc 5).snd = ord at hIo hOrd
  obtain ⟨hol, ho5⟩ := ord_ok ord hOrd
  rename Fr _ _ _ _ => F12
  rename News _ _ _ _ => N12
  refine LCg.ListComp_U (F₀ := F12) (by with_unfolding_all rfl) (by decide) (by rfl) (by decide) (by rfl) ?_
  k_steps
  refine Stopped.of ?_
  refine LCg.CompSrc.ledger (by rfl) F12 N12 (List.mem_cons_of_mem _ (List.mem_cons_of_mem _ List.mem_cons_self)) (by rw [List.size_toArray, hIo.length, hol]; decide) (fun g => ?_)
  try dsimp only
  refine kct_list (fun k => toS (opAt code k)) hIo (fun k t I oI C oC D m₂ ys h tk E' hk hC hx F N off ne mk => ?_) ?_
  · have off0 := off
    have hk5 := ho5 k hk
    have hko := ord_op (code := code) hk5
    try dsimp only
    k_steps
    refine Stopped.of ?_
    rename News _ _ _ _ => NE
    refine item_strsT (rs := opsL) NE (List.mem_cons_of_mem _ (List.mem_cons_of_mem _ (List.mem_cons_of_mem _ List.mem_cons_self))) (by with_reducible assumption) hko.1 (by rw [show opsL.length = 29 by decide +kernel]; exact hko.2) (by decide +kernel) (fun th => ?_) (by with_unfolding_all rfl)
    exact LCg.CompEnd.intro (by k_asm) (by k_asm) _ (fun _ h => h) off0 (.inr ⟨_, List.mem_cons_of_mem _ (List.mem_cons_of_mem _ List.mem_cons_self), rfl, _, rfl⟩) ⟨rfl, _, rfl⟩
  unfold KPfDone
  intro ys hc hl
  unfold LCg.FinE
  intro De hE tkE F13 N13 o1
  k_steps
  refine Stopped.of ?_
  rename News _ _ _ _ => NZ
  refine KT.join_B 8 (News.isList NZ (.head _)) hc (fun k hk => ?_) (by omega) (by decide +kernel) fun t14 k14 => ?_
  · rw [toS_len]
    have := op_len (code := code) (ho5 k hk)
    omega
  have eJ : Txt.join (Str.ofString "") (ord.map fun k => toS (opAt code k)) = toS ((ord.map (opAt code)).flatten) := by
    have := join_empty (ord.map (opAt code))
    rw [List.map_map] at this
    exact this
  rw [eJ]
  have N15 := news_tl NZ
  clear NZ
  try dsimp only
  k_steps
  refine Stopped.of ?_
  have hcut : cutGo 16 (ord.map (opAt code)).flatten = some (ord.map (numAt code)) := cut_all code ord 16 (by rw [hol]; decide) ho5
  have htl : (ord.map (opAt code)).flatten.length ≤ 15 := by
    have := text_len5 (code := code) (ks := ord) ho5
    omega
  rename Fr _ _ _ _ => F16
  refine CallTells.use (cut_tells w (ExcName.means s₀.heap) mg mb (ord.map (opAt code)).flatten _ (ord.map (numAt code)) _ htl hcut) K1 F16 KX N15 T (by k_asm) rfl (by ktr_room) (by ktr_units) ?_
  rintro _ _ h17 G17 tk17 ⟨Dn, nv, nn, rfl, rfl, hNum⟩ hlt17 F17 N17 hg17
  simp only [List.cons_append, List.nil_append] at N17
  have z17 := fun p hp => hlt17 p hp _ List.mem_cons_self
  simp only [List.forall_mem_cons, List.not_mem_nil, false_implies, implies_true, and_true] at z17
  obtain ⟨-, -, -, y1, y2, y3, y4, y5, y6, y7⟩ := z17
  clear F16 N15 hlt17 htl hcut
  try dsimp only
  k_steps
  refine Stopped.of ?_
  rename Fr _ _ _ _ => F18
  rename News _ _ _ _ => N18
  have hnl : nv.length = 5 := by rw [hNum.length, List.length_map, hol]
  refine sorted_S F18 N18 ⟨_, (N18 _ List.mem_cons_self).1, rfl, _, rfl⟩ hNum (by omega) (fun Ds h19 rv2 srt e19 F19 N19 hDs hSr hSp hSs => ?_)
  have hsrt := sort_is (num_rises code) hOrd hSp hSs
  subst hsrt
  simp only [List.forall_mem_cons, List.not_mem_nil, false_implies, implies_true, and_true] at hDs
  obtain ⟨-, -, -, -, x1, x2, x3, x4, x5, x6, x7⟩ := hDs
  clear F18 N18 hSp hSs
  try dsimp only
  k_steps
  refine Stopped.of ?_
  rename Fr _ _ _ _ => F20
  rename News _ _ _ _ => N20
  rename IntsAre ov _ => hIo
  refine LCg.ListComp_U (F₀ := F20) (by with_unfolding_all rfl) (by decide) (by rfl) (by decide) (by rfl) ?_
  k_steps
  refine Stopped.of ?_
  refine LCg.CompSrc.ledger (by rfl) F20 N20 (List.mem_cons_of_mem _ (List.mem_cons_of_mem _ (List.mem_cons_of_mem _ (List.mem_cons_of_mem _ List.mem_cons_self)))) (by rw [List.size_toArray, hIo.length, hol]; decide) (fun g => ?_)
  try dsimp only
  refine kcf_list (fun k => ([numAt code 0, numAt code 1, numAt code 2, numAt code 3, numAt code 4] : List Int).getD k.toNat 0) hIo (fun k t I oI C oC D m₂ ys h tk E' hk hC hx F N off ne mk => ?_) ?_
  · have off0 := off
    have hk5 := ho5 k hk
    try dsimp only
    k_steps
  unfold KPfDone
  intro ys hc
  rw [ranks_back (v := numAt code) ho5] at hc
  unfold LCg.FinE
  intro De hE tkE F21 N21 o1
  k_steps
  refine Stopped.of ?_
  rename Fr _ _ _ _ => F22
  rename News _ _ _ _ => N22
  rename IntsAre nv _ => hNum
  rename StrsAre rv _ => hRid
  obtain ⟨side, hside, hs01⟩ : ∃ side : Nat, (code.fdiv 30).fmod 2 = ((side : Nat) : Int) ∧ (side = 0 ∨ side = 1) := ⟨((code.fdiv 30).fmod 2).toNat, by omega, by omega⟩
  rw [hside]
  have hRd : Riders rid ((code.fdiv 60).fmod 10).toNat H := hrid ▸ riders_of q60 hHm
  have hrl10 : rid.length = 10 := by rw [← hrid, rid_len]
  have hrl4 : ∀ l ∈ rid, l.length ≤ 4 := hrid ▸ rid_small hH4
  obtain ⟨R, Dd, hHk, hDue, hG, hD55⟩ := hook_ok (num_rises code) hOrd hRd hs01
  refine CallTells.use (hook_tells w (ExcName.means s₀.heap) mg mb Dn Dr nv rv nn rv.length (ord.map (numAt code)) rid R side _ _ (by repeat first | exact List.mem_cons_self | apply List.mem_cons_of_mem) (by repeat first | exact List.mem_cons_self | apply List.mem_cons_of_mem) hNum hRid (by rw [List.length_map, hol]) hrl10 hrl4 hs01 hHk) K1 F22 KX N22 T (by k_asm) rfl (by ktr_room) (by ktr_units) ?_
  rintro _ _ h23 G23 tk23 ⟨Dw, wv, wn, rfl, rfl, hRow⟩ hlt23 F23 N23 hg23
  simp only [List.cons_append, List.nil_append] at N23
  have z23 := fun p hp => hlt23 p hp _ List.mem_cons_self
  simp only [List.forall_mem_cons, List.not_mem_nil, false_implies, implies_true, and_true] at z23
  clear F22 N22 hlt23 z23
  try dsimp only
  k_steps
  refine Stopped.of ?_
  rename Fr _ _ _ _ => F24
  rename News _ _ _ _ => N24
  rename StrsAre rv _ => hRid
  obtain ⟨tx1, tx2, tx3, tx4, tx5⟩ := text_ok hG hRd hH4
  refine CallTells.use (text_tells w (ExcName.means s₀.heap) mg mb Dw Dr wv rv wn rv.length R rid 0 10 _ _ _ List.mem_cons_self (by repeat first | exact List.mem_cons_self | apply List.mem_cons_of_mem) hRow hRid hG.len hrl10 (by decide) hG.small hrl4) K1 F24 KX N24 T (by k_asm) rfl (by ktr_room) (by ktr_units) ?_
  rintro _ _ h25 G25 tk25 ⟨rfl, tt, rfl⟩ - F25 N25 hg25
  simp only [List.nil_append] at N25
  have N26 := news_tl2 (news_tl2 (news_tl2 (news_tl (news_tl (news_tl N25)))))
  clear F24 N24 N25
  generalize hTx : textF R rid 0 10 = Tx at *
  try dsimp only
  k_steps
  refine Stopped.of ?_
  rename Fr _ _ _ _ => F27
  rename News _ _ _ _ => N27
  refine CallTells.use (check_tells w (ExcName.means s₀.heap) mg mb _ _ _ (by rw [toS_len]; omega)) K1 F27 KX N27 T (by k_asm) rfl (by ktr_room) (by ktr_units) ?_
  rintro _ _ h28 G28 tk28 ⟨rfl, rfl⟩ - F28 N28 hg28
  simp only [List.nil_append] at N28
  rw [tx1]
  clear F27 N27
  have hTl : (toS Tx).length ≤ 14 := by rw [toS_len]; exact tx4
  try dsimp only
  k_steps
  refine Stopped.of ?_
  rw [show toS Tx ++ Str.ofString ")" = toS (Tx ++ [41]) by rw [show Str.ofString ")" = toS [41] by decide +kernel, toS_add]]
  rename Fr _ _ _ _ => F29
  rename News _ _ _ _ => N29
  refine CallTells.use (check_tells w (ExcName.means s₀.heap) mg mb _ _ _ (by rw [toS_len, List.length_append, List.length_singleton]; omega)) K1 F29 KX N29 T (by k_asm) rfl (by ktr_room) (by ktr_units) ?_
  rintro _ _ h30 G30 tk30 ⟨rfl, rfl⟩ - F30 N30 hg30
  simp only [List.nil_append] at N30
  rw [tx2]
  clear F29 N29
  try dsimp only
  k_steps
  refine Stopped.of ?_
  rename Fr _ _ _ _ => F31
  rename News _ _ _ _ => N31
  refine wpAny_Assign_Name ?_ (by with_unfolding_all rfl)
  refine ListComp_G (h₀ := s₁.heap) (L := s₁.heap.objs.size) (m := mapOf F31) (by rfl) (by ktr_room) T.nolimit (by with_unfolding_all rfl) (by decide) (by rfl) (by decide) (by rfl) (by rfl) (by decide) (by intro _; with_unfolding_all rfl) ?_
  dsimp only [mapOf]
  k_steps
  refine Stopped.of ?_
  rename Fr _ _ _ _ => F32
  rename News _ _ _ _ => N32
  refine CallTells.use (strip_tells w (ExcName.means s₀.heap) mg mb _ _ _ (by rw [toS_len]; omega)) K1 F32 KX N32 T (by k_asm) rfl (by ktr_room) (by ktr_units) ?_
  rintro _ _ h33 G33 tk33 ⟨rfl, t33, rfl⟩ - F33 N33 hg33
  simp only [List.nil_append] at N33
  clear F32 N32
  try dsimp only
  k_steps
  refine Stopped.of ?_
  rename Fr _ _ _ _ => F34
  rename News _ _ _ _ => N34
  refine call_iter2 F34 N34 KX T (by ktr_room) (by k_asm) (fun a g Lg h35 G35 tk35 F35 N35 hg35 l1 l2 l3 gen => ?_)
  refine CSrc.intro (by rfl) F34 N34 F35 N35 hg35 l1 l2 l3 gen ?_ (fun Dq qv qn h36 G36 tk36 F36 N36 hq hPs hg36 => ?_)
  · have : (escOf (stripF (toS Tx))).length = (piecesF Tx).length := by unfold piecesF; rw [List.length_map]
    rw [this, sizeLine_eq]; omega
  clear F34 N34 F35 N35 gen l1 l2 l3
  simp only [List.forall_mem_cons, List.not_mem_nil, false_implies, implies_true, and_true] at hq
  obtain ⟨-, q1, q2, q3, q4, q5, q6, q7⟩ := hq
  have hPs2 : StrsAre qv ((piecesF Tx).map toS) := by unfold piecesF; rw [List.map_map]; exact hPs
  clear hPs
  have hP2 : ∀ p ∈ piecesF Tx, p.length ≤ 2 := pieces_small Tx
  generalize piecesF Tx = P at *
  have hql : qv.length = P.length := by rw [strsAre_len hPs2, List.length_map]
  try dsimp only
  k_steps
  refine Stopped.of ?_
  rename Fr _ _ _ _ => F37
  rename News _ _ _ _ => N37
  refine wpAny_Assign_Name ?_ (by with_unfolding_all rfl)
  refine LCg.ListComp_U (F₀ := F37) (by with_unfolding_all rfl) (by decide) (by rfl) (by decide) (by rfl) ?_
  k_steps
  refine Stopped.of ?_
  refine LCg.CompSrc.ledger (by rfl) F37 N37 List.mem_cons_self (by rw [List.size_toArray, hql, sizeLine_eq]; omega) (fun g => ?_)
  try dsimp only
  refine comp_inv (fun i ys => IntsAre ys ((P.take i).map fun p => kdpLook tokC (toS p) 0)) .nil (fun i v I oI C oC D m₂ ys h tk E' hi hv hy hC hx F N off ne => ?_) (fun ys hy => ?_)
  · have off0 := off
    obtain ⟨p, tp, hp, rfl⟩ := str_at hPs2 hv
    try dsimp only
    k_steps
    refine Stopped.of ?_
    rename Fr _ _ _ _ => FE
    refine kdp_get2 (c := tokC) (tok_here KX FE) (fun tk0 => ?_)
    exact LCg.CompEnd.intro (by k_asm) (by k_asm) _ (fun _ h => h) off0 (.inr ⟨_, List.mem_cons_self, rfl, _, rfl⟩) ⟨rfl, by rw [List.take_add_one, hp, Option.toList_some, List.map_append]; exact ksk_snoc hy⟩
  unfold LCg.FinE
  intro Dk hE tkE F38 N38 o1
  have hKd : IntsAre ys (P.map fun p => kdpLook tokC (toS p) 0) := by
    rw [List.size_toArray, hql, List.take_length] at hy
    exact hy
  clear hy
  simp only [LCg.Off1, and_true] at o1
  obtain ⟨-, -, s1, s2, s3, s4, s5, s6, s7⟩ := o1
  try dsimp only
  k_steps
  refine Stopped.of ?_
  rename Fr _ _ _ _ => F39
  rename News _ _ _ _ => N39
  refine LCt.ListComp_T (F₀ := F39) (by with_unfolding_all rfl) (by decide) (by rfl) (by decide) (by rfl) ?_
  k_steps
  refine Stopped.of ?_
  refine len_any N39 (List.mem_cons_of_mem _ List.mem_cons_self) hql (by omega) ?_
  try dsimp only
  k_steps
  refine Stopped.of ?_
  rename Fr _ _ _ _ => F40
  rename News _ _ _ _ => N40
  refine LCt.CompSrcT.range (n := P.length) (by rfl) F40 N40 (by assumption) (small_one (by omega) (by omega) (by omega) (by omega)) ?_ (by rw [sizeLine_eq]; omega) (fun g => ?_)
  · have := rangeSize_nat 0 P.length
    simpa using this
  try dsimp only
  refine comp_invT (fun i ys => StrsAre ys (((P.take i).filter brackB).map toS)) .nil (fun i v I oI C oC D m₂ ys h tk E' hi hv hy hC hx F N off ne => ?_) (fun ys hy => ?_)
  · have off0 := off
    obtain ⟨tv, rfl⟩ := hv
    obtain ⟨p, hp⟩ : ∃ p, P[i]? = some p := ⟨P[i], List.getElem?_eq_getElem hi⟩
    try dsimp only
    k_steps
    · refine Stopped.of ?_
      rename News _ _ _ _ => NE
      rename StrsAre qv _ => hPs2
      have hb : brackB p = true := by
        unfold brackB
        rw [← look_at hp, Bool.or_eq_true, decide_eq_true_eq, decide_eq_true_eq]
        exact .inl (by assumption)
      refine item_strsT (rs := P) NE (List.mem_cons_of_mem _ (List.mem_cons_of_mem _ (List.mem_cons_of_mem _ (List.mem_cons_of_mem _ List.mem_cons_self)))) hPs2 (by omega) (by omega) (by omega) (fun th => ?_) (by with_unfolding_all rfl)
      rw [piece_at hp]
      exact LCg.CompEnd.intro (by k_asm) (by k_asm) _ (fun _ h => h) off0 trivial ⟨rfl, by rw [filter_pos hp hb, List.map_append]; exact strsAre_snoc hy⟩
    · refine Stopped.of ?_
      rename News _ _ _ _ => NE
      rename StrsAre qv _ => hPs2
      have hb : brackB p = true := by
        unfold brackB
        rw [← look_at hp, Bool.or_eq_true, decide_eq_true_eq, decide_eq_true_eq]
        exact .inr (by assumption)
      refine item_strsT (rs := P) NE (List.mem_cons_of_mem _ (List.mem_cons_of_mem _ (List.mem_cons_of_mem _ (List.mem_cons_of_mem _ List.mem_cons_self)))) hPs2 (by omega) (by omega) (by omega) (fun th => ?_) (by with_unfolding_all rfl)
      rw [piece_at hp]
      exact LCg.CompEnd.intro (by k_asm) (by k_asm) _ (fun _ h => h) off0 trivial ⟨rfl, by rw [filter_pos hp hb, List.map_append]; exact strsAre_snoc hy⟩
    · have hb : brackB p = false := by
        unfold brackB
        rw [← look_at hp, Bool.or_eq_false_iff, decide_eq_false_iff_not, decide_eq_false_iff_not]
        exact ⟨by assumption, by assumption⟩
      exact LCg.CompEnd.intro (by k_asm) (by k_asm) _ (fun _ h => h) off0 trivial ⟨rfl, by rw [filter_neg hp hb]; exact hy⟩
  rw [List.take_length] at hy
  unfold LCg.FinE
  intro Dt hE tkE F41 N41 o1
  try dsimp only
  k_steps
  refine Stopped.of ?_
  rename News _ _ _ _ => NZ
  have hcar := hy.carried
  rw [List.map_map] at hcar
  refine KT.join_B 8 (News.isList NZ (.head _)) hcar (fun a ha => by rw [toS_len]; exact Nat.le_trans (hP2 a (List.mem_filter.mp ha).1) (by decide)) (Nat.le_trans (List.length_filter_le _ _) (by omega)) (by decide +kernel) fun t42 k42 => ?_
  have eT : Txt.join (Str.ofString "") ((P.filter brackB).map toS) = toS R.flatten := (join_empty (P.filter brackB)).trans (congrArg toS tx3)
  rw [eT]
  have N42 := news_tl (news_tl (news_tl NZ))
  clear NZ hy hcar
  try dsimp only
  k_steps
  refine Stopped.of ?_
  rename Fr _ _ _ _ => F43
  rename News _ _ _ _ => N43
  rename IntsAre nv _ => hNum
  refine CallTells.use (due_tells w (ExcName.means s₀.heap) mg mb Dn nv nn (ord.map (numAt code)) (Dd.1.map (List.map (numAt code)), Dd.2) _ List.mem_cons_self hNum (by rw [List.length_map, hol]) hDue) K1 F43 KX N43 T (by k_asm) rfl (by ktr_room) (by ktr_units) ?_
  rintro _ _ h44 G44 tk44 ⟨rfl, srt, t44, hsp, hss, rfl⟩ - F44 N44 hg44
  simp only [List.nil_append] at N44
  have hsrt2 := sort_is (num_rises code) hOrd hsp hss
  subst hsrt2
  rw [due_same (num_rises code) hD55, ← hG.due]
  clear F43 N43
  try dsimp only
  k_steps
  rw [beq_self_eq_true]
  suffices g : GoodW PySem.Challenge.rw_sl0017_01.row.claim (classAt s₀.heap) (ExcName.means s₀.heap) [ofPy (PyData.list (List.map PyData.int xs))] s₁ (Except.ok (Flow.ret (Value.bool true))) { heap := h44, gens := #[], drawn := s₁.drawn, toks := tk44, os := s₁.os } from ⟨g.1, .of_keep g.2.1, g.2.2.1, hg44⟩
  refine goodW_bool F44 rfl (raisesW_false ?_) ?_
  · wrow_none_raised
  · exact post_ok xs
end
end Mine
theorem PySem.Challenge.cw_sl0017_01_holds : PySem.Challenge.rw_sl0017_01.Holds := by
  exact Mine.top
