import PyProof.Rows.All
import Wide.All
import OpenK.AllK
import Wide.FinOn
import PySem.Challenge.RW_tr0020_01
set_option Elab.async false
set_option maxRecDepth 100000
section
open PySem PySem.W PyProof.Rows PySem.Spec PySem.Calls
set_option maxHeartbeats 8000000
namespace Mine
open_top hd for PySem.Challenge.rw_tr0020_01
abbrev prog := PySem.Challenge.rw_tr0020_01.prog
noncomputable abbrev looseN : List Str := looseW hd.view_39 [Str.ofString "_twin_re_1", Str.ofString "_twin_re_2"]

structure Gnd (w : World) (mean : ExcName → Option Value) (mg mb : Str → Option Value) (h : Heap) : Prop where
  X : (hd.heap_39 w.params).In h
  T : Top hd.view_39 looseN mean mg mb h
theorem Gnd.keeps {w : World} {mean : ExcName → Option Value} {mg mb : Str → Option Value} {h h' : Heap} (G : Gnd w mean mg mb h)
    (k : ∀ b o, h.get? b = some o → h'.get? b = some o) : Gnd w mean mg mb h' := ⟨G.X.keeps k, G.T.keeps k⟩

structure Room (A : Around) (n : Nat) : Prop where
  handled : A.handled = none
  depth : A.depth + n < recursionLimit
  units : A.units + 8 * n < cLine

structure Grow (s s' : Shared) : Prop where
  heap : ∀ b o, s.heap.get? b = some o → s'.heap.get? b = some o
  toks : s.toks ≤ s'.toks
  os : s'.os = s.os
  bare : AllBare s.gens → AllBare s'.gens
theorem Grow.refl (s : Shared) : Grow s s := ⟨fun _ _ e => e, Nat.le_refl _, rfl, id⟩
theorem Grow.trans {a b c : Shared} (x : Grow a b) (y : Grow b c) : Grow a c :=
  ⟨fun _ _ e => y.heap _ _ (x.heap _ _ e), Nat.le_trans x.toks y.toks, y.os.trans x.os, fun h => y.bare (x.bare h)⟩

section
variable {w : World} {mean : ExcName → Option Value} {mg mb : Str → Option Value} {A : Around} {s : Shared} {Q E : Value → Shared → Prop}
theorem enter {f : Addr} {name qual : Str} {params : Arguments} {body : List Stmt} {scope : Scope} {dV kV doc pm cdv ct oc : Value} {an od : Option Addr} {osl : Array (Option Value)} {args : List Value} {binds : List (Str × Value)} {n : Nat}
    (G : Gnd w mean mg mb s.heap) (R : Room A (n + 1))
    (ho : (hd.heap_39 w.params).lookup f = some ⟨oc, od, .func (fnOf name qual params body scope dV kV doc pm an cdv ct), osl⟩) (hcd : codeIn (hd.heap_39 w.params) cdv qual = true)
    (hbind : BindsTo s (fnOf name qual params body scope dV kV doc pm an cdv ct) ⟨args, []⟩ binds) (hloc : ∀ y ∈ binds, scope.names.lookup y.1 = some .local)
    (h : ∀ A' h₁, Room A' n → Fr s.heap s.heap.objs.size h₁ (fun y => binds.reverse.lookup y) →
      wpAny (model prog w) A' (execs body (envOf qual scope s.heap.objs.size f cdv))
        (fun fl s' => Q (match fl with | .ret v => v | _ => .none) s') (fun _ _ => False) { s with heap := h₁, toks := s.toks + binds.length })
    (hco : scope.isCoroutine = false) (hgen : scope.isGenerator = false) (hk : scope.kind = .function)
    (hcell : ∀ x ∈ scope.names, x.2 ≠ .cell) : wpAny (model prog w) A (call (.ref f) args) Q E s := by
  refine wpAny_call ?_
  refine codeAny_call_def (fd := fnOf name qual params body scope dV kV doc pm an cdv ct) (body := body) (binds := binds) (by have := R.depth; omega) (G.X _ _ ho) rfl G.T.nolimit (codeRec_of G.X hcd) rfl hbind hcell hloc (fun h₁ hns hk₁ => ?_) hco hgen hk
  exact wpAny_mono (h _ h₁ ⟨R.handled, by show A.depth + 1 + n < _; have := R.depth; omega, by show A.units + 3 + 8 * n < _; have := R.units; omega⟩ ⟨hns, hk₁, Nat.le_refl _⟩) (fun _ _ q => q) fun _ _ f => f.elim
end
end Mine
end
section
open PySem PySem.W PyProof.Rows PySem.Spec PySem.Calls
namespace Mine
theorem isT {a : Bool} (h : a = true) : a = true := h
section
variable {w : World} {mean : ExcName → Option Value} {mg mb : Str → Option Value} {h : Heap}
theorem Gnd.g_esc (G : Gnd w mean mg mb h) : mg "_escape_attrib" = some (.ref 45) := by have KX := G.X; have hz : PySem.Challenge.rw_tr0020_01 = PySem.Challenge.rw_tr0020_01 := rfl; revert hz KX; k_fill; intro KX _; exact mg_of KX G.T.g (by k_is)
theorem Gnd.g_iter (G : Gnd w mean mg mb h) : mg "_iter_escaped_chars" = some (.ref 52) := by have KX := G.X; have hz : PySem.Challenge.rw_tr0020_01 = PySem.Challenge.rw_tr0020_01 := rfl; revert hz KX; k_fill; intro KX _; exact mg_of KX G.T.g (by k_is)
theorem Gnd.g_strip (G : Gnd w mean mg mb h) : mg "_strip_quoted_realnames" = some (.ref 59) := by have KX := G.X; have hz : PySem.Challenge.rw_tr0020_01 = PySem.Challenge.rw_tr0020_01 := rfl; revert hz KX; k_fill; intro KX _; exact mg_of KX G.T.g (by k_is)
theorem Gnd.g_check (G : Gnd w mean mg mb h) : mg "_check_parenthesis" = some (.ref 66) := by have KX := G.X; have hz : PySem.Challenge.rw_tr0020_01 = PySem.Challenge.rw_tr0020_01 := rfl; revert hz KX; k_fill; intro KX _; exact mg_of KX G.T.g (by k_is)
theorem Gnd.g_re1 (G : Gnd w mean mg mb h) : mg "_twin_re_1" = some (.ref 71) := by have KX := G.X; have hz : PySem.Challenge.rw_tr0020_01 = PySem.Challenge.rw_tr0020_01 := rfl; revert hz KX; k_fill; intro KX _; exact mg_of KX G.T.g (by k_is)
theorem Gnd.g_re2 (G : Gnd w mean mg mb h) : mg "_twin_re_2" = some (.ref 76) := by have KX := G.X; have hz : PySem.Challenge.rw_tr0020_01 = PySem.Challenge.rw_tr0020_01 := rfl; revert hz KX; k_fill; intro KX _; exact mg_of KX G.T.g (by k_is)
theorem Gnd.g_crlf (G : Gnd w mean mg mb h) : ∃ t, mg "CRLF" = some (.str "\r\n" t) := by have KX := G.X; have hz : PySem.Challenge.rw_tr0020_01 = PySem.Challenge.rw_tr0020_01 := rfl; revert hz KX; k_fill; intro KX _; exact ⟨_, mg_of KX G.T.g (by k_is)⟩
theorem Gnd.g_quote (G : Gnd w mean mg mb h) : mg "quotedata" = some (.ref 83) := by have KX := G.X; have hz : PySem.Challenge.rw_tr0020_01 = PySem.Challenge.rw_tr0020_01 := rfl; revert hz KX; k_fill; intro KX _; exact mg_of KX G.T.g (by k_is)
theorem Gnd.g_rows (G : Gnd w mean mg mb h) : mg "_law_rows" = some (.ref 88) := by have KX := G.X; have hz : PySem.Challenge.rw_tr0020_01 = PySem.Challenge.rw_tr0020_01 := rfl; revert hz KX; k_fill; intro KX _; exact mg_of KX G.T.g (by k_is)
theorem Gnd.g_taken (G : Gnd w mean mg mb h) : mg "_law_taken" = some (.ref 95) := by have KX := G.X; have hz : PySem.Challenge.rw_tr0020_01 = PySem.Challenge.rw_tr0020_01 := rfl; revert hz KX; k_fill; intro KX _; exact mg_of KX G.T.g (by k_is)
theorem Gnd.g_turn (G : Gnd w mean mg mb h) : mg "_law_turn" = some (.ref 100) := by have KX := G.X; have hz : PySem.Challenge.rw_tr0020_01 = PySem.Challenge.rw_tr0020_01 := rfl; revert hz KX; k_fill; intro KX _; exact mg_of KX G.T.g (by k_is)
theorem Gnd.g_len (G : Gnd w mean mg mb h) : mg "len" = none ∧ mb "len" = some (.builtin "len") := by
  have KX := G.X; have hz : PySem.Challenge.rw_tr0020_01 = PySem.Challenge.rw_tr0020_01 := rfl; revert hz KX; k_fill; intro KX _; exact ⟨mg_none_of KX G.T.g (by k_is), (G.T.builtins _ (by decide)).trans boot_len⟩
theorem Gnd.g_range (G : Gnd w mean mg mb h) : mg "range" = none ∧ mb "range" = some (.type "range") := by
  have KX := G.X; have hz : PySem.Challenge.rw_tr0020_01 = PySem.Challenge.rw_tr0020_01 := rfl; revert hz KX; k_fill; intro KX _; exact ⟨mg_none_of KX G.T.g (by k_is), (G.T.builtins _ (by decide)).trans boot_range⟩
theorem Gnd.g_enum (G : Gnd w mean mg mb h) : mg "enumerate" = none ∧ mb "enumerate" = some (.type "enumerate") := by
  have KX := G.X; have hz : PySem.Challenge.rw_tr0020_01 = PySem.Challenge.rw_tr0020_01 := rfl; revert hz KX; k_fill; intro KX _; exact ⟨mg_none_of KX G.T.g (by k_is), (G.T.builtins _ (by decide)).trans boot_enumerate⟩
theorem Gnd.k45 (G : Gnd w mean mg mb h) : keepIn (hd.heap_39 w.params) (.ref 45) = true := by have KX := G.X; have hz : PySem.Challenge.rw_tr0020_01 = PySem.Challenge.rw_tr0020_01 := rfl; revert hz KX; k_fill; intro KX _; exact isT (by k_is)
theorem Gnd.k52 (G : Gnd w mean mg mb h) : keepIn (hd.heap_39 w.params) (.ref 52) = true := by have KX := G.X; have hz : PySem.Challenge.rw_tr0020_01 = PySem.Challenge.rw_tr0020_01 := rfl; revert hz KX; k_fill; intro KX _; exact isT (by k_is)
theorem Gnd.k59 (G : Gnd w mean mg mb h) : keepIn (hd.heap_39 w.params) (.ref 59) = true := by have KX := G.X; have hz : PySem.Challenge.rw_tr0020_01 = PySem.Challenge.rw_tr0020_01 := rfl; revert hz KX; k_fill; intro KX _; exact isT (by k_is)
theorem Gnd.k66 (G : Gnd w mean mg mb h) : keepIn (hd.heap_39 w.params) (.ref 66) = true := by have KX := G.X; have hz : PySem.Challenge.rw_tr0020_01 = PySem.Challenge.rw_tr0020_01 := rfl; revert hz KX; k_fill; intro KX _; exact isT (by k_is)
theorem Gnd.k83 (G : Gnd w mean mg mb h) : keepIn (hd.heap_39 w.params) (.ref 83) = true := by have KX := G.X; have hz : PySem.Challenge.rw_tr0020_01 = PySem.Challenge.rw_tr0020_01 := rfl; revert hz KX; k_fill; intro KX _; exact isT (by k_is)
theorem Gnd.k88 (G : Gnd w mean mg mb h) : keepIn (hd.heap_39 w.params) (.ref 88) = true := by have KX := G.X; have hz : PySem.Challenge.rw_tr0020_01 = PySem.Challenge.rw_tr0020_01 := rfl; revert hz KX; k_fill; intro KX _; exact isT (by k_is)
theorem Gnd.k95 (G : Gnd w mean mg mb h) : keepIn (hd.heap_39 w.params) (.ref 95) = true := by have KX := G.X; have hz : PySem.Challenge.rw_tr0020_01 = PySem.Challenge.rw_tr0020_01 := rfl; revert hz KX; k_fill; intro KX _; exact isT (by k_is)
theorem Gnd.k100 (G : Gnd w mean mg mb h) : keepIn (hd.heap_39 w.params) (.ref 100) = true := by have KX := G.X; have hz : PySem.Challenge.rw_tr0020_01 = PySem.Challenge.rw_tr0020_01 := rfl; revert hz KX; k_fill; intro KX _; exact isT (by k_is)
end
end Mine
end
section
open PySem PySem.W PyProof.Rows PySem.Spec PySem.Calls
namespace Mine
section
variable {M : Model} {A : Around} {R : GenEnd} {Y : Protocol} {n : Nat} {s₀ : Shared} {c : Code} {fs : List Frame} {s : Shared} {env : Env}
  {K : Flow → Sem Fin} {H : Value → Sem Fin} {gd : Bool → Bool} {lv : List Value → List Value}

theorem seg_If {test : Expr} {body orelse : List Stmt} {pos : Pos}
    (h : wpAny M (A.over c fs) (isTrue test env (eval test env))
      (fun b s' => if b = true then Seg M A R Y n s₀ c ((execs body env).wrap K H gd lv) fs s' else Seg M A R Y n s₀ c ((execs orelse env).wrap K H gd lv) fs s')
      (fun x s' => Seg M A R Y n s₀ c (H x) fs s') s) :
    Seg M A R Y n s₀ c ((exec (.If test body orelse pos) env).wrap K H gd lv) fs s := by
  rw [exec_If]
  show Seg M A R Y n s₀ c (.at pos fun _ => (isTrue test env (eval test env) >>= fun b => if b then execs body env else execs orelse env).wrap K H gd lv) fs s
  refine seg_at ?_
  rw [Sem.bind_eq_wrap', Sem.wrap_wrap]
  refine seg_wrap (wpAny_mono h (fun b s' hb => ?_) fun _ _ x => x)
  cases b <;> exact hb

theorem seg_stmt {st : Stmt} {rest : List Stmt}
    (h : wpAny M (A.over c fs) (exec st env) (fun f s' => match f with | .next => Seg M A R Y n s₀ c ((execs rest env).wrap K H gd lv) fs s' | f => Seg M A R Y n s₀ c (K f) fs s') (fun x s' => Seg M A R Y n s₀ c (H x) fs s') s) :
    Seg M A R Y n s₀ c ((execs (st :: rest) env).wrap K H gd lv) fs s := by
  refine seg_execs_cons (seg_wrap (wpAny_mono h (fun f s' hf => ?_) fun _ _ x => x))
  cases f <;> exact hf

theorem seg_For {target iter : Expr} {body orelse : List Stmt} {pos : Pos}
    (hs : ∀ x, foldedSetIterable iter env x = pure x)
    (h : wpAny M (A.over c fs) (eval iter env) (fun xv s₁ => wpAny M (A.over c fs) (pyIter xv) (fun it s₂ => ∀ p, Seg M A R Y n s₀ (.forLoop target it body orelse env) (M.den (.forLoop target it body orelse env))
      (.ret (fun r => ((match r with | .ok f => (.pure f : Sem Flow) | .error e => .raise e).onRaise fun (x : Value) => do
        if (← field x 1) == Value.none then unsupported "frame.own-activation:exception-without-traceback"
        setFlight x env.frame).wrap K H gd lv) none (gd false) (lv []) c p [] :: fs) s₂)
      (fun x s' => Seg M A R Y n s₀ c (H x) fs s') s₁) (fun x s' => Seg M A R Y n s₀ c (H x) fs s') s) :
    Seg M A R Y n s₀ c ((exec (.For target iter body orelse pos) env).wrap K H gd lv) fs s := by
  have e : exec (.For target iter body orelse pos) env = (do
      standAt pos
      let v ← eval iter env
      let x ← foldedSetIterable iter env v
      standAt iter.pos
      let it ← holding [x] (pyIter x)
      runOwn (.forLoop target it body orelse env) env) := rfl
  rw [e]
  show Seg M A R Y n s₀ c (.at pos fun _ => (eval iter env >>= fun v => foldedSetIterable iter env v >>= fun x => standAt iter.pos >>= fun _ => holding [x] (pyIter x) >>= fun it =>
    runOwn (.forLoop target it body orelse env) env).wrap K H gd lv) fs s
  refine seg_at ?_
  rw [Sem.bind_eq_wrap', Sem.wrap_wrap]
  refine seg_wrap (wpAny_mono h (fun xv s₁ h₁ => ?_) fun _ _ x => x)
  rw [hs]
  show Seg M A R Y n s₀ c (.at iter.pos fun _ => (holding [xv] (pyIter xv) >>= fun it => runOwn (.forLoop target it body orelse env) env).wrap K H gd lv) fs s₁
  refine seg_at ?_
  rw [Sem.bind_eq_wrap', Sem.wrap_wrap]
  refine seg_wrap (wpAny_holding (wpAny_mono h₁ (fun it s₂ h₂ => ?_) fun _ _ x => x))
  exact seg_call h₂
end

section
variable {prog : Program} {w : World} {A : Around} {R : GenEnd} {Y : Protocol} {n : Nat} {s₀ : Shared} {fs : List Frame} {s : Shared} {env : Env}

theorem seg_forLoop {target : Expr} {it : Value} {body orelse : List Stmt}
    (h : wpAny (model prog w) (A.over (.forLoop target it body orelse env) fs) (pyNext it) (fun r s₁ => match r with
      | none => Seg (model prog w) A R Y n s₀ (.block orelse env) ((model prog w).den (.block orelse env)) fs s₁
      | some v => wpAny (model prog w) (A.over (.forLoop target it body orelse env) fs) (letOwnedTupleGo target it v) (fun _ s₂ =>
          wpAny (model prog w) (A.over (.forLoop target it body orelse env) fs) (assign target env v) (fun _ s₃ =>
            Seg (model prog w) A R Y n s₀ (.forLoop target it body orelse env) ((execs body env).wrap (fun f => match f with
              | .next | .cont => .pure (.again (.forLoop target it body orelse env))
              | .brk => .pure (.done .next)
              | .ret v => .pure (.done (.ret v))) (fun e => (do noteFrame e env; theTreesLotGoes e : Sem Unit).wrap (fun _ => .raise e) .raise id id) id id) fs s₃)
            (fun _ _ => False) s₂) (fun _ _ => False) s₁) (fun _ _ => False) s) :
    Seg (model prog w) A R Y n s₀ (.forLoop target it body orelse env) ((model prog w).den (.forLoop target it body orelse env)) fs s := by
  show Seg _ A R Y n s₀ _ ((forTurn target it body orelse env).onRaise (fun x => do noteFrame x env; theTreesLotGoes x)) fs s
  unfold forTurn
  show Seg _ A R Y n s₀ _ (.at target.pos fun _ => Sem.onRaise (((pyNext it).onRaise (fun _ => standAt { target.pos with line := 0 })) >>= _) (fun x => do noteFrame x env; theTreesLotGoes x)) fs s
  refine seg_at ?_
  rw [Sem.onRaise_eq_wrap, Sem.bind_eq_wrap', Sem.wrap_wrap, Sem.onRaise_eq_wrap, Sem.wrap_wrap]
  refine seg_wrap (wpAny_mono h (fun r s₁ h₁ => ?_) fun _ _ f => f.elim)
  cases r with
  | none => exact seg_again rfl h₁
  | some v =>
    show Seg _ A R Y n s₀ _ (Sem.wrap _ _ _ _ (letOwnedTupleGo target it v >>= fun _ => assign target env v >>= fun _ => execs body env >>= _)) fs s₁
    rw [Sem.bind_eq_wrap', Sem.wrap_wrap]
    refine seg_wrap (wpAny_mono h₁ (fun _ s₂ h₂ => ?_) fun _ _ f => f.elim)
    show Seg _ A R Y n s₀ _ (Sem.wrap _ _ _ _ (assign target env v >>= fun _ => execs body env >>= _)) fs s₂
    rw [Sem.bind_eq_wrap', Sem.wrap_wrap]
    refine seg_wrap (wpAny_mono h₂ (fun _ s₃ h₃ => ?_) fun _ _ f => f.elim)
    show Seg _ A R Y n s₀ _ (Sem.wrap _ _ _ _ (execs body env >>= _)) fs s₃
    rw [Sem.bind_eq_wrap', Sem.wrap_wrap]
    rw [Sem.wrap_congr (execs body env) _ _ (K' := fun f => match f with
            | .next | .cont => .pure (.again (.forLoop target it body orelse env))
            | .brk => .pure (.done .next)
            | .ret v => .pure (.done (.ret v))) (H' := (fun e => (do noteFrame e env; theTreesLotGoes e : Sem Unit).wrap (fun _ => .raise e) .raise id id))
        (fun f => by cases f <;> rfl)
        (fun e => by first | exact Sem.bind_eq_wrap _ _ | (show (do noteFrame e env; theTreesLotGoes e : Sem Unit).bind (fun _ => .raise e) = _; rw [Sem.bind_eq_wrap]))]
    exact h₃
end
end Mine
end
section
open PySem PySem.W PyProof.Rows PySem.Spec PySem.Calls
namespace Mine
abbrev Keep (h h' : Heap) : Prop := ∀ b o, h.get? b = some o → h'.get? b = some o

/-- the tokens of the escaping reader: place, signs -/
def gtoks : List Nat → Nat → Bool → List (Nat × List Nat)
  | [], _, false => []
  | [], i, true => [(i - 1, [92])]
  | c :: r, i, true => (i, [92, c]) :: gtoks r (i + 1) false
  | c :: r, i, false => if c = 92 then gtoks r (i + 1) true else (i, [c]) :: gtoks r (i + 1) false

def Priv (Lg n0 b : Addr) : Prop := b = Lg ∨ b = n0 ∨ b = n0 + 1

structure GRel (Lg n0 : Addr) (s s' : Shared) : Prop where
  heap : ∀ b o, ¬ Priv Lg n0 b → s.heap.get? b = some o → s'.heap.get? b = some o
  os : s'.os = s.os
  gens : s'.gens = s.gens
theorem GRel.trans {Lg n0 : Addr} {a b c : Shared} (x : GRel Lg n0 a b) (y : GRel Lg n0 b c) : GRel Lg n0 a c :=
  ⟨fun b o h e => y.heap b o h (x.heap b o h e), y.os.trans x.os, y.gens.trans x.gens⟩

def tokObj (p : Nat) (l : List Nat) (t1 t2 : Tok) : Obj := { cls := .type "tuple", data := .seq #[.int p t1, .str ⟨l.toArray⟩ t2] }

def YG (base : Heap) (Lg n0 : Addr) (T : List (Nat × List Nat)) : Protocol := fun k s₀ v s' kap =>
  ∃ D p l rest a t1 t2, T = D ++ (p, l) :: rest ∧ rest.length = k ∧ v = .ref a ∧ s₀.heap.get? a = none ∧ s'.heap.get? a = some (tokObj p l t1 t2) ∧ GRel Lg n0 s₀ s' ∧
    ∀ s'', Keep base s''.heap → (∀ b o, Priv Lg n0 b → s'.heap.get? b = some o → s''.heap.get? b = some o) → kap (.send .none) s''
def PG (Lg n0 : Addr) : Nat → Shared → Shared → Prop := fun k s₀ s' => k = 0 ∧ GRel Lg n0 s₀ s'
abbrev RG (Lg n0 : Addr) : GenEnd := fun n s₀ r s₁ => r = .ok (.ret .none) ∧ PG Lg n0 n s₀ s₁

section
variable {M : Model} {A : Around} {R : GenEnd} {Y : Protocol} {fs : List Frame} {c : Code}
theorem seg_ind (I : Nat → Nat → Shared → Shared → Prop)
    (turn : ∀ k n s₀ s, I k n s₀ s → (∀ k' n' s₀' s', k' < k → I k' n' s₀' s' → Seg M A R Y n' s₀' c (M.den c) fs s') → Seg M A R Y n s₀ c (M.den c) fs s) :
    ∀ k n s₀ s, I k n s₀ s → Seg M A R Y n s₀ c (M.den c) fs s := by
  intro k
  induction k using Nat.strongRecOn with
  | ind k ih => intro n s₀ s h; exact turn k n s₀ s h fun k' n' s₀' s' hk h' => ih k' hk n' s₀' s' h'
end

section
variable {prog : Program} {w : World} {A : Around} {E : Value → Shared → Prop} {s : Shared}
theorem wpAny_pyNext_genQ {a : Addr} {g n : Nat} {gs : GenState} {P : Nat → Shared → Shared → Prop} {Y : Protocol} {Q : Option Value → Shared → Prop} (hh : A.handled = none)
    (hl : s.heap.NoLimit) (hroom : A.depth < recursionLimit)
    (hg : s.heap.IsGen a g) (hgs : s.gens[g]? = some gs)
    (hgo : gs.Goes (model prog w) A.in1 (fun n s₀ r s₁ => r = .ok (.ret .none) ∧ P n s₀ s₁) Y n (.send .none) (s.setGen g .running))
    (hY : ∀ v s₁ gs', gs'.bare = true → Y (n - 1) (s.setGen g .running) v s₁ (fun r' s'' => match n with
        | 0 => False
        | m + 1 => gs'.Goes (model prog w) A.in1 (fun n s₀ r s₁ => r = .ok (.ret .none) ∧ P n s₀ s₁) Y m r' s'') → Q (some v) (s₁.setGen g gs'))
    (hP : ∀ s₁, P n (s.setGen g .running) s₁ → ∀ h', Keep s₁.heap h' → Q none { s₁.setGen g .finished with heap := h' }) :
    wpAny (model prog w) A (pyNext (.ref a)) Q E s := by
  unfold pyNext
  refine wpAny_bind (wpAny_attempt (wpAny_callSpecial?_slot (name := Str.ofString "__next__") hg.typeIs slot_gen_next
    (wpAny_call_entry slot_gen_next hg.typeIs entry_gen_next ?_ (args_gen_next _))))
  show wpAny _ A.in1 (Builtin.Generator.genWake (.ref a) (.send .none)) _ _ s
  unfold Builtin.Generator.genWake
  refine wpAny_bind (wpAny_holding (wpAny_genNumber hg (wpAny_bind (wpAny_genState hgs ?_))))
  cases gs with
  | running => exact hgo.elim
  | finished => exact hgo.elim
  | _ =>
    refine wpAny_bind (wpAny_roomToWake hl hroom ?_)
    show wpAny _ A.in1 (.resume g (.send .none) [] _) _ _ s
    refine wpAny_resumeQ hgs hgo (fun x s₁ hx => ?_) (fun v s₁ gs' hb hv => ?_)
    · obtain ⟨rfl, hp⟩ := hx
      show wpAny _ A.in1 (newExc (.type "StopIteration") [] >>= _) _ _ _
      refine wpAny_bind ?_
      simp only [newExc, newTuple]
      refine wpAny_bind (wpAny_newObj_type ?_ (by size_fits))
      refine wpAny_bind (m := firstArgMember _ _) (wpAny_of_eq (a := Value.none) (by first | rfl | (simp only [firstArgMember]; rfl)) ?_)
      refine wpAny_newObj_type ?_ (by size_fits)
      simp only [raiseNew]
      refine wpAny_bind (wpAny_bind (wpAny_handled ?_))
      first | rw [show A.in1.handled = none from hh] | rw [hh]
      refine wpAny_throw ?_
      refine wpAny_bind (wpAny_isInstance (T := "StopIteration") (b := true) ⟨_, Heap.get?_push_size _ rfl, rfl⟩ isSubtype_stop ?_)
      exact wpAny_pure (hP s₁ hp _ fun b o hb => Heap.get?_push_of_some _ (Heap.get?_push_of_some _ hb))
    · exact wpAny_pure ⟨v, rfl, wpAny_pure (hY v s₁ gs' hb hv)⟩
end
end Mine
end
section
open PySem PySem.W PyProof.Rows PySem.Spec PySem.Calls
namespace Mine
section
variable {prog : Program} {w : World} {A : Around} {E : Value → Shared → Prop} {s : Shared} {env : Env} {m : Str → Option Value}

theorem assign_pair {xi xv : Str} {pi pv pos : Pos} {k : Nat} {T : Addr} {a b : Value} {Q : Unit → Shared → Prop} (hh : A.handled = none) (hT : s.heap.IsTuple T #[a, b]) (hn : s.heap.Ns env.locals m)
    (hxi : env.kindOf xi = some .local) (hxv : env.kindOf xv = some .local) (hp : (env.scope.kind == .class || (env.scope.kind == .module && env.locals != env.globals)) = false)
    (h : ∀ h' tk, h'.Ns env.locals (fun y => if y = xv then some b else if y = xi then some a else m y) → (∀ b o, b ≠ env.locals → s.heap.get? b = some o → h'.get? b = some o) → Q () { s with heap := h', toks := tk }) :
    wpAny (model prog w) A (assign (.Tuple [.Name xi pi, .Name xv pv] k pos) env (.ref T)) Q E s := by
  refine wpAny_assign_Tuple hh hT rfl rfl fun h₃ hx₃ => ?_
  have old₃ : ∀ b o, s.heap.get? b = some o → h₃.get? b = some o := fun b o e => hx₃ b o (Nat.ne_of_lt (Heap.lt_size e)) e
  have hn₃ : h₃.Ns env.locals m := hn.keeps old₃
  show wpAny _ A (do holding [b] (assign (.Name xi pi) env a); do holding [] (assign (.Name xv pv) env b); pure ()) _ _ _
  refine wpAny_bind (wpAny_holding (wpAny_assign_Name (wpAny_storeName_local hxi hn₃ (fun h₄ hn₄ hs₄ => ?_) hp)))
  refine wpAny_bind (wpAny_holding (wpAny_assign_Name (wpAny_storeName_local hxv hn₄ (fun h₅ hn₅ hs₅ => wpAny_pure ?_) hp)))
  exact h h₅ _ hn₅ fun b o hb e => hs₅.extBut b o hb (hs₄.extBut b o hb (old₃ b o e))

/-- a plain name of the frame as a test -/
theorem isTrue_name {x : Str} {pos : Pos} {b : Bool} {whole : Sem Value} {Q : Bool → Shared → Prop} (hk : env.scope.kind = .function) (hx : env.kindOf x = some .local) (hn : s.heap.Ns env.locals m) (hv : m x = some (.bool b))
    (hw : whole = eval (.Name x pos) env) (h : Q b s) (hd : (x == ("__debug__" : Str)) = false := by decide) : wpAny (model prog w) A (isTrue (.Name x pos) env whole) Q E s := by
  subst hw
  exact isTrue_plain (wpAny_Name (wpAny_loadName_local hk hx hn hv (wpAny_truthy_bool h)) hd)

theorem ev_name {x : Str} {pos : Pos} {v : Value} {Q : Value → Shared → Prop} (hk : env.scope.kind = .function) (hx : env.kindOf x = some .local) (hn : s.heap.Ns env.locals m) (hv : m x = some v)
    (h : Q v s) (hd : (x == ("__debug__" : Str)) = false := by decide) : wpAny (model prog w) A (eval (.Name x pos) env) Q E s :=
  wpAny_Name (wpAny_loadName_local hk hx hn hv h) hd

/-- a name bound at the top -/
theorem ev_glob {mg : Str → Option Value} {x : Str} {pos : Pos} {v : Value} {Q : Value → Shared → Prop} (hk : env.scope.kind = .function) (hx : env.kindOf x = some .globalImplicit) (hg : s.heap.Ns env.globals mg) (hv : mg x = some v)
    (h : Q v s) (hd : (x == ("__debug__" : Str)) = false := by decide) : wpAny (model prog w) A (eval (.Name x pos) env) Q E s :=
  Name_function_global hk hx (loadGlobal_global hg hv h) hd
/-- a built-in's name -/
theorem ev_built {mg mb : Str → Option Value} {x : Str} {pos : Pos} {v : Value} {Q : Value → Shared → Prop} (hk : env.scope.kind = .function) (hx : env.kindOf x = some .globalImplicit) (hg : s.heap.Ns env.globals mg) (hv : mg x = none)
    (hb : s.heap.Ns env.builtins mb) (hvb : mb x = some v) (h : Q v s) (hd : (x == ("__debug__" : Str)) = false := by decide) : wpAny (model prog w) A (eval (.Name x pos) env) Q E s :=
  Name_function_global hk hx (loadGlobal_builtin hg hv hb hvb h) hd
end
end Mine
end
section
open PySem PySem.W PyProof.Rows PySem.Spec PySem.Calls
set_option maxHeartbeats 4000000
namespace Mine
theorem draws_str {prog : Program} {w : World} {A : Around} (hh : A.handled = none) (it : Addr) (x : Str) (t : Tok) :
    Draws prog w A it [it] x.cps.size (fun i v => ∃ c u, x.cps[i]? = some c ∧ v = .str ⟨#[c]⟩ u) (fun i h => h.IsStrIter it (strIterType x) x t i) := by
  cases ha : x.cps.all (· < 128)
  · simpa [strIterType, ha] using Draws.strWide (prog := prog) (w := w) hh it x t
  · simpa [strIterType, ha] using Draws.strAscii (prog := prog) (w := w) hh it x t

theorem gtoks_cons (l : List Nat) (i : Nat) (esc : Bool) (c : Nat) (r : List Nat) (h : l.drop i = c :: r) :
    gtoks (l.drop i) i esc = if esc then (i, [92, c]) :: gtoks (l.drop (i + 1)) (i + 1) false else if c = 92 then gtoks (l.drop (i + 1)) (i + 1) true else (i, [c]) :: gtoks (l.drop (i + 1)) (i + 1) false := by
  have h2 : l.drop (i + 1) = r := by
    have := congrArg (List.drop 1) h
    simpa [List.drop_drop] using this
  rw [h, h2]
  cases esc <;> rfl

section
variable {w : World} {mean : ExcName → Option Value} {mg mb : Str → Option Value} {A : Around} {s : Shared} {Q E : Value → Shared → Prop} {base : Heap}
theorem enterG {f : Addr} {name qual : Str} {params : Arguments} {body : List Stmt} {scope : Scope} {dV kV doc pm cdv ct oc : Value} {an od : Option Addr} {osl : Array (Option Value)} {args : List Value} {n : Nat} (binds : List (Str × Value))
    (G : Gnd w mean mg mb base) (kb : Keep base s.heap) (R : Room A (n + 1))
    (ho : (hd.heap_39 w.params).lookup f = some ⟨oc, od, .func (fnOf name qual params body scope dV kV doc pm an cdv ct), osl⟩) (hcd : codeIn (hd.heap_39 w.params) cdv qual = true)
    (hbind : bindArgs (fnOf name qual params body scope dV kV doc pm an cdv ct) ⟨args, []⟩ = pure binds) (hloc : ∀ y ∈ binds, scope.names.lookup y.1 = some .local)
    (h : ∀ h₁ tk n1 n2, h₁.Ns s.heap.objs.size (fun y => binds.reverse.lookup y) → Keep s.heap h₁ → h₁.objs.size = s.heap.objs.size + 1 →
      Q (.ref h₁.objs.size) { s with gens := s.gens.push (.fresh (.func body (envOf qual scope s.heap.objs.size f cdv))), toks := tk, heap := h₁.push { cls := .type "generator", data := .fields #[.int s.gens.size 0, n1, n2] } })
    (hco : scope.isCoroutine = false) (hgen : scope.isGenerator = true) (hk : scope.kind = .function)
    (hcell : ∀ x ∈ scope.names, x.2 ≠ .cell) : wpAny (model prog w) A (call (.ref f) args) Q E s := by
  refine wpAny_call ?_
  have X := G.X.keeps kb
  refine codeAny_call_generator (fd := fnOf name qual params body scope dV kV doc pm an cdv ct) (body := body) (by have := R.depth; omega) (X _ _ ho) rfl hco hgen rfl (codeRec_of X hcd) ?_
  rw [hbind]
  refine wpAny_pure ?_
  refine wpAny_newFunctionEnv hcell hloc (fun h₁ hns hsb => ⟨(G.T.nolimit.keeps kb).fresh _ hsb, ?_⟩) hk
  exact h h₁ _ _ _ hns (fun b o e => hsb.extBut b o (Nat.ne_of_lt (Heap.lt_size e)) (Heap.get?_push_of_some _ e)) (by rw [hsb.1, Heap.size_push])


theorem gen_call (G : Gnd w mean mg mb base) (kb : Keep base s.heap) (R : Room A (4 + 1)) (x : Str) (t : Tok) (hxs : x.length ≤ 16777000)
    (hq : ∀ s' I Lg gs, s'.heap.IsGen I s.gens.size → s'.gens = s.gens.push gs → gs.bare = true → Keep s.heap s'.heap → s'.os = s.os → s.heap.objs.size ≤ Lg → Lg < I → s'.heap.objs.size = I + 1 →
      (∀ (Ag : Around) (s'' : Shared), Room Ag 4 → s''.heap.objs.size = I + 1 → Keep base s''.heap → (∀ o, s'.heap.get? Lg = some o → s''.heap.get? Lg = some o) →
        gs.Goes (model prog w) Ag (RG Lg (I + 1)) (YG base Lg (I + 1) (gtoks x.cps.toList 0 false)) (gtoks x.cps.toList 0 false).length (.send .none) s'') → Q (.ref I) s') :
    wpAny (model prog w) A (call (.ref 52) [.str x t]) Q E s := by
  have KX := G.X
  have hz : PySem.Challenge.rw_tr0020_01 = PySem.Challenge.rw_tr0020_01 := rfl
  revert hz KX
  k_fill
  intro KX _
  refine' enterG [(Str.ofString "addr", .str x t)] (by assumption) (by assumption) (by assumption) ?k1 ?k2 ?k3 ?k4 ?_ ?c1 ?c2 ?c3 ?c4
  case k1 => k_is
  case k2 => k_is
  case k3 => exact rfl
  case c4 => decide
  case k4 => exact locs rfl
  case c1 => exact rfl
  case c2 => exact rfl
  case c3 => exact rfl
  intro h₁ tk n1 n2 hns hk hsz
  have hbase : ∀ b o, base.get? b = some o → b < s.heap.objs.size := fun b o e => Heap.lt_size (kb b o e)
  refine hq _ _ s.heap.objs.size _ ⟨_, _, _, Heap.get?_push_size _ rfl, rfl, rfl, rfl⟩ rfl rfl (fun b o e => Heap.get?_push_of_some _ (hk b o e)) rfl (Nat.le_refl _) (by rw [hsz]; exact Nat.lt_succ_self _) (Heap.size_push ..) ?_
  generalize hI : h₁.objs.size = I at *
  have hLI : s.heap.objs.size < I := by omega
  generalize hL : s.heap.objs.size = Lg at *
  intro Ag s₀ RA hs₀ hkb hLk
  refine ⟨rfl, ?_⟩
  refine seg_func ?_
  have hn : s₀.heap.Ns Lg (fun y => [(Str.ofString "addr", Value.str x t)].reverse.lookup y) := by
    obtain ⟨o, a1, a2, ho, r⟩ := hns
    exact ⟨o, a1, a2, hLk _ (Heap.get?_push_of_some _ ho), r⟩
  refine seg_stmt (wpAny_Assign_Name (wpAny_Constant_int (wpAny_storeName_local rfl hn (fun h2 hn2 hs2 => ?_))))
  dsimp only
  refine seg_stmt (wpAny_Assign_Name (wpAny_pure (wpAny_storeName_local rfl hn2 (fun h3 hn3 hs3 => ?_))))
  dsimp only
  refine seg_execs_cons (seg_For (fun _ => rfl) ?_)
  have kb3 : Keep base h3 := fun b o e => hs3.extBut b o (Nat.ne_of_lt (hbase b o e)) (hs2.extBut b o (Nat.ne_of_lt (hbase b o e)) (hkb b o e))
  have sz3 : h3.objs.size = I + 1 := by rw [hs3.1, hs2.1]; exact hs₀
  refine wpAny_Call_NameR (ev_built rfl rfl (G.T.g.keeps kb3) G.g_enum.1 (G.T.b.keeps kb3) G.g_enum.2 ?_)
  refine callWith_type1 (spliced_cons (ev_name rfl rfl hn3 rfl (spliced_nil ?_)))
  refine call_enumerate_str fun h4 he4 hi4 sz4 hk4 => ?_
  dsimp only at he4 hi4 sz4 hk4 ⊢
  rw [sz3] at he4 hi4 sz4 ⊢
  refine wpAny_pyIter_enum he4 ?_
  intro p
  have nL1 : I + 1 ≠ Lg := by omega
  have nL2 : I + 1 + 1 ≠ Lg := by omega
  have hpriv : ∀ b o, base.get? b = some o → ¬ Priv Lg (I + 1) b := fun b o e hp => by
    rcases hp with h | h | h
    · exact Nat.ne_of_lt (hbase b o e) h
    · exact Nat.ne_of_lt (Nat.lt_of_lt_of_le (hbase b o e) (by omega : Lg ≤ I + 1)) h
    · exact Nat.ne_of_lt (Nat.lt_of_lt_of_le (hbase b o e) (by omega : Lg ≤ I + 1 + 1)) h
  refine seg_ind (fun k n s₀' s' => ∃ (i : Nat) (esc : Bool) (D : List (Nat × List Nat)) (m : Str → Option Value) (old : Value) (tp : Tok), i + k = x.cps.size ∧ n = (gtoks (x.cps.toList.drop i) i esc).length ∧
      gtoks x.cps.toList 0 false = D ++ gtoks (x.cps.toList.drop i) i esc ∧ GRel Lg (I + 1) s₀' s' ∧ Keep base s'.heap ∧ s'.heap.Ns Lg m ∧ m (Str.ofString "escape") = some (.bool esc) ∧ m (Str.ofString "pos") = some (.int ((i - 1 : Nat) : Int) tp) ∧
      IsEnum s'.heap (I + 1 + 1) (I + 1) i old ∧ s'.heap.IsStrIter (I + 1) (strIterType x) x t i) ?turn x.cps.size _ _ _ ?start
  case start =>
    refine ⟨0, false, [], _, _, _, Nat.zero_add _, by simp, by simp, ⟨fun b o hb e => hk4 b o (hs3.extBut b o (fun h => hb (.inl h)) (hs2.extBut b o (fun h => hb (.inl h)) e)), rfl, rfl⟩,
      fun b o e => hk4 b o (kb3 b o e), hn3.keeps hk4, rfl, rfl, he4, hi4⟩
  case turn =>
    rintro k n s₀' s' ⟨i, esc, D, m, old, tp, hik, rfl, hT, hrel, hkb', hm, hme, hmp, hen, hit⟩ IH
    by_cases hi : i < x.cps.size
    · have hdr : x.cps.toList.drop i = x.cps[i] :: x.cps.toList.drop (i + 1) := by
        rw [List.drop_eq_getElem_cons (by simpa using hi)]; simp
      have hgt := gtoks_cons x.cps.toList i esc _ _ hdr
      have WT := fun (c : Code) (k : Result → Sem Fin) (g : Bool) (l : List Value) (c' : Code) (p' : Pos) (kp : List Value) => WalksT.enumerateD (prog := prog) (w := w) (A := Ag.over c [Frame.ret k none g l c' p' kp]) (draws_str (by
        show (marksOver _ (Ag.handled, Ag.handled)).1 = none
        rw [RA.handled]; rfl) (I + 1) x t) (I + 1 + 1) (Nat.succ_ne_self _) (by simp) (by simp)
      refine seg_forLoop ((WT _ _ _ _ _ _ _).item i _ _ _ hi ⟨⟨old, hen⟩, hit⟩ fun T vals h' tk' hPt hsz' hIsT hMid hk' => ?_)
      obtain ⟨t', v', ⟨c, u, hc, rfl⟩, rfl⟩ := hPt
      dsimp only
      refine (WT _ _ _ _ _ _ _).go _ _ _ i T _ _ _ hMid fun h2' hst2 hk2' => ?_
      have hT2 : h2'.IsTuple T #[.int i t', .str ⟨#[c]⟩ u] := by
        obtain ⟨o, ho, r⟩ := hIsT
        exact ⟨o, hk2' T o ((WT (.func [] default) (fun _ => .pure (.done .next)) false [] default default []).apart _ _ _ hMid) ho, r⟩
      have kk : ∀ b o, ¬ Priv Lg (I + 1) b → s'.heap.get? b = some o → h2'.get? b = some o := fun b o hb e =>
        hk2' b o (fun h => hb (by rcases List.mem_cons.mp h with h | h; exact .inr (.inr h); exact .inr (.inl (List.mem_singleton.mp h)))) (hk' b o (fun h => hb (by rcases List.mem_cons.mp h with h | h; exact .inr (.inr h); exact .inr (.inl (List.mem_singleton.mp h)))) e)
      have hLw : Lg ∉ [I + 1 + 1, I + 1] := fun h => by
        rcases List.mem_cons.mp h with h | h
        · exact nL2 h.symm
        · exact nL1 (List.mem_singleton.mp h).symm
      have hn2' : h2'.Ns Lg m := by
        obtain ⟨o, a1, a2, ho, r⟩ := hm
        exact ⟨o, a1, a2, hk2' _ o hLw (hk' _ o hLw ho), r⟩
      refine assign_pair (by show (marksOver _ (Ag.handled, Ag.handled)).1 = none; rw [RA.handled]; rfl) hT2 hn2' rfl rfl rfl fun h3' tk3 hn3' hk3' => ?_
      have kk3 : ∀ b o, ¬ Priv Lg (I + 1) b → s'.heap.get? b = some o → h3'.get? b = some o := fun b o hb e => hk3' b o (fun h => hb (.inl h)) (kk b o hb e)
      have kb3' : Keep base h3' := fun b o e => kk3 b o (hpriv b o e) (hkb' b o e)
      obtain ⟨⟨old3, hen3⟩, hit3⟩ := hst2
      have hen3' := hk3' _ _ nL2 hen3
      have hit3' : h3'.IsStrIter (I + 1) (strIterType x) x t (i + 1) := by obtain ⟨o, ho, r⟩ := hit3; exact ⟨o, hk3' _ _ nL1 ho, r⟩
      have rel3 : GRel Lg (I + 1) s₀' { s' with heap := h3', toks := tk3 } := hrel.trans ⟨kk3, rfl, rfl⟩
      clear hMid hIsT hT2 hn2' hk2' hk' hk3' kk
      have np3 : ¬ Priv Lg (I + 1) h3'.objs.size := fun h => by
        rcases h with h | h | h
        · exact Nat.ne_of_gt hn3'.lt h
        · obtain ⟨o, ho, _⟩ := hit3'
          exact Nat.ne_of_gt (Heap.lt_size ho) h
        · exact Nat.ne_of_gt (Heap.lt_size hen3') h
      have fresh3 : s₀'.heap.get? h3'.objs.size = none := by
        cases e : s₀'.heap.get? h3'.objs.size with
        | none => rfl
        | some o => exact absurd (Heap.lt_size (rel3.heap _ o np3 e)) (Nat.lt_irrefl _)
      have after : ∀ {ob : Obj} (s'' : Shared), (∀ b o, Priv Lg (I + 1) b → (h3'.push ob).get? b = some o → s''.heap.get? b = some o) →
          s''.heap.Ns Lg _ ∧ IsEnum s''.heap (I + 1 + 1) (I + 1) (((i + 1 : Nat)) : Int) old3 ∧ s''.heap.IsStrIter (I + 1) (strIterType x) x t (i + 1) := fun {ob} s'' hpr =>
        ⟨hn3'.at' fun o e => hpr _ o (.inl rfl) (Heap.get?_push_of_some _ e), hpr _ _ (.inr (.inr rfl)) (Heap.get?_push_of_some _ hen3'), by
          obtain ⟨o, ho, r⟩ := hit3'
          exact ⟨o, hpr _ o (.inr (.inl rfl)) (Heap.get?_push_of_some _ ho), r⟩⟩
      have hci : x.cps[i] = c := by rw [Array.getElem?_eq_getElem hi] at hc; exact Option.some.inj hc
      rw [hci] at hgt
      refine seg_execs_cons (seg_If (isTrue_name rfl rfl hn3' ((if_neg (by decide)).trans ((if_neg (by decide)).trans hme)) rfl ?_))
      cases esc with
      | true =>
        simp only [if_true] at hgt ⊢
        rw [hgt] at hT ⊢
        refine seg_execs_cons (seg_Expr_Yield rfl rfl rfl ?_)
        refine Tuple_ (spliced_cons (ev_name rfl rfl hn3' ((if_neg (by decide)).trans (if_pos rfl)) (spliced_cons (wpAny_BinOp (Constant_str (ev_name rfl rfl hn3' (if_pos rfl) (PyProof.Rows.add_str (fun t5 tk5 => spliced_nil (wpAny_newTuple ?_)) ?hsz)))))))
        case hsz => show _ + 1 ≤ _; decide
        intro kap hkap
        have hbs : (Str.ofString "\\" ++ ⟨#[c]⟩ : Str) = ⟨[92, c].toArray⟩ := by
          have : Str.ofString "\\" = ⟨#[92]⟩ := by decide +kernel
          rw [this]; rfl
        rw [hbs]
        refine ⟨D, i, [92, c], _, _, _, _, hT, rfl, rfl, fresh3, Heap.get?_push_size _ rfl, rel3.trans ⟨fun b o _ e => Heap.get?_push_of_some _ e, rfl, rfl⟩, fun s'' kb'' hpr => hkap .none s'' ?_⟩
        obtain ⟨hn7, hen7, hit7⟩ := after s'' hpr
        refine seg_stmt (wpAny_Assign_Name (wpAny_pure (wpAny_storeName_local rfl hn7 (fun h6 hn6 hs6 => ?_))))
        refine seg_execs_nil (seg_again rfl (IH (k - 1) _ _ _ (by omega) ⟨i + 1, false, D ++ [(i, [92, c])], _, _, _, by omega, rfl, by rw [hT]; simp, ⟨fun b o hb e => hs6.extBut b o (fun h => hb (.inl h)) e, rfl, rfl⟩,
          fun b o e => hs6.extBut b o (fun h => hpriv b o e (.inl h)) (kb'' b o e), hn6, if_pos rfl, (if_neg (by decide)).trans ((if_neg (by decide)).trans (if_pos rfl)), hs6.extBut _ _ nL2 hen7, hit7.extBut hs6.extBut nL1⟩))
      | false =>
        simp only [Bool.false_eq_true, if_false] at hgt ⊢
        refine seg_execs_cons (seg_If (wpAny_isTrue_Compare1 (ev_name rfl rfl hn3' (if_pos rfl) (Constant_str (PyProof.Rows.eq_str (wpAny_truthy_bool ?_))))))
        have hbs : (Str.ofString "\\" : Str) = ⟨#[92]⟩ := by decide +kernel
        by_cases hc92 : c = 92
        · subst hc92
          have : ((⟨#[92]⟩ : Str) == Str.ofString "\\") = true := by rw [hbs]; rfl
          rw [this]
          simp only [if_true] at hgt ⊢
          rw [hgt] at hT ⊢
          refine seg_stmt (wpAny_Assign_Name (wpAny_pure (wpAny_storeName_local rfl hn3' (fun h6 hn6 hs6 => ?_))))
          refine seg_execs_nil (seg_execs_nil (seg_again rfl (IH (k - 1) _ _ _ (by omega) ⟨i + 1, true, D, _, _, _, by omega, rfl, hT, rel3.trans ⟨fun b o hb e => hs6.extBut b o (fun h => hb (.inl h)) e, rfl, rfl⟩,
            fun b o e => hs6.extBut b o (fun h => hpriv b o e (.inl h)) (kb3' b o e), hn6, if_pos rfl, (if_neg (by decide)).trans ((if_neg (by decide)).trans (if_pos rfl)), hs6.extBut _ _ nL2 hen3', hit3'.extBut hs6.extBut nL1⟩)))
        · have : ((⟨#[c]⟩ : Str) == Str.ofString "\\") = false := by rw [hbs]; simpa using hc92
          rw [this]
          simp only [Bool.false_eq_true, if_false, if_neg hc92] at hgt ⊢
          rw [hgt] at hT ⊢
          refine seg_execs_cons (seg_Expr_Yield rfl rfl rfl ?_)
          refine Tuple_ (spliced_cons (ev_name rfl rfl hn3' ((if_neg (by decide)).trans (if_pos rfl)) (spliced_cons (ev_name rfl rfl hn3' (if_pos rfl) (spliced_nil (wpAny_newTuple ?_))))))
          intro kap hkap
          refine ⟨D, i, [c], _, _, _, _, hT, rfl, rfl, fresh3, Heap.get?_push_size _ rfl, rel3.trans ⟨fun b o _ e => Heap.get?_push_of_some _ e, rfl, rfl⟩, fun s'' kb'' hpr => hkap .none s'' ?_⟩
          obtain ⟨hn7, hen7, hit7⟩ := after s'' hpr
          refine seg_execs_nil (seg_execs_nil (seg_again rfl (IH (k - 1) _ _ _ (by omega) ⟨i + 1, false, D ++ [(i, [c])], _, _, _, by omega, rfl, by rw [hT]; simp, ⟨fun b o _ e => e, rfl, rfl⟩,
            kb'', hn7, (if_neg (by decide)).trans ((if_neg (by decide)).trans hme), (if_neg (by decide)).trans (if_pos rfl), hen7, hit7⟩)))
    · have hie : i = x.cps.size := by omega
      have hdr : x.cps.toList.drop i = [] := List.drop_eq_nil_of_le (by simp; omega)
      rw [hdr] at hT ⊢
      refine seg_forLoop (wpAny_pyNext_enum_endD (draws_str (by show (marksOver _ (Ag.handled, Ag.handled)).1 = none; rw [RA.handled]; rfl) (I + 1) x t) hen (by rw [← hie]; exact hit) fun h' hx' => ?_)
      dsimp only
      have hn' : h'.Ns Lg m := by
        obtain ⟨o, a1, a2, ho, r⟩ := hm
        exact ⟨o, a1, a2, hx' _ o nL1.symm ho, r⟩
      have kk : ∀ b o, ¬ Priv Lg (I + 1) b → s'.heap.get? b = some o → h'.get? b = some o := fun b o hb e => hx' b o (fun h => hb (.inr (.inl h))) e
      have rel' : GRel Lg (I + 1) s₀' { s' with heap := h' } := hrel.trans ⟨kk, rfl, rfl⟩
      refine seg_leaf (.ok .next) ?_
      refine seg_execs_cons (seg_If (isTrue_name rfl rfl hn' hme rfl ?_))
      cases esc with
      | false =>
        simp only [Bool.false_eq_true, if_false]
        exact seg_execs_nil (seg_execs_nil (seg_end (.ok (.ret .none)) ⟨rfl, rfl, rel'⟩))
      | true =>
        simp only [if_true]
        refine seg_execs_cons (seg_Expr_Yield rfl rfl rfl ?_)
        refine Tuple_ (spliced_cons (ev_name rfl rfl hn' hmp (spliced_cons (wpAny_mkText (spliced_nil (wpAny_newTuple ?_))))))
        intro kap hkap
        have hbs : (Str.ofString "\\" : Str) = ⟨[92].toArray⟩ := by decide +kernel
        rw [hbs]
        have hsz' : I + 1 + 1 < h'.objs.size := Heap.lt_size (hx' _ _ (Nat.succ_ne_self _) hen)
        have np : ¬ Priv Lg (I + 1) h'.objs.size := fun h => by
          rcases h with h | h | h
          · exact Nat.ne_of_gt hn'.lt h
          · exact Nat.ne_of_gt (Nat.lt_of_succ_lt hsz') h
          · exact Nat.ne_of_gt hsz' h
        have fresh' : s₀'.heap.get? h'.objs.size = none := by
          cases e : s₀'.heap.get? h'.objs.size with
          | none => rfl
          | some o => exact absurd (Heap.lt_size (rel'.heap _ o np e)) (Nat.lt_irrefl _)
        refine ⟨D, i - 1, [92], _, _, _, _, hT, rfl, rfl, fresh', Heap.get?_push_size _ rfl, rel'.trans ⟨fun b o _ e => Heap.get?_push_of_some _ e, rfl, rfl⟩, fun s'' kb'' hpr => hkap .none s'' ?_⟩
        exact seg_execs_nil (seg_execs_nil (seg_end (.ok (.ret .none)) ⟨rfl, rfl, ⟨fun b o _ e => e, rfl, rfl⟩⟩))
end
end Mine
end
section
open PySem PySem.W PyProof.Rows PySem.Spec PySem.Calls
set_option maxHeartbeats 4000000
namespace Mine
theorem AllBare.setG {gens : Array GenState} {g : Nat} {x : GenState} (h : AllBare gens) (hx : x.bare = true) : AllBare (gens.setIfInBounds g x) := fun y hy => by
  rcases Array.mem_or_eq_of_mem_setIfInBounds hy with h1 | h1
  · exact h y h1
  · rw [h1]; exact hx

theorem letGo_gen {M : Model} {A : Around} {E : Value → Shared → Prop} {s : Shared} {I a : Addr} {g kk : Nat} {elts : List PySem.Expr} {pt : Pos} {Q : Unit → Shared → Prop} (hI : s.heap.IsGen I g) (h : Q () s) :
    wpAny M A (letOwnedTupleGo (.Tuple elts kk pt) (.ref I) (.ref a)) Q E s := by
  obtain ⟨o, nm, qn, ho, hc, hd, _⟩ := hI
  unfold letOwnedTupleGo
  refine wpAny_bind (wpAny_load ho ?_)
  rw [hc, hd]
  exact wpAny_pure h

section
variable {w : World} {mean : ExcName → Option Value} {mg mb : Str → Option Value} {A : Around} {s : Shared} {base : Heap} {env : Env} {m₀ : Str → Option Value} {Q : Flow → Shared → Prop}

theorem For_gen {xi xv an fname : Str} {pi pv pt pa pf pc pos : Pos} {kk : Nat} {body : List Stmt} (x : Str) (t : Tok)
    (J : List (Nat × List Nat) → (Str → Option Value) → Heap → Prop)
    (G : Gnd w mean mg mb base) (kb : Keep base s.heap) (R : Room A 12) (hxs : x.length ≤ 16777000)
    (hn : s.heap.Ns env.locals m₀) (ha : m₀ an = some (.str x t)) (h0 : J (gtoks x.cps.toList 0 false) m₀ s.heap)
    (stable : ∀ T m h h', J T m h → (∀ b o, b < s.heap.objs.size → b ≠ env.locals → h.get? b = some o → h'.get? b = some o) → J T m h')
    (hk : env.scope.kind = .function) (hxi : env.kindOf xi = some .local) (hxv : env.kindOf xv = some .local) (han : env.kindOf an = some .local) (hfn : env.kindOf fname = some .globalImplicit)
    (hfm : mg fname = some (.ref 52)) (hgl : env.globals = mainGlobals) (hlb : base.get? env.locals = none)
    (hp : (env.scope.kind == .class || (env.scope.kind == .module && env.locals != env.globals)) = false)
    (hda : (an == ("__debug__" : Str)) = false) (hdf : (fname == ("__debug__" : Str)) = false)
    (hse : backTo pc (starEach [.Name an pa] env) = [(false, eval (.Name an pa) env)])
    (turn : ∀ p l T m s₂ t1 t2, J ((p, l) :: T) m s₂.heap → s₂.heap.Ns env.locals (fun y => if y = xv then some (.str ⟨l.toArray⟩ t2) else if y = xi then some (.int (p : Nat) t1) else m y) → Keep base s₂.heap → (AllBare s.gens → AllBare s₂.gens) → s₂.os = s.os →
      (p, l) ∈ gtoks x.cps.toList 0 false →
      wpAny (model prog w) A (execs body env) (fun f s₃ => match f with
        | .next | .cont => s₃.gens = s₂.gens ∧ s₃.os = s₂.os ∧ (∀ b o, s.heap.objs.size ≤ b → s₂.heap.get? b = some o → s₃.heap.get? b = some o) ∧ Keep base s₃.heap ∧ ∃ m', s₃.heap.Ns env.locals m' ∧ J T m' s₃.heap
        | .brk => Q .next s₃
        | .ret v => Q (.ret v) s₃) (fun _ _ => False) s₂)
    (done : ∀ m s₂, J [] m s₂.heap → s₂.heap.Ns env.locals m → Keep base s₂.heap → (AllBare s.gens → AllBare s₂.gens) → s₂.os = s.os → Q .next s₂) :
    wpAny (model prog w) A (exec (.For (.Tuple [.Name xi pi, .Name xv pv] kk pt) (.Call (.Name fname pf) [.Name an pa] [] pc) body [] pos) env) Q (fun _ _ => False) s := by
  refine wpAny_For ?_ (by intro _; rfl)
  refine wpAny_Call_NameR (ev_glob hk hfn (by rw [hgl]; exact G.T.g.keeps kb) hfm ?_ hdf)
  rw [hse]
  refine callWith_of rfl (keeps_K G.k52) (evalArgs_plain (spliced_cons (ev_name hk han hn ha (spliced_nil ⟨G.X.keeps kb, ?_⟩) hda)))
  refine gen_call (A := A) G kb ⟨R.handled, by have := R.depth; omega, by have := R.units; omega⟩ x t hxs fun s' I Lg gs hI hg hb hk' hos hL hLI hsz goes => ?_
  refine wpAny_pyIter_gen hI ?_
  let TT := gtoks x.cps.toList 0 false
  have hg' : s'.gens[s.gens.size]? = some gs := by rw [hg]; simp
  have bare' : AllBare s.gens → AllBare s'.gens := fun h => by rw [hg]; exact h.push hb
  have hLn : ∀ b, b < s.heap.objs.size → ¬ Priv Lg (I + 1) b := fun b hlt h => by
    rcases h with h | h | h
    · exact Nat.ne_of_lt (Nat.lt_of_lt_of_le hlt hL) h
    · exact Nat.ne_of_lt (Nat.lt_of_lt_of_le hlt (Nat.le_trans hL (Nat.le_of_lt (Nat.lt_succ_of_lt hLI)))) h
    · exact Nat.ne_of_lt (Nat.lt_of_lt_of_le hlt (Nat.le_trans hL (Nat.le_of_lt (Nat.lt_succ_of_lt (Nat.lt_succ_of_lt hLI))))) h
  have hIn : s.heap.objs.size ≤ I := Nat.le_trans hL (Nat.le_of_lt hLI)
  refine codeAny_forLoop_any (fun k σ => ∃ (D T : List (Nat × List Nat)) (m : Str → Option Value) (gs : GenState), k = T.length ∧ TT = D ++ T ∧ J T m σ.heap ∧ σ.heap.Ns env.locals m ∧ Keep base σ.heap ∧ (AllBare s.gens → AllBare σ.gens) ∧ σ.os = s.os ∧
      σ.heap.IsGen I s.gens.size ∧ σ.gens[s.gens.size]? = some gs ∧ gs.bare = true ∧
      gs.Goes (model prog w) A.in1 (RG Lg (I + 1)) (YG base Lg (I + 1) TT) T.length (.send .none) (σ.setGen s.gens.size .running)) ?turn TT.length ?start
  case start =>
    refine ⟨[], TT, m₀, gs, rfl, rfl, stable _ _ _ _ h0 fun b o _ _ e => hk' b o e, hn.keeps hk', fun b o e => hk' b o (kb b o e), bare', hos, hI, hg', hb, ?_⟩
    exact goes A.in1 _ ⟨R.handled, by show A.depth + 4 < _; have := R.depth; omega, by show A.units + 1 + 8 * 4 < _; have := R.units; omega⟩ hsz (fun b o e => hk' b o (kb b o e)) fun o e => e
  case turn =>
    rintro k σ ⟨D, T, m, gs, rfl, hT, hJ, hm, hkb, hbr, hos', hIg, hgs, hgb, hgo⟩
    refine wpAny_pyNext_genQ (P := PG Lg (I + 1)) R.handled (G.T.nolimit.keeps hkb) (by have := R.depth; omega) hIg hgs hgo (fun v s₁ gs' hb' hy => ?_) (fun s₁ hp h' hk1 => ?_)
    · obtain ⟨D', p, l, rest, a, t1, t2, hT', hlen, rfl, hfr, hobj, hrel, hkap⟩ := hy
      have hb1 : ∀ b o, b < s.heap.objs.size → σ.heap.get? b = some o → s₁.heap.get? b = some o := fun b o hlt e => hrel.heap b o (hLn b hlt) e
      have kb1 : Keep base s₁.heap := fun b o e => hb1 b o (Heap.lt_size (kb b o e)) (hkb b o e)
      cases T with
      | nil => exact (hkap s₁ kb1 fun _ _ _ e => e).elim
      | cons tk T' =>
        have hinj := List.append_inj' (hT.symm.trans hT') (by simp only [List.length_cons]; rw [hlen]; rfl)
        obtain ⟨rfl, hcons⟩ := hinj
        cases hcons
        have hLc : env.locals < s.heap.objs.size := hn.lt
        have hm1 : s₁.heap.Ns env.locals m := hm.at' fun o e => hb1 _ o hLc e
        have hI1 : s₁.heap.IsGen I s.gens.size := by
          obtain ⟨o, nm, qn, ho, r⟩ := hIg
          refine ⟨o, nm, qn, hrel.heap _ o (fun h => ?_) ho, r⟩
          rcases h with h | h | h
          · exact Nat.ne_of_gt hLI h
          · exact Nat.ne_of_lt (Nat.lt_succ_self _) h
          · exact Nat.ne_of_lt (Nat.lt_succ_of_lt (Nat.lt_succ_self _)) h
        have gens1 : (s₁.setGen s.gens.size gs').gens[s.gens.size]? = some gs' := setGen_self (gs := .running) (by rw [hrel.gens]; exact setGen_self hgs)
        have br1 : AllBare s.gens → AllBare (s₁.setGen s.gens.size gs').gens := fun h => AllBare.setG (by rw [hrel.gens]; exact AllBare.setG (hbr h) rfl) hb'
        dsimp only
        refine letGo_gen (s := s₁.setGen s.gens.size gs') hI1 ?_
        refine assign_pair (s := s₁.setGen s.gens.size gs') R.handled ⟨_, hobj, rfl, _, rfl⟩ hm1 hxi hxv hp fun h2 tk2 hn2 hk2 => ?_
        refine wpAny_mono (turn p l _ m _ t1 t2 (stable _ _ _ _ hJ fun b o hlt hne e => hk2 b o hne (hb1 b o hlt e)) hn2
          (fun b o e => hk2 b o (fun h => by have h' : b = env.locals := h; rw [h', hlb] at e; cases e) (kb1 b o e)) br1 (hrel.os.trans hos') (by rw [show gtoks x.cps.toList 0 false = TT from rfl, hT]; simp)) (fun f s₃ hf => ?_) (fun _ _ f => f.elim)
        have fin : s₃.gens = (s₁.setGen s.gens.size gs').gens ∧ s₃.os = (s₁.setGen s.gens.size gs').os ∧ (∀ b o, s.heap.objs.size ≤ b → h2.get? b = some o → s₃.heap.get? b = some o) ∧ Keep base s₃.heap ∧ (∃ m', s₃.heap.Ns env.locals m' ∧ J rest m' s₃.heap) →
            ∃ k', k' < (rest.length + 1) ∧ ∃ (D T : List (Nat × List Nat)) (m : Str → Option Value) (gs : GenState), k' = T.length ∧ TT = D ++ T ∧ J T m s₃.heap ∧ s₃.heap.Ns env.locals m ∧ Keep base s₃.heap ∧ (AllBare s.gens → AllBare s₃.gens) ∧ s₃.os = s.os ∧
              s₃.heap.IsGen I s.gens.size ∧ s₃.gens[s.gens.size]? = some gs ∧ gs.bare = true ∧
              gs.Goes (model prog w) A.in1 (RG Lg (I + 1)) (YG base Lg (I + 1) TT) T.length (.send .none) (s₃.setGen s.gens.size .running) := by
          rintro ⟨e1, e2, hk3, kb3, m', hn3, hJ3⟩
          have hne : ∀ b, s.heap.objs.size ≤ b → b ≠ env.locals := fun b hb h => Nat.ne_of_lt (Nat.lt_of_lt_of_le hLc hb) h.symm
          have up : ∀ b o, s.heap.objs.size ≤ b → s₁.heap.get? b = some o → s₃.heap.get? b = some o := fun b o hb e => hk3 b o hb (hk2 b o (hne b hb) e)
          have pn : ∀ b, Priv Lg (I + 1) b → s.heap.objs.size ≤ b := fun b h => by
            by_cases hlt : b < s.heap.objs.size
            · exact absurd h (hLn b hlt)
            · exact Nat.le_of_not_lt hlt
          refine ⟨rest.length, Nat.lt_succ_self _, D ++ [(p, l)], rest, m', gs', rfl, by rw [hT]; simp, hJ3, hn3, kb3, fun h => by rw [e1]; exact br1 h, e2.trans (hrel.os.trans hos'), ?_, by rw [e1]; exact gens1, hb', ?_⟩
          · obtain ⟨o, nm, qn, ho, r⟩ := hI1
            exact ⟨o, nm, qn, up _ o hIn ho, r⟩
          · exact hkap (s₃.setGen s.gens.size .running) kb3 fun b o hb e => up b o (pn b hb) e
        cases f with
        | next => exact fin hf
        | cont => exact fin hf
        | brk => exact hf
        | ret v => exact hf
    · obtain ⟨hz, hrel⟩ := hp
      have hT0 : T = [] := List.eq_nil_of_length_eq_zero hz
      subst hT0
      have hb1 : ∀ b o, b < s.heap.objs.size → σ.heap.get? b = some o → h'.get? b = some o := fun b o hlt e => hk1 b o (hrel.heap b o (hLn b hlt) e)
      refine wpAny_execs_nil (done m _ (stable _ _ _ _ hJ fun b o hlt _ e => hb1 b o hlt e) (hm.at' fun o e => hb1 _ o hn.lt e) (fun b o e => hb1 b o (Heap.lt_size (kb b o e)) (hkb b o e))
        (fun h => AllBare.setG (by rw [hrel.gens]; exact AllBare.setG (hbr h) rfl) rfl) (hrel.os.trans hos'))
end
end Mine
end
section
open PySem PySem.W PyProof.Rows PySem.Spec PySem.Calls
namespace Mine
theorem ng {a y : Str} {v r u : Option Value} (e : r = u) (h : ¬ y = a := by decide) : (if y = a then v else r) = u := (if_neg h).trans e
theorem yes {a : Str} {v r : Option Value} : (if a = a then v else r) = v := if_pos rfl
theorem one_sign (l : List Nat) (c : Nat) : ((⟨l.toArray⟩ : Str) == (⟨#[c]⟩ : Str)) = decide (l = [c]) := by
  by_cases h : l = [c]
  · rw [h]; simp
  · have : (⟨l.toArray⟩ : Str) ≠ ⟨#[c]⟩ := fun e => h (by have := congrArg (fun x : Str => x.cps.toList) e; simpa using this)
    simp [h, this]
theorem keptKeep (h₀ : Heap) : KeptH (fun h => Keep h₀ h) := fun _ _ k b o e => Heap.get?_push_of_some _ (k b o e)
section
variable {prog : Program} {w : World} {A : Around} {E : Value → Shared → Prop} {s : Shared} {env : Env} {Q : Value → Shared → Prop}

theorem ev_slice_ss {value e1 e2 : PySem.Expr} {p pos : Pos} (ht : ∀ o r, letTemporaryGo value o r = pure ())
    (h : wpAny (model prog w) A (eval value env) (fun o s₁ => ∃ x t, o = .str x t ∧ x.length ≤ sizeLine ∧ wpAny (model prog w) A (eval e1 env) (fun i s₂ => ∃ a ua, i = .int a ua ∧
      wpAny (model prog w) A (eval e2 env) (fun j s₃ => ∃ b ub, j = .int b ub ∧ ∀ h' t' k, Keep s₃.heap h' → Q (.str (Txt.slice x (some a) (some b)) t') { s₃ with heap := h', toks := k }) E s₂) E s₁) E s) :
    wpAny (model prog w) A (eval (.Subscript value (.Slice (some e1) (some e2) none p) pos) env) Q E s := by
  refine Subscript_Slice (wpAny_mono h (fun o s₁ h₁ => ?_) fun _ _ e => e) ht
  obtain ⟨x, t, rfl, hx, h₁⟩ := h₁
  refine wpAny_Slice (evalPart_some_step (wpAny_mono h₁ (fun i s₂ h₂ => ?_) fun _ _ e => e))
  obtain ⟨a, ua, rfl, h₂⟩ := h₂
  refine evalPart_some_step (wpAny_mono h₂ (fun j s₃ h₃ => ?_) fun _ _ e => e)
  obtain ⟨b, ub, rfl, h₃⟩ := h₃
  exact evalPart_none_step (SBH.sliceItem_ss (P := fun h => Keep s₃.heap h) (keptKeep _) (fun _ _ e => e) (fun h' t' k hk => h₃ h' t' k (fun b o e => hk b o e)) hx)
theorem ev_slice_sn {value e1 : PySem.Expr} {p pos : Pos} (ht : ∀ o r, letTemporaryGo value o r = pure ())
    (h : wpAny (model prog w) A (eval value env) (fun o s₁ => ∃ x t, o = .str x t ∧ x.length ≤ sizeLine ∧ wpAny (model prog w) A (eval e1 env) (fun i s₃ => ∃ a ua, i = .int a ua ∧
      ∀ h' t' k, Keep s₃.heap h' → Q (.str (Txt.slice x (some a) none) t') { s₃ with heap := h', toks := k }) E s₁) E s) :
    wpAny (model prog w) A (eval (.Subscript value (.Slice (some e1) none none p) pos) env) Q E s := by
  refine Subscript_Slice (wpAny_mono h (fun o s₁ h₁ => ?_) fun _ _ e => e) ht
  obtain ⟨x, t, rfl, hx, h₁⟩ := h₁
  refine wpAny_Slice (evalPart_some_step (wpAny_mono h₁ (fun i s₃ h₂ => ?_) fun _ _ e => e))
  obtain ⟨a, ua, rfl, h₃⟩ := h₂
  exact evalPart_none_step (evalPart_none_step (SBH.sliceItem_sn (P := fun h => Keep s₃.heap h) (keptKeep _) (fun _ _ e => e) (fun h' t' k hk => h₃ h' t' k (fun b o e => hk b o e)) hx))
theorem ev_slice_ns {value e1 : PySem.Expr} {p pos : Pos} (ht : ∀ o r, letTemporaryGo value o r = pure ())
    (h : wpAny (model prog w) A (eval value env) (fun o s₁ => ∃ x t, o = .str x t ∧ x.length ≤ sizeLine ∧ wpAny (model prog w) A (eval e1 env) (fun i s₃ => ∃ a ua, i = .int a ua ∧
      ∀ h' t' k, Keep s₃.heap h' → Q (.str (Txt.slice x none (some a)) t') { s₃ with heap := h', toks := k }) E s₁) E s) :
    wpAny (model prog w) A (eval (.Subscript value (.Slice none (some e1) none p) pos) env) Q E s := by
  refine Subscript_Slice (wpAny_mono h (fun o s₁ h₁ => ?_) fun _ _ e => e) ht
  obtain ⟨x, t, rfl, hx, h₁⟩ := h₁
  refine wpAny_Slice (evalPart_none_step (evalPart_some_step (wpAny_mono h₁ (fun i s₃ h₂ => ?_) fun _ _ e => e)))
  obtain ⟨a, ua, rfl, h₃⟩ := h₂
  exact evalPart_none_step (SBH.sliceItem_ns (P := fun h => Keep s₃.heap h) (keptKeep _) (fun _ _ e => e) (fun h' t' k hk => h₃ h' t' k (fun b o e => hk b o e)) hx)
end
end Mine
end
section
open PySem PySem.W PyProof.Rows PySem.Spec PySem.Calls
set_option maxHeartbeats 4000000
namespace Mine
structure Gro (s s' : Shared) : Prop where
  heap : Keep s.heap s'.heap
  os : s'.os = s.os
  bare : AllBare s.gens → AllBare s'.gens
theorem Gro.refl (s : Shared) : Gro s s := ⟨fun _ _ e => e, rfl, id⟩
theorem Gro.trans {a b c : Shared} (x : Gro a b) (y : Gro b c) : Gro a c :=
  ⟨fun _ _ e => y.heap _ _ (x.heap _ _ e), y.os.trans x.os, fun h => y.bare (x.bare h)⟩

section
variable {w : World} {mean : ExcName → Option Value} {mg mb : Str → Option Value} {A : Around} {s : Shared} {Q E : Value → Shared → Prop} {base : Heap}
theorem enterN {f : Addr} {name qual : Str} {params : Arguments} {body : List Stmt} {scope : Scope} {dV kV doc pm cdv ct oc : Value} {an od : Option Addr} {osl : Array (Option Value)} {args : List Value} {n : Nat} (binds : List (Str × Value))
    (G : Gnd w mean mg mb base) (kb : Keep base s.heap) (R : Room A (n + 1))
    (ho : (hd.heap_39 w.params).lookup f = some ⟨oc, od, .func (fnOf name qual params body scope dV kV doc pm an cdv ct), osl⟩) (hcd : codeIn (hd.heap_39 w.params) cdv qual = true)
    (hbind : bindArgs (fnOf name qual params body scope dV kV doc pm an cdv ct) ⟨args, []⟩ = pure binds) (hloc : ∀ y ∈ binds, scope.names.lookup y.1 = some .local)
    (h : ∀ A' h₁ tk, Room A' n → h₁.Ns s.heap.objs.size (fun y => binds.reverse.lookup y) → Keep s.heap h₁ →
      wpAny (model prog w) A' (execs body (envOf qual scope s.heap.objs.size f cdv))
        (fun fl s' => Q (match fl with | .ret v => v | _ => .none) s') (fun _ _ => False) { s with heap := h₁, toks := tk })
    (hco : scope.isCoroutine = false) (hgen : scope.isGenerator = false) (hk : scope.kind = .function)
    (hcell : ∀ x ∈ scope.names, x.2 ≠ .cell) : wpAny (model prog w) A (call (.ref f) args) Q E s := by
  refine wpAny_call ?_
  have X := G.X.keeps kb
  refine codeAny_call_def (fd := fnOf name qual params body scope dV kV doc pm an cdv ct) (body := body) (binds := binds) (by have := R.depth; omega) (X _ _ ho) rfl (G.T.nolimit.keeps kb) (codeRec_of X hcd) rfl (BindsTo.of_eq hbind) hcell hloc (fun h₁ hns hk₁ => ?_) hco hgen hk
  exact wpAny_mono (h _ h₁ _ ⟨R.handled, by show A.depth + 1 + n < _; have := R.depth; omega, by show A.units + 3 + 8 * n < _; have := R.units; omega⟩ hns hk₁) (fun _ _ q => q) fun _ _ f => f.elim
end

def stripGo (x : Str) : List (Nat × List Nat) → Nat → Option Nat → List Str → Nat × List Str
  | [], st, _, acc => (st, acc)
  | (p, l) :: r, st, op, acc => if l = [34] then (match op with
      | none => stripGo x r st (some p) acc
      | some o => stripGo x r (p + 1) none (if st = o then acc else acc ++ [Txt.slice x (some (st : Nat)) (some (o : Nat))])) else stripGo x r st op acc
def stripF (x : Str) : Str := if Txt.contains x ⟨#[34]⟩ then
    Txt.join ⟨#[]⟩ ((stripGo x (gtoks x.cps.toList 0 false) 0 none []).2 ++ if (stripGo x (gtoks x.cps.toList 0 false) 0 none []).1 < x.length then [Txt.slice x (some ((stripGo x (gtoks x.cps.toList 0 false) 0 none []).1 : Nat)) none] else []) else x

theorem gtoks_length : ∀ (l : List Nat) (i : Nat) (e : Bool), (gtoks l i e).length ≤ l.length + (if e then 1 else 0)
  | [], _, false => Nat.le_refl _
  | [], _, true => Nat.le_refl _
  | c :: r, i, true => by
    have := gtoks_length r (i + 1) false
    simp only [gtoks, List.length_cons] at *
    simp at this ⊢
    omega
  | c :: r, i, false => by
    unfold gtoks
    split
    · have := gtoks_length r (i + 1) true
      simp at this ⊢
      omega
    · have := gtoks_length r (i + 1) false
      simp at this ⊢
      omega
section
variable {w : World} {mean : ExcName → Option Value} {mg mb : Str → Option Value} {A : Around} {s : Shared} {Q E : Value → Shared → Prop} {base : Heap}

theorem strip_call (G : Gnd w mean mg mb base) (kb : Keep base s.heap) (R : Room A (13 + 1)) (x : Str) (t : Tok) (hxs : x.length ≤ 1000)
    (hq : ∀ t' s', Gro s s' → (stripF x).length ≤ 1100000 → Q (.str (stripF x) t') s') :
    wpAny (model prog w) A (call (.ref 59) [.str x t]) Q E s := by
  have KX := G.X
  have hz : PySem.Challenge.rw_tr0020_01 = PySem.Challenge.rw_tr0020_01 := rfl
  revert hz KX
  k_fill
  intro KX _
  refine' enterN [(Str.ofString "addr", .str x t)] G kb R ?k1 ?k2 ?k3 ?k4 ?_ ?c1 ?c2 ?c3 ?c4
  case k1 => k_is
  case k2 => k_is
  case k3 => exact rfl
  case c4 => decide
  case k4 => exact locs rfl
  case c1 => exact rfl
  case c2 => exact rfl
  case c3 => exact rfl
  intro A h₁ tk R hn hk
  generalize hL : s.heap.objs.size = L at *
  have hbl : ∀ b o, s.heap.get? b = some o → b ≠ L := fun b o e => Nat.ne_of_lt (Nat.lt_of_lt_of_eq (Heap.lt_size e) hL)
  refine wpAny_execs_cons (wpAny_If (wpAny_isTrue_Compare1 (wpAny_mkText (ev_name rfl rfl hn rfl (SB.notContains (wpAny_truthy_bool ?_))))))
  have hq34 : (Str.ofString "\"" : Str) = ⟨#[34]⟩ := by decide +kernel
  cases hc : Txt.contains x (Str.ofString "\"") with
  | false =>
    simp only [Bool.not_false, if_true]
    refine wpAny_execs_cons (wpAny_Return_some (ev_name rfl rfl hn rfl ?_))
    dsimp only
    have he : stripF x = x := by unfold stripF; rw [← hq34, hc]; rfl
    have := hq t { s with heap := h₁, toks := tk + 1 } ⟨hk, rfl, id⟩ (by rw [he]; omega)
    rw [he] at this
    exact this
  | true =>
    simp only [Bool.not_true, Bool.false_eq_true, if_false]
    refine wpAny_execs_nil ?_
    dsimp only
    refine wpAny_execs_cons (wpAny_Assign_Name (wpAny_Constant_int (wpAny_storeName_local rfl hn (fun h2 hn2 hs2 => ?_))))
    dsimp only
    refine wpAny_execs_cons (wpAny_Assign_Name (wpAny_pure (wpAny_storeName_local rfl hn2 (fun h3 hn3 hs3 => ?_))))
    dsimp only
    refine wpAny_execs_cons (wpAny_Assign_Name (List_ (spliced_nil (wpAny_newList (wpAny_storeName_local rfl (hn3.push _) (fun h4 hn4 hs4 => ?_)) (by decide)))))
    dsimp only at hn4 hs4 ⊢
    generalize hra : h3.objs.size = ra at hn4 hs4
    have k3 : Keep s.heap h3 := fun b o e => hs3.extBut b o (hbl b o e) (hs2.extBut b o (hbl b o e) (hk b o e))
    have k4 : Keep s.heap h4 := fun b o e => hs4.extBut b o (hbl b o e) (Heap.get?_push_of_some _ (k3 b o e))
    have hLra : L < ra := by rw [← hra]; exact hn3.lt
    have hra4 : PlainL h4 ra (strValues []).toArray := by
      refine ⟨_, _, hs4.extBut ra _ (Nat.ne_of_gt hLra) (hra ▸ Heap.get?_push_size _ rfl), rfl, rfl, rfl⟩
    have hra4' : ra < h4.objs.size := hra4.lt
    have hL4 : L < h4.objs.size := hn4.lt
    have hbr : ∀ b o, base.get? b = some o → b ≠ ra := fun b o e => Nat.ne_of_lt (Nat.lt_trans (Nat.lt_of_lt_of_eq (Heap.lt_size (kb b o e)) hL) hLra)
    let TT := gtoks x.cps.toList 0 false
    have hTT : TT.length ≤ x.length := by have := gtoks_length x.cps.toList 0 false; simpa [Str.length] using this
    refine wpAny_execs_cons (For_gen x t (fun T m h => ∃ (st : Nat) (op : Option Nat) (l : List (Str × Tok)) (tst top : Tok), m (Str.ofString "addr") = some (.str x t) ∧ m (Str.ofString "start") = some (.int (st : Nat) tst) ∧
        m (Str.ofString "open_pos") = some (match op with | none => .none | some o => .int (o : Nat) top) ∧ m (Str.ofString "result") = some (.ref ra) ∧ PlainL h ra (strValues l).toArray ∧
        stripGo x TT 0 none [] = stripGo x T st op (l.map (·.1)) ∧ Keep s.heap h ∧ l.length + T.length ≤ TT.length ∧ ∀ y ∈ l.map (·.1), y.length ≤ x.length)
      G (fun b o e => k4 b o (kb b o e)) ⟨R.handled, by have := R.depth; omega, by have := R.units; omega⟩ (by omega) hn4 rfl ?h0 ?stable rfl rfl rfl rfl rfl G.g_iter rfl ?hlb rfl rfl rfl rfl ?turn ?done)
    case h0 => exact ⟨0, none, [], _, 0, rfl, rfl, rfl, rfl, hra4, rfl, k4, by simp [TT], by simp⟩
    case stable =>
      rintro T m h h' ⟨st, op, l, tst, top, a1, a2, a3, a4, a5, a6, a7, a8, a9⟩ hh
      have lt4 : ∀ b o, s.heap.get? b = some o → b < h4.objs.size := fun b o e => Heap.lt_size (k4 b o e)
      refine ⟨st, op, l, tst, top, a1, a2, a3, a4, ?_, a6, fun b o e => hh b o (lt4 b o e) (hbl b o e) (a7 b o e), a8, a9⟩
      obtain ⟨o, n, e, r⟩ := a5
      exact ⟨o, n, hh ra o hra4' (Nat.ne_of_gt hLra) e, r⟩
    case hlb =>
      show base.get? L = none
      cases e : base.get? L with
      | none => rfl
      | some o => exact absurd rfl (hbl L o (kb L o e))
    case turn =>
      rintro p l T m s₂ t1 t2 ⟨st, op, acc, tst, top, a1, a2, a3, a4, a5, a6, a7, a8, a9⟩ hn2 kb2 br2 os2 hmem
      dsimp only at hn2 ⊢
      refine wpAny_execs_cons (wpAny_If (wpAny_isTrue_Compare1 (ev_name rfl rfl hn2 (if_pos rfl) (Constant_str (PyProof.Rows.eq_str (wpAny_truthy_bool ?_))))))
      rw [hq34, one_sign]
      have hkb3 : ∀ h', Heap.SameBut L s₂.heap h' → Keep base h' := fun h' hs b o e => hs.extBut b o (hbl b o (kb b o e)) (kb2 b o e)
      by_cases hl : l = [34]
      · subst hl
        simp only [decide_true, if_true]
        refine wpAny_execs_cons (wpAny_If (wpAny_isTrue_Compare1 (ev_name rfl rfl hn2 (ng (ng a3)) (wpAny_pure (wpAny_is_plain (by cases op <;> rfl) (wpAny_truthy_bool ?_))))))
        cases op with
        | none =>
          have : ((Value.none == Value.none) : Bool) = true := rfl
          simp only [this, if_true]
          refine wpAny_execs_cons (wpAny_Assign_Name (ev_name rfl rfl hn2 (ng yes) (wpAny_storeName_local rfl hn2 (fun h5 hn5 hs5 => ?_))))
          dsimp only
          refine wpAny_execs_nil (wpAny_execs_nil (wpAny_execs_nil ⟨rfl, rfl, fun b o hb e => hs5.extBut b o (Nat.ne_of_gt (Nat.lt_of_lt_of_le hL4 hb)) e, hkb3 _ hs5, _, hn5, ?_⟩))
          refine ⟨st, some p, acc, tst, t1, ng (ng (ng a1)), ng (ng (ng a2)), yes, ng (ng (ng a4)), ?_, a6.trans ?_, fun b o e => hs5.extBut b o (hbl b o e) (a7 b o e), by simp at a8 ⊢; omega, a9⟩
          · obtain ⟨o, n, e, r⟩ := a5
            exact ⟨o, n, hs5.extBut ra o (Nat.ne_of_gt hLra) e, r⟩
          · simp [stripGo]
        | some o0 =>
          have : ((Value.int (o0 : Nat) top == Value.none) : Bool) = false := rfl
          simp only [this, Bool.false_eq_true, if_false]
          refine wpAny_execs_cons (wpAny_mono (Q := fun f s' => f = .next ∧ ∃ acc' : List (Str × Tok), s'.gens = s₂.gens ∧ s'.os = s₂.os ∧ (∀ b o, b ≠ ra → s₂.heap.get? b = some o → s'.heap.get? b = some o) ∧ PlainL s'.heap ra (strValues acc').toArray ∧
            acc'.map (·.1) = (if st = o0 then acc.map (·.1) else acc.map (·.1) ++ [Txt.slice x (some (st : Nat)) (some (o0 : Nat))])) (E := fun _ _ => False) (wpAny_If (wpAny_isTrue_Compare1 (ev_name rfl rfl hn2 (ng (ng a2)) (ev_name rfl rfl hn2 (ng (ng a3)) (ne_int (wpAny_truthy_bool ?_)))))) ?_ (fun _ _ f => f))
          · by_cases hso : st = o0
            · subst hso
              simp only [bne_self_eq_false, Bool.false_eq_true, if_false]
              exact wpAny_execs_nil ⟨rfl, acc, rfl, rfl, fun _ _ _ e => e, a5, by simp⟩
            · have : ((st : Int) != (o0 : Int)) = true := by simp; omega
              rw [this]
              simp only [if_true, if_neg hso]
              refine wpAny_execs_cons (wpAny_Expr (wpAny_Call_append rfl rfl rfl rfl (ev_name rfl rfl hn2 (ng (ng a4)) ⟨ra, _, rfl, a5, ?_⟩)))
              refine ev_slice_ss (fun _ _ => rfl) (ev_name rfl rfl hn2 (ng (ng a1)) ⟨x, t, rfl, Nat.le_trans hxs (by decide), ev_name rfl rfl hn2 (ng (ng a2)) ⟨_, _, rfl, ev_name rfl rfl hn2 (ng (ng a3)) ⟨_, _, rfl, fun h' t' k' hk' => ?_⟩⟩⟩)
              refine list_append_plainL (a5.keeps hk') (fun h'' hl'' hs'' => ?_) (by simp [strValues] at a8 ⊢; exact Nat.le_trans (by omega : acc.length ≤ 1000) (by decide))
              dsimp only
              refine wpAny_execs_nil ⟨rfl, acc ++ [(Txt.slice x (some (st : Nat)) (some (o0 : Nat)), t')], rfl, rfl, fun b o hb e => hs''.extBut b o hb (hk' b o e), ?_, by simp⟩
              simpa [strValues] using hl''
          · rintro f s' ⟨rfl, acc', g1, o1, k1, l1, e1⟩
            dsimp only
            have hn' := hn2.at' fun o e => k1 L o (Nat.ne_of_lt hLra) e
            refine wpAny_execs_cons (wpAny_Assign_Name (wpAny_BinOp (ev_name rfl rfl hn' (ng yes) (wpAny_Constant_int (add_int (wpAny_storeName_local rfl hn' (fun h5 hn5 hs5 => ?_)))))))
            dsimp only
            refine wpAny_execs_cons (wpAny_Assign_Name (wpAny_pure (wpAny_storeName_local rfl hn5 (fun h6 hn6 hs6 => ?_))))
            dsimp only
            have kk : ∀ b o, b ≠ L → b ≠ ra → s₂.heap.get? b = some o → h6.get? b = some o := fun b o hb1 hb2 e => hs6.extBut b o hb1 (hs5.extBut b o hb1 (k1 b o hb2 e))
            refine wpAny_execs_nil (wpAny_execs_nil (wpAny_execs_nil ⟨g1, o1, fun b o hb e => kk b o (Nat.ne_of_gt (Nat.lt_of_lt_of_le hL4 hb)) (Nat.ne_of_gt (Nat.lt_of_lt_of_le hra4' hb)) e, fun b o e => kk b o (hbl b o (kb b o e)) (hbr b o e) (kb2 b o e), _, hn6, ?_⟩))
            refine ⟨p + 1, none, acc', _, 0, ng (ng (ng (ng a1))), ng yes, yes, ng (ng (ng (ng a4))), ?_, a6.trans ?_, fun b o e => kk b o (hbl b o e) (fun h => ?_) (a7 b o e), ?_, ?_⟩
            · obtain ⟨o, n, e, r⟩ := l1
              exact ⟨o, n, hs6.extBut ra o (Nat.ne_of_gt hLra) (hs5.extBut ra o (Nat.ne_of_gt hLra) e), r⟩
            · rw [e1]; simp [stripGo]
            · exact Nat.ne_of_lt (Nat.lt_trans (Nat.lt_of_lt_of_eq (Heap.lt_size e) hL) hLra) h
            · have := congrArg List.length e1
              simp at a8 this ⊢
              split at this <;> simp at this <;> omega
            · intro y hy
              rw [e1] at hy
              split at hy
              · exact a9 y hy
              · rcases List.mem_append.mp hy with hy | hy
                · exact a9 y hy
                · rw [List.mem_singleton.mp hy]; exact Txt.slice_le ..
      · simp only [hl, decide_false, Bool.false_eq_true, if_false]
        refine wpAny_execs_nil (wpAny_execs_nil ⟨rfl, rfl, fun b o _ e => e, kb2, _, hn2, st, op, acc, tst, top, ng (ng a1), ng (ng a2), ng (ng a3), ng (ng a4), a5, a6.trans ?_, a7, by simp at a8 ⊢; omega, a9⟩)
        simp [stripGo, hl]
    case done =>
      rintro m s₂ ⟨st, op, acc, tst, top, a1, a2, a3, a4, a5, a6, a7, a8, a9⟩ hn2 kb2 br2 os2
      dsimp only at hn2 ⊢
      have e0 : stripGo x (gtoks x.cps.toList 0 false) 0 none [] = (st, acc.map (·.1)) := a6.trans rfl
      simp only [List.length_nil, Nat.add_zero] at a8
      refine wpAny_execs_cons (wpAny_mono (Q := fun f s' => f = .next ∧ ∃ acc' : List (Str × Tok), s'.gens = s₂.gens ∧ s'.os = s₂.os ∧ (∀ b o, b ≠ ra → s₂.heap.get? b = some o → s'.heap.get? b = some o) ∧ PlainL s'.heap ra (strValues acc').toArray ∧
            acc'.map (·.1) = acc.map (·.1) ++ (if st < x.length then [Txt.slice x (some (st : Nat)) none] else [])) (E := fun _ _ => False) (wpAny_If (wpAny_isTrue_Compare1 (ev_name rfl rfl hn2 a2
              (wpAny_Call_NameR (ev_built rfl rfl (G.T.g.keeps kb2) G.g_len.1 (G.T.b.keeps kb2) G.g_len.2 (callWith_builtin rfl (evalArgs_plain (spliced_cons (ev_name rfl rfl hn2 a1 (spliced_nil (P.len_str (by omega) (lt_int (wpAny_truthy_bool ?_))))))))))))) ?_ (fun _ _ f => f))
      · by_cases hso : st < x.length
        · have : decide ((st : Int) < (x.length : Int)) = true := by simp; omega
          rw [this]
          simp only [if_true, if_pos hso]
          refine wpAny_execs_cons (wpAny_Expr (wpAny_Call_append rfl rfl rfl rfl (ev_name rfl rfl hn2 a4 ⟨ra, _, rfl, a5, ?_⟩)))
          refine ev_slice_sn (fun _ _ => rfl) (ev_name rfl rfl hn2 a1 ⟨x, t, rfl, Nat.le_trans hxs (by decide), ev_name rfl rfl hn2 a2 ⟨_, _, rfl, fun h' t' k' hk' => ?_⟩⟩)
          refine list_append_plainL (a5.keeps hk') (fun h'' hl'' hs'' => ?_) (by simp [strValues]; exact Nat.le_trans (by omega : acc.length ≤ 1000) (by decide))
          dsimp only
          refine wpAny_execs_nil ⟨rfl, acc ++ [(Txt.slice x (some (st : Nat)) none, t')], rfl, rfl, fun b o hb e => hs''.extBut b o hb (hk' b o e), ?_, by simp⟩
          simpa [strValues] using hl''
        · have : decide ((st : Int) < (x.length : Int)) = false := by simp; omega
          rw [this]
          simp only [Bool.false_eq_true, if_false, if_neg hso]
          exact wpAny_execs_nil ⟨rfl, acc, rfl, rfl, fun _ _ _ e => e, a5, by simp⟩
      · rintro f s' ⟨rfl, acc', g1, o1, k1, l1, e1⟩
        dsimp only
        have hn' := hn2.at' fun o e => k1 L o (Nat.ne_of_lt hLra) e
        have hlen : (acc'.map (·.1)).length ≤ x.length + 1 := by
          rw [e1, List.length_append, List.length_map]
          split <;> simp <;> omega
        have hall : ∀ y ∈ acc'.map (·.1), y.length ≤ 1000 := by
          intro y hy
          rw [e1] at hy
          rcases List.mem_append.mp hy with hy | hy
          · exact Nat.le_trans (a9 y hy) hxs
          · split at hy
            · rw [List.mem_singleton.mp hy]; exact Nat.le_trans (Txt.slice_le ..) hxs
            · cases hy
        have hok : JoinOk (Str.ofString "") (acc'.map (·.1)) = true := by
          unfold JoinOk
          rw [StrLaws.joinFits (B := 1000) hall]
          · rfl
          · have : (Str.ofString "" : Str).length = 0 := by decide +kernel
            rw [this]; omega
        refine wpAny_execs_cons (wpAny_Return_some (Call_method1 rfl rfl rfl (wpAny_mkText (SB.join (ev_name rfl rfl hn' a4 ⟨ra, acc', rfl, l1.isList, _, rfl, hok, fun t' k => ?_⟩)))))
        dsimp only
        have he : stripF x = Txt.join (Str.ofString "") (acc'.map (·.1)) := by
          unfold stripF
          rw [← hq34, hc, e0, e1]
          rfl
        rw [← he]
        refine hq t' _ ⟨fun b o e => k1 b o (fun h => Nat.ne_of_lt (Nat.lt_trans (Nat.lt_of_lt_of_eq (Heap.lt_size e) hL) hLra) h) (a7 b o e), o1.trans os2, fun h => ?_⟩ ?_
        rotate_left
        · rw [he]
          have h1 := StrLaws.join_length_le (Str.ofString "") (acc'.map (·.1))
          have h2 := StrLaws.sumLen_le (acc'.map (·.1)) hall
          have : (Str.ofString "" : Str).length = 0 := by decide +kernel
          rw [this] at h1
          have h3 : (acc'.map (·.1)).length * 1000 ≤ 1001 * 1000 := Nat.mul_le_mul_right _ (by omega)
          unfold Txt.join
          rw [StrLaws.glued_eq_join]
          omega
        show AllBare s'.gens
        rw [g1]
        exact br2 h
end
end Mine
end
section
open PySem PySem.W PyProof.Rows PySem.Spec PySem.Calls
set_option maxHeartbeats 4000000
namespace Mine
def checkGo : List (Nat × List Nat) → Int → Bool
  | [], o => o == 0
  | (_, l) :: r, o => if l = [40] then checkGo r (o + 1) else if l = [41] then (if o - 1 < 0 then false else checkGo r (o - 1)) else checkGo r o
def checkF (x : Str) : Bool := checkGo (gtoks (stripF x).cps.toList 0 false) 0

section
variable {w : World} {mean : ExcName → Option Value} {mg mb : Str → Option Value} {A : Around} {s : Shared} {Q E : Value → Shared → Prop} {base : Heap}

theorem check_call (G : Gnd w mean mg mb base) (kb : Keep base s.heap) (R : Room A (14 + 1)) (x : Str) (t : Tok) (hxs : x.length ≤ 1000)
    (hq : ∀ s', Gro s s' → Q (.bool (checkF x)) s') :
    wpAny (model prog w) A (call (.ref 66) [.str x t]) Q E s := by
  have KX := G.X
  have hz : PySem.Challenge.rw_tr0020_01 = PySem.Challenge.rw_tr0020_01 := rfl
  revert hz KX
  k_fill
  intro KX _
  refine' enterN [(Str.ofString "addr", .str x t)] G kb R ?k1 ?k2 ?k3 ?k4 ?_ ?c1 ?c2 ?c3 ?c4
  case k1 => k_is
  case k2 => k_is
  case k3 => exact rfl
  case c4 => decide
  case k4 => exact locs rfl
  case c1 => exact rfl
  case c2 => exact rfl
  case c3 => exact rfl
  intro A h₁ tk R hn hk
  generalize hL : s.heap.objs.size = L at *
  have hbl : ∀ b o, s.heap.get? b = some o → b ≠ L := fun b o e => Nat.ne_of_lt (Nat.lt_of_lt_of_eq (Heap.lt_size e) hL)
  refine wpAny_execs_cons (wpAny_Assign_Name (wpAny_Call_NameR (ev_glob rfl rfl (G.T.g.keeps (fun b o e => hk b o (kb b o e))) G.g_strip (callWith_of rfl (keeps_K G.k59) (evalArgs_plain (spliced_cons (ev_name rfl rfl hn rfl (spliced_nil ⟨G.X.keeps (fun b o e => hk b o (kb b o e)), ?_⟩))))))))
  refine strip_call G (fun b o e => hk b o (kb b o e)) R x t hxs fun t' s' g hlen => wpAny_storeName_local rfl (hn.keeps g.heap) (fun h2 hn2 hs2 => ?_)
  dsimp only
  refine wpAny_execs_cons (wpAny_Assign_Name (wpAny_Constant_int (wpAny_storeName_local rfl hn2 (fun h3 hn3 hs3 => ?_))))
  dsimp only at hn3 hs3 ⊢
  have k3 : Keep s.heap h3 := fun b o e => hs3.extBut b o (hbl b o e) (hs2.extBut b o (hbl b o e) (g.heap b o (hk b o e)))
  have hL3 : L < h3.objs.size := hn3.lt
  let TT := gtoks (stripF x).cps.toList 0 false
  refine wpAny_execs_cons (For_gen (stripF x) t' (fun T m h => ∃ (o : Int) (to : Tok), m (Str.ofString "addr") = some (.str (stripF x) t') ∧ m (Str.ofString "opens") = some (.int o to) ∧
        checkGo TT 0 = checkGo T o ∧ Keep s.heap h)
      G (fun b o e => k3 b o (kb b o e)) ⟨R.handled, by have := R.depth; omega, by have := R.units; omega⟩ (by omega) hn3 rfl ?h0 ?stable rfl rfl rfl rfl rfl G.g_iter rfl ?hlb rfl rfl rfl rfl ?turn ?done)
  case h0 => exact ⟨0, _, rfl, rfl, rfl, k3⟩
  case stable =>
    rintro T m h h' ⟨o, to, a1, a2, a3, a4⟩ hh
    exact ⟨o, to, a1, a2, a3, fun b ob e => hh b ob (Heap.lt_size (k3 b ob e)) (hbl b ob e) (a4 b ob e)⟩
  case hlb =>
    show base.get? L = none
    cases e : base.get? L with
    | none => rfl
    | some o => exact absurd rfl (hbl L o (kb L o e))
  case turn =>
    rintro p l T m s₂ t1 t2 ⟨o, to, a1, a2, a3, a4⟩ hn2 kb2 br2 os2 hmem
    dsimp only at hn2 ⊢
    have hkb3 : ∀ h', Heap.SameBut L s₂.heap h' → Keep base h' := fun h' hs b o e => hs.extBut b o (hbl b o (kb b o e)) (kb2 b o e)
    refine wpAny_execs_cons (wpAny_If (wpAny_isTrue_Compare1 (ev_name rfl rfl hn2 (if_pos rfl) (Constant_str (PyProof.Rows.eq_str (wpAny_truthy_bool ?_))))))
    rw [show (Str.ofString "(" : Str) = ⟨#[40]⟩ by decide +kernel, one_sign]
    by_cases hl : l = [40]
    · subst hl
      simp only [decide_true, if_true]
      refine wpAny_execs_cons (wpAny_AugAssign_Name (wpAny_loadName_local rfl rfl hn2 (ng (ng a2)) (wpAny_Constant_int (PyProof.Rows.iadd_int (wpAny_storeName_local rfl hn2 (fun h5 hn5 hs5 => ?_))))))
      dsimp only
      refine wpAny_execs_nil (wpAny_execs_nil ⟨rfl, rfl, fun b o hb e => hs5.extBut b o (Nat.ne_of_gt (Nat.lt_of_lt_of_le hL3 hb)) e, hkb3 _ hs5, _, hn5, o + 1, _, ng (ng (ng a1)), yes, a3.trans ?_, fun b o e => hs5.extBut b o (hbl b o e) (a4 b o e)⟩)
      simp [checkGo]
    · simp only [hl, decide_false, Bool.false_eq_true, if_false]
      refine wpAny_execs_cons (wpAny_If (wpAny_isTrue_Compare1 (ev_name rfl rfl hn2 (if_pos rfl) (Constant_str (PyProof.Rows.eq_str (wpAny_truthy_bool ?_))))))
      rw [show (Str.ofString ")" : Str) = ⟨#[41]⟩ by decide +kernel, one_sign]
      by_cases hl2 : l = [41]
      · subst hl2
        simp only [decide_true, if_true]
        refine wpAny_execs_cons (wpAny_AugAssign_Name (wpAny_loadName_local rfl rfl hn2 (ng (ng a2)) (wpAny_Constant_int (P.isub_int (wpAny_storeName_local rfl hn2 (fun h5 hn5 hs5 => ?_))))))
        dsimp only
        refine wpAny_execs_cons (wpAny_If (wpAny_isTrue_Compare1 (ev_name rfl rfl hn5 yes (wpAny_Constant_int (lt_int (wpAny_truthy_bool ?_))))))
        by_cases ho : o - 1 < 0
        · simp only [ho, decide_true, if_true]
          refine wpAny_execs_cons (wpAny_Return_some (wpAny_pure ?_))
          dsimp only
          have : checkF x = false := by
            unfold checkF
            exact a3.trans (by simp [checkGo, ho])
          rw [← this]
          exact hq _ ⟨fun b o e => hs5.extBut b o (hbl b o e) (a4 b o e), os2.trans g.os, fun h => br2 (g.bare h)⟩
        · simp only [ho, decide_false, Bool.false_eq_true, if_false]
          refine wpAny_execs_nil (wpAny_execs_nil (wpAny_execs_nil (wpAny_execs_nil ⟨rfl, rfl, fun b o hb e => hs5.extBut b o (Nat.ne_of_gt (Nat.lt_of_lt_of_le hL3 hb)) e, hkb3 _ hs5, _, hn5, o - 1, _, ng (ng (ng a1)), yes, a3.trans ?_, fun b o e => hs5.extBut b o (hbl b o e) (a4 b o e)⟩)))
          simp [checkGo, ho]
      · simp only [hl2, decide_false, Bool.false_eq_true, if_false]
        refine wpAny_execs_nil (wpAny_execs_nil (wpAny_execs_nil ⟨rfl, rfl, fun b o _ e => e, kb2, _, hn2, o, to, ng (ng a1), ng (ng a2), a3.trans ?_, a4⟩))
        simp [checkGo, hl, hl2]
  case done =>
    rintro m s₂ ⟨o, to, a1, a2, a3, a4⟩ hn2 kb2 br2 os2
    dsimp only at hn2 ⊢
    refine wpAny_execs_cons (wpAny_Return_some (wpAny_Compare1 (ev_name rfl rfl hn2 a2 (wpAny_Constant_int (PyProof.Rows.eq_int ?_)))))
    dsimp only
    have : checkF x = (o == 0) := by
      unfold checkF
      exact a3.trans rfl
    rw [← this]
    exact hq _ ⟨a4, os2.trans g.os, fun h => br2 (g.bare h)⟩
end
end Mine
end
section
open PySem PySem.W PyProof.Rows PySem.Spec PySem.Calls
namespace Mine
def rC (c : Nat) (z : List Nat) (d : Nat) : List Nat := if d = c then z else [d]
theorem flat_free (c : Nat) (z : List Nat) : ∀ l : List Nat, c ∉ l → l.flatMap (rC c z) = l
  | [], _ => rfl
  | k :: r, h => by
    have h1 : ¬ k = c := fun e => h (e ▸ List.mem_cons_self ..)
    rw [List.flatMap_cons, flat_free c z r fun m => h (List.mem_cons_of_mem _ m)]
    simp [rC, h1]
theorem flat_join (c : Nat) (z : Str) : ∀ parts : List Str, (∀ p ∈ parts, c ∉ p.cps.toList) → (Str.join ⟨#[c]⟩ parts).cps.toList.flatMap (rC c z.cps.toList) = (Str.join z parts).cps.toList
  | [], _ => rfl
  | [p], h => flat_free c _ _ (h p (List.mem_singleton.mpr rfl))
  | p :: q :: r, h => by
    have ih := flat_join c z (q :: r) fun a ha => h a (List.mem_cons_of_mem _ ha)
    show (p ++ ⟨#[c]⟩ ++ Str.join ⟨#[c]⟩ (q :: r)).cps.toList.flatMap (rC c z.cps.toList) = (p ++ z ++ Str.join z (q :: r)).cps.toList
    simp only [Str.cps_append, Array.toList_append, List.flatMap_append]
    rw [ih, flat_free c _ _ (h p (List.mem_cons_self ..))]
    simp [rC]
theorem replace_flat (x z : Str) (c : Nat) : (Txt.replace x ⟨#[c]⟩ z).cps.toList = x.cps.toList.flatMap (rC c z.cps.toList) := by
  rw [StrLaws.replace_one, ← flat_join c z _ (StrLaws.split_free x c), StrLaws.join_split]
theorem contains_one (x : Str) (c : Nat) : Txt.contains x ⟨#[c]⟩ = decide (c ∈ x.cps.toList) := StrLaws.found_one x c

def escC (c : Nat) : List Nat := if c = 38 then [38, 97, 109, 112, 59] else if c = 60 then [38, 108, 116, 59] else if c = 62 then [38, 103, 116, 59] else if c = 34 then [38, 113, 117, 111, 116, 59]
  else if c = 13 then [38, 35, 49, 51, 59] else if c = 10 then [38, 35, 49, 48, 59] else if c = 9 then [38, 35, 48, 57, 59] else [c]
def escL (l : List Nat) : List Nat := l.flatMap escC
def e1 := rC 38 [38, 97, 109, 112, 59]
def e2 (c : Nat) := (e1 c).flatMap (rC 60 [38, 108, 116, 59])
def e3 (c : Nat) := (e2 c).flatMap (rC 62 [38, 103, 116, 59])
def e4 (c : Nat) := (e3 c).flatMap (rC 34 [38, 113, 117, 111, 116, 59])
def e5 (c : Nat) := (e4 c).flatMap (rC 13 [38, 35, 49, 51, 59])
def e6 (c : Nat) := (e5 c).flatMap (rC 10 [38, 35, 49, 48, 59])
def e7 (c : Nat) := (e6 c).flatMap (rC 9 [38, 35, 48, 57, 59])
theorem e_all (c : Nat) : e7 c = escC c ∧ (e1 c).length ≤ 6 ∧ (e2 c).length ≤ 6 ∧ (e3 c).length ≤ 6 ∧ (e4 c).length ≤ 6 ∧ (e5 c).length ≤ 6 ∧ (e6 c).length ≤ 6 ∧ (e7 c).length ≤ 6 := by
  by_cases h1 : c = 38
  · subst h1; decide
  by_cases h2 : c = 60
  · subst h2; decide
  by_cases h3 : c = 62
  · subst h3; decide
  by_cases h4 : c = 34
  · subst h4; decide
  by_cases h5 : c = 13
  · subst h5; decide
  by_cases h6 : c = 10
  · subst h6; decide
  by_cases h7 : c = 9
  · subst h7; decide
  simp [e7, e6, e5, e4, e3, e2, e1, rC, escC, h1, h2, h3, h4, h5, h6, h7]
theorem flat_len {f : Nat → List Nat} (h : ∀ c, (f c).length ≤ 6) : ∀ l : List Nat, (l.flatMap f).length ≤ 6 * l.length
  | [] => Nat.le_refl _
  | c :: r => by
    have := flat_len h r
    have := h c
    rw [List.flatMap_cons, List.length_append, List.length_cons]
    omega
end Mine
end
section
open PySem PySem.W PyProof.Rows PySem.Spec PySem.Calls
set_option maxHeartbeats 4000000
namespace Mine
section
variable {w : World} {A : Around} {s : Shared} {env : Env} {m : Str → Option Value} {Q : Flow → Shared → Prop}
theorem esc_step {cs z : Str} {k1 k2 k3 : Nat} {p1 p2 p3 p4 p5 p6 p7 p8 p9 p10 p11 : Pos} (c : Nat) (x : Str) (t : Tok) (hcs : cs = ⟨#[c]⟩) (hz : z.length ≤ 14) (hcz : (cs == z) = false) (hx : x.length ≤ 1048576)
    (hk : env.scope.kind = .function) (hxi : env.kindOf "text" = some .local) (hp : (env.scope.kind == .class || (env.scope.kind == .module && env.locals != env.globals)) = false)
    (hs : starEach [.Constant (.str cs) k2 p7, .Constant (.str z) k3 p8] env = [(false, eval (.Constant (.str cs) k2 p7) env), (false, eval (.Constant (.str z) k3 p8) env)])
    (hl : (p6.endLine == p9.line) = true) (hn : s.heap.Ns env.locals m) (hm : m (Str.ofString "text") = some (.str x t))
    (h : ∀ h' tk t' m', h'.Ns env.locals m' → m' (Str.ofString "text") = some (.str ⟨(x.cps.toList.flatMap (rC c z.cps.toList)).toArray⟩ t') → (∀ b o, b ≠ env.locals → s.heap.get? b = some o → h'.get? b = some o) →
      Q .next { s with heap := h', toks := tk }) :
    wpAny (model prog w) A (exec (.If (.Compare (.Constant (.str cs) k1 p1) [.In] [.Name "text" p2] p3) [.Assign [.Name "text" p4] (.Call (.Attribute (.Name "text" p5) "replace" p6) [.Constant (.str cs) k2 p7, .Constant (.str z) k3 p8] [] p9) p10] [] p11) env) Q (fun _ _ => False) s := by
  refine wpAny_If (wpAny_isTrue_Compare1 (wpAny_mkText (ev_name hk hxi hn hm (SB.contains (wpAny_truthy_bool ?_)))))
  have hfl : Txt.replace x cs z = ⟨(x.cps.toList.flatMap (rC c z.cps.toList)).toArray⟩ := by
    rw [hcs]
    exact Str.ext' (Array.toList_inj.mp (replace_flat x z c))
  rw [hcs, contains_one, ← hcs]
  by_cases hc : c ∈ x.cps.toList
  · simp only [hc, decide_true, if_true]
    refine wpAny_execs_cons (wpAny_Assign_Name (Call_method2 rfl hs hl (ev_name hk hxi hn hm ?_)))
    refine ⟨"str", _, F.plainAttrs_str, F.slot_str_replace, F.type_str_replace, typeIs_str _ _ _, (fun _ e => nomatch e), ?_⟩
    refine callWith_builtin rfl (evalArgs_plain (spliced_cons (wpAny_mkText (spliced_cons (wpAny_mkText (spliced_nil ?_))))))
    refine SC.replaceW (Nat.succ_ne_zero _) (Nat.succ_ne_zero _) (Nat.ne_of_lt (Nat.lt_succ_self _)) hcz hx hz fun t' k => wpAny_storeName_local hxi hn (fun h2 hn2 hs2 => ?_) hp
    dsimp only
    exact wpAny_execs_nil (h _ _ t' _ hn2 (by rw [hfl]; exact yes) (fun b o hb e => hs2.extBut b o hb e))
  · simp only [hc, decide_false, Bool.false_eq_true, if_false]
    refine wpAny_execs_nil (h _ _ t _ hn ?_ (fun b o _ e => e))
    rw [hm, flat_free c _ _ hc]
end

section
variable {w : World} {mean : ExcName → Option Value} {mg mb : Str → Option Value} {A : Around} {s : Shared} {Q E : Value → Shared → Prop} {base : Heap}

theorem esc_call (G : Gnd w mean mg mb base) (kb : Keep base s.heap) (R : Room A (1 + 1)) (x : Str) (t : Tok) (hxs : x.length ≤ 1000)
    (hq : ∀ t' s', Gro s s' → Q (.str ⟨(escL x.cps.toList).toArray⟩ t') s') :
    wpAny (model prog w) A (call (.ref 45) [.str x t]) Q E s := by
  have KX := G.X
  have hz : PySem.Challenge.rw_tr0020_01 = PySem.Challenge.rw_tr0020_01 := rfl
  revert hz KX
  k_fill
  intro KX _
  refine' enterN [(Str.ofString "text", .str x t)] G kb R ?k1 ?k2 ?k3 ?k4 ?_ ?c1 ?c2 ?c3 ?c4
  case k1 => k_is
  case k2 => k_is
  case k3 => exact rfl
  case c4 => decide
  case k4 => exact locs rfl
  case c1 => exact rfl
  case c2 => exact rfl
  case c3 => exact rfl
  intro A h₁ tk R hn hk
  generalize hL : s.heap.objs.size = L at *
  have hbl : ∀ b o, s.heap.get? b = some o → b ≠ L := fun b o e => Nat.ne_of_lt (Nat.lt_of_lt_of_eq (Heap.lt_size e) hL)
  refine wpAny_execs_cons (wpAny_Try_except (wpAny_mono (E := fun _ _ => False) ?_ (fun _ _ q => q) fun _ _ f => f.elim))
  have len := fun (f : Nat → List Nat) (hf : ∀ c, (f c).length ≤ 6) => flat_len hf x.cps.toList
  have hx0 : x.cps.toList.length ≤ 1000 := by simpa [Str.length] using hxs
  refine wpAny_execs_cons (esc_step 38 x t (by decide +kernel) (by decide +kernel) (by decide +kernel) (Nat.le_trans hxs (by decide)) rfl rfl rfl rfl rfl hn rfl fun h1 tk1 t1 m1 hn1 hm1 hk1 => ?_)
  rw [show (Str.ofString "&amp;" : Str).cps.toList = [38, 97, 109, 112, 59] by decide +kernel] at hm1
  change m1 _ = some (.str ⟨(x.cps.toList.flatMap e1).toArray⟩ t1) at hm1
  dsimp only
  refine wpAny_execs_cons (esc_step 60 ⟨(x.cps.toList.flatMap e1).toArray⟩ t1 (by decide +kernel) (by decide +kernel) (by decide +kernel) (by show (x.cps.toList.flatMap e1).toArray.size ≤ _; rw [List.size_toArray]; have := len e1 (fun c => by have := e_all c; omega); omega) rfl rfl rfl rfl rfl hn1 hm1 fun h2 tk2 t2 m2 hn2 hm2 hk2 => ?_)
  rw [show (Str.ofString "&lt;" : Str).cps.toList = [38, 108, 116, 59] by decide +kernel] at hm2
  simp only [] at hm2
  rw [List.flatMap_assoc] at hm2
  change m2 _ = some (.str ⟨(x.cps.toList.flatMap e2).toArray⟩ t2) at hm2
  dsimp only
  refine wpAny_execs_cons (esc_step 62 ⟨(x.cps.toList.flatMap e2).toArray⟩ t2 (by decide +kernel) (by decide +kernel) (by decide +kernel) (by show (x.cps.toList.flatMap e2).toArray.size ≤ _; rw [List.size_toArray]; have := len e2 (fun c => by have := e_all c; omega); omega) rfl rfl rfl rfl rfl hn2 hm2 fun h3 tk3 t3 m3 hn3 hm3 hk3 => ?_)
  rw [show (Str.ofString "&gt;" : Str).cps.toList = [38, 103, 116, 59] by decide +kernel] at hm3
  simp only [] at hm3
  rw [List.flatMap_assoc] at hm3
  change m3 _ = some (.str ⟨(x.cps.toList.flatMap e3).toArray⟩ t3) at hm3
  dsimp only
  refine wpAny_execs_cons (esc_step 34 ⟨(x.cps.toList.flatMap e3).toArray⟩ t3 (by decide +kernel) (by decide +kernel) (by decide +kernel) (by show (x.cps.toList.flatMap e3).toArray.size ≤ _; rw [List.size_toArray]; have := len e3 (fun c => by have := e_all c; omega); omega) rfl rfl rfl rfl rfl hn3 hm3 fun h4 tk4 t4 m4 hn4 hm4 hk4 => ?_)
  rw [show (Str.ofString "&quot;" : Str).cps.toList = [38, 113, 117, 111, 116, 59] by decide +kernel] at hm4
  simp only [] at hm4
  rw [List.flatMap_assoc] at hm4
  change m4 _ = some (.str ⟨(x.cps.toList.flatMap e4).toArray⟩ t4) at hm4
  dsimp only
  refine wpAny_execs_cons (esc_step 13 ⟨(x.cps.toList.flatMap e4).toArray⟩ t4 (by decide +kernel) (by decide +kernel) (by decide +kernel) (by show (x.cps.toList.flatMap e4).toArray.size ≤ _; rw [List.size_toArray]; have := len e4 (fun c => by have := e_all c; omega); omega) rfl rfl rfl rfl rfl hn4 hm4 fun h5 tk5 t5 m5 hn5 hm5 hk5 => ?_)
  rw [show (Str.ofString "&#13;" : Str).cps.toList = [38, 35, 49, 51, 59] by decide +kernel] at hm5
  simp only [] at hm5
  rw [List.flatMap_assoc] at hm5
  change m5 _ = some (.str ⟨(x.cps.toList.flatMap e5).toArray⟩ t5) at hm5
  dsimp only
  refine wpAny_execs_cons (esc_step 10 ⟨(x.cps.toList.flatMap e5).toArray⟩ t5 (by decide +kernel) (by decide +kernel) (by decide +kernel) (by show (x.cps.toList.flatMap e5).toArray.size ≤ _; rw [List.size_toArray]; have := len e5 (fun c => by have := e_all c; omega); omega) rfl rfl rfl rfl rfl hn5 hm5 fun h6 tk6 t6 m6 hn6 hm6 hk6 => ?_)
  rw [show (Str.ofString "&#10;" : Str).cps.toList = [38, 35, 49, 48, 59] by decide +kernel] at hm6
  simp only [] at hm6
  rw [List.flatMap_assoc] at hm6
  change m6 _ = some (.str ⟨(x.cps.toList.flatMap e6).toArray⟩ t6) at hm6
  dsimp only
  refine wpAny_execs_cons (esc_step 9 ⟨(x.cps.toList.flatMap e6).toArray⟩ t6 (by decide +kernel) (by decide +kernel) (by decide +kernel) (by show (x.cps.toList.flatMap e6).toArray.size ≤ _; rw [List.size_toArray]; have := len e6 (fun c => by have := e_all c; omega); omega) rfl rfl rfl rfl rfl hn6 hm6 fun h7 tk7 t7 m7 hn7 hm7 hk7 => ?_)
  rw [show (Str.ofString "&#09;" : Str).cps.toList = [38, 35, 48, 57, 59] by decide +kernel] at hm7
  simp only [] at hm7
  rw [List.flatMap_assoc] at hm7
  change m7 _ = some (.str ⟨(x.cps.toList.flatMap e7).toArray⟩ t7) at hm7
  dsimp only
  refine wpAny_execs_cons (wpAny_Return_some (ev_name rfl rfl hn7 hm7 ?_))
  dsimp only
  have he : x.cps.toList.flatMap e7 = escL x.cps.toList := by
    unfold escL
    congr 1
    funext c
    exact (e_all c).1
  rw [he]
  exact hq _ _ ⟨fun b o e => hk7 b o (hbl b o e) (hk6 b o (hbl b o e) (hk5 b o (hbl b o e) (hk4 b o (hbl b o e) (hk3 b o (hbl b o e) (hk2 b o (hbl b o e) (hk1 b o (hbl b o e) (hk b o e))))))), rfl, id⟩
end
end Mine
end
section
open PySem PySem.W PyProof.Rows PySem.Spec PySem.Calls
set_option maxHeartbeats 4000000
namespace Mine
def quot : Str := ⟨#[38, 113, 117, 111, 116, 59]⟩
def apos : Str := ⟨#[39]⟩
def pageF (x : Str) : Str := Txt.replace ⟨(escL x.cps.toList).toArray⟩ quot apos
def takenF (texts : List Str) (page : Bool) : Bool := checkF (if page then pageF (Txt.join ⟨#[]⟩ texts) else Txt.join ⟨#[]⟩ texts)
theorem join_ok {texts : List Str} {sep : Str} (h1 : texts.length ≤ 1000) (h2 : ∀ y ∈ texts, y.length ≤ 1000) (h3 : sep.length ≤ 10) : JoinOk sep texts = true := by
  unfold JoinOk
  rw [StrLaws.joinFits (B := 1000) h2]
  · rfl
  · have a1 : texts.length * 1000 ≤ 1000 * 1000 := Nat.mul_le_mul_right _ h1
    have a2 : texts.length * sep.length ≤ 1000 * 10 := Nat.mul_le_mul h1 h3
    omega
theorem replace_len (x y z : Str) : (Txt.replace x y z).length ≤ x.length + (x.length + 1) * z.length := by
  unfold Txt.replace
  split
  · omega
  · have h1 := StrLaws.occ_length_le x y 0 x.length (x.length + 1)
    have hy : (Builtin.Str.glued y (Builtin.Str.partsBetween x (Builtin.Str.occurrences x y 0 x.length (x.length + 1)) y.length)).length = x.length := by rw [StrLaws.glued_between_self]
    rw [size_glued, length_partsBetween, Nat.add_sub_cancel] at hy
    rw [size_glued, length_partsBetween, Nat.add_sub_cancel]
    have h2 : (Builtin.Str.occurrences x y 0 x.length (x.length + 1)).length * z.length ≤ (x.length + 1) * z.length := Nat.mul_le_mul_right _ h1
    omega
theorem escL_len (l : List Nat) : (escL l).length ≤ 6 * l.length := flat_len (fun c => by have := e_all c; rw [← this.1]; exact this.2.2.2.2.2.2.2) l
section
variable {w : World} {mean : ExcName → Option Value} {mg mb : Str → Option Value} {A : Around} {s : Shared} {Q E : Value → Shared → Prop} {base : Heap}

theorem taken_call (G : Gnd w mean mg mb base) (kb : Keep base s.heap) (R : Room A (15 + 1)) (D : Addr) (l : List (Str × Tok)) (page : Bool) (hl : s.heap.IsList D (strValues l).toArray)
    (h1 : (l.map (·.1)).length ≤ 1000) (h2 : ∀ y ∈ l.map (·.1), y.length ≤ 1000) (h3 : (Txt.join ⟨#[]⟩ (l.map (·.1))).length ≤ 80)
    (hq : ∀ s', Gro s s' → Q (.bool (takenF (l.map (·.1)) page)) s') :
    wpAny (model prog w) A (call (.ref 95) [.ref D, .bool page]) Q E s := by
  have KX := G.X
  have hz : PySem.Challenge.rw_tr0020_01 = PySem.Challenge.rw_tr0020_01 := rfl
  revert hz KX
  k_fill
  intro KX _
  refine' enterN [(Str.ofString "pieces", .ref D), (Str.ofString "page", .bool page)] G kb R ?k1 ?k2 ?k3 ?k4 ?_ ?c1 ?c2 ?c3 ?c4
  case k1 => k_is
  case k2 => k_is
  case k3 => exact rfl
  case c4 => decide
  case k4 => exact locs rfl
  case c1 => exact rfl
  case c2 => exact rfl
  case c3 => exact rfl
  intro A h₁ tk R hn hk
  generalize hL : s.heap.objs.size = L at *
  have hbl : ∀ b o, s.heap.get? b = some o → b ≠ L := fun b o e => Nat.ne_of_lt (Nat.lt_of_lt_of_eq (Heap.lt_size e) hL)
  have hem : (Str.ofString "" : Str) = ⟨#[]⟩ := by decide +kernel
  have hl1 : h₁.IsList D (strValues l).toArray := by obtain ⟨o, e, r⟩ := hl; exact ⟨o, hk D o e, r⟩
  refine wpAny_execs_cons (wpAny_Assign_Name (Call_method1 rfl rfl rfl (wpAny_mkText (SB.join (ev_name rfl rfl hn rfl ⟨D, l, rfl, hl1, _, rfl, join_ok h1 h2 (by decide +kernel), fun t' k => wpAny_storeName_local rfl hn (fun h2 hn2 hs2 => ?_)⟩)))))
  dsimp only
  have k2 : Keep s.heap h2 := fun b o e => hs2.extBut b o (hbl b o e) (hk b o e)
  rw [hem] at hn2
  generalize hx : Txt.join ⟨#[]⟩ (l.map (·.1)) = x at *
  refine wpAny_execs_cons (wpAny_If (isTrue_name rfl rfl hn2 (ng rfl) rfl ?_))
  cases page with
  | false =>
    simp only [Bool.false_eq_true, if_false]
    refine wpAny_execs_nil ?_
    dsimp only
    refine wpAny_execs_cons (wpAny_Return_some (wpAny_Call_NameR (ev_glob rfl rfl (G.T.g.keeps (fun b o e => k2 b o (kb b o e))) G.g_check (callWith_of rfl (keeps_K G.k66) (evalArgs_plain (spliced_cons (ev_name rfl rfl hn2 yes (spliced_nil ⟨G.X.keeps (fun b o e => k2 b o (kb b o e)), ?_⟩))))))))
    refine check_call G (fun b o e => k2 b o (kb b o e)) R x _ (by omega) fun s' g => ?_
    dsimp only
    have := hq s' ⟨fun b o e => g.heap b o (k2 b o e), g.os, g.bare⟩
    rw [takenF, hx] at this
    exact this
  | true =>
    simp only [if_true]
    have hxl : x.cps.toList.length ≤ 80 := by simpa [Str.length] using h3
    have hel := escL_len x.cps.toList
    have hE : (⟨(escL x.cps.toList).toArray⟩ : Str).length ≤ 480 := by show (escL x.cps.toList).toArray.size ≤ 480; rw [List.size_toArray]; omega
    refine wpAny_execs_cons (wpAny_Assign_Name (Call_method2 rfl rfl rfl (wpAny_Call_NameR (ev_glob rfl rfl (G.T.g.keeps (fun b o e => k2 b o (kb b o e))) G.g_esc (callWith_of rfl (keeps_K G.k45) (evalArgs_plain (spliced_cons (ev_name rfl rfl hn2 yes (spliced_nil ⟨G.X.keeps (fun b o e => k2 b o (kb b o e)), ?_⟩)))))))))
    refine wpAny_with_toks (n := 1) (Nat.succ_le_succ (Nat.zero_le _)) ?_
    refine esc_call G (fun b o e => k2 b o (kb b o e)) ⟨R.handled, by have := R.depth; omega, by have := R.units; omega⟩ x _ (by omega) fun t2 s2 g2 htk => ?_
    refine ⟨"str", _, F.plainAttrs_str, F.slot_str_replace, F.type_str_replace, typeIs_str _ _ _, (fun _ e => nomatch e), ?_⟩
    have hqu : (Str.ofString "&quot;" : Str) = quot := by decide +kernel
    have hap : (Str.ofString "'" : Str) = apos := by decide +kernel
    refine callWith_builtin rfl (evalArgs_plain (spliced_cons (wpAny_mkText (spliced_cons (wpAny_mkText (spliced_nil ?_))))))
    rw [hqu, hap]
    refine SC.replaceW (Nat.ne_of_gt htk) (Nat.succ_ne_zero _) (Nat.ne_of_lt (Nat.lt_succ_self _)) (by decide +kernel) (Nat.le_trans hE (by decide)) (by decide +kernel) fun t3 k3 => wpAny_storeName_local rfl (hn2.keeps g2.heap) (fun h4 hn4 hs4 => ?_)
    have k4 : Keep s.heap h4 := fun b o e => hs4.extBut b o (hbl b o e) (g2.heap b o (k2 b o e))
    dsimp only at hn4 ⊢
    have hpl : (pageF x).length ≤ 1000 := by
      have := replace_len ⟨(escL x.cps.toList).toArray⟩ quot apos
      have h1 : apos.length = 1 := rfl
      rw [h1] at this
      unfold pageF
      omega
    refine wpAny_execs_nil ?_
    dsimp only
    refine wpAny_execs_cons (wpAny_Return_some (wpAny_Call_NameR (ev_glob rfl rfl (G.T.g.keeps (fun b o e => k4 b o (kb b o e))) G.g_check (callWith_of rfl (keeps_K G.k66) (evalArgs_plain (spliced_cons (ev_name rfl rfl hn4 yes (spliced_nil ⟨G.X.keeps (fun b o e => k4 b o (kb b o e)), ?_⟩))))))))
    refine check_call G (fun b o e => k4 b o (kb b o e)) R (pageF x) _ hpl fun s' g => ?_
    dsimp only
    have := hq s' ⟨fun b o e => g.heap b o (k4 b o e), g.os.trans g2.os, fun h => g.bare (g2.bare h)⟩
    rw [takenF, hx] at this
    exact this
end
end Mine
end
section
open PySem PySem.W PyProof.Rows PySem.Spec PySem.Calls
namespace Mine
theorem plainAttrs_re : PlainAttrs "re.Pattern" :=
  ⟨⟨"object.__getattribute__", by rw [typeLookup_type, builtinLookup_eq_fast]; kernel_rfl, by decide +kernel⟩, by rw [typeLookup_type, builtinLookup_eq_fast]; kernel_rfl⟩
theorem slot_re_sub : Slot "re.Pattern" "sub" "re.Pattern.sub" :=
  .of (owner := "re.Pattern") (n := "sub") (by rw [typeLookup_type, builtinLookup_eq_fast]; kernel_rfl) (by decide +kernel) (by decide +kernel) (by decide +kernel)
    (by first | exact .inl (by decide +kernel) | exact .inr (by decide +kernel)) (by rw [isSubtype_type]; kernel_rfl)
theorem type_re_sub : typeOf (.builtin "re.Pattern.sub") = pure (.type "method_descriptor") := by show builtinType _ = _; rw [builtinType_eq_fast]; kernel_rfl
theorem entry_re_sub : entryFor table "re.Pattern.sub" = some Builtin.«re.Pattern.sub» := entryFor_of_tree (by kernel_rfl)
theorem entry_re_loop : entryFor table "re.Pattern.sub.loop" = some Builtin.«re.Pattern.sub.loop» := entryFor_of_tree (by kernel_rfl)
theorem plain_re_loop : plainId "re.Pattern.sub.loop" = true := by decide +kernel
theorem owner_re : Manifest.owners.lookup (String.ofList ['n', 'r', 'e', 't', 't', 'a', 'P', '.', 'e', 'r'].reverse) = some Manifest.sig_re_Pattern := by kernel_rfl
theorem args_re_sub_3 (a b c : Value) : argsOk "re.Pattern.sub" ⟨[a, b, c], []⟩ := by
  unfold argsOk; rw [signature?_of (id := "re.Pattern.sub") (n := ['b', 'u', 's']) (o := ['n', 'r', 'e', 't', 't', 'a', 'P', '.', 'e', 'r']) (by kernel_rfl) owner_re]; kernel_rfl
end Mine
end
section
open PySem PySem.W PyProof.Rows PySem.Spec PySem.Calls
namespace Mine
open PySem.Sre
theorem runFor_done {m : M} (h : m.outcome.isSome = true) : ∀ n, m.runFor n = m
  | 0 => rfl
  | n + 1 => by unfold M.runFor; rw [if_pos h]
theorem runFor_succ (m : M) (n : Nat) : m.runFor (n + 1) = m.step.runFor n := by
  by_cases h : m.outcome.isSome = true
  · rw [runFor_done h]
    have : m.step = m := by unfold M.step; rw [if_pos h]
    rw [this, runFor_done h]
  · show (if m.outcome.isSome then m else M.runFor n m.step) = _
    rw [if_neg h]
theorem runFor_add (n : Nat) : ∀ (a : Nat) (m : M), m.runFor (a + n) = (m.runFor a).runFor n
  | 0, m => by rw [Nat.zero_add]; rfl
  | a + 1, m => by rw [Nat.add_right_comm, runFor_succ, runFor_succ, runFor_add n a]


def S (C T : Array Nat) (s pc pos h : Nat) (o : Bool) (fr : List Sre.Frame) (wt : Nat) (sn : Sre.Seen) (ans : Option Bool) (oc : Option Sre.Outcome) : M :=
  { code := C, text := T, lim := T.size, start := s, lastStart := T.size, pc, pos, handed := h, outermost := o, marks := #[], frames := fr, weight := wt, seen := sn, answer := ans, outcome := oc }

section
variable {C T : Array Nat} {s pc pos h wt : Nat} {o : Bool} {fr : List Sre.Frame} {sn : Sre.Seen}
theorem st_exec (hp : pc < C.size) : (S C T s pc pos h o fr wt sn none none).step = (S C T s pc pos h o fr wt sn none none).exec := by
  show (if pc < C.size then M.exec _ else _) = _
  rw [if_pos hp]
theorem lit_yes (c : Nat) (hp : pc < C.size) (hw : C.getD pc 0 = 16) (hc : C.getD (pc + 1) 0 = c) (hl : pos < T.size) (ht : T.getD pos 0 = c) :
    ∃ sn', (S C T s pc pos h o fr wt sn none none).step = S C T s (pc + 2) (pos + 1) h o fr wt sn' none none := by
  rw [st_exec hp]
  have h16 : ops[16]? = some Op.LITERAL := rfl
  refine ⟨sn.add 16, ?_⟩
  simp only [M.exec, S, M.word, Nat.add_zero, hw, h16, ge_iff_le, Nat.not_le.mpr hl, if_false, accepts, hc, ht, beq_self_eq_true, itemWidth]
theorem lit_no (hp : pc < C.size) (hw : C.getD pc 0 = 16) (hn : pos < T.size → T.getD pos 0 ≠ C.getD (pc + 1) 0) :
    ∃ sn', (S C T s pc pos h o fr wt sn none none).step = S C T s pc pos h o fr wt sn' (some false) none := by
  rw [st_exec hp]
  have h16 : ops[16]? = some Op.LITERAL := rfl
  by_cases hl : pos < T.size
  · refine ⟨sn.add 16, ?_⟩
    have : (T.getD pos 0 == C.getD (pc + 1) 0) = false := by simpa using hn hl
    simp only [M.exec, S, M.word, Nat.add_zero, hw, h16, ge_iff_le, Nat.not_le.mpr hl, if_false, accepts, this, M.say]
  · refine ⟨sn.add 16, ?_⟩
    simp only [M.exec, S, M.word, Nat.add_zero, hw, h16, ge_iff_le, Nat.le_of_not_lt hl, if_true, M.say]
theorem at_line (hp : pc < C.size) (hw : C.getD pc 0 = 6) (h1 : C.getD (pc + 1) 0 = 1) (b : Bool) (hb : (pos == 0 || T.getD (pos - 1) 0 == 10) = b) :
    ∃ sn', (S C T s pc pos h o fr wt sn none none).step = (if b then S C T s (pc + 2) pos h o fr wt sn' none none else S C T s pc pos h o fr wt sn' (some false) none) := by
  rw [st_exec hp]
  have h6 : ops[6]? = some Op.AT := rfl
  refine ⟨(sn.add 6).add (43 + 1), ?_⟩
  simp only [M.exec, S, M.word, Nat.add_zero, hw, h6, h1, M.isAt, hb, M.say]
theorem success (hp : pc < C.size) (hw : C.getD pc 0 = 1) :
    ∃ sn', (S C T s pc pos h o fr wt sn none none).step = S C T s pc pos pos o fr wt sn' (some true) none := by
  rw [st_exec hp]
  have h1 : ops[1]? = some Op.SUCCESS := rfl
  refine ⟨sn.add 1, ?_⟩
  simp only [M.exec, S, M.word, Nat.add_zero, hw, h1, Bool.false_and, Bool.or_false, Bool.and_false, Bool.false_eq_true, if_false, M.say]
theorem jump (hp : pc < C.size) (hw : C.getD pc 0 = 15) (d : Nat) (hd : pc + 1 + C.getD (pc + 1) 0 = d) :
    ∃ sn', (S C T s pc pos h o fr wt sn none none).step = S C T s d pos h o fr wt sn' none none := by
  rw [st_exec hp]
  have h1 : ops[15]? = some Op.JUMP := rfl
  refine ⟨sn.add 15, ?_⟩
  simp only [M.exec, S, M.word, Nat.add_zero, hw, h1, hd]
theorem over_yes : (S C T s pc pos h o [] wt sn (some true) none).step = S C T s pc pos h o [] wt sn (some true) (some .matched) := rfl
theorem over_no : (S C T s pc pos h o [] wt sn (some false) none).step = S C T s pc pos h o [] wt sn (some false) (some .failed) := rfl
def fStart (pc pos : Nat) (o : Bool) : Sre.Frame := { wait := .nextStart, pc := pc, pos := pos, outermost := o }
theorem back_yes {p q : Nat} {o' : Bool} {w' : Nat} : (S C T s pc pos h o [fStart p q o'] (w' + 1) sn (some true) none).step = S C T s p q h o' [] w' sn (some true) none := by
  simp [M.step, S, fStart, M.resume, M.say]
end

def code1 : Array Nat := #[14, 4, 0, 1, 1, 6, 1, 16, 46, 1]
def code2 : Array Nat := #[14, 9, 4, 1, 2, 16, 10, 16, 13, 0, 7, 7, 16, 13, 16, 10, 15, 18, 5, 16, 10, 15, 13, 11, 16, 13, 5, 5, 0, 16, 10, 1, 15, 2, 0, 1]
def good1 (T : Array Nat) (j : Nat) : Prop := j < T.size ∧ (j = 0 ∨ T.getD (j - 1) 0 = 10) ∧ T.getD j 0 = 46
def fBr (pc pos : Nat) (o : Bool) : Sre.Frame := { wait := .nextBranch, pc := pc, pos := pos, outermost := o }
def fLn (pc pos : Nat) (o : Bool) : Sre.Frame := { wait := .lookNot, pc := pc, pos := pos, outermost := o }
section
variable {T : Array Nat} {s p q pos h : Nat} {o o' : Bool} {fr : List Sre.Frame} {sn : Sre.Seen}
theorem back_no1 : (S code1 T s p q h o' [fStart 5 pos o] 1 sn (some false) none).step =
    if pos < T.size then S code1 T (pos + 1) 5 (pos + 1) (pos + 1) false [fStart 5 (pos + 1) false] 1 sn none none else S code1 T s 5 pos h o [] 0 sn (some false) none := by
  show (if pos < T.size then _ else _) = _
  by_cases hc : pos < T.size
  · rw [if_pos hc, if_pos hc]; rfl
  · rw [if_neg hc, if_neg hc]; rfl
theorem b_1 : (S code2 T s 10 pos h o fr 1 sn none none).step = S code2 T s 12 pos pos o (fBr 11 pos o :: fr) 2 (sn.add 7) none none := rfl
theorem b_2 : (S code2 T s p q h o' (fBr 11 pos o :: fr) 2 sn (some false) none).step = S code2 T s 19 pos pos o (fBr 18 pos o :: fr) 2 sn none none := rfl
theorem b_3 : (S code2 T s p q h o' (fBr 18 pos o :: fr) 2 sn (some false) none).step = S code2 T s 24 pos pos o (fBr 23 pos o :: fr) 2 sn none none := rfl
theorem b_yes {a : Nat} : (S code2 T s p q h o' (fBr a pos o :: fr) 2 sn (some true) none).step = S code2 T s a pos h o fr 1 sn (some true) none := rfl
theorem b_an : (S code2 T s 26 pos h o fr 2 sn none none).step = S code2 T s 29 pos pos false (fLn 26 pos o :: fr) 3 (sn.add 5) none none := rfl
theorem b_anno : (S code2 T s p q h o' (fLn 26 pos o :: fr) 3 sn (some false) none).step = S code2 T s 32 pos h o fr 2 sn none none := rfl

theorem run1 : ∀ (k s : Nat) (o : Bool) (sn : Sre.Seen), T.size - s = k → ∃ n m', n ≤ 4 * k + 6 ∧ (S code1 T s 5 s s o [fStart 5 s o] 1 sn none none).runFor n = m' ∧
    ((m'.outcome = some .matched ∧ s ≤ m'.start ∧ good1 T m'.start ∧ m'.handed = m'.start + 1 ∧ ∀ j, s ≤ j → j < m'.start → ¬ good1 T j) ∨ (m'.outcome = some .failed ∧ ∀ j, s ≤ j → ¬ good1 T j)) := by
  intro k
  induction k with
  | zero =>
    intro s o sn hk
    have hno : ∀ j, s ≤ j → ¬ good1 T j := fun j hj hg => by have := hg.1; omega
    have hns : ¬ s < T.size := by omega
    obtain ⟨sn1, e1⟩ := at_line (T := T) (s := s) (pc := 5) (pos := s) (h := s) (wt := 1) (o := o) (fr := [fStart 5 s o]) (sn := sn) (C := code1) (by decide) rfl rfl _ rfl
    cases hb : (s == 0 || T.getD (s - 1) 0 == 10) with
    | false =>
      rw [hb] at e1
      refine ⟨3, _, by omega, rfl, .inr ⟨?_, hno⟩⟩
      rw [runFor_succ, e1, if_neg Bool.false_ne_true, runFor_succ, back_no1, if_neg hns, runFor_succ, over_no]
      rfl
    | true =>
      rw [hb] at e1
      obtain ⟨sn2, e2⟩ := lit_no (T := T) (s := s) (pc := 7) (pos := s) (h := s) (wt := 1) (o := o) (fr := [fStart 5 s o]) (sn := sn1) (C := code1) (by decide) rfl (fun h => absurd h hns)
      refine ⟨4, _, by omega, rfl, .inr ⟨?_, hno⟩⟩
      rw [runFor_succ, e1, if_pos rfl, runFor_succ, e2, runFor_succ, back_no1, if_neg hns, runFor_succ, over_no]
      rfl
  | succ k ih =>
    intro s o sn hk
    have hns : s < T.size := by omega
    obtain ⟨sn1, e1⟩ := at_line (T := T) (s := s) (pc := 5) (pos := s) (h := s) (wt := 1) (o := o) (fr := [fStart 5 s o]) (sn := sn) (C := code1) (by decide) rfl rfl _ rfl
    have more : ∀ (m : M) (a : Nat) (sn2 : Sre.Seen), a ≤ 3 → ¬ good1 T s → m.runFor a = S code1 T (s + 1) 5 (s + 1) (s + 1) false [fStart 5 (s + 1) false] 1 sn2 none none →
        ∃ n m', n ≤ 4 * (k + 1) + 6 ∧ m.runFor n = m' ∧
        ((m'.outcome = some .matched ∧ s ≤ m'.start ∧ good1 T m'.start ∧ m'.handed = m'.start + 1 ∧ ∀ j, s ≤ j → j < m'.start → ¬ good1 T j) ∨ (m'.outcome = some .failed ∧ ∀ j, s ≤ j → ¬ good1 T j)) := by
      intro m a sn2 ha hng he
      obtain ⟨n, m', hn, hr, hres⟩ := ih (s + 1) false sn2 (by omega)
      refine ⟨a + n, m', by omega, by rw [runFor_add, he, hr], ?_⟩
      rcases hres with ⟨h1, h2, h3, h4, h5⟩ | ⟨h1, h2⟩
      · refine .inl ⟨h1, by omega, h3, h4, fun j hj hj' => ?_⟩
        by_cases hjs : j = s
        · rw [hjs]; exact hng
        · exact h5 j (by omega) hj'
      · refine .inr ⟨h1, fun j hj => ?_⟩
        by_cases hjs : j = s
        · rw [hjs]; exact hng
        · exact h2 j (by omega)
    cases hb : (s == 0 || T.getD (s - 1) 0 == 10) with
    | false =>
      rw [hb] at e1
      refine more _ 2 sn1 (by omega) (fun hg => ?_) (by rw [runFor_succ, e1, if_neg Bool.false_ne_true, runFor_succ, back_no1, if_pos hns]; rfl)
      have := hg.2.1
      simp at hb
      rcases this with h | h
      · exact hb.1 h
      · exact hb.2 (by simpa using h)
    | true =>
      rw [hb] at e1
      by_cases h46 : T.getD s 0 = 46
      · obtain ⟨sn2, e2⟩ := lit_yes (T := T) (s := s) (pc := 7) (pos := s) (h := s) (wt := 1) (o := o) (fr := [fStart 5 s o]) (sn := sn1) (C := code1) 46 (by decide) rfl rfl hns h46
        obtain ⟨sn3, e3⟩ := success (T := T) (s := s) (pc := 9) (pos := s + 1) (h := s) (wt := 1) (o := o) (fr := [fStart 5 s o]) (sn := sn2) (C := code1) (by decide) rfl
        refine ⟨5, S code1 T s 5 s (s + 1) o [] 0 sn3 (some true) (some .matched), by omega, ?_, .inl ⟨rfl, Nat.le_refl _, ⟨hns, ?_, h46⟩, rfl, fun j h1 h2 => ?_⟩⟩
        · rw [runFor_succ, e1, if_pos rfl, runFor_succ, e2, runFor_succ, e3, runFor_succ, back_yes, runFor_succ, over_yes]
          rfl
        · show s = 0 ∨ T.getD (s - 1) 0 = 10
          simpa using hb
        · have h2' : j < s := h2
          omega
      · obtain ⟨sn2, e2⟩ := lit_no (T := T) (s := s) (pc := 7) (pos := s) (h := s) (wt := 1) (o := o) (fr := [fStart 5 s o]) (sn := sn1) (C := code1) (by decide) rfl (fun _ => h46)
        exact more _ 3 sn2 (by omega) (fun hg => h46 hg.2.2) (by rw [runFor_succ, e1, if_pos rfl, runFor_succ, e2, runFor_succ, back_no1, if_pos hns]; rfl)

theorem run2 (s : Nat) (o : Bool) (sn : Sre.Seen) (hs : s < T.size) (hc : T.getD s 0 = 10 ∨ T.getD s 0 = 13) : ∃ n m', n ≤ 20 ∧ (S code2 T s 10 s s o [fStart 10 s o] 1 sn none none).runFor n = m' ∧
    m'.outcome = some .matched ∧ m'.start = s ∧ m'.handed = (if T.getD s 0 = 13 ∧ s + 1 < T.size ∧ T.getD (s + 1) 0 = 10 then s + 2 else s + 1) := by
  rcases hc with hc | hc
  · have hcond : ¬ (T.getD s 0 = 13 ∧ s + 1 < T.size ∧ T.getD (s + 1) 0 = 10) := fun h => by rw [hc] at h; exact absurd h.1 (by decide)
    rw [if_neg hcond]
    obtain ⟨sn2, e2⟩ := lit_no (T := T) (s := s) (pc := 12) (pos := s) (h := s) (wt := 2) (o := o) (fr := [fBr 11 s o, fStart 10 s o]) (sn := sn.add 7) (C := code2) (by decide) rfl (fun _ => by rw [hc]; decide)
    obtain ⟨sn3, e3⟩ := lit_yes (T := T) (s := s) (pc := 19) (pos := s) (h := s) (wt := 2) (o := o) (fr := [fBr 18 s o, fStart 10 s o]) (sn := sn2) (C := code2) 10 (by decide) rfl rfl hs hc
    obtain ⟨sn4, e4⟩ := jump (T := T) (s := s) (pc := 21) (pos := s + 1) (h := s) (wt := 2) (o := o) (fr := [fBr 18 s o, fStart 10 s o]) (sn := sn3) (C := code2) (by decide) rfl 35 rfl
    obtain ⟨sn5, e5⟩ := success (T := T) (s := s) (pc := 35) (pos := s + 1) (h := s) (wt := 2) (o := o) (fr := [fBr 18 s o, fStart 10 s o]) (sn := sn4) (C := code2) (by decide) rfl
    refine ⟨9, S code2 T s 10 s (s + 1) o [] 0 sn5 (some true) (some .matched), by decide, ?_, rfl, rfl, rfl⟩
    rw [runFor_succ, b_1, runFor_succ, e2, runFor_succ, b_2, runFor_succ, e3, runFor_succ, e4, runFor_succ, e5, runFor_succ, b_yes, runFor_succ, back_yes, runFor_succ, over_yes]
    rfl
  · obtain ⟨sn2, e2⟩ := lit_yes (T := T) (s := s) (pc := 12) (pos := s) (h := s) (wt := 2) (o := o) (fr := [fBr 11 s o, fStart 10 s o]) (sn := sn.add 7) (C := code2) 13 (by decide) rfl rfl hs hc
    by_cases hn : s + 1 < T.size ∧ T.getD (s + 1) 0 = 10
    · rw [if_pos ⟨hc, hn⟩]
      obtain ⟨sn3, e3⟩ := lit_yes (T := T) (s := s) (pc := 14) (pos := s + 1) (h := s) (wt := 2) (o := o) (fr := [fBr 11 s o, fStart 10 s o]) (sn := sn2) (C := code2) 10 (by decide) rfl rfl hn.1 hn.2
      obtain ⟨sn4, e4⟩ := jump (T := T) (s := s) (pc := 16) (pos := s + 1 + 1) (h := s) (wt := 2) (o := o) (fr := [fBr 11 s o, fStart 10 s o]) (sn := sn3) (C := code2) (by decide) rfl 35 rfl
      obtain ⟨sn5, e5⟩ := success (T := T) (s := s) (pc := 35) (pos := s + 1 + 1) (h := s) (wt := 2) (o := o) (fr := [fBr 11 s o, fStart 10 s o]) (sn := sn4) (C := code2) (by decide) rfl
      refine ⟨8, S code2 T s 10 s (s + 2) o [] 0 sn5 (some true) (some .matched), by decide, ?_, rfl, rfl, rfl⟩
      rw [runFor_succ, b_1, runFor_succ, e2, runFor_succ, e3, runFor_succ, e4, runFor_succ, e5, runFor_succ, b_yes, runFor_succ, back_yes, runFor_succ, over_yes]
      rfl
    · rw [if_neg (fun h => hn h.2)]
      have hn10 : s + 1 < T.size → T.getD (s + 1) 0 ≠ 10 := fun h1 h2 => hn ⟨h1, h2⟩
      obtain ⟨sn3, e3⟩ := lit_no (T := T) (s := s) (pc := 14) (pos := s + 1) (h := s) (wt := 2) (o := o) (fr := [fBr 11 s o, fStart 10 s o]) (sn := sn2) (C := code2) (by decide) rfl hn10
      obtain ⟨sn4, e4⟩ := lit_no (T := T) (s := s) (pc := 19) (pos := s) (h := s) (wt := 2) (o := o) (fr := [fBr 18 s o, fStart 10 s o]) (sn := sn3) (C := code2) (by decide) rfl (fun _ => by rw [hc]; decide)
      obtain ⟨sn5, e5⟩ := lit_yes (T := T) (s := s) (pc := 24) (pos := s) (h := s) (wt := 2) (o := o) (fr := [fBr 23 s o, fStart 10 s o]) (sn := sn4) (C := code2) 13 (by decide) rfl rfl hs hc
      obtain ⟨sn6, e6⟩ := lit_no (T := T) (s := s) (pc := 29) (pos := s + 1) (h := s + 1) (wt := 3) (o := false) (fr := [fLn 26 (s + 1) o, fBr 23 s o, fStart 10 s o]) (sn := sn5.add 5) (C := code2) (by decide) rfl hn10
      obtain ⟨sn7, e7⟩ := jump (T := T) (s := s) (pc := 32) (pos := s + 1) (h := s + 1) (wt := 2) (o := o) (fr := [fBr 23 s o, fStart 10 s o]) (sn := sn6) (C := code2) (by decide) rfl 35 rfl
      obtain ⟨sn8, e8⟩ := success (T := T) (s := s) (pc := 35) (pos := s + 1) (h := s + 1) (wt := 2) (o := o) (fr := [fBr 23 s o, fStart 10 s o]) (sn := sn7) (C := code2) (by decide) rfl
      refine ⟨15, S code2 T s 10 s (s + 1) o [] 0 sn8 (some true) (some .matched), by decide, ?_, rfl, rfl, rfl⟩
      rw [runFor_succ, b_1, runFor_succ, e2, runFor_succ, e3, runFor_succ, b_2, runFor_succ, e4, runFor_succ, b_3, runFor_succ, e5, runFor_succ, b_an, runFor_succ, e6, runFor_succ, b_anno, runFor_succ, e7, runFor_succ, e8, runFor_succ, b_yes, runFor_succ, back_yes, runFor_succ, over_yes]
      rfl

theorem set2 (c : Nat) (sn : Sre.Seen) : ∃ sn', inSet code2 c code2.size 5 true sn = .ok (decide (c = 10 ∨ c = 13), sn') := by
  by_cases h1 : c = 10
  · subst h1; exact ⟨_, rfl⟩
  by_cases h2 : c = 13
  · subst h2; exact ⟨_, rfl⟩
  have e1 : (c == 10) = false := by simpa using h1
  have e2 : (c == 13) = false := by simpa using h2
  refine ⟨((sn.add 16).add 16).add 0, ?_⟩
  rw [decide_eq_false (by simp [h1, h2])]
  show (if c == 10 then _ else if c == 13 then _ else _) = _
  rw [e1, e2, if_neg Bool.false_ne_true, if_neg Bool.false_ne_true]
  rfl
theorem adm2 (m : M) (hc : m.code = code2) (ht : m.text = T) (hl : m.lim = T.size) : ∀ (fuel s : Nat) (sn : Sre.Seen), T.size + 1 ≤ fuel + s →
    (∃ s' sn', M.admitted m fuel s sn = .ok (some s', sn') ∧ s ≤ s' ∧ s' < T.size ∧ (T.getD s' 0 = 10 ∨ T.getD s' 0 = 13) ∧ ∀ j, s ≤ j → j < s' → T.getD j 0 ≠ 10 ∧ T.getD j 0 ≠ 13) ∨
    (∃ sn', M.admitted m fuel s sn = .ok (none, sn') ∧ ∀ j, s ≤ j → j < T.size → T.getD j 0 ≠ 10 ∧ T.getD j 0 ≠ 13)
  | 0, s, sn, h => .inr ⟨sn, rfl, fun j h1 h2 => by omega⟩
  | fuel + 1, s, sn, h => by
    unfold M.admitted
    rw [hc, ht, hl]
    by_cases hs : s ≥ T.size
    · rw [if_pos hs]
      exact .inr ⟨sn, rfl, fun j h1 h2 => by omega⟩
    · rw [if_neg hs]
      obtain ⟨sn1, e1⟩ := set2 (T.getD s 0) sn
      rw [e1]
      by_cases hg : T.getD s 0 = 10 ∨ T.getD s 0 = 13
      · rw [decide_eq_true hg]
        exact .inl ⟨s, sn1, rfl, Nat.le_refl _, by omega, hg, fun j h1 h2 => by omega⟩
      · rw [decide_eq_false hg]
        have hg' : T.getD s 0 ≠ 10 ∧ T.getD s 0 ≠ 13 := ⟨fun e => hg (.inl e), fun e => hg (.inr e)⟩
        rcases adm2 m hc ht hl fuel (s + 1) sn1 (by omega) with ⟨s', sn', h1, h2, h3, h4, h5⟩ | ⟨sn', h1, h2⟩
        · refine .inl ⟨s', sn', h1, by omega, h3, h4, fun j a b => ?_⟩
          by_cases hj : j = s
          · rw [hj]; exact hg'
          · exact h5 j (by omega) b
        · refine .inr ⟨sn', h1, fun j a b => ?_⟩
          by_cases hj : j = s
          · rw [hj]; exact hg'
          · exact h2 j (by omega) b

/-- what a search says: the next found place, or none -/
theorem search1 (s : Nat) : ∃ n m', n ≤ 4 * T.size + 6 ∧ (forSearch code1 T 0 s T.size false).runFor n = m' ∧
    ((m'.outcome = some .matched ∧ s ≤ m'.start ∧ good1 T m'.start ∧ m'.handed = m'.start + 1 ∧ ∀ j, s ≤ j → j < m'.start → ¬ good1 T j) ∨ (m'.outcome = some .failed ∧ ∀ j, s ≤ j → ¬ good1 T j)) := by
  by_cases h : s < T.size
  · obtain ⟨n, m', hn, hr, hres⟩ := run1 (T := T) (T.size - s) s true (({} : Sre.Seen).add 14) rfl
    refine ⟨n, m', by omega, ?_, hres⟩
    rw [← hr]
    congr 1
    show (if (decide (s > T.size) || decide (T.size - s < 1)) = true then _ else _) = _
    rw [if_neg (by simp; omega)]
    rfl
  · refine ⟨1, _, by omega, rfl, .inr ⟨?_, fun j hj hg => by have := hg.1; omega⟩⟩
    have : forSearch code1 T 0 s T.size false = M.say { S code1 T s 5 s s true [] 0 (({} : Sre.Seen).add 14) none none with lastStart := 0 } false := by
      show (if (decide (s > T.size) || decide (T.size - s < 1)) = true then _ else _) = _
      rw [if_pos (by simp; omega)]
      rfl
    rw [this]
    rfl
theorem search2 (s : Nat) : ∃ n m', n ≤ 20 ∧ (forSearch code2 T 0 s T.size false).runFor n = m' ∧
    ((m'.outcome = some .matched ∧ s ≤ m'.start ∧ m'.start < T.size ∧ (T.getD m'.start 0 = 10 ∨ T.getD m'.start 0 = 13) ∧ m'.handed = (if T.getD m'.start 0 = 13 ∧ m'.start + 1 < T.size ∧ T.getD (m'.start + 1) 0 = 10 then m'.start + 2 else m'.start + 1) ∧
      ∀ j, s ≤ j → j < m'.start → T.getD j 0 ≠ 10 ∧ T.getD j 0 ≠ 13) ∨ (m'.outcome = some .failed ∧ ∀ j, s ≤ j → j < T.size → T.getD j 0 ≠ 10 ∧ T.getD j 0 ≠ 13)) := by
  by_cases h : s < T.size
  · have e0 : forSearch code2 T 0 s T.size false = (S code2 T s 10 s s true [] 0 (({} : Sre.Seen).add 14) none none).attemptFrom s true := by
      show (if (decide (s > T.size) || decide (T.size - s < 1)) = true then _ else _) = _
      rw [if_neg (by simp; omega)]
      rfl
    have e1 : (S code2 T s 10 s s true [] 0 (({} : Sre.Seen).add 14) none none).attemptFrom s true =
        (match M.admitted (S code2 T s 10 s s true [] 0 (({} : Sre.Seen).add 14) none none) (T.size + 1 - s) s (({} : Sre.Seen).add 14) with
          | .ok (some s', seen) => S code2 T s' 10 s' s' true [fStart 10 s' true] 1 seen none none
          | .ok (none, seen) => S code2 T s 10 s s true [] 0 seen (some false) none
          | .error why => M.stick (S code2 T s 10 s s true [] 0 (({} : Sre.Seen).add 14) none none) why) := rfl
    rw [e0, e1]
    rcases adm2 (T := T) (S code2 T s 10 s s true [] 0 (({} : Sre.Seen).add 14) none none) rfl rfl rfl (T.size + 1 - s) s (({} : Sre.Seen).add 14) (by omega) with ⟨s', sn', h1, h2, h3, h4, h5⟩ | ⟨sn', h1, h2⟩
    · rw [h1]
      obtain ⟨n, m', hn, hr, ho, hst, hh⟩ := run2 s' true sn' h3 h4
      exact ⟨n, m', hn, hr, .inl ⟨ho, by rw [hst]; exact h2, by rw [hst]; exact h3, by rw [hst]; exact h4, by rw [hst]; exact hh, by rw [hst]; exact h5⟩⟩
    · rw [h1]
      exact ⟨1, _, by decide, rfl, .inr ⟨rfl, h2⟩⟩
  · refine ⟨1, _, by decide, rfl, .inr ⟨?_, fun j hj hg => by omega⟩⟩
    have : forSearch code2 T 0 s T.size false = M.say { S code2 T s 10 s s true [] 0 (({} : Sre.Seen).add 14) none none with lastStart := 0 } false := by
      show (if (decide (s > T.size) || decide (T.size - s < 1)) = true then _ else _) = _
      rw [if_pos (by simp; omega)]
      rfl
    rw [this]
    rfl
end
end Mine
end
section
open PySem PySem.W PyProof.Rows PySem.Spec PySem.Calls
namespace Mine
open PySem.Sre PySem.Builtin.Re
section
variable {MM : Model} {A : Around} {E : Value → Shared → Prop} {s : Shared}
theorem drive {m' : M} {Q : M → Shared → Prop} (ho : m'.outcome.isSome = true) (hq : Q m' s) : ∀ (turns n : Nat) (m : M), m.runFor n = m' → n ≤ 4 * turns → 1 ≤ turns → wpAny MM A (reDrive turns m) Q E s
  | 0, _, _, _, _, h => absurd h (by decide)
  | turns + 1, n, m, h, hn, _ => by
    show wpAny MM A (if (m.runFor 4).outcome.isSome then pure (m.runFor 4) else do rule "sre.turn"; reDrive turns (m.runFor 4)) Q E s
    by_cases hc : (m.runFor 4).outcome.isSome = true
    · rw [if_pos hc]
      have : m.runFor 4 = m' := by
        have e1 := runFor_add n 4 m
        rw [runFor_done hc, Nat.add_comm, runFor_add, h, runFor_done ho] at e1
        exact e1.symm
      rw [this]
      exact wpAny_pure hq
    · rw [if_neg hc]
      have h4 : 4 < n := by
        refine Nat.lt_of_not_le fun hle => hc ?_
        obtain ⟨d, hd⟩ := Nat.le.dest hle
        rw [← hd, runFor_add, h, runFor_done ho]
        exact ho
      refine wpAny_bind (wpAny_rule (drive ho hq turns (n - 4) (m.runFor 4) ?_ (by omega) (by omega)))
      have e1 := runFor_add (n - 4) 4 m
      rw [show 4 + (n - 4) = n by omega, h] at e1
      exact e1.symm
theorem forRules {Q : PUnit → Shared → Prop} (f : Nat → PUnit → Sem (ForInStep PUnit)) (hf : ∀ i (Q' : ForInStep PUnit → Shared → Prop), Q' (.yield ⟨⟩) s → wpAny MM A (f i ⟨⟩) Q' E s) (hq : Q ⟨⟩ s) : ∀ l : List Nat, wpAny MM A (forIn l PUnit.unit f) Q E s
  | [] => wpAny_pure hq
  | i :: l => by
    rw [List.forIn_cons]
    exact wpAny_bind (hf i _ (forRules f hf hq l))
theorem runEnd {m m' : M} {n : Nat} {Q : Option M → Shared → Prop} (h : m.runFor n = m') (hn : n ≤ 4 * 2 ^ 64) (hq : (m'.outcome = some .matched ∧ Q (some m') s) ∨ (m'.outcome = some .failed ∧ Q none s)) : wpAny MM A (reRunToEnd m) Q E s := by
  unfold reRunToEnd
  have ho : m'.outcome.isSome = true := by
    rcases hq with ⟨h, _⟩ | ⟨h, _⟩ <;> rw [h] <;> rfl
  refine wpAny_bind (drive ho ?_ (2 ^ 64) n m h hn (by decide))
  refine wpAny_bind (forRules _ (fun i Q' h' => ?_) ?_ _)
  · by_cases hc : m'.seen.has i = true
    · simp only [hc, if_true]
      exact wpAny_bind (wpAny_rule (wpAny_pure h'))
    · simp only [hc, if_false]
      first
        | exact wpAny_pure h'
        | exact wpAny_bind (wpAny_pure (wpAny_pure h'))
  · rcases hq with ⟨h, hq⟩ | ⟨h, hq⟩
    · rw [h]; exact wpAny_pure hq
    · rw [h]; exact wpAny_pure hq
end
end Mine
end
section
open PySem PySem.W PyProof.Rows PySem.Spec PySem.Calls
set_option maxHeartbeats 4000000
namespace Mine
open PySem.Sre PySem.Builtin.Re
def RePat (h : Heap) (P : Addr) (C : Array Nat) : Prop := ∃ pv fv ct its n, h.get? P = some { cls := .type "re.Pattern", data := .fields #[pv, fv, .int 0 0, .none, .none, .ref ct, .int 0 0] } ∧
  h.get? ct = some { cls := .type "tuple", data := .seq its n } ∧ (its.map reRawOf).map (·.toNat) = C
theorem RePat.keeps {h h' : Heap} {P : Addr} {C : Array Nat} (x : RePat h P C) (k : Keep h h') : RePat h' P C := by
  obtain ⟨pv, fv, ct, its, n, a, b, c⟩ := x
  exact ⟨pv, fv, ct, its, n, k _ _ a, k _ _ b, c⟩
section
variable {MM : Model} {A : Around} {E : Value → Shared → Prop} {s : Shared}
theorem whole {P : Addr} {C : Array Nat} {x : Str} {t : Tok} {Q : ReTarget → Shared → Prop} (hp : RePat s.heap P C) (h : Q { pattern := .ref P, string := .str x t, code := C, text := x.cps, kind := 0, groups := 0, pos := 0, lim := x.cps.size } s) :
    wpAny MM A (reWholeTarget (.ref P) (.str x t)) Q E s := by
  obtain ⟨pv, fv, ct, its, n, a, b, rfl⟩ := hp
  unfold reWholeTarget
  refine wpAny_bind (wpAny_bind (wpAny_load a (wpAny_pure ?_)))
  refine wpAny_bind (wpAny_bind (m := asStr? (.str x t)) (wpAny_pure (wpAny_pure ?_)))
  dsimp only
  refine wpAny_bind (m := reRawItems _) (wpAny_bind (m := seqItems? (.ref ct)) ?_)
  unfold seqItems?
  refine wpAny_bind (wpAny_load b (wpAny_pure (wpAny_pure (wpAny_pure ?_))))
  exact h
theorem push1 {L : Addr} {its : Array Value} {x : Value} {Q : Unit → Shared → Prop}
    (hl : PlainL s.heap L its) (hQ : ∀ h', PlainL h' L (its.push x) → Heap.SameBut L s.heap h' → Q () { s with heap := h' }) (hsz : its.size ≤ 10000) :
    wpAny MM A (updateSeq L (·.push x)) Q E s := by
  obtain ⟨o, n, ho, hc, hdn, hd⟩ := id hl
  obtain ⟨n', hd'⟩ := Obj.data_mapSeq hd (·.push x)
  refine wpAny_updateSeq ho hd (hQ _ ?_ (Heap.SameBut.update ..)) (Nat.le_trans hsz (by decide)) (Nat.le_trans (by rw [Array.size_push]; omega : (its.push x).size ≤ 10001) (by decide))
  refine ⟨_, n', Heap.get?_update_self _ ho (Obj.isFreed_of_seq hd'), (Obj.cls_mapSeq ..).trans hc, ?_, hd'⟩
  obtain ⟨c, d, dt, sl⟩ := o
  subst hd
  exact hdn
end

def upto (F : Nat → List Nat) (a b : Nat) : List Nat := (List.range' a (b - a)).flatMap F
theorem upto_add (F : Nat → List Nat) {a b c : Nat} (h1 : a ≤ b) (h2 : b ≤ c) : upto F a b ++ upto F b c = upto F a c := by
  unfold upto
  rw [← List.flatMap_append]
  congr 1
  have := List.range'_append (s := a) (m := b - a) (n := c - b) (step := 1)
  rw [show a + 1 * (b - a) = b by omega, show (b - a) + (c - b) = c - a by omega] at this
  exact this
theorem upto_plain (F : Nat → List Nat) (T : Array Nat) {a b : Nat} (h1 : a ≤ b) (h2 : b ≤ T.size) (h : ∀ j, a ≤ j → j < b → F j = [T.getD j 0]) : upto F a b = (T.extract a b).toList := by
  have hk : ∀ k a, (∀ j, a ≤ j → j < a + k → F j = [T.getD j 0]) → a + k ≤ T.size → (List.range' a k).flatMap F = (T.toList.drop a).take k := by
    intro k
    induction k with
    | zero => intro a _ _; simp
    | succ k ih =>
      intro a hF hs
      have ha : a < T.size := by omega
      rw [List.range'_succ, List.flatMap_cons, ih (a + 1) (fun j h1 h2 => hF j (by omega) (by omega)) (by omega), hF a (Nat.le_refl _) (by omega)]
      rw [List.drop_eq_getElem_cons (i := a) (l := T.toList) (by simpa using ha)]
      simp [ha]
  rw [upto, hk (b - a) a (fun j h1 h2 => h j h1 (by omega)) (by omega), Array.toList_extract]
  try simp [List.extract_eq_take_drop]

structure Found (C T : Array Nat) (F : Nat → List Nat) (r : List Nat) (ok : Nat → Prop) : Prop where
  next : ∀ d, d ≤ T.size → ok d → ∃ n m', n ≤ 4 * 2 ^ 64 ∧ (forSearch C T 0 d T.size false).runFor n = m' ∧
    ((m'.outcome = some .matched ∧ d ≤ m'.start ∧ m'.start < m'.handed ∧ m'.handed ≤ T.size ∧ ok m'.handed ∧ (∀ j, d ≤ j → j < m'.start → F j = [T.getD j 0]) ∧ upto F m'.start m'.handed = r) ∨
      (m'.outcome = some .failed ∧ ∀ j, d ≤ j → j < T.size → F j = [T.getD j 0]))

section
variable {prog : Program} {w : World} {A : Around} {E : Value → Shared → Prop}
theorem flat_str : ∀ l : List Str, (Str.join ⟨#[]⟩ l).cps.toList = l.flatMap (fun y : Str => y.cps.toList)
  | [] => rfl
  | [x] => by simp [Str.join]
  | x :: y :: r => by
    have ih := flat_str (y :: r)
    show (x ++ ⟨#[]⟩ ++ Str.join ⟨#[]⟩ (y :: r)).cps.toList = _
    rw [show x ++ (⟨#[]⟩ : Str) = x from Str.append_empty x]
    simp only [Str.cps_append, Array.toList_append, ih, List.flatMap_cons]
theorem rest_ok {T : Array Nat} {L : Addr} {acc : List (Str × Tok)} {K : Fin → Shared → Prop} {s : Shared} (hl : PlainL s.heap L (strValues acc).toArray) (h1 : acc.length ≤ 1000) (h2 : ∀ y ∈ acc.map (·.1), y.length ≤ 1000)
    (hK : ∀ t' k, K (.done (.ret (.str ⟨((acc.map (·.1)).flatMap (fun y : Str => y.cps.toList)).toArray⟩ t'))) { s with toks := k }) :
    wpAny (model prog w) A.in1 (do
      let joiner ← reSlice T 0 0 0
      let items ← seqItems? (.ref L)
      if (items.getD #[]).isEmpty = true then do
        let text ← pure joiner
        ret text
      else do
        let text ← call (.builtin "str.join") [joiner, .ref L]
        ret text) K E s := by
  refine wpAny_bind (m := reSlice _ _ _ _) (wpAny_mkStr ?_ (by simp [Str.length]))
  have he : (⟨T.extract 0 0⟩ : Str) = ⟨#[]⟩ := by congr 1; simp
  rw [he]
  obtain ⟨o, n, ho, hc, hdn, hdt⟩ := id hl
  refine wpAny_bind (m := seqItems? _) (wpAny_bind (wpAny_load ho ?_))
  rw [hdt]
  refine wpAny_pure ?_
  dsimp only [Option.getD]
  cases acc with
  | nil =>
    rw [if_pos (show (strValues []).toArray.isEmpty = true from rfl)]
    exact wpAny_bind (wpAny_pure (wpAny_pure (hK _ _)))
  | cons p r =>
    rw [if_neg (by simp [strValues])]
    refine wpAny_bind (SC.join hl.isList rfl (join_ok (by simpa using h1) h2 (by decide)) fun t' k => wpAny_pure ?_)
    have := hK t' k
    rw [← flat_str] at this
    unfold Txt.join
    rw [StrLaws.glued_eq_join]
    exact this
end
section
variable {prog : Program} {w : World} {A : Around}
theorem sub_loop {P L : Addr} {C : Array Nat} {x y : Str} {t u : Tok} {F : Nat → List Nat} {R : Result → Shared → Prop} {s₀ : Shared} {ok : Nat → Prop} (hf : Found C x.cps F y.cps.toList ok) (hx : x.cps.size ≤ 500) (hy : y.length ≤ 500)
    (hR : ∀ t' s', (∀ b o, b ≠ L → s₀.heap.get? b = some o → s'.heap.get? b = some o) → s'.gens = s₀.gens → s'.os = s₀.os → R (.ok (.ret (.str ⟨(upto F 0 x.cps.size).toArray⟩ t'))) s') :
    ∀ (k d : Nat) (n : Int) (s : Shared) (acc : List (Str × Tok)), x.cps.size - d = k → d ≤ x.cps.size → ok d → (∀ b o, b ≠ L → s₀.heap.get? b = some o → s.heap.get? b = some o) → s.gens = s₀.gens → s.os = s₀.os → RePat s.heap P C →
      PlainL s.heap L (strValues acc).toArray → acc.length ≤ 2 * d → (∀ y ∈ acc.map (·.1), y.length ≤ 500) → (acc.map (·.1)).flatMap (fun y : Str => y.cps.toList) = upto F 0 d →
      codeAny (model prog w) A (.builtin "re.Pattern.sub.loop" ⟨[.ref P, .str x t, .str y u, rawInt 0, rawInt 0, rawInt n, rawInt d, rawInt d, .bool false, .ref L, .bool false], []⟩) R s := by
  intro k
  induction k using Nat.strongRecOn with
  | ind k ih =>
    intro d n s acc hk hd hok hrel hg ho hp hl hlen hall hout
    refine codeAny_builtin entry_re_loop ?_
    rw [Around.under_plainId plain_re_loop]
    refine wpAny_bind (whole hp ?_)
    dsimp only
    have z1 : ((0 : Int) == 0) = true := rfl
    have z2 : ((0 : Int) != 0) = false := rfl
    have z3 : ((0 : Nat) == 0) = true := rfl
    have z4 : (Value.str y u != Value.none) = true := rfl
    simp only [z1, z2, z3, if_true, Bool.false_and, Bool.false_eq_true, if_false, Int.toNat_natCast]
    refine wpAny_bind (m := reLiteralCannotBeTurned (.str y u)) (wpAny_bind (m := asStr? (.str y u)) (wpAny_pure ?_))
    refine wpAny_pure ?_
    obtain ⟨nn, m', hnn, hrun, hres⟩ := hf.next d hd hok
    refine wpAny_bind (m := reNextFound _ _ _) (runEnd hrun hnn ?_)
    have hPL : ∀ h', Heap.SameBut L s.heap h' → RePat h' P C := by
      intro h' hs
      obtain ⟨pv, fv, ct, its, n, a, b, c⟩ := hp
      obtain ⟨o, n2, e, hc, _⟩ := hl
      refine ⟨pv, fv, ct, its, n, hs.extBut _ _ (fun h => ?_) a, hs.extBut _ _ (fun h => ?_) b, c⟩
      · rw [h, e] at a; cases a; simp at hc
      · rw [h, e] at b; cases b; simp at hc
    rcases hres with ⟨om, h1, h2, h3, hok', h4, h5⟩ | ⟨om, h1⟩
    · refine .inl ⟨om, ?_⟩
      dsimp only
      have hmust : (m'.handed == m'.start) = false := by simpa using Nat.ne_of_gt h2
      rw [hmust]
      have go : ∀ (s1 : Shared) (acc1 : List (Str × Tok)), Heap.SameBut L s.heap s1.heap → s1.gens = s.gens → s1.os = s.os → PlainL s1.heap L (strValues acc1).toArray → acc1.length ≤ 2 * d + 1 →
          (∀ y ∈ acc1.map (·.1), y.length ≤ 500) → (acc1.map (·.1)).flatMap (fun y : Str => y.cps.toList) = upto F 0 m'.start →
          wpAny (model prog w) A.in1 (do
            updateSeq L fun z => z.push (.str y u)
            again (.builtin "re.Pattern.sub.loop" ⟨[.ref P, .str x t, .str y u, rawInt 0, rawInt 0, rawInt (n + 1), rawInt m'.handed, rawInt m'.handed, .bool false, .ref L, .bool false], []⟩))
            (fun fin s' => match fin with
              | Fin.done f => R (Except.ok f) s'
              | Fin.again c' => c'.quiet = true ∧ codeAny (model prog w) A c' R s')
            (fun e s' => R (Except.error e) s') s1 := by
        intro s1 acc1 hs1 hg1 ho1 hl1 hlen1 hall1 hout1
        refine wpAny_bind (push1 hl1 (fun h' hl' hs' => ?_) (by simp [strValues]; omega))
        refine wpAny_pure ⟨plainId_quiet plain_re_loop _, ?_⟩
        refine ih (x.cps.size - m'.handed) (by omega) m'.handed (n + 1) _ (acc1 ++ [(y, u)]) rfl h3 hok' (fun b o hb e => hs'.extBut b o hb (hs1.extBut b o hb (hrel b o hb e))) (hg1.trans hg) (ho1.trans ho) (hPL _ (hs1.trans hs')) ?_ ?_ ?_ ?_
        · simpa [strValues] using hl'
        · simp; omega
        · intro z hz
          rw [List.map_append] at hz
          rcases List.mem_append.mp hz with hz | hz
          · exact hall1 z hz
          · rw [List.mem_singleton.mp hz]; exact hy
        · rw [List.map_append, List.flatMap_append, hout1, ← upto_add F (Nat.zero_le m'.start) (Nat.le_of_lt h2), h5]
          simp
      by_cases hd1 : d < m'.start
      · rw [if_pos hd1]
        have hsl : (⟨x.cps.extract d m'.start⟩ : Str).length ≤ 500 := by
          show (x.cps.extract d m'.start).size ≤ 500
          rw [Array.size_extract]; omega
        refine wpAny_bind (m := reSlice _ _ _ _) (wpAny_mkStr ?_ (Nat.le_trans hsl (by decide)))
        refine wpAny_bind (push1 hl (fun h' hl' hs' => ?_) (by simp [strValues]; omega))
        refine wpAny_bind (wpAny_pure ?_)
        rw [if_pos z4]
        refine go _ (acc ++ [(⟨x.cps.extract d m'.start⟩, s.toks)]) hs' rfl rfl (by simpa [strValues] using hl') (by simp; omega) ?_ ?_
        · intro z hz
          rw [List.map_append] at hz
          rcases List.mem_append.mp hz with hz | hz
          · exact hall z hz
          · rw [List.mem_singleton.mp hz]; exact hsl
        · rw [List.map_append, List.flatMap_append, hout, ← upto_add F (Nat.zero_le d) h1, upto_plain F x.cps h1 (by omega) h4]
          simp
      · rw [if_neg hd1]
        have hde : m'.start = d := by omega
        refine wpAny_bind (wpAny_pure ?_)
        rw [if_pos z4]
        exact go s acc (Heap.SameBut.refl _ _) rfl rfl hl (by omega) hall (by rw [hde]; exact hout)
    · refine .inr ⟨om, ?_⟩
      dsimp only
      by_cases hd1 : d < x.cps.size
      · rw [if_pos hd1]
        have hsl : (⟨x.cps.extract d x.cps.size⟩ : Str).length ≤ 500 := by
          show (x.cps.extract d x.cps.size).size ≤ 500
          rw [Array.size_extract]; omega
        refine wpAny_bind (m := reSlice _ _ _ _) (wpAny_mkStr ?_ (Nat.le_trans hsl (by decide)))
        refine wpAny_bind (push1 hl (fun h' hl' hs' => ?_) (by simp [strValues]; omega))
        have hl2 : PlainL h' L (strValues (acc ++ [((⟨x.cps.extract d x.cps.size⟩ : Str), s.toks)])).toArray := by simpa [strValues] using hl'
        refine rest_ok hl2 (by simp; omega) ?_ fun t' k => ?_
        · intro z hz
          rw [List.map_append] at hz
          rcases List.mem_append.mp hz with hz | hz
          · exact Nat.le_trans (hall z hz) (by decide)
          · rw [List.mem_singleton.mp hz]; exact Nat.le_trans hsl (by decide)
        · have hfin : ((acc ++ [((⟨x.cps.extract d x.cps.size⟩ : Str), s.toks)]).map (·.1)).flatMap (fun y : Str => y.cps.toList) = upto F 0 x.cps.size := by
            rw [List.map_append, List.flatMap_append, hout, ← upto_add F (Nat.zero_le d) hd, upto_plain F x.cps hd (Nat.le_refl _) h1]
            simp
          rw [hfin]
          exact hR _ _ (fun b o hb e => hs'.extBut b o hb (hrel b o hb e)) hg ho
      · rw [if_neg hd1]
        have hde : d = x.cps.size := by omega
        refine rest_ok hl (by omega) (fun z hz => Nat.le_trans (hall z hz) (by decide)) fun t' k => ?_
        rw [hout, hde]
        exact hR _ _ hrel hg ho
end
end Mine
end
section
open PySem PySem.W PyProof.Rows PySem.Spec PySem.Calls
set_option maxHeartbeats 4000000
namespace Mine
open PySem.Sre PySem.Builtin.Re
theorem named (a b : Value) : reNamed "re.Pattern.sub" "sub" ["repl", "string", "count"] 2 [a, b] [] = pure [some a, some b, none] := rfl
theorem str_no_call : typeLookup (.type "str") "__call__" = pure none := by rw [typeLookup_type, builtinLookup_eq_fast]; kernel_rfl
section
variable {prog : Program} {w : World} {A : Around} {E : Value → Shared → Prop} {s : Shared}
theorem sub_call {P : Addr} {C : Array Nat} {x y : Str} {t u : Tok} {F : Nat → List Nat} {Q : Value → Shared → Prop} {ok : Nat → Prop} (hp : RePat s.heap P C) (hf : Found C x.cps F y.cps.toList ok) (hok : ok 0) (hx : x.cps.size ≤ 500) (hy : y.length ≤ 500) (hbs : y.cps.contains 92 = false)
    (hQ : ∀ t' s', Gro s s' → Q (.str ⟨(upto F 0 x.cps.size).toArray⟩ t') s') :
    wpAny (model prog w) A (call (.builtin "re.Pattern.sub") [.ref P, .str y u, .str x t]) Q E s := by
  have hT : s.TypeIs (.ref P) "re.Pattern" := by
    obtain ⟨pv, fv, ct, its, n, a, b, c⟩ := hp
    exact ⟨_, a, rfl⟩
  refine wpAny_call (codeAny_call_builtin slot_re_sub.plain entry_re_sub (slot_re_sub.check _ _ _ _ _ _ _ _ hT (args_re_sub_3 _ _ _) ?_))
  show wpAny _ _ (reSubstitute "re.Pattern.sub" "sub" false ⟨[.ref P, .str y u, .str x t], []⟩) _ _ _
  unfold reSubstitute
  dsimp only
  rw [named]
  refine wpAny_bind (wpAny_pure ?_)
  dsimp only
  refine wpAny_bind (wpAny_pure ?_)
  refine wpAny_bind (wpAny_specialOf (typeIs_str _ _ _) str_no_call ?_)
  rw [if_neg (by simp)]
  refine wpAny_bind (m := asStr? _) (wpAny_pure ?_)
  dsimp only
  refine wpAny_bind (wpAny_pure ?_)
  rw [hbs, if_neg (by simp), if_pos (show (!false) = true from rfl)]
  refine wpAny_bind (wpAny_pure ?_)
  refine wpAny_bind (wpAny_holding (whole hp ?_))
  rw [if_neg (by simp)]
  refine wpAny_bind (wpAny_newList (wpAny_pure ⟨plainId_quiet plain_re_loop _, ?_⟩) (by decide))
  refine sub_loop (s₀ := { s with heap := s.heap.push { cls := .type "list", data := .seq #[] } }) (C := C) (F := F) hf hx hy (fun t' s' h1 h2 h3 => ?_) x.cps.size 0 0 _ [] rfl (Nat.zero_le _) hok (fun _ _ _ e => e) rfl rfl (hp.keeps fun b o e => Heap.get?_push_of_some _ e) ⟨_, _, Heap.get?_push_size _ rfl, rfl, rfl, rfl⟩ (Nat.zero_le _) (by simp) (by simp [upto])
  refine hQ t' s' ⟨fun b o e => h1 b o (Nat.ne_of_lt (Heap.lt_size e)) (Heap.get?_push_of_some _ e), h3, fun h => by rw [h2]; exact h⟩
end

def F1 (T : Array Nat) (j : Nat) : List Nat := if j < T.size ∧ (j = 0 ∨ T.getD (j - 1) 0 = 10) ∧ T.getD j 0 = 46 then [46, 46] else [T.getD j 0]
def F2 (T : Array Nat) (j : Nat) : List Nat := if T.getD j 0 = 13 then [13, 10] else if T.getD j 0 = 10 then (if 0 < j ∧ T.getD (j - 1) 0 = 13 then [] else [13, 10]) else [T.getD j 0]
theorem found1 (T : Array Nat) (hT : T.size ≤ 500) : Found code1 T (F1 T) [46, 46] fun _ => True := ⟨fun d hd _ => by
  obtain ⟨n, m', hn, hr, h⟩ := search1 (T := T) d
  refine ⟨n, m', by omega, hr, ?_⟩
  rcases h with ⟨h1, h2, h3, h4, h5⟩ | ⟨h1, h2⟩
  · refine .inl ⟨h1, h2, by omega, ?_, trivial, fun j a b => if_neg (h5 j a b), ?_⟩
    · have := h3.1; omega
    · rw [h4]
      unfold upto
      rw [show m'.start + 1 - m'.start = 1 by omega]
      show [m'.start].flatMap (F1 T) = _
      simp only [List.flatMap_cons, List.flatMap_nil, List.append_nil]
      exact if_pos h3
  · exact .inr ⟨h1, fun j a b => if_neg (h2 j a)⟩⟩
def ok2 (T : Array Nat) (d : Nat) : Prop := ¬ (0 < d ∧ T.getD (d - 1) 0 = 13 ∧ d < T.size ∧ T.getD d 0 = 10)
theorem found2 (T : Array Nat) : Found code2 T (F2 T) [13, 10] (ok2 T) := ⟨fun d hd hok => by
  obtain ⟨n, m', hn, hr, h⟩ := search2 (T := T) d
  refine ⟨n, m', by omega, hr, ?_⟩
  rcases h with ⟨h1, h2, h3, h4, h5, h6⟩ | ⟨h1, h2⟩
  · have plain : ∀ j, T.getD j 0 ≠ 10 ∧ T.getD j 0 ≠ 13 → F2 T j = [T.getD j 0] := fun j h => by unfold F2; rw [if_neg h.2, if_neg h.1]
    have one : upto (F2 T) m'.start (m'.start + 1) = F2 T m'.start := by
      unfold upto
      rw [show m'.start + 1 - m'.start = 1 by omega]
      show [m'.start].flatMap (F2 T) = _
      simp
    have first : F2 T m'.start = [13, 10] := by
      unfold F2
      rcases h4 with h4 | h4
      · rw [if_neg (by rw [h4]; decide), if_pos h4, if_neg]
        rintro ⟨a, b⟩
        by_cases hds : m'.start = d
        · exact hok ⟨by omega, by rw [← hds]; exact b, by omega, by rw [← hds]; exact h4⟩
        · exact (h6 (m'.start - 1) (by omega) (by omega)).2 b
      · rw [if_pos h4]
    by_cases hc : T.getD m'.start 0 = 13 ∧ m'.start + 1 < T.size ∧ T.getD (m'.start + 1) 0 = 10
    · rw [if_pos hc] at h5
      refine .inl ⟨h1, h2, by omega, by omega, ?_, fun j a b => plain j (h6 j a b), ?_⟩
      · rintro ⟨a, b, c, e⟩
        rw [h5, show m'.start + 2 - 1 = m'.start + 1 by omega, hc.2.2] at b
        exact absurd b (by decide)
      · rw [h5, ← upto_add (F2 T) (b := m'.start + 1) (by omega) (by omega), one, first]
        have : upto (F2 T) (m'.start + 1) (m'.start + 2) = F2 T (m'.start + 1) := by
          unfold upto
          rw [show m'.start + 2 - (m'.start + 1) = 1 by omega]
          show [m'.start + 1].flatMap (F2 T) = _
          simp
        rw [this]
        unfold F2
        rw [if_neg (by rw [hc.2.2]; decide), if_pos hc.2.2, if_pos ⟨by omega, by simpa using hc.1⟩]
        rfl
    · rw [if_neg hc] at h5
      refine .inl ⟨h1, h2, by omega, by omega, ?_, fun j a b => plain j (h6 j a b), ?_⟩
      · rintro ⟨a, b, c, e⟩
        rw [h5] at b c e
        exact hc ⟨by simpa using b, c, e⟩
      · rw [h5, one, first]
  · exact .inr ⟨h1, fun j a b => by unfold F2; rw [if_neg (h2 j a b).2, if_neg (h2 j a b).1]⟩⟩
end Mine
end
section
open PySem PySem.W PyProof.Rows PySem.Spec PySem.Calls
set_option maxHeartbeats 4000000
namespace Mine
theorem upto_len (F : Nat → List Nat) (hF : ∀ j, (F j).length ≤ 2) (a b : Nat) : (upto F a b).length ≤ 2 * (b - a) := by
  unfold upto
  have : ∀ l : List Nat, (l.flatMap F).length ≤ 2 * l.length := by
    intro l
    induction l with
    | nil => exact Nat.le_refl _
    | cons c r ih =>
      rw [List.flatMap_cons, List.length_append, List.length_cons]
      have := hF c
      omega
  have h := this (List.range' a (b - a))
  rw [List.length_range'] at h
  exact h
theorem F1_len (T : Array Nat) (j : Nat) : (F1 T j).length ≤ 2 := by unfold F1; split <;> simp
theorem F2_len (T : Array Nat) (j : Nat) : (F2 T j).length ≤ 2 := by unfold F2; split <;> (try split) <;> (try split) <;> simp
def crF (x : Str) : Str := ⟨(upto (F2 x.cps) 0 x.cps.size).toArray⟩
def dotF (x : Str) : Str := ⟨(upto (F1 x.cps) 0 x.cps.size).toArray⟩
section
variable {w : World} {mean : ExcName → Option Value} {mg mb : Str → Option Value} {A : Around} {s : Shared} {Q E : Value → Shared → Prop} {base h : Heap}
theorem Gnd.re1 (G : Gnd w mean mg mb h) : RePat h 71 code1 := by
  have KX := G.X
  have hz : PySem.Challenge.rw_tr0020_01 = PySem.Challenge.rw_tr0020_01 := rfl
  revert hz KX
  k_fill
  intro KX _
  exact ⟨_, _, _, _, _, KX _ _ (by k_is), KX _ _ (by k_is), by decide +kernel⟩
theorem Gnd.re2 (G : Gnd w mean mg mb h) : RePat h 76 code2 := by
  have KX := G.X
  have hz : PySem.Challenge.rw_tr0020_01 = PySem.Challenge.rw_tr0020_01 := rfl
  revert hz KX
  k_fill
  intro KX _
  exact ⟨_, _, _, _, _, KX _ _ (by k_is), KX _ _ (by k_is), by decide +kernel⟩

theorem quote_call (G : Gnd w mean mg mb base) (kb : Keep base s.heap) (R : Room A (1 + 1)) (x : Str) (t : Tok) (hxs : x.length ≤ 240)
    (hq : ∀ t' s', Gro s s' → Q (.str (dotF (crF x)) t') s') :
    wpAny (model prog w) A (call (.ref 83) [.str x t]) Q E s := by
  have KX := G.X
  have hz : PySem.Challenge.rw_tr0020_01 = PySem.Challenge.rw_tr0020_01 := rfl
  revert hz KX
  k_fill
  intro KX _
  refine' enterN [(Str.ofString "data", .str x t)] G kb R ?k1 ?k2 ?k3 ?k4 ?_ ?c1 ?c2 ?c3 ?c4
  case k1 => k_is
  case k2 => k_is
  case k3 => exact rfl
  case c4 => decide
  case k4 => exact locs rfl
  case c1 => exact rfl
  case c2 => exact rfl
  case c3 => exact rfl
  intro A h₁ tk R hn hk
  have kk : Keep base h₁ := fun b o e => hk b o (kb b o e)
  obtain ⟨tc, hcr⟩ := G.g_crlf
  have hxc : x.cps.size ≤ 240 := hxs
  have hdd : (Str.ofString ".." : Str) = ⟨#[46, 46]⟩ := by decide +kernel
  have hcl : (Str.ofString "\r\n" : Str) = ⟨#[13, 10]⟩ := by decide +kernel
  refine wpAny_execs_cons (wpAny_Return_some (Call_method2 rfl rfl rfl (ev_glob rfl rfl (G.T.g.keeps kk) G.g_re1 ?_)))
  refine ⟨"re.Pattern", _, plainAttrs_re, slot_re_sub, type_re_sub, ?_, ?_, ?_⟩
  · obtain ⟨pv, fv, ct, its, n, a, b, c⟩ := G.re1.keeps kk
    exact ⟨_, a, rfl⟩
  · intro a ha
    cases ha
    obtain ⟨pv, fv, ct, its, n, a, b, c⟩ := G.re1.keeps kk
    exact ⟨_, a, rfl⟩
  refine callWith_builtin rfl (evalArgs_plain (spliced_cons (wpAny_mkText (spliced_cons (Call_method2 rfl rfl rfl (ev_glob rfl rfl (G.T.g.keeps kk) G.g_re2 ?_))))))
  refine ⟨"re.Pattern", _, plainAttrs_re, slot_re_sub, type_re_sub, ?_, ?_, ?_⟩
  · obtain ⟨pv, fv, ct, its, n, a, b, c⟩ := G.re2.keeps kk
    exact ⟨_, a, rfl⟩
  · intro a ha
    cases ha
    obtain ⟨pv, fv, ct, its, n, a, b, c⟩ := G.re2.keeps kk
    exact ⟨_, a, rfl⟩
  refine callWith_builtin rfl (evalArgs_plain (spliced_cons (ev_glob rfl rfl (G.T.g.keeps kk) hcr (spliced_cons (ev_name rfl rfl hn rfl (spliced_nil ?_))))))
  rw [hcl, hdd]
  refine sub_call (C := code2) (F := F2 x.cps) (ok := ok2 x.cps) (G.re2.keeps kk) (found2 x.cps) (fun h => absurd h.1 (Nat.lt_irrefl 0)) (by omega) (by decide) (by decide +kernel) fun t2 s2 g2 => ?_
  refine spliced_nil ?_
  have hy : (crF x).cps.size ≤ 480 := by
    show (upto (F2 x.cps) 0 x.cps.size).toArray.size ≤ 480
    rw [List.size_toArray]
    have := upto_len (F2 x.cps) (F2_len x.cps) 0 x.cps.size
    omega
  show wpAny (model prog w) A (call (.builtin "re.Pattern.sub") [.ref 71, .str ⟨#[46, 46]⟩ _, .str (crF x) t2]) _ _ _
  refine sub_call (C := code1) (F := F1 (crF x).cps) (ok := fun _ => True) (G.re1.keeps fun b o e => g2.heap b o (kk b o e)) (found1 (crF x).cps (by omega)) trivial (by omega) (by decide) (by decide +kernel) fun t3 s3 g3 => ?_
  dsimp only
  exact hq t3 s3 ⟨fun b o e => g3.heap b o (g2.heap b o (hk b o e)), g3.os.trans g2.os, fun h => g3.bare (g2.bare h)⟩
end
end Mine
end
section
open PySem PySem.W PyProof.Rows PySem.Spec PySem.Calls
set_option maxHeartbeats 4000000
namespace Mine
/-- what a store into a frame or a cell leaves: every list, every tuple -/
def SeqK (h h' : Heap) : Prop := ∀ b o xs n, h.get? b = some o → o.data = .seq xs n → h'.get? b = some o
theorem SeqK.trans {a b c : Heap} (x : SeqK a b) (y : SeqK b c) : SeqK a c := fun d o xs n e hd => y d o xs n (x d o xs n e hd) hd
theorem SeqK.of_keep {a b : Heap} (x : Keep a b) : SeqK a b := fun d o _ _ e _ => x d o e
theorem SeqK.plain {h h' : Heap} (k : SeqK h h') {D : Addr} {its : Array Value} (p : PlainL h D its) : PlainL h' D its := by
  obtain ⟨o, n, e, c, d, x⟩ := p
  exact ⟨o, n, k D o its n e x, c, d, x⟩
theorem SeqK.list {h h' : Heap} (k : SeqK h h') {D : Addr} {its : Array Value} (p : h.IsList D its) : h'.IsList D its := by
  obtain ⟨o, e, c, n, x⟩ := p
  exact ⟨o, k D o its n e x, c, n, x⟩
theorem SeqK.tup {h h' : Heap} (k : SeqK h h') {D : Addr} {its : Array Value} (p : h.IsTuple D its) : h'.IsTuple D its := by
  obtain ⟨o, e, c, n, x⟩ := p
  exact ⟨o, k D o its n e x, c, n, x⟩

structure Fc (h₀ : Heap) (L : Addr) (m : Str → Option Value) (cs : List (Str × Addr)) (cm : Str → Option Value) (h : Heap) : Prop where
  ns : h.Ns L m
  keep : Keep h₀ h
  cell : ∀ n c, cs.lookup n = some c → h.IsCell c (cm n)
  apart : cs.Pairwise fun x y => x.2 ≠ y.2
  above : ∀ n c, (n, c) ∈ cs → L < c
  lo : h₀.objs.size ≤ L
section
variable {h₀ h h' : Heap} {L : Addr} {m cm : Str → Option Value} {cs : List (Str × Addr)}
theorem Fc.keeps (F : Fc h₀ L m cs cm h) (k : Keep h h') : Fc h₀ L m cs cm h' :=
  ⟨F.ns.keeps k, fun b o e => k b o (F.keep b o e), fun n c e => (F.cell n c e).keeps k, F.apart, F.above, F.lo⟩
/-- a list of the call's own is written -/
theorem Fc.list (F : Fc h₀ L m cs cm h) {D : Addr} {its : Array Value} (p : PlainL h D its) (hD : h₀.get? D = none) (s : Heap.SameBut D h h') : Fc h₀ L m cs cm h' := by
  obtain ⟨oD, nD, eD, cD, _, dD⟩ := p
  refine ⟨?_, fun b o e => s.extBut b o (fun hb => by rw [hb, hD] at e; cases e) (F.keep b o e), fun n c e => ?_, F.apart, F.above, F.lo⟩
  · refine F.ns.at' fun o e => s.extBut L o (fun hb => ?_) e
    obtain ⟨o', es, ep, e', he, _⟩ := F.ns
    rw [hb, eD] at e'
    cases e'
    rw [dD] at he
    cases he
  · obtain ⟨o, e', hd'⟩ := F.cell n c e
    refine ⟨o, s.extBut c o (fun hb => ?_) e', hd'⟩
    rw [hb, eD] at e'
    cases e'
    rw [dD] at hd'
    cases hd'
end
theorem Fc.listI {h₀ h h' : Heap} {L : Addr} {m cm : Str → Option Value} {cs : List (Str × Addr)} (F : Fc h₀ L m cs cm h) {D : Addr} {its : Array Value} (p : h.IsList D its) (hD : h₀.get? D = none) (s : Heap.SameBut D h h') : Fc h₀ L m cs cm h' := by
  obtain ⟨oD, eD, cD, nD, dD⟩ := p
  refine ⟨?_, fun b o e => s.extBut b o (fun hb => by rw [hb, hD] at e; cases e) (F.keep b o e), fun n c e => ?_, F.apart, F.above, F.lo⟩
  · refine F.ns.at' fun o e => s.extBut L o (fun hb => ?_) e
    obtain ⟨o', es, ep, e', he, _⟩ := F.ns
    rw [hb, eD] at e'
    cases e'
    rw [dD] at he
    cases he
  · obtain ⟨o, e', hd'⟩ := F.cell n c e
    refine ⟨o, s.extBut c o (fun hb => ?_) e', hd'⟩
    rw [hb, eD] at e'
    cases e'
    rw [dD] at hd'
    cases hd'
section
variable {prog : Program} {w : World} {A : Around} {E : Value → Shared → Prop} {s : Shared} {env : Env} {h₀ : Heap} {m cm : Str → Option Value}
theorem Fc.load {x : Str} {pos : Pos} {v : Value} {Q : Value → Shared → Prop} (F : Fc h₀ env.locals m env.cells cm s.heap) (hk : env.scope.kind = .function) (hx : env.kindOf x = some .local) (hv : m x = some v)
    (h : Q v s) (hd : (x == ("__debug__" : Str)) = false := by decide) : wpAny (model prog w) A (eval (.Name x pos) env) Q E s := wpAny_Name (wpAny_loadName_local hk hx F.ns hv h) hd
theorem Fc.loadC {x : Str} {pos : Pos} {v : Value} {Q : Value → Shared → Prop} (c : Addr) (F : Fc h₀ env.locals m env.cells cm s.heap) (hk : env.scope.kind = .function) (hx : env.kindOf x = some .cell) (hc : env.cells.lookup x = some c) (hv : cm x = some v)
    (h : Q v s) (hd : (x == ("__debug__" : Str)) = false := by decide) : wpAny (model prog w) A (eval (.Name x pos) env) Q E s := wpAny_Name (wpAny_loadName_cell hk hx hc (hv ▸ F.cell x c hc) h) hd
theorem Fc.store {x : Str} {v : Value} {Q : Unit → Shared → Prop} (F : Fc h₀ env.locals m env.cells cm s.heap) (hk : env.scope.kind = .function) (hx : env.kindOf x = some .local)
    (h : ∀ h' tk, Fc h₀ env.locals (fun y => if y = x then some v else m y) env.cells cm h' → SeqK s.heap h' → Heap.SameBut env.locals s.heap h' → Q () { s with heap := h', toks := tk }) : wpAny (model prog w) A (storeName env x v) Q E s := by
  refine wpAny_storeName_local hx F.ns (fun h' hn' hs' => h h' _ ⟨hn', fun b o e => ?_, fun k c hc => ?_, F.apart, F.above, F.lo⟩ ?seq ?same) (by rw [hk]; rfl)
  · exact hs'.extBut b o (Nat.ne_of_lt (Nat.lt_of_lt_of_le (Heap.lt_size e) F.lo)) (F.keep b o e)
  · exact (F.cell k c hc).sameBut hs' (Nat.ne_of_gt (F.above k c (mem_of_lookup hc)))
  case same => exact hs'
  case seq =>
    intro b o xs n e hd
    refine hs'.extBut b o (fun hb => ?_) e
    obtain ⟨o', es, ep, e', he, _⟩ := F.ns
    rw [← hb, e] at e'
    cases e'
    rw [hd] at he
    cases he
theorem Fc.storeC {x : Str} {v : Value} {Q : Unit → Shared → Prop} (c : Addr) (F : Fc h₀ env.locals m env.cells cm s.heap) (hk : env.scope.kind = .function) (hx : env.kindOf x = some .cell) (hc : env.cells.lookup x = some c)
    (h : ∀ h', Fc h₀ env.locals m env.cells (fun y => if y = x then some v else cm y) h' → SeqK s.heap h' → Heap.SameBut c s.heap h' → Q () { s with heap := h' }) : wpAny (model prog w) A (storeName env x v) Q E s := by
  have hLc := F.above x c (mem_of_lookup hc)
  refine wpAny_storeName_cell hk hx hc (F.cell x c hc) fun h' hc' hs' => h h' ⟨F.ns.sameBut hs' (Nat.ne_of_lt hLc), fun b o e => ?_, fun k c' hk' => ?_, F.apart, F.above, F.lo⟩ ?seq hs'
  · exact hs'.extBut b o (Nat.ne_of_lt (Nat.lt_trans (Nat.lt_of_lt_of_le (Heap.lt_size e) F.lo) hLc)) (F.keep b o e)
  · by_cases hkn : k = x
    · subst hkn
      rw [hc] at hk'; cases hk'
      simpa using hc'
    · rw [if_neg hkn]
      exact (F.cell k c' hk').sameBut hs' fun e => hkn (name_of_addr F.apart (mem_of_lookup hk') (e ▸ mem_of_lookup hc))
  case seq =>
    intro b o xs n e hd
    refine hs'.extBut b o (fun hb => ?_) e
    obtain ⟨o', e', hd'⟩ := F.cell x c hc
    rw [← hb, e] at e'
    cases e'
    rw [hd] at hd'
    cases hd'
end

section
variable {w : World} {mean : ExcName → Option Value} {mg mb : Str → Option Value} {A : Around} {s : Shared} {Q E : Value → Shared → Prop} {base : Heap}
theorem enterC {f : Addr} {name qual : Str} {params : Arguments} {body : List Stmt} {scope : Scope} {dV kV doc pm cdv ct oc : Value} {an od : Option Addr} {osl : Array (Option Value)} {args : List Value} {n : Nat} (binds : List (Str × Value))
    (G : Gnd w mean mg mb base) (kb : Keep base s.heap) (R : Room A (n + 1))
    (ho : (hd.heap_39 w.params).lookup f = some ⟨oc, od, .func (fnOf name qual params body scope dV kV doc pm an cdv ct), osl⟩) (hcd : codeIn (hd.heap_39 w.params) cdv qual = true)
    (hbind : bindArgs (fnOf name qual params body scope dV kV doc pm an cdv ct) ⟨args, []⟩ = pure binds)
    (hkind : ∀ L : Nat, ∀ x ∈ binds, scope.names.lookup x.1 = some .local ∨ (scope.names.lookup x.1 = some .cell ∧ ((cellsFrom (L + 1) scope.names []).lookup x.1).isSome = true))
    (h : ∀ A' h₁ tk env, Room A' n → env = callEnvC (fnOf name qual params body scope dV kV doc pm an cdv ct) s.heap.objs.size f →
      Fc s.heap env.locals (bindL env.kindOf binds fun _ => none) env.cells (bindC env.kindOf binds fun _ => none) h₁ →
      wpAny (model prog w) A' (execs body env) (fun fl s' => Q (match fl with | .ret v => v | _ => .none) s') (fun _ _ => False) { s with heap := h₁, toks := tk })
    (hco : scope.isCoroutine = false) (hgen : scope.isGenerator = false) (hk : scope.kind = .function) : wpAny (model prog w) A (call (.ref f) args) Q E s := by
  refine wpAny_call ?_
  have X := G.X.keeps kb
  refine codeAny_call_cells (fd := fnOf name qual params body scope dV kV doc pm an cdv ct) (body := body) (binds := binds) (by have := R.depth; omega) (X _ _ ho) rfl (G.T.nolimit.keeps kb) (codeRec_of X hcd) rfl hbind rfl (hkind _) (fun s₁ x => ?_) hco hgen hk
  obtain ⟨h', tk, rfl⟩ := x.toInCall.same
  exact wpAny_mono (h _ h' tk _ ⟨R.handled, by show A.depth + 1 + n < _; have := R.depth; omega, by show A.units + 3 + 8 * n < _; have := R.units; omega⟩ rfl
    ⟨x.toInCall.ns, x.toInCall.keep, x.cell, x.apart, x.above, x.toInCall.fresh⟩) (fun _ _ q => q) fun _ _ f => f.elim
end
end Mine
end
section
open PySem PySem.W PyProof.Rows PySem.Spec PySem.Calls
set_option maxHeartbeats 4000000
namespace Mine
def Hi (N : Nat) (h h' : Heap) : Prop := ∀ b o, N ≤ b → h.get? b = some o → h'.get? b = some o
theorem Hi.trans {N : Nat} {a b c : Heap} (x : Hi N a b) (y : Hi N b c) : Hi N a c := fun d o hd e => y d o hd (x d o hd e)
theorem Hi.keep {N : Nat} {a b : Heap} (x : Keep a b) : Hi N a b := fun d o _ e => x d o e
theorem Hi.same {N : Nat} {D : Addr} {a b : Heap} (x : Heap.SameBut D a b) (h : D < N) : Hi N a b := fun d o hd e => x.extBut d o (Nat.ne_of_gt (Nat.lt_of_lt_of_le h hd)) e

section
variable {w : World} {A : Around} {s : Shared} {env : Env} {h₀ : Heap} {Q : Flow → Shared → Prop}
theorem For_rng {xi : Str} {px pos : Pos} {iter : PySem.Expr} {body : List Stmt} (hA : A.handled = none) (hk : env.scope.kind = .function) (hxi : env.kindOf xi = some .local)
    (hs : ∀ x, foldedSetIterable iter env x = pure x)
    (h : wpAny (model prog w) A (eval iter env) (fun r s₁ => ∃ (rg : Addr) (a : Int) (n : Nat) (t u v : Tok) (m cm : Str → Option Value) (J : Nat → (Str → Option Value) → (Str → Option Value) → Shared → Prop),
      r = .ref rg ∧ IsRange s₁.heap rg a (a + n) 1 t u v ∧ -(2 ^ 61) ≤ a ∧ a < 2 ^ 61 ∧ n < 2 ^ 61 ∧ Fc h₀ env.locals m env.cells cm s₁.heap ∧ J 0 m cm s₁ ∧
      (∀ i m cm s h' tk, J i m cm s → SeqK s.heap h' → J i m cm { s with heap := h', toks := tk }) ∧
      (∀ i m cm s₂ t, i < n → J i m cm s₂ → (∀ b o, b < s₁.heap.objs.size → h₀.get? b = some o → s₂.heap.get? b = some o) → Fc h₀ env.locals (fun y => if y = xi then some (.int (a + (i : Nat)) t) else m y) env.cells cm s₂.heap →
        wpAny (model prog w) A (execs body env) (fun f s₃ => match f with
          | .next | .cont => Hi s₁.heap.objs.size s₂.heap s₃.heap ∧ ∃ m' cm', Fc h₀ env.locals m' env.cells cm' s₃.heap ∧ J (i + 1) m' cm' s₃
          | .brk => Q .next s₃
          | .ret v => Q (.ret v) s₃) (fun _ _ => False) s₂) ∧
      (∀ m cm s₂, J n m cm s₂ → Fc h₀ env.locals m env.cells cm s₂.heap → Q .next s₂)) (fun _ _ => False) s) :
    wpAny (model prog w) A (exec (.For (.Name xi px) iter body [] pos) env) Q (fun _ _ => False) s := by
  refine wpAny_For (wpAny_mono h (fun r s₁ h₁ => ?_) fun _ _ f => f) hs
  obtain ⟨rg, a, n, t, u, v, m, cm, J, rfl, hr, ha1, ha2, hn1, F, hJ, stable, turn, done⟩ := h₁
  have hrs : Builtin.Range.rangeSize a (a + n) 1 = n := by rw [rangeSize_one]; split <;> omega
  refine wpAny_pyIter_range hr (small_one (by omega) (by omega) (by omega) (by omega)) ?_
  rw [hrs]
  have W := Walks.range (prog := prog) (w := w) (A := A) hA s₁.heap.objs.size a 1 n
  generalize hI : s₁.heap.objs.size = I at *
  have seqI : ∀ {h h' : Heap} {x l c : Int}, IsRangeIter h I x l c → (∀ b o, b ∉ [I] → h.get? b = some o → h'.get? b = some o) → SeqK h h' := by
    intro h h' x l c hi hx b o xs nn e hd
    refine hx b o (fun hb => ?_) e
    rw [List.mem_singleton.mp hb] at e
    have hi' : h.get? I = some _ := hi
    rw [hi'] at e
    cases e
    cases hd
  have fcI : ∀ {h h' : Heap} {x l c : Int} {m cm}, IsRangeIter h I x l c → (∀ b o, b ∉ [I] → h.get? b = some o → h'.get? b = some o) → Fc h₀ env.locals m env.cells cm h → Fc h₀ env.locals m env.cells cm h' := by
    intro h h' x l c m cm hi hx F'
    refine ⟨?_, fun b o e => hx b o (fun hb => ?_) (F'.keep b o e), fun k c' hc => ?_, F'.apart, F'.above, F'.lo⟩
    · refine F'.ns.at' fun o e => hx _ o (fun hb => ?_) e
      have := F.ns.lt
      rw [hI] at this
      exact Nat.lt_irrefl _ ((List.mem_singleton.mp hb) ▸ this)
    · have h1 := Heap.lt_size (F.keep b o e)
      rw [hI, List.mem_singleton.mp hb] at h1
      exact Nat.lt_irrefl _ h1
    · obtain ⟨o, e, hd⟩ := F'.cell k c' hc
      refine ⟨o, hx c' o (fun hb => ?_) e, hd⟩
      have h1 := (F.cell k c' hc).lt
      rw [hI, List.mem_singleton.mp hb] at h1
      exact Nat.lt_irrefl _ h1
  refine codeAny_forLoop_any (fun k σ => ∃ i m cm, k = n - i ∧ i ≤ n ∧ IsRangeIter σ.heap I (a + (i : Nat) * 1) ((n : Int) - (i : Nat)) 1 ∧ Fc h₀ env.locals m env.cells cm σ.heap ∧ J i m cm σ) ?_ n ?_
  · rintro k σ ⟨i, m, cm, rfl, hi, hit, F', hJ'⟩
    by_cases hlt : i < n
    · refine W.item i σ _ _ hlt hit fun v h' tk hv hit' hx => ?_
      obtain ⟨t', rfl⟩ := hv
      refine wpAny_of_eq (rfl : letOwnedTupleGo (.Name xi px) (.ref I) _ = pure ()) ?_
      have F2 := fcI hit hx F'
      have J2 : J i m cm { σ with heap := h', toks := tk } := stable i m cm σ h' tk hJ' (seqI hit hx)
      dsimp only
      refine wpAny_assign_Name (Fc.store F2 hk hxi fun h2 tk2 F3 hsq hs2 => ?_)
      have hit2 : IsRangeIter h2 I (a + ((i + 1 : Nat) : Int) * 1) ((n : Int) - ((i + 1 : Nat) : Int)) 1 := hs2.extBut I _ (fun hb => by have h1 := F.ns.lt; rw [hI, hb] at h1; exact Nat.lt_irrefl _ h1) hit'
      rw [Int.mul_one] at F3
      refine wpAny_mono (turn i m cm _ t' hlt (stable i m cm _ h2 tk2 J2 hsq) (fun b o _ e => F3.keep b o e) F3) (fun f s₃ hf => ?_) fun _ _ f => f.elim
      have fin : (Hi I h2 s₃.heap ∧ ∃ m' cm', Fc h₀ env.locals m' env.cells cm' s₃.heap ∧ J (i + 1) m' cm' s₃) → ∃ k', k' < n - i ∧ ∃ i m cm, k' = n - i ∧ i ≤ n ∧ IsRangeIter s₃.heap I (a + (i : Nat) * 1) ((n : Int) - (i : Nat)) 1 ∧ Fc h₀ env.locals m env.cells cm s₃.heap ∧ J i m cm s₃ := by
        rintro ⟨hhi, m', cm', F4, J4⟩
        exact ⟨n - (i + 1), by omega, i + 1, m', cm', rfl, hlt, hhi I _ (Nat.le_refl _) hit2, F4, J4⟩
      cases f with
      | next => exact fin hf
      | cont => exact fin hf
      | brk => exact hf
      | ret v => exact hf
    · have hie : i = n := by omega
      subst hie
      refine W.done σ _ _ hit fun h' tk hx => ?_
      exact wpAny_execs_nil (done m cm _ (stable _ m cm σ h' tk hJ' (seqI hit hx)) (fcI hit hx F'))
  · refine ⟨0, m, cm, rfl, Nat.zero_le _, ?_, F.keeps fun b o e => Heap.get?_push_of_some _ e, stable 0 m cm s₁ _ s₁.toks hJ fun b o xs nn e _ => Heap.get?_push_of_some _ e⟩
    have h1 : a + ((0 : Nat) : Int) * 1 = a := by omega
    have h2 : (n : Int) - ((0 : Nat) : Int) = n := by omega
    rw [h1, h2]
    show (s₁.heap.push _).get? I = _
    rw [← hI]
    exact Heap.get?_push_size _ rfl
end
end Mine
end
section
open PySem PySem.W PyProof.Rows PySem.Spec PySem.Calls
set_option maxHeartbeats 4000000
namespace Mine
theorem callEnvC_facts {name qual : Str} {params : Arguments} {body : List Stmt} {scope : Scope} {dV kV doc pm cdv ct : Value} {an : Option Addr} {L f : Addr} {env : Env}
    (he : env = callEnvC (fnOf name qual params body scope dV kV doc pm an cdv ct) L f) :
    env.scope = scope ∧ env.locals = L ∧ env.globals = mainGlobals ∧ env.builtins = builtinsNs ∧ env.cells = cellsFrom (L + 1) scope.names [] := by
  subst he
  exact ⟨rfl, rfl, rfl, rfl, rfl⟩
section
variable {t : Option PySem.Expr} {l : Nat} {env : Env}
theorem sw_List {es : List PySem.Expr} {p : Pos} : swapsWith (.List es p) t l env = pure false := rfl
theorem sw_Tuple {es : List PySem.Expr} {k : Nat} {p : Pos} : swapsWith (.Tuple es k p) t l env = pure false := rfl
theorem sw_IfExp {a b c : PySem.Expr} {p : Pos} : swapsWith (.IfExp a b c p) t l env = pure false := rfl
theorem sw_Call {f : PySem.Expr} {es : List PySem.Expr} {ks : List Keyword} {p : Pos} : swapsWith (.Call f es ks p) t l env = pure false := rfl
theorem sw_Sub {a b : PySem.Expr} {p : Pos} : swapsWith (.Subscript a b p) t l env = pure false := rfl
theorem sw_Bin {a b : PySem.Expr} {o : Operator} {p : Pos} : swapsWith (.BinOp a o b p) t l env = pure false := rfl
theorem sw_Name {n : Str} {p : Pos} : swapsWith (.Name n p) t l env = pure false := rfl
theorem sw_Dict {a : List (Option PySem.Expr)} {b : List PySem.Expr} {p : Pos} : swapsWith (.Dict a b p) t l env = pure false := rfl
end
structure Ev (env : Env) (names : List (Str × NameKind)) : Prop where
  fn : env.scope.kind = .function
  kind : ∀ x, env.kindOf x = names.lookup x
  glob : env.globals = mainGlobals
  blt : env.builtins = builtinsNs
  inter : interactive env = false
theorem Ev.of {name qual : Str} {params : Arguments} {body : List Stmt} {scope : Scope} {dV kV doc pm cdv ct : Value} {an : Option Addr} {L f : Addr} {env : Env}
    (he : env = callEnvC (fnOf name qual params body scope dV kV doc pm an cdv ct) L f) (hk : scope.kind = .function) : Ev env scope.names := by
  subst he
  exact ⟨hk, fun _ => rfl, rfl, rfl, by unfold interactive; rw [show (callEnvC (fnOf name qual params body scope dV kV doc pm an cdv ct) L f).scope.kind = .function from hk]; rfl⟩
theorem fresh_none {h₀ h : Heap} (k : Keep h₀ h) : h₀.get? h.objs.size = none := by
  cases e : h₀.get? h.objs.size with
  | none => rfl
  | some o => exact absurd (Heap.lt_size (k _ _ e)) (Nat.lt_irrefl _)
section
variable {w : World} {mean : ExcName → Option Value} {mg mb : Str → Option Value} {A : Around} {s : Shared} {base h₀ : Heap} {env : Env} {names : List (Str × NameKind)} {m cm : Str → Option Value} {E : Value → Shared → Prop}
theorem Ev.ld {x : Str} {pos : Pos} {v : Value} {Q : Value → Shared → Prop} (V : Ev env names) (F : Fc h₀ env.locals m env.cells cm s.heap) (hx : names.lookup x = some .local) (hv : m x = some v) (h : Q v s)
    (hd : (x == ("__debug__" : Str)) = false := by decide) : wpAny (model prog w) A (eval (.Name x pos) env) Q E s := F.load V.fn ((V.kind x).trans hx) hv h hd
theorem Ev.lc {x : Str} {pos : Pos} {v : Value} {Q : Value → Shared → Prop} (V : Ev env names) (c : Addr) (F : Fc h₀ env.locals m env.cells cm s.heap) (hx : names.lookup x = some .cell) (hc : env.cells.lookup x = some c) (hv : cm x = some v) (h : Q v s)
    (hd : (x == ("__debug__" : Str)) = false := by decide) : wpAny (model prog w) A (eval (.Name x pos) env) Q E s := F.loadC c V.fn ((V.kind x).trans hx) hc hv h hd
theorem Ev.set {x : Str} {p pos : Pos} {e : PySem.Expr} {Q : Flow → Shared → Prop} (V : Ev env names) (h₀ : Heap) (hx : names.lookup x = some .local) (hs : swapsWith e (some (.Name x p)) pos.line env = pure false)
    (h : wpAny (model prog w) A (eval e env) (fun v s₁ => ∃ m cm, Fc h₀ env.locals m env.cells cm s₁.heap ∧ ∀ h' tk, Fc h₀ env.locals (fun y => if y = x then some v else m y) env.cells cm h' → SeqK s₁.heap h' → Heap.SameBut env.locals s₁.heap h' →
      Q .next { s₁ with heap := h', toks := tk }) E s) : wpAny (model prog w) A (exec (.Assign [.Name x p] e pos) env) Q E s := by
  refine wpAny_Assign_Name (wpAny_mono h (fun v s₁ h₁ => ?_) fun _ _ e => e) hs
  obtain ⟨m, cm, F, h₁⟩ := h₁
  exact F.store V.fn ((V.kind x).trans hx) fun h' tk F' q sb => h₁ h' tk F' q sb
theorem Ev.setC {x : Str} {p pos : Pos} {e : PySem.Expr} {Q : Flow → Shared → Prop} (V : Ev env names) (h₀ : Heap) (c : Addr) (hx : names.lookup x = some .cell) (hc : env.cells.lookup x = some c) (hs : swapsWith e (some (.Name x p)) pos.line env = pure false)
    (h : wpAny (model prog w) A (eval e env) (fun v s₁ => ∃ m cm, Fc h₀ env.locals m env.cells cm s₁.heap ∧ ∀ h', Fc h₀ env.locals m env.cells (fun y => if y = x then some v else cm y) h' → SeqK s₁.heap h' → Heap.SameBut c s₁.heap h' →
      Q .next { s₁ with heap := h' }) E s) : wpAny (model prog w) A (exec (.Assign [.Name x p] e pos) env) Q E s := by
  refine wpAny_Assign_Name (wpAny_mono h (fun v s₁ h₁ => ?_) fun _ _ e => e) hs
  obtain ⟨m, cm, F, h₁⟩ := h₁
  exact F.storeC c V.fn ((V.kind x).trans hx) hc fun h' F' q sb => h₁ h' F' q sb
/-- a built-in function of one argument -/
theorem Ev.b1 {f : Str} {pf pos : Pos} {e : PySem.Expr} {id : String} {Q : Value → Shared → Prop} (V : Ev env names) (G : Gnd w mean mg mb base) (kb : Keep base s.heap) (hx : names.lookup f = some .globalImplicit) (hf : mg f = none ∧ mb f = some (.builtin id))
    (hs : backTo pos (starEach [e] env) = [(false, eval e env)])
    (h : wpAny (model prog w) A (eval e env) (fun v s₁ => wpAny (model prog w) A (call (.builtin id) [v]) Q E s₁) E s) (hd : (f == ("__debug__" : Str)) = false := by decide) :
    wpAny (model prog w) A (eval (.Call (.Name f pf) [e] [] pos) env) Q E s := by
  refine wpAny_Call_NameR (ev_built V.fn ((V.kind f).trans hx) (by rw [V.glob]; exact G.T.g.keeps kb) hf.1 (by rw [V.blt]; exact G.T.b.keeps kb) hf.2 ?_ hd)
  rw [hs]
  exact callWith_builtin rfl (evalArgs_plain (spliced_cons (wpAny_mono h (fun v s₁ h₁ => spliced_nil h₁) fun _ _ e => e)))
/-- an own def of one argument -/
theorem Ev.o1 {f : Str} {pf pos : Pos} {e : PySem.Expr} {a : Addr} {Q : Value → Shared → Prop} (V : Ev env names) (G : Gnd w mean mg mb base) (kb : Keep base s.heap) (hx : names.lookup f = some .globalImplicit) (hf : mg f = some (.ref a)) (hkeep : keepIn (hd.heap_39 w.params) (.ref a) = true)
    (hs : backTo pos (starEach [e] env) = [(false, eval e env)])
    (h : wpAny (model prog w) A (eval e env) (fun v s₁ => Keep base s₁.heap ∧ wpAny (model prog w) A (call (.ref a) [v]) Q E s₁) E s) (hd : (f == ("__debug__" : Str)) = false := by decide) :
    wpAny (model prog w) A (eval (.Call (.Name f pf) [e] [] pos) env) Q E s := by
  refine wpAny_Call_NameR (ev_glob V.fn ((V.kind f).trans hx) (by rw [V.glob]; exact G.T.g.keeps kb) hf ?_ hd)
  rw [hs]
  exact callWith_of rfl (keeps_K hkeep) (evalArgs_plain (spliced_cons (wpAny_mono h (fun v s₁ h₁ => spliced_nil ⟨G.X.keeps h₁.1, h₁.2⟩) fun _ _ e => e)))
theorem Ev.o2 {f : Str} {pf pos : Pos} {e1 e2 : PySem.Expr} {a : Addr} {Q : Value → Shared → Prop} (V : Ev env names) (G : Gnd w mean mg mb base) (kb : Keep base s.heap) (hx : names.lookup f = some .globalImplicit) (hf : mg f = some (.ref a)) (hkeep : keepIn (hd.heap_39 w.params) (.ref a) = true)
    (hs : backTo pos (starEach [e1, e2] env) = [(false, eval e1 env), (false, eval e2 env)])
    (h : wpAny (model prog w) A (eval e1 env) (fun v1 s₁ => wpAny (model prog w) A (eval e2 env) (fun v2 s₂ => Keep base s₂.heap ∧ wpAny (model prog w) A (call (.ref a) [v1, v2]) Q E s₂) E s₁) E s) (hd : (f == ("__debug__" : Str)) = false := by decide) :
    wpAny (model prog w) A (eval (.Call (.Name f pf) [e1, e2] [] pos) env) Q E s := by
  refine wpAny_Call_NameR (ev_glob V.fn ((V.kind f).trans hx) (by rw [V.glob]; exact G.T.g.keeps kb) hf ?_ hd)
  rw [hs]
  exact callWith_of rfl (keeps_K hkeep) (evalArgs_plain (spliced_cons (wpAny_mono h (fun v1 s₁ h₁ => spliced_cons (wpAny_mono h₁ (fun v2 s₂ h₂ => spliced_nil ⟨G.X.keeps h₂.1, h₂.2⟩) fun _ _ e => e)) fun _ _ e => e)))
/-- range of one argument, of two -/
theorem Ev.r1 {pf pos : Pos} {e : PySem.Expr} {Q : Value → Shared → Prop} (V : Ev env names) (G : Gnd w mean mg mb base) (kb : Keep base s.heap) (hx : names.lookup (Str.ofString "range") = some .globalImplicit)
    (hs : backTo pos (starEach [e] env) = [(false, eval e env)])
    (h : wpAny (model prog w) A (eval e env) (fun v s₁ => ∃ n t, v = .int n t ∧ ∀ rg h' tk u1 u2 u3, IsRange h' rg 0 n 1 u1 u2 u3 → Keep s₁.heap h' → h'.objs.size = s₁.heap.objs.size + 1 → Q (.ref rg) { s₁ with heap := h', toks := tk }) E s) :
    wpAny (model prog w) A (eval (.Call (.Name "range" pf) [e] [] pos) env) Q E s := by
  refine wpAny_Call_NameR (ev_built V.fn ((V.kind _).trans hx) (by rw [V.glob]; exact G.T.g.keeps kb) G.g_range.1 (by rw [V.blt]; exact G.T.b.keeps kb) G.g_range.2 ?_)
  rw [hs]
  refine PySem.callWith_type1 (wpAny_mono h (fun v s₁ h₁ => ?_) fun _ _ e => e)
  obtain ⟨n, t, rfl, h₁⟩ := h₁
  exact call_range_1 (h₁ _ _ _ _ _ _ (IsRange.new ..) (fun b o e => Heap.get?_push_of_some _ e) (Heap.size_push ..))
theorem Ev.r2 {pf pos : Pos} {e1 e2 : PySem.Expr} {Q : Value → Shared → Prop} (V : Ev env names) (G : Gnd w mean mg mb base) (kb : Keep base s.heap) (hx : names.lookup (Str.ofString "range") = some .globalImplicit)
    (hs : backTo pos (starEach [e1, e2] env) = [(false, eval e1 env), (false, eval e2 env)])
    (h : wpAny (model prog w) A (eval e1 env) (fun v s₁ => wpAny (model prog w) A (eval e2 env) (fun v2 s₂ => ∃ a t n t2, v = .int a t ∧ v2 = .int n t2 ∧ ∀ rg h' tk u1 u2 u3, IsRange h' rg a n 1 u1 u2 u3 → Keep s₂.heap h' → h'.objs.size = s₂.heap.objs.size + 1 → Q (.ref rg) { s₂ with heap := h', toks := tk }) E s₁) E s) :
    wpAny (model prog w) A (eval (.Call (.Name "range" pf) [e1, e2] [] pos) env) Q E s := by
  refine wpAny_Call_NameR (ev_built V.fn ((V.kind _).trans hx) (by rw [V.glob]; exact G.T.g.keeps kb) G.g_range.1 (by rw [V.blt]; exact G.T.b.keeps kb) G.g_range.2 ?_)
  rw [hs]
  refine PySem.callWith_type rfl (evalArgs_plain (spliced_cons (wpAny_mono h (fun v s₁ h₁ => spliced_cons (wpAny_mono h₁ (fun v2 s₂ h₂ => spliced_nil ?_) fun _ _ e => e)) fun _ _ e => e)))
  obtain ⟨a, t, n, t2, rfl, rfl, h₂⟩ := h₂
  exact call_range_2 (h₂ _ _ _ _ _ _ (IsRange.new ..) (fun b o e => Heap.get?_push_of_some _ e) (Heap.size_push ..))
end
section
variable {w : World} {A : Around} {s : Shared} {env : Env} {E : Value → Shared → Prop}
theorem lit_int {i : Int} {k : Nat} {p pos : Pos} {es : List PySem.Expr} {Q : List Value → Shared → Prop} (h : wpAny (model prog w) A (spliced (backTo pos (starEach es env))) (fun vs s₂ => Q (.int i s.toks :: vs) s₂) E { s with toks := s.toks + 1 }) :
    wpAny (model prog w) A (spliced (backTo pos (starEach (.Constant (.int i) k p :: es) env))) Q E s := spliced_cons (x := eval (.Constant (.int i) k p) env) (wpAny_Constant_int h)
theorem lit_str {x : Str} {k : Nat} {p pos : Pos} {es : List PySem.Expr} {Q : List Value → Shared → Prop} (h : wpAny (model prog w) A (spliced (backTo pos (starEach es env))) (fun vs s₂ => Q (.str x s.toks :: vs) s₂) E { s with toks := s.toks + 1 }) :
    wpAny (model prog w) A (spliced (backTo pos (starEach (.Constant (.str x) k p :: es) env))) Q E s := spliced_cons (x := eval (.Constant (.str x) k p) env) (Constant_str h)
theorem lit_any {e : PySem.Expr} {pos : Pos} {es : List PySem.Expr} {Q : List Value → Shared → Prop} (hs : starEach (e :: es) env = (false, eval e env) :: starEach es env)
    (h : wpAny (model prog w) A (eval e env) (fun v s₁ => wpAny (model prog w) A (spliced (backTo pos (starEach es env))) (fun vs s₂ => Q (v :: vs) s₂) E s₁) E s) :
    wpAny (model prog w) A (spliced (backTo pos (starEach (e :: es) env))) Q E s := by
  rw [hs]
  exact spliced_cons h
theorem lit_end {pos : Pos} {Q : List Value → Shared → Prop} (h : Q [] s) : wpAny (model prog w) A (spliced (backTo pos (starEach [] env))) Q E s := spliced_nil h
theorem st_name {n : Str} {p : Pos} {es : List PySem.Expr} : starEach (.Name n p :: es) env = (false, eval (.Name n p) env) :: starEach es env := rfl
theorem st_bin {a b : PySem.Expr} {o : Operator} {p : Pos} {es : List PySem.Expr} : starEach (.BinOp a o b p :: es) env = (false, eval (.BinOp a o b p) env) :: starEach es env := rfl
theorem st_sub {a b : PySem.Expr} {p : Pos} {es : List PySem.Expr} : starEach (.Subscript a b p :: es) env = (false, eval (.Subscript a b p) env) :: starEach es env := rfl
theorem st_call {f : PySem.Expr} {as : List PySem.Expr} {ks : List Keyword} {p : Pos} {es : List PySem.Expr} : starEach (.Call f as ks p :: es) env = (false, eval (.Call f as ks p) env) :: starEach es env := rfl
/-- an item of a list, of a tuple -/
theorem ev_item {value slice : PySem.Expr} {pos : Pos} {Q : Value → Shared → Prop}
    (hs : ∀ o i, subscripted slice false o i = operate [o, i] (getItem o i) ∨ subscripted slice false o i = operate [i, o] (getItem o i))
    (h : wpAny (model prog w) A (eval value env) (fun o s₁ => wpAny (model prog w) A (eval slice env) (fun i s₂ => ∃ D its k t v, o = .ref D ∧ i = .int k t ∧ s₂.heap.IsList D its ∧ 0 ≤ k ∧ k < 2 ^ 63 ∧ its[k.toNat]? = some v ∧ Q v s₂) E s₁) E s) :
    wpAny (model prog w) A (eval (.Subscript value slice pos) env) Q E s := by
  refine Subscript_ (wpAny_mono h (fun o s₁ h₁ => wpAny_mono h₁ (fun i s₂ h₂ => ?_) fun _ _ e => e) fun _ _ e => e)
  obtain ⟨D, its, k, t, v, rfl, rfl, hl, h0, h1, hv, hq⟩ := h₂
  rcases hs (.ref D) (.int k t) with e | e
  · exact tail_any hl.typeIs list_getitem_lookup (wpAny_getItem_list hl h0 h1 hv hq) e
  · exact tail_any hl.typeIs list_getitem_lookup (wpAny_getItem_list hl h0 h1 hv hq) e
theorem ev_item_t {value slice : PySem.Expr} {pos : Pos} {Q : Value → Shared → Prop}
    (hs : ∀ o i, subscripted slice false o i = operate [o, i] (getItem o i) ∨ subscripted slice false o i = operate [i, o] (getItem o i))
    (h : wpAny (model prog w) A (eval value env) (fun o s₁ => wpAny (model prog w) A (eval slice env) (fun i s₂ => ∃ D its t v, ∃ k : Nat, o = .ref D ∧ i = .int k t ∧ s₂.heap.IsTuple D its ∧ k < 1000 ∧ its[k]? = some v ∧ Q v s₂) E s₁) E s) :
    wpAny (model prog w) A (eval (.Subscript value slice pos) env) Q E s := by
  refine Subscript_ (wpAny_mono h (fun o s₁ h₁ => wpAny_mono h₁ (fun i s₂ h₂ => ?_) fun _ _ e => e) fun _ _ e => e)
  obtain ⟨D, its, t, v, k, rfl, rfl, hl, h1, hv, hq⟩ := h₂
  have hlt : k < its.size := (Array.getElem?_eq_some_iff.mp hv).1
  have hT : IsTup s₂.heap D its := hl
  have hg : wpAny (model prog w) A (getItem (.ref D) (.int k t)) Q E s₂ := getItem_tuple (j := k) hT (by omega) (by omega) (by unfold seqIndex?; simp; omega) hv hq
  rcases hs (.ref D) (.int k t) with e | e
  · exact tail_any hT.typeIs PyProof.Rows.slot_tuple_getitem.lookup hg e
  · exact tail_any hT.typeIs PyProof.Rows.slot_tuple_getitem.lookup hg e
theorem ev_lslice {value : PySem.Expr} {lower upper : Option PySem.Expr} {p pos : Pos} {Q : Value → Shared → Prop}
    (hs : ∀ o i, subscripted (.Slice lower upper none p) false o i = operate [i, o] (getItem o i))
    (h : wpAny (model prog w) A (eval value env) (fun o s₁ => wpAny (model prog w) A (evalPart lower env) (fun vl s₂ => wpAny (model prog w) A (evalPart upper env) (fun vu s₃ =>
      ∃ l items lo hi, o = .ref l ∧ s₃.heap.IsList l items ∧ items.size ≤ 10000 ∧ IsPart vl lo ∧ IsPart vu hi ∧
        ∀ D h', Keep s₃.heap h' → PlainL h' D (slicePick items lo hi none) → s₃.heap.get? D = none → Q (.ref D) { s₃ with heap := h' }) E s₂) E s₁) E s) :
    wpAny (model prog w) A (eval (.Subscript value (.Slice lower upper none p) pos) env) Q E s := by
  refine Subscript_ (wpAny_mono h (fun o s₁ h₁ => wpAny_Slice (wpAny_mono h₁ (fun vl s₂ h₂ => wpAny_mono h₂ (fun vu s₃ h₃ => ?_) fun _ _ e => e) fun _ _ e => e)) fun _ _ e => e)
  obtain ⟨l, items, lo, hi, rfl, hl, hsz, pl, pu, hQ⟩ := h₃
  rw [evalPart_none]
  refine wpAny_pure (tail_any (hl.push _).typeIs list_getitem_lookup (wpAny_getItem_list_slice (hl.push _) (Heap.IsSliceOf.new ..) pl pu .none (by simp) ?_ (Nat.le_trans hsz (by decide))) (hs _ _))
  refine hQ _ _ (fun b o e => Heap.get?_push_of_some _ (Heap.get?_push_of_some _ e)) ⟨_, _, Heap.get?_push_size _ rfl, rfl, rfl, rfl⟩ ?_
  cases e : s₃.heap.get? (s₃.heap.push { cls := .type "slice", data := .fields #[vl, vu, .none] }).objs.size with
  | none => rfl
  | some o =>
    have h1 := Heap.lt_size e
    rw [Heap.size_push] at h1
    exact absurd h1 (Nat.not_lt.mpr (Nat.le_succ _))
end
end Mine
end
section
open PySem PySem.W PyProof.Rows PySem.Spec PySem.Calls
set_option maxHeartbeats 4000000
namespace Mine
def ownL : List Nat := [24, 62, 133, 19, 78, 138, 10, 57, 99]
def dressL : List Str := ["", "a", "&", "<", "\t", "\\(", "\\)", "\\\""]
def freeL (n a b c : Nat) : List Nat := (if a < n then [1] else []) ++ (if b < a then [2] else []) ++ (if c < b then [3] else [])
structure Row where
  kind : Nat
  dress : Nat
  fin : Nat
def rowsGo (n : Nat) : Nat → Nat → Nat → List Nat → List Row
  | _, _, _, [] => []
  | a, b, c, x :: xs =>
    let k := (freeL n a b c).getD (x % (freeL n a b c).length) 0
    ⟨k - 1, x / 6 % 8, x / 48 % 3⟩ :: rowsGo n (if k = 1 then a + 1 else a) (if k = 2 then b + 1 else b) (if k = 3 then c + 1 else c) xs
def xAt (script : List Int) (i : Nat) : Nat := if i < script.length then ((script.getD i 0).fmod 1000000).toNat else ownL.getD i 0
def sizeP (script : List Int) : Nat := if script.length > 6 then 9 else 6
def rowsP (script : List Int) : List Row := rowsGo (sizeP script / 3) 0 0 0 ((List.range (sizeP script)).map (xAt script))
def freeT (n a b c : Nat) (v : Value) : Bool := match v with
  | .int k _ => if k = 1 then decide (a < n) else if k = 2 then decide (b < a) else if k = 3 then decide (c < b) else false
  | _ => false
def RowAt (h : Heap) (v : Value) (r : Row) : Prop := ∃ T t1 u t2, v = .ref T ∧ h.IsTuple T #[.int r.kind t1, .str (dressL.getD r.dress ⟨#[]⟩) u, .int r.fin t2]
def RowsAt (h : Heap) : List Value → List Row → Prop
  | [], [] => True
  | v :: vs, r :: rs => RowAt h v r ∧ RowsAt h vs rs
  | _, _ => False
theorem RowsAt.seq {h h' : Heap} (k : SeqK h h') : ∀ {vs rs}, RowsAt h vs rs → RowsAt h' vs rs
  | [], [], _ => trivial
  | _ :: _, _ :: _, ⟨⟨T, t1, u, t2, e, x⟩, y⟩ => ⟨⟨T, t1, u, t2, e, k.tup x⟩, RowsAt.seq k y⟩
theorem RowsAt.snoc {h : Heap} {v : Value} {r : Row} (x : RowAt h v r) : ∀ {vs rs}, RowsAt h vs rs → RowsAt h (vs ++ [v]) (rs ++ [r])
  | [], [], _ => ⟨x, trivial⟩
  | _ :: _, _ :: _, ⟨a, b⟩ => ⟨a, RowsAt.snoc x b⟩

theorem RowsAt.same {h h' : Heap} {D : Addr} {xs : Array Value} (p : h.IsList D xs) (sb : Heap.SameBut D h h') : ∀ {vs rs}, RowsAt h vs rs → RowsAt h' vs rs
  | [], [], _ => trivial
  | _ :: _, _ :: _, ⟨⟨T, t1, u, t2, e, x⟩, y⟩ => ⟨⟨T, t1, u, t2, e, x.extBut sb.extBut (fun hT => by
      obtain ⟨o, ho, hc, _⟩ := x
      obtain ⟨o', ho', hc', _⟩ := p
      rw [hT, ho'] at ho
      cases ho
      rw [hc] at hc'
      simp at hc')⟩, RowsAt.same p sb y⟩
theorem fdivN (x k : Nat) : ((x : Nat) : Int).fdiv (k : Nat) = ((x / k : Nat) : Int) := by
  rw [Int.fdiv_eq_ediv_of_nonneg _ (by omega)]
  exact (Int.natCast_ediv _ _).symm
theorem fmodN (x k : Nat) : ((x : Nat) : Int).fmod (k : Nat) = ((x % k : Nat) : Int) := by
  rw [Int.fmod_eq_emod_of_nonneg _ (by omega)]
  exact (Int.natCast_emod _ _).symm
theorem floordiv_nat {w : World} {A : Around} {E : Value → Shared → Prop} {s : Shared} {x k : Nat} {k' : Int} {t u : Tok} {Q : Value → Shared → Prop} (hk : k ≠ 0) (hk' : k' = ((k : Nat) : Int)) (hs : k < 1000) (h : Q (.int ((x / k : Nat) : Int) s.toks) { s with toks := s.toks + 1 }) :
    wpAny (model prog w) A (binaryOp .FloorDiv (.int (x : Nat) t) (.int k' u)) Q E s := by
  subst hk'
  refine floordiv_int (by omega) ?_ (Or.inl (PyProof.noPylong_small (by omega)))
  rw [fdivN]
  exact h
theorem mod_nat {w : World} {A : Around} {E : Value → Shared → Prop} {s : Shared} {x k : Nat} {k' : Int} {t u : Tok} {Q : Value → Shared → Prop} (hk : k ≠ 0) (hk' : k' = ((k : Nat) : Int)) (h : Q (.int ((x % k : Nat) : Int) s.toks) { s with toks := s.toks + 1 }) :
    wpAny (model prog w) A (binaryOp .Mod (.int (x : Nat) t) (.int k' u)) Q E s := by
  subst hk'
  refine PyProof.Rows.mod_int (by omega) ?_
  rw [fmodN]
  exact h
theorem rowsGo_step {n a b c i k x : Nat} {script : List Int} (hi : i < sizeP script) (hx : x = xAt script i) (hk : k = (freeL n a b c).getD (x % (freeL n a b c).length) 0) :
    rowsGo n a b c (((List.range (sizeP script)).map (xAt script)).drop i) = ⟨k - 1, x / 6 % 8, x / 48 % 3⟩ ::
      rowsGo n (if k = 1 then a + 1 else a) (if k = 2 then b + 1 else b) (if k = 3 then c + 1 else c) (((List.range (sizeP script)).map (xAt script)).drop (i + 1)) := by
  have hlt : i < ((List.range (sizeP script)).map (xAt script)).length := by simpa using hi
  rw [List.drop_eq_getElem_cons hlt]
  have : ((List.range (sizeP script)).map (xAt script))[i] = x := by rw [List.getElem_map, List.getElem_range, hx]
  rw [this, hk]
  rfl
theorem paired_eq : ∀ {l m : List Value}, Paired (fun v y => y = v) l m → m = l
  | _, _, .nil => rfl
  | _, _, .cons h t => by rw [h, paired_eq t]
theorem three {vs : List Value} {a b c : Value} (hl : vs.length = 3) (h : ∀ (j : Nat) v, vs[j]? = some v → (#[a, b, c] : Array Value)[j]? = some v) : vs = [a, b, c] := by
  match vs, hl with
  | [x, y, z], _ =>
    have h0 := Option.some.inj (h 0 x rfl)
    have h1 := Option.some.inj (h 1 y rfl)
    have h2 := Option.some.inj (h 2 z rfl)
    rw [← h0, ← h1, ← h2]
    rfl
theorem free_ints (n a b c : Nat) (t1 t2 t3 : Tok) : IntsAre ([.int 1 t1, .int 2 t2, .int 3 t3].filter (freeT n a b c)) ((freeL n a b c).map (fun k : Nat => (k : Int))) := by
  have e1 : freeT n a b c (.int 1 t1) = decide (a < n) := rfl
  have e2 : freeT n a b c (.int 2 t2) = decide (b < a) := rfl
  have e3 : freeT n a b c (.int 3 t3) = decide (c < b) := rfl
  simp only [List.filter_cons, List.filter_nil, e1, e2, e3, freeL]
  by_cases h1 : a < n <;> by_cases h2 : b < a <;> by_cases h3 : c < b <;> (simp [h1, h2, h3]; repeat (first | exact .nil | apply IntsAre.cons))
theorem iter_tup {prog : Program} {w : World} {A : Around} {E : Value → Shared → Prop} {s : Shared} {l : List Value} {Q : Value → Shared → Prop} (hsz : l.length ≤ sizeLine)
    (h : ∀ h9 T I, Keep s.heap h9 → T < I → s.heap.objs.size ≤ T → I < h9.objs.size → h9.IsTuple T l.toArray → h9.IsTupleIter I T 0 → Q (.ref I) { s with heap := h9 }) :
    wpAny (model prog w) A (newTuple l) (fun xv s₁ => wpAny (model prog w) A (pyIter xv) Q E s₁) E s := by
  refine wpAny_newTuple ?_ hsz
  refine wpAny_pyIter_tuple ⟨_, Heap.get?_push_size _ rfl, rfl, _, rfl⟩ ?_
  refine h _ s.heap.objs.size _ (fun b o e => Heap.get?_push_of_some _ (Heap.get?_push_of_some _ e)) ?_ (Nat.le_refl _) ?_ ⟨_, Heap.get?_push_of_some _ (Heap.get?_push_size _ rfl), rfl, _, rfl⟩ ⟨_, Heap.get?_push_size _ rfl, rfl, rfl⟩
  · show s.heap.objs.size < (s.heap.push _).objs.size
    rw [Heap.size_push]; exact Nat.lt_succ_self _
  · show (s.heap.push _).objs.size < ((s.heap.push _).push _).objs.size
    rw [Heap.size_push (s.heap.push _)]; exact Nat.lt_succ_self _
section
variable {w : World} {mean : ExcName → Option Value} {mg mb : Str → Option Value} {A : Around} {s : Shared} {Q E : Value → Shared → Prop} {base : Heap}

theorem rows_call (G : Gnd w mean mg mb base) (kb : Keep base s.heap) (R : Room A (1 + 1)) (D : Addr) (vals : List Value) (script : List Int) (hl : s.heap.IsList D vals.toArray) (hv : IntsAre vals script) (hlen : script.length ≤ 63)
    (hq : ∀ Dr its s', Gro s s' → PlainL s'.heap Dr its.toArray → RowsAt s'.heap its (rowsP script) → Q (.ref Dr) s') :
    wpAny (model prog w) A (call (.ref 88) [.ref D]) Q E s := by
  have KX := G.X
  have hz : PySem.Challenge.rw_tr0020_01 = PySem.Challenge.rw_tr0020_01 := rfl
  revert hz KX
  k_fill
  intro KX _
  refine' enterC [(Str.ofString "script", .ref D)] G kb R ?k1 ?k2 ?k3 ?k4 ?_ ?c1 ?c2 ?c3
  case k1 => k_is
  case k2 => k_is
  case k3 => exact rfl
  case k4 => intro L x hx; rw [List.mem_singleton.mp hx]; exact .inl rfl
  case c1 => exact rfl
  case c2 => exact rfl
  case c3 => exact rfl
  intro A h₁ tk env R he F
  have V := Ev.of he rfl
  obtain ⟨e1, e2, e3, e4, e5⟩ := callEnvC_facts he
  have hcc : env.cells.lookup (Str.ofString "counts") = some (s.heap.objs.size + 1) := by rw [e5]; rfl
  have hclos : closureFor (Scope.mk .function [(Str.ofString ".0", .local), (Str.ofString "kind", .local), (Str.ofString "counts", .free)] false false []) env = pure [(Str.ofString "counts", s.heap.objs.size + 1)] := by
    have hco : cellOf env (Str.ofString "counts") = pure (s.heap.objs.size + 1) := by unfold cellOf; rw [hcc]
    unfold closureFor
    simp only [List.forIn_cons, List.forIn_nil, hco]
    rfl
  have F0 : Fc s.heap env.locals (fun y => if y = Str.ofString "script" then some (.ref D) else none) env.cells (fun _ => none) h₁ := by
    have hh := F
    have hk : env.kindOf (Str.ofString "script") = some .local := (V.kind _).trans rfl
    simp only [bindL, bindC, hk, if_true] at hh
    exact hh
  clear F he e1
  have hbs : ∀ {h : Heap}, Keep s.heap h → Keep base h := fun k b o e => k b o (kb b o e)
  refine wpAny_execs_cons ?_

  with_reducible refine V.set s.heap ?_ sw_List ?_
  · rfl

  refine List_ ?_
  iterate 9 (refine lit_int ?_; dsimp only)
  refine lit_end ?_
  refine wpAny_newList ?_ (Nat.le_trans (Nat.le_of_eq rfl) (show 9 ≤ sizeLine by decide))
  refine ⟨_, _, F0.keeps fun b o e => Heap.get?_push_of_some _ e, fun h2 tk2 F2 q2 _ => ?_⟩
  have own2 : ∃ its, PlainL h2 h₁.objs.size its ∧ ∀ j, j < 9 → ∃ t, its[j]? = some (.int (ownL.getD j 0 : Nat) t) := by
    refine ⟨_, q2.plain ⟨_, _, Heap.get?_push_size _ rfl, rfl, rfl, rfl⟩, fun j hj => ?_⟩
    match j, hj with
    | 0, _ => exact ⟨_, rfl⟩
    | 1, _ => exact ⟨_, rfl⟩
    | 2, _ => exact ⟨_, rfl⟩
    | 3, _ => exact ⟨_, rfl⟩
    | 4, _ => exact ⟨_, rfl⟩
    | 5, _ => exact ⟨_, rfl⟩
    | 6, _ => exact ⟨_, rfl⟩
    | 7, _ => exact ⟨_, rfl⟩
    | 8, _ => exact ⟨_, rfl⟩
  obtain ⟨Do, hDo⟩ : ∃ Do, Do = h₁.objs.size := ⟨_, rfl⟩
  have fr1 := fresh_none F0.keep
  rw [← hDo] at F2 own2 fr1
  have hown : Do < h2.objs.size := own2.choose_spec.1.lt
  dsimp only at F2 ⊢
  refine wpAny_execs_cons ?_
  with_reducible refine V.set s.heap ?_ sw_List ?_
  · rfl
  refine List_ ?_
  iterate 8 (refine lit_str ?_; dsimp only)
  refine lit_end ?_
  refine wpAny_newList ?_ (Nat.le_trans (Nat.le_of_eq rfl) (show 8 ≤ sizeLine by decide))
  refine ⟨_, _, F2.keeps fun b o e => Heap.get?_push_of_some _ e, fun h3 tk3 F3 q3 _ => ?_⟩
  have dr3 : ∃ its, PlainL h3 h2.objs.size its ∧ ∀ j, j < 8 → ∃ t, its[j]? = some (.str (dressL.getD j ⟨#[]⟩) t) := by
    refine ⟨_, q3.plain ⟨_, _, Heap.get?_push_size _ rfl, rfl, rfl, rfl⟩, fun j hj => ?_⟩
    match j, hj with
    | 0, _ => exact ⟨_, rfl⟩
    | 1, _ => exact ⟨_, rfl⟩
    | 2, _ => exact ⟨_, rfl⟩
    | 3, _ => exact ⟨_, rfl⟩
    | 4, _ => exact ⟨_, rfl⟩
    | 5, _ => exact ⟨_, rfl⟩
    | 6, _ => exact ⟨_, rfl⟩
    | 7, _ => exact ⟨_, rfl⟩
  have q23 : SeqK h2 h3 := fun b o xs n e hd => q3 b o xs n (Heap.get?_push_of_some _ e) hd
  have own3 : ∃ its, PlainL h3 Do its ∧ ∀ j, j < 9 → ∃ t, its[j]? = some (.int (ownL.getD j 0 : Nat) t) := by
    obtain ⟨its, p, hh⟩ := own2
    exact ⟨its, q23.plain p, hh⟩
  obtain ⟨Dd, hDd⟩ : ∃ Dd, Dd = h2.objs.size := ⟨_, rfl⟩
  have fr2 := fresh_none F2.keep
  rw [← hDd] at F3 dr3 fr2 hown
  have hdr : Dd < h3.objs.size := dr3.choose_spec.1.lt
  dsimp only at F3 ⊢
  clear own2
  refine wpAny_execs_cons ?_
  with_reducible refine V.set s.heap ?_ sw_IfExp ?_
  · rfl
  have hvl : vals.length = script.length := hv.length
  have hl3 : h3.IsList D vals.toArray := by obtain ⟨o, e, r⟩ := hl; exact ⟨o, F3.keep D o e, r⟩
  refine wpAny_mono (Q := fun v s₁ => ∃ t, v = .int (sizeP script : Nat) t ∧ s₁.heap = h3 ∧ s₁.gens = s.gens ∧ s₁.os = s.os) (E := fun _ _ => False) ?_ ?_ (fun _ _ f => f)
  · refine wpAny_IfExp ?_
    refine wpAny_isTrue_Compare1 ?_
    with_reducible refine V.b1 G (hbs F3.keep) ?_ G.g_len ?_ ?_
    · rfl
    · rfl
    with_reducible refine V.ld F3 ?_ (ng (ng yes)) ?_
    · rfl
    refine call_len_list hl3 (by rw [List.size_toArray]; omega) ?_
    refine wpAny_Constant_int ?_
    refine gt_int (wpAny_truthy_bool ?_)
    rw [List.size_toArray, hvl]
    by_cases hc : script.length > 6
    · have h1 : decide ((6 : Int) < (script.length : Nat)) = true := by simp; omega
      have h2 : sizeP script = 9 := by unfold sizeP; rw [if_pos hc]
      rw [h1, if_pos rfl, h2]
      exact wpAny_Constant_int ⟨_, rfl, rfl, rfl, rfl⟩
    · have h1 : decide ((6 : Int) < (script.length : Nat)) = false := by simp; omega
      have h2 : sizeP script = 6 := by unfold sizeP; rw [if_neg hc]
      rw [h1, if_neg (by simp), h2]
      exact wpAny_Constant_int ⟨_, rfl, rfl, rfl, rfl⟩
  rintro v s₁ ⟨ts, rfl, hh, hg, ho⟩
  obtain ⟨hp1, g1, d1, tk1, o1⟩ := s₁
  simp only at hh hg ho
  subst hh hg ho
  refine ⟨_, _, F3, fun h4 tk4 F4 q4 _ => ?_⟩
  dsimp only at F4 q4 ⊢
  have hfd : ((sizeP script : Nat) : Int).fdiv 3 = ((sizeP script / 3 : Nat) : Int) := by unfold sizeP; split <;> rfl
  have hs69 : sizeP script = 9 ∨ sizeP script = 6 := by unfold sizeP; split <;> simp
  obtain ⟨n, hn⟩ : ∃ n, n = sizeP script / 3 := ⟨_, rfl⟩
  refine wpAny_execs_cons ?_
  with_reducible refine V.setC s.heap (s.heap.objs.size + 1) ?_ hcc sw_List ?_
  · rfl
  refine List_ ?_
  refine lit_any st_bin ?_
  refine wpAny_BinOp ?_
  with_reducible refine V.ld F4 ?_ yes ?_
  · rfl
  refine wpAny_Constant_int ?_
  refine floordiv_int (by decide) ?_ (Or.inl (PyProof.noPylong_small (by omega)))
  rw [hfd, ← hn]
  iterate 3 (refine lit_int ?_; dsimp only)
  refine lit_end ?_
  refine wpAny_newList ?_ (Nat.le_trans (Nat.le_of_eq rfl) (show 4 ≤ sizeLine by decide))
  refine ⟨_, _, F4.keeps fun b o e => Heap.get?_push_of_some _ e, fun h5 F5 q5 _ => ?_⟩
  obtain ⟨Dc, hDc⟩ : ∃ Dc, Dc = h4.objs.size := ⟨_, rfl⟩
  have cnt5 : ∃ tn ta tb tc, PlainL h5 Dc #[.int (n : Nat) tn, .int (0 : Nat) ta, .int (0 : Nat) tb, .int (0 : Nat) tc] := by
    rw [hDc]
    exact ⟨_, _, _, _, q5.plain ⟨_, _, Heap.get?_push_size _ rfl, rfl, rfl, rfl⟩⟩
  have q45 : SeqK h4 h5 := fun b o xs n e hd => q5 b o xs n (Heap.get?_push_of_some _ e) hd
  have fr3 := fresh_none F4.keep
  rw [← hDc] at F5 fr3
  have hDcd : Dd < Dc := by
    rw [hDc]
    exact (q4.plain dr3.choose_spec.1).lt
  have hDc5 : Dc < h5.objs.size := by obtain ⟨_, _, _, _, x⟩ := cnt5; exact x.lt
  dsimp only at F5 ⊢
  refine wpAny_execs_cons ?_
  with_reducible refine V.set s.heap ?_ sw_List ?_
  · rfl
  refine List_ ?_
  refine lit_end ?_
  refine wpAny_newList ?_ (by decide)
  refine ⟨_, _, F5.keeps fun b o e => Heap.get?_push_of_some _ e, fun h6 tk6 F6 q6 _ => ?_⟩
  obtain ⟨Dr, hDr⟩ : ∃ Dr, Dr = h5.objs.size := ⟨_, rfl⟩
  have rows6 : PlainL h6 Dr ([] : List Value).toArray := by
    rw [hDr]
    exact q6.plain ⟨_, _, Heap.get?_push_size _ rfl, rfl, rfl, rfl⟩
  have q56 : SeqK h5 h6 := fun b o xs n e hd => q6 b o xs n (Heap.get?_push_of_some _ e) hd
  have fr4 := fresh_none F5.keep
  rw [← hDr] at F6 fr4
  rw [← hDr] at hDc5
  dsimp only at F6 ⊢
  have q36 : SeqK hp1 h6 := (q4.trans q45).trans q56
  refine wpAny_execs_cons ?_
  with_reducible refine For_rng (h₀ := s.heap) R.handled V.fn ((V.kind _).trans ?_) (fun _ => ?_) ?_
  · rfl
  · rfl
  with_reducible refine V.r1 G (hbs F6.keep) ?_ ?_ ?_
  · rfl
  · rfl
  with_reducible refine V.ld F6 ?_ (ng yes) ?_
  · rfl
  refine ⟨_, _, rfl, fun rg h7 tk7 u1 u2 u3 hr7 hk7 hsz7 => ?_⟩
  have F7 := F6.keeps hk7
  have hDr7 : Dr < h7.objs.size := ((SeqK.of_keep hk7).plain rows6).lt
  have hDc7 : Dc < h7.objs.size := Nat.lt_trans hDc5 hDr7
  let J : Nat → (Str → Option Value) → (Str → Option Value) → Shared → Prop := fun i m cm σ => ∃ (a b c : Nat) (its : List Value) (dn : List Row) (tn ta tb tc : Tok),
    m (Str.ofString "script") = some (.ref D) ∧ m (Str.ofString "own") = some (.ref Do) ∧ m (Str.ofString "dresses") = some (.ref Dd) ∧ m (Str.ofString "rows") = some (.ref Dr) ∧ cm (Str.ofString "counts") = some (.ref Dc) ∧
    (∃ its, PlainL σ.heap Do its ∧ ∀ j, j < 9 → ∃ t, its[j]? = some (.int (ownL.getD j 0 : Nat) t)) ∧ (∃ its, PlainL σ.heap Dd its ∧ ∀ j, j < 8 → ∃ t, its[j]? = some (.str (dressL.getD j ⟨#[]⟩) t)) ∧
    σ.heap.IsList Dc #[.int (n : Nat) tn, .int (a : Nat) ta, .int (b : Nat) tb, .int (c : Nat) tc] ∧ PlainL σ.heap Dr its.toArray ∧ RowsAt σ.heap its dn ∧
    a + b + c = i ∧ c ≤ b ∧ b ≤ a ∧ a ≤ n ∧ its.length = i ∧ rowsP script = dn ++ rowsGo n a b c (((List.range (sizeP script)).map (xAt script)).drop i) ∧ σ.gens = s.gens ∧ σ.os = s.os
  refine ⟨rg, 0, sizeP script, u1, u2, u3, _, _, J, rfl, by rw [Int.zero_add]; exact hr7, by decide, by decide, by omega, F7, ?j0, ?stable, ?turn, ?done⟩
  case j0 =>
    have q37 : SeqK hp1 h7 := q36.trans (SeqK.of_keep hk7)
    refine ⟨0, 0, 0, [], [], ?_⟩
    obtain ⟨tn, ta, tb, tc, cn⟩ := cnt5
    refine ⟨tn, ta, tb, tc, rfl, rfl, rfl, rfl, rfl, ?_, ?_, ?_, (SeqK.of_keep hk7).plain rows6, trivial, rfl, by omega, by omega, by omega, rfl, ?_, rfl, rfl⟩
    · obtain ⟨its, p, hh⟩ := own3
      exact ⟨its, q37.plain p, hh⟩
    · obtain ⟨its, p, hh⟩ := dr3
      exact ⟨its, q37.plain p, hh⟩
    · exact ((q56.trans (SeqK.of_keep hk7)).plain cn).isList
    · rw [List.drop_zero, hn]; rfl
  case stable =>
    rintro i m cm σ h' tk ⟨a, b, c, its, dn, tn, ta, tb, tc, j1, j2, j3, j4, j5, ⟨i6, p6, x6⟩, ⟨i7, p7, x7⟩, j8, j9, j10, j11⟩ q
    exact ⟨a, b, c, its, dn, tn, ta, tb, tc, j1, j2, j3, j4, j5, ⟨i6, q.plain p6, x6⟩, ⟨i7, q.plain p7, x7⟩, q.list j8, q.plain j9, j10.seq q, j11⟩
  case done =>
    rintro m cm σ ⟨a, b, c, its, dn, tn, ta, tb, tc, j1, j2, j3, j4, j5, _, _, j8, j9, j10, j11, j12, j13, j14, j15, j16, j17, j18⟩ Fσ
    refine wpAny_execs_cons (wpAny_Return_some ?_)
    with_reducible refine V.ld Fσ ?_ j4 ?_
    · rfl
    have hnil : ((List.range (sizeP script)).map (xAt script)).drop (sizeP script) = [] := List.drop_eq_nil_of_le (by simp)
    rw [hnil] at j16
    have : rowsP script = dn := by rw [j16]; simp [rowsGo]
    exact hq Dr its σ ⟨Fσ.keep, j18, fun h => by rw [j17]; exact h⟩ j9 (by rw [this]; exact j10)
  case turn =>
    rintro i m cm σ t hi ⟨a, b, c, its, dn, tn, ta, tb, tc, j1, j2, j3, j4, j5, ⟨i6, p6, x6⟩, ⟨i7, p7, x7⟩, j8, j9, j10, j11, j12, j13, j14, j15, j16, j17, j18⟩ hkeep Fσ
    have hi9 : i < 9 := by omega
    have hlσ : σ.heap.IsList D vals.toArray := by obtain ⟨o, e, r⟩ := hl; exact ⟨o, Fσ.keep D o e, r⟩
    rw [Int.zero_add] at Fσ
    refine wpAny_execs_cons ?_
    with_reducible refine V.set s.heap ?_ sw_IfExp ?_
    · rfl
    refine wpAny_mono (Q := fun v s₁ => ∃ t, v = .int (xAt script i : Nat) t ∧ s₁.heap = σ.heap ∧ s₁.gens = σ.gens ∧ s₁.os = σ.os) (E := fun _ _ => False) ?_ ?_ (fun _ _ f => f)
    · refine wpAny_IfExp ?_
      refine wpAny_isTrue_Compare1 ?_
      with_reducible refine V.ld Fσ ?_ yes ?_
      · rfl
      with_reducible refine V.b1 G (hbs Fσ.keep) ?_ G.g_len ?_ ?_
      · rfl
      · rfl
      with_reducible refine V.ld Fσ ?_ (ng j1) ?_
      · rfl
      refine call_len_list hlσ (by rw [List.size_toArray]; omega) ?_
      refine lt_int (wpAny_truthy_bool ?_)
      rw [List.size_toArray, hvl]
      by_cases hc : i < script.length
      · have h1 : decide ((i : Int) < (script.length : Nat)) = true := by simp; omega
        rw [h1, if_pos rfl]
        obtain ⟨tv, hx⟩ := hv.get i _ (List.getElem?_eq_getElem hc)
        refine wpAny_BinOp ?_
        refine ev_item (fun _ _ => .inl rfl) ?_
        with_reducible refine V.ld Fσ ?_ (ng j1) ?_
        · rfl
        with_reducible refine V.ld Fσ ?_ yes ?_
        · rfl
        refine ⟨D, _, _, _, _, rfl, rfl, hlσ, by omega, by omega, by rw [Int.toNat_natCast]; simpa using hx, ?_⟩
        refine wpAny_Constant_int ?_
        refine PyProof.Rows.mod_int (by decide) ?_
        have hxa : (script[i]).fmod 1000000 = ((xAt script i : Nat) : Int) := by
          unfold xAt
          rw [if_pos hc, List.getD_eq_getElem?_getD, List.getElem?_eq_getElem hc]
          show (script[i]).fmod 1000000 = (((script[i]).fmod 1000000).toNat : Int)
          rw [Int.toNat_of_nonneg (Int.fmod_nonneg_of_pos _ (by decide))]
        rw [hxa]
        exact ⟨_, rfl, rfl, rfl, rfl⟩
      · have h1 : decide ((i : Int) < (script.length : Nat)) = false := by simp; omega
        rw [h1, if_neg (by simp)]
        obtain ⟨tv, hx⟩ := x6 i hi9
        refine ev_item (fun _ _ => .inl rfl) ?_
        with_reducible refine V.ld Fσ ?_ (ng j2) ?_
        · rfl
        with_reducible refine V.ld Fσ ?_ yes ?_
        · rfl
        refine ⟨Do, _, _, _, _, rfl, rfl, p6.isList, by omega, by omega, by rw [Int.toNat_natCast]; exact hx, ?_⟩
        have hxa : ownL.getD i 0 = xAt script i := by
          unfold xAt
          rw [if_neg hc]
        rw [hxa]
        exact ⟨_, rfl, rfl, rfl, rfl⟩
    rintro v s₁ ⟨tx, rfl, hh, hg, ho⟩
    obtain ⟨hp2, g2, d2, tk2, o2⟩ := s₁
    simp only at hh hg ho
    subst hh hg ho
    refine ⟨_, _, Fσ, fun h8 tk8 F8 q8 sb8 => ?_⟩
    try dsimp only at F8 q8 sb8 ⊢
    refine wpAny_execs_cons ?_
    with_reducible refine wpAny_Assign_ListComp_free (freeT n a b c) (fun v y => y = v) ?sw hclos ?hcell ?hkind ?hnames ?hx ?hy ?hp ?h ?hs
    case sw =>
      show pure (env.blockKind == .function && env.kindOf (Str.ofString "free") == some .local && _ && _) = pure true
      rw [V.kind]
      have : env.blockKind = .function := by
        have := V.fn
        unfold Env.blockKind
        rw [this]
        rfl
      rw [this]
      rfl
    case hcell => decide
    case hkind => rfl
    case hnames => decide
    case hx => rfl
    case hy => exact (V.kind _).trans rfl
    case hp => rw [V.fn]; rfl
    case hs => intro _; rfl
    case h =>
      refine Tuple_ ?_
      iterate 3 (refine lit_int ?_; dsimp only)
      refine lit_end ?_
      refine iter_tup (by simp; decide) ?_
      intro h9 T I k9 hTI hT hI ht hit
      dsimp only at k9 hT ⊢
      have hLT : env.locals < T := Nat.lt_of_lt_of_le F8.ns.lt hT
      have F9 := F8.keeps k9
      have W := Walks.tuple (prog := prog) (w := w) (A := A) R.handled I T (Nat.ne_of_lt hTI) #[.int 1 tk8, .int 2 (tk8 + 1), .int 3 (tk8 + 1 + 1)]
      refine ⟨I, [I, T], [I], _, _, _, _, rfl, W, by simp; decide, ⟨hit, ht⟩, ?fp, ?nl, F9.ns, ?quiet, ?fin⟩
      case fp =>
        intro b hb
        rcases List.mem_cons.mp hb with h | h
        · rw [h]; exact hI
        · rw [List.mem_singleton.mp h]; exact Nat.lt_trans hTI hI
      case nl =>
        intro hb
        rw [List.mem_singleton.mp hb] at hLT
        exact Nat.lt_asymm hLT hTI
      case quiet =>
        refine ⟨fun C j v s₃ m₃ E' hC hP hn hm hkp htk => ?_, fun C j v s₃ m₃ E' hC hP hp hn hm hkp htk => ?_⟩
        · have hlt8 : ∀ b, b < h8.objs.size → b ∉ [I] := fun b hb hm => by
            rw [List.mem_singleton.mp hm] at hb
            exact Nat.lt_irrefl _ (Nat.lt_trans (Nat.lt_of_lt_of_le hb hT) hTI)
          have hcel : s₃.heap.IsCell (s.heap.objs.size + 1) (some (.ref Dc)) := by
            have h1 := F8.cell _ _ hcc
            have h2 := h1.lt
            obtain ⟨o, e, hd⟩ := h1
            exact ⟨o, hkp _ o (hlt8 _ h2) (k9 _ o e), by rw [hd, j5]⟩
          have hcnt : s₃.heap.IsList Dc #[.int (n : Nat) tn, .int (a : Nat) ta, .int (b : Nat) tb, .int (c : Nat) tc] := by
            have h1 := q8.list j8
            obtain ⟨o, e, r⟩ := h1
            exact ⟨o, hkp _ o (hlt8 _ (Heap.lt_size e)) (k9 _ o e), r⟩
          have kc : (compEnvC (Scope.mk .function [(Str.ofString ".0", .local), (Str.ofString "kind", .local), (Str.ofString "counts", .free)] false false []) [(Str.ofString "counts", s.heap.objs.size + 1)] C env).kindOf (Str.ofString "counts") = some .cell := by
            show List.lookup _ (List.map _ _) = _
            simp only [List.map, V.fn, V.kind]
            rfl
          have kl : (compEnvC (Scope.mk .function [(Str.ofString ".0", .local), (Str.ofString "kind", .local), (Str.ofString "counts", .free)] false false []) [(Str.ofString "counts", s.heap.objs.size + 1)] C env).kindOf (Str.ofString "kind") = some .local := lookup_relabel_local rfl
          have one : ∃ (k : Nat) (tk0 : Tok) (va vb : Nat) (ta' tb' : Tok), 1 ≤ k ∧ k ≤ 3 ∧ (#[.int (n : Nat) tn, .int (a : Nat) ta, .int (b : Nat) tb, .int (c : Nat) tc] : Array Value)[k]? = some (.int va ta') ∧
              (#[.int (n : Nat) tn, .int (a : Nat) ta, .int (b : Nat) tb, .int (c : Nat) tc] : Array Value)[k - 1]? = some (.int vb tb') ∧ v = .int k tk0 ∧ decide (va < vb) = freeT n a b c v := by
            match j, hP with
            | 0, hP => exact ⟨1, tk8, a, n, ta, tn, by decide, by decide, rfl, rfl, (Option.some.inj hP).symm, by rw [← Option.some.inj hP]; rfl⟩
            | 1, hP => exact ⟨2, tk8 + 1, b, a, tb, ta, by decide, by decide, rfl, rfl, (Option.some.inj hP).symm, by rw [← Option.some.inj hP]; rfl⟩
            | 2, hP => exact ⟨3, tk8 + 1 + 1, c, b, tc, tb, by decide, by decide, rfl, rfl, (Option.some.inj hP).symm, by rw [← Option.some.inj hP]; rfl⟩
            | j + 3, hP => exact absurd hP (by simp)
          obtain ⟨k, tk0, va, vb, ta', tb', hk1, hk3, hva, hvb, hvk, hdec⟩ := one
          rw [List.forIn_cons, if_pos rfl]
          refine wpAny_bind (wpAny_bind (wpAny_isTrue_Compare1 ?_))
          refine ev_item (fun _ _ => .inl rfl) ?_
          refine wpAny_Name (wpAny_loadName_cell rfl kc rfl hcel ?_)
          refine ev_name rfl kl hn (hm.trans (by rw [hvk])) ?_
          refine ⟨Dc, _, _, _, _, rfl, rfl, hcnt, by omega, by omega, by rw [Int.toNat_natCast]; exact hva, ?_⟩
          refine ev_item (fun _ _ => .inl rfl) ?_
          refine wpAny_Name (wpAny_loadName_cell rfl kc rfl hcel ?_)
          refine wpAny_BinOp ?_
          refine ev_name rfl kl hn (hm.trans (by rw [hvk])) ?_
          refine wpAny_Constant_int ?_
          refine PyProof.Rows.sub_int ?_
          refine ⟨Dc, _, _, _, _, rfl, rfl, hcnt, by omega, by omega, by rw [show ((k : Int) - 1).toNat = k - 1 by omega]; exact hvb, ?_⟩
          refine lt_int (wpAny_truthy_bool ?_)
          refine wpAny_pure ?_
          dsimp only
          rw [List.forIn_nil]
          refine wpAny_pure ⟨?_, _, _, rfl, fun _ _ e => e⟩
          rw [← hdec]
          simp
        · refine ev_name rfl (lookup_relabel_local rfl) hn hm ?_
          exact ⟨rfl, _, _, rfl, fun _ _ e => e⟩
      case fin =>
        intro Df h10 tk10 ys vs hDf hlD hplD hlen hP hF hn10 hk10
        try dsimp only at hlen hP hDf hk10 ⊢
        have hvs := three hlen hP
        rw [hvs] at hF
        have hys := paired_eq hF
        have hfi := free_ints n a b c tk8 (tk8 + 1) (tk8 + 1 + 1)
        rw [← hys] at hfi
        have hlt8 : ∀ b, b < h8.objs.size → b ∉ [I] := fun b hb hm => by
          rw [List.mem_singleton.mp hm] at hb
          exact Nat.lt_irrefl _ (Nat.lt_trans (Nat.lt_of_lt_of_le hb hT) hTI)
        have F10 : Fc s.heap env.locals (fun z => if z = Str.ofString "free" then some (.ref Df) else if z = Str.ofString "x" then some (.int (xAt script i : Nat) tx) else if z = Str.ofString "i" then some (.int (i : Nat) t) else m z) env.cells cm h10 := by
          refine ⟨hn10, fun b o e => ?_, fun k c' hc' => ?_, F8.apart, F8.above, F8.lo⟩
          · have e8 := F8.keep b o e
            exact hk10 b o (Nat.ne_of_lt (Nat.lt_of_lt_of_le (Heap.lt_size e) F8.lo)) (hlt8 b (Heap.lt_size e8)) (k9 b o e8)
          · obtain ⟨o, e, hd⟩ := F8.cell k c' hc'
            exact ⟨o, hk10 c' o (Nat.ne_of_gt (F8.above k c' (mem_of_lookup hc'))) (hlt8 _ (Heap.lt_size e)) (k9 _ o e), hd⟩
        have q810 : SeqK h8 h10 := by
          intro b o xs nn e hd
          refine hk10 b o (fun hb => ?_) (hlt8 b (Heap.lt_size e)) (k9 b o e)
          obtain ⟨o', es, ep, e', he', _⟩ := F8.ns
          rw [← hb, e] at e'
          cases e'
          rw [hd] at he'
          cases he'
        have hi810 : Hi h7.objs.size h8 h10 := by
          intro b o hb e
          refine hk10 b o (fun h => ?_) (hlt8 b (Heap.lt_size e)) (k9 b o e)
          rw [h] at hb
          exact Nat.lt_irrefl _ (Nat.lt_of_lt_of_le F7.ns.lt hb)
        have hσ10 : Hi h7.objs.size σ.heap h10 := (Hi.same sb8 F7.ns.lt).trans hi810
        have q10 : SeqK σ.heap h10 := q8.trans q810
        have hysl : ys.toList.length = (freeL n a b c).length := by rw [hfi.length, List.length_map]
        have hfree : 0 < (freeL n a b c).length := by
          unfold freeL
          by_cases h1 : a < n
          · simp [h1]
          · by_cases h2 : b < a
            · simp [h1, h2]
            · by_cases h3 : c < b
              · simp [h1, h2, h3]
              · exfalso; omega
        have hflen : (freeL n a b c).length ≤ 3 := by
          unfold freeL
          split <;> split <;> split <;> simp
        obtain ⟨k, hk⟩ : ∃ k, k = (freeL n a b c).getD (xAt script i % (freeL n a b c).length) 0 := ⟨_, rfl⟩
        have hmod : xAt script i % (freeL n a b c).length < (freeL n a b c).length := Nat.mod_lt _ hfree
        have hkget : (freeL n a b c)[xAt script i % (freeL n a b c).length]? = some k := by
          rw [hk, List.getD_eq_getElem?_getD, List.getElem?_eq_getElem hmod]
          rfl
        have hk123 : (k = 1 ∧ a < n) ∨ (k = 2 ∧ b < a) ∨ (k = 3 ∧ c < b) := by
          have hm : k ∈ freeL n a b c := List.mem_of_getElem? hkget
          unfold freeL at hm
          by_cases h1 : a < n <;> by_cases h2 : b < a <;> by_cases h3 : c < b <;> simp [h1, h2, h3] at hm <;> omega
        obtain ⟨tkk, hkv⟩ := hfi.get (xAt script i % (freeL n a b c).length) (k : Int) (by rw [List.getElem?_map, hkget]; rfl)
        have hfm : ((xAt script i : Nat) : Int).fmod ((freeL n a b c).length : Nat) = ((xAt script i % (freeL n a b c).length : Nat) : Int) := by
          rw [Int.fmod_eq_emod_of_nonneg _ (by omega)]
          exact (Int.natCast_emod _ _).symm
        have hyss : ys.size = (freeL n a b c).length := by rw [← hysl]; simp
        refine wpAny_execs_cons ?_
        with_reducible refine V.set s.heap ?_ sw_Sub ?_
        · rfl
        refine ev_item (fun _ _ => .inl rfl) ?_
        with_reducible refine V.ld F10 ?_ yes ?_
        · rfl
        refine wpAny_BinOp ?_
        with_reducible refine V.ld F10 ?_ (ng yes) ?_
        · rfl
        with_reducible refine V.b1 G (hbs F10.keep) ?_ G.g_len ?_ ?_
        · rfl
        · rfl
        with_reducible refine V.ld F10 ?_ yes ?_
        · rfl
        refine call_len_list hlD (by omega) ?_
        rw [hyss]
        refine PyProof.Rows.mod_int (by omega) ?_
        rw [hfm]
        refine ⟨Df, ys, _, _, _, rfl, rfl, hlD, by omega, by omega, by rw [Int.toNat_natCast]; simpa using hkv, ?_⟩
        refine ⟨_, _, F10, fun h11 tk11 F11 q11 sb11 => ?_⟩
        try dsimp only at F11 q11 sb11 ⊢
        have q1σ : SeqK σ.heap h11 := q10.trans q11
        have cnt11 := q1σ.list j8
        have hσ11 : Hi h7.objs.size σ.heap h11 := hσ10.trans (Hi.same sb11 F7.ns.lt)
        obtain ⟨va, tva, hva⟩ : ∃ (va : Nat) (tva : Tok), (#[.int (n : Nat) tn, .int (a : Nat) ta, .int (b : Nat) tb, .int (c : Nat) tc] : Array Value)[k]? = some (.int va tva) := by
          rcases hk123 with h | h | h <;> rw [h.1]
          · exact ⟨a, ta, rfl⟩
          · exact ⟨b, tb, rfl⟩
          · exact ⟨c, tc, rfl⟩
        have hk3 : 1 ≤ k ∧ k ≤ 3 := by omega
        refine wpAny_execs_cons ?_
        refine wpAny_AugAssign_Subscript ?_
        with_reducible refine V.lc (s.heap.objs.size + 1) F11 ?_ hcc j5 ?_
        · rfl
        with_reducible refine V.ld F11 ?_ yes ?_
        · rfl
        refine wpAny_getItem_list cnt11 (by omega) (by omega) (by rw [Int.toNat_natCast]; exact hva) ?_
        refine wpAny_Constant_int ?_
        refine PyProof.Rows.iadd_int ?_
        refine wpAny_setItem_list cnt11 (by omega) (by omega) (by show (k : Int) < ((4 : Nat) : Int); omega) fun h12 hl12 sb12 => ?_
        rw [Int.toNat_natCast] at hl12
        have F12 := F11.listI cnt11 fr3 sb12
        try dsimp only at F12 hl12 sb12 ⊢
        have ne12 : ∀ {X : Addr} {xs : Array Value}, X ≠ Dc → PlainL h11 X xs → PlainL h12 X xs := fun hX p => p.extBut sb12.extBut hX
        have hDrDc : Dr ≠ Dc := Nat.ne_of_gt hDc5
        have rows12 : PlainL h12 Dr its.toArray := ne12 hDrDc (q1σ.plain j9)
        have dress12 : PlainL h12 Dd i7 := ne12 (Nat.ne_of_lt hDcd) (q1σ.plain p7)
        have own12 : PlainL h12 Do i6 := ne12 (Nat.ne_of_lt (Nat.lt_trans hown hDcd)) (q1σ.plain p6)
        have hσ12 : Hi h7.objs.size σ.heap h12 := hσ11.trans (Hi.same sb12 hDc7)
        obtain ⟨x, hx⟩ : ∃ x, x = xAt script i := ⟨_, rfl⟩
        rw [← hx] at F12
        have hx8 : x / 6 % 8 < 8 := Nat.mod_lt _ (by decide)
        obtain ⟨tdr, hdr⟩ := x7 (x / 6 % 8) hx8
        refine wpAny_execs_cons ?_
        refine wpAny_Expr ?_ V.inter rfl
        refine wpAny_Call_append rfl rfl rfl rfl ?_
        with_reducible refine V.ld F12 ?_ (ng (ng (ng (ng j4)))) ?_
        · rfl
        refine ⟨Dr, _, rfl, rows12, ?_⟩
        refine Tuple_ ?_
        refine lit_any st_bin ?_
        refine wpAny_BinOp ?_
        with_reducible refine V.ld F12 ?_ yes ?_
        · rfl
        refine wpAny_Constant_int ?_
        refine PyProof.Rows.sub_int ?_
        rw [show (k : Int) - 1 = ((k - 1 : Nat) : Int) by omega]
        refine lit_any st_sub ?_
        refine ev_item (fun _ _ => .inl rfl) ?_
        with_reducible refine V.ld F12 ?_ (ng (ng (ng (ng j3)))) ?_
        · rfl
        refine wpAny_BinOp ?_
        refine wpAny_BinOp ?_
        with_reducible refine V.ld F12 ?_ (ng (ng yes)) ?_
        · rfl
        refine wpAny_Constant_int ?_
        refine floordiv_nat (k := 6) (by decide) rfl (by omega) ?_
        refine wpAny_Constant_int ?_
        refine mod_nat (k := 8) (by decide) rfl ?_
        refine ⟨Dd, i7, ((x / 6 % 8 : Nat) : Int), _, Value.str (dressL.getD (x / 6 % 8) ⟨#[]⟩) tdr, rfl, rfl, dress12.isList, by omega, by omega, hdr, ?_⟩
        refine lit_any st_bin ?_
        refine wpAny_BinOp ?_
        refine wpAny_BinOp ?_
        with_reducible refine V.ld F12 ?_ (ng (ng yes)) ?_
        · rfl
        refine wpAny_Constant_int ?_
        refine floordiv_nat (k := 48) (by decide) rfl (by omega) ?_
        refine wpAny_Constant_int ?_
        refine mod_nat (k := 3) (by decide) rfl ?_
        refine lit_end ?_
        dsimp only
        refine wpAny_newTuple ?_ (Nat.le_trans (Nat.le_of_eq rfl) (show 3 ≤ sizeLine by decide))
        try dsimp only
        refine list_append_plainL (rows12.keeps fun b o e => Heap.get?_push_of_some _ e) (fun h13 hl13 sb13 => ?_) (by simp; exact Nat.le_trans (by omega : its.length ≤ 9) (by decide))
        try dsimp only at hl13 sb13 ⊢
        obtain ⟨hT, kT, tupT, sbT⟩ : ∃ hT, Keep h12 hT ∧ hT.IsTuple h12.objs.size #[.int ((k - 1 : Nat) : Int) (tk11 + 1 + 1 + 1), .str (dressL.getD (x / 6 % 8) ⟨#[]⟩) tdr, .int ((x / 48 % 3 : Nat) : Int) (tk11 + 1 + 1 + 1 + 1 + 1 + 1 + 1 + 1 + 1 + 1 + 1)] ∧ Heap.SameBut Dr hT h13 :=
          ⟨_, fun b o e => Heap.get?_push_of_some _ e, ⟨_, Heap.get?_push_size _ rfl, rfl, _, rfl⟩, sb13⟩
        clear sb13
        refine wpAny_execs_nil ?_
        dsimp only
        obtain ⟨ta', tb', tc', hc12⟩ : ∃ ta' tb' tc', h12.IsList Dc #[.int (n : Nat) tn, .int ((if k = 1 then a + 1 else a : Nat) : Int) ta', .int ((if k = 2 then b + 1 else b : Nat) : Int) tb', .int ((if k = 3 then c + 1 else c : Nat) : Int) tc'] := by
          rcases hk123 with h | h | h
          · rw [h.1] at hl12 hva
            have hv2 : (some (.int (a : Nat) ta) : Option Value) = some (.int (va : Nat) tva) := hva
            simp only [Option.some.injEq, Value.int.injEq] at hv2
            rw [← hv2.1] at hl12
            rw [if_pos h.1, if_neg (by omega), if_neg (by omega)]
            exact ⟨_, tb, tc, hl12⟩
          · rw [h.1] at hl12 hva
            have hv2 : (some (.int (b : Nat) tb) : Option Value) = some (.int (va : Nat) tva) := hva
            simp only [Option.some.injEq, Value.int.injEq] at hv2
            rw [← hv2.1] at hl12
            rw [if_neg (by omega), if_pos h.1, if_neg (by omega)]
            exact ⟨ta, _, tc, hl12⟩
          · rw [h.1] at hl12 hva
            have hv2 : (some (.int (c : Nat) tc) : Option Value) = some (.int (va : Nat) tva) := hva
            simp only [Option.some.injEq, Value.int.injEq] at hv2
            rw [← hv2.1] at hl12
            rw [if_neg (by omega), if_neg (by omega), if_pos h.1]
            exact ⟨ta, tb, _, hl12⟩
        have ra12 : RowsAt h12 its dn := (j10.seq q1σ).same cnt11 sb12
        have raT : RowsAt hT (its ++ [.ref h12.objs.size]) (dn ++ [⟨k - 1, x / 6 % 8, x / 48 % 3⟩]) := RowsAt.snoc ⟨_, _, _, _, rfl, tupT⟩ (ra12.seq (SeqK.of_keep kT))
        have rowsT := rows12.keeps kT
        have neT : ∀ {X : Addr} {xs : Array Value}, X ≠ Dr → PlainL h12 X xs → PlainL h13 X xs := fun hX p => (p.keeps kT).extBut sbT.extBut hX
        refine ⟨hσ12.trans ((Hi.keep kT).trans (Hi.same sbT hDr7)), _, _, (F12.keeps kT).list rowsT fr4 sbT, ?_⟩
        refine ⟨(if k = 1 then a + 1 else a), (if k = 2 then b + 1 else b), (if k = 3 then c + 1 else c), its ++ [.ref h12.objs.size], dn ++ [⟨k - 1, x / 6 % 8, x / 48 % 3⟩], tn, ta', tb', tc', ng (ng (ng (ng j1))), ng (ng (ng (ng j2))), ng (ng (ng (ng j3))), ng (ng (ng (ng j4))), j5, ⟨i6, neT ?_ own12, x6⟩, ⟨i7, neT ?_ dress12, x7⟩, ?_, ?_, raT.same rowsT.isList sbT, ?_, ?_, ?_, ?_, ?_, ?_, ?_, ?_⟩
        · exact Nat.ne_of_lt (Nat.lt_trans (Nat.lt_trans hown hDcd) hDc5)
        · exact Nat.ne_of_lt (Nat.lt_trans hDcd hDc5)
        · obtain ⟨o, e, r⟩ := hc12
          exact ⟨o, sbT.extBut _ o (Ne.symm hDrDc) (kT _ o e), r⟩
        · rw [show (its ++ [Value.ref h12.objs.size]).toArray = its.toArray.push (.ref h12.objs.size) by simp]
          exact hl13
        · rcases hk123 with h | h | h <;> simp [h.1] <;> omega
        · rcases hk123 with h | h | h <;> simp [h.1] <;> omega
        · rcases hk123 with h | h | h <;> simp [h.1] <;> omega
        · rcases hk123 with h | h | h <;> simp [h.1] <;> omega
        · rw [List.length_append, j15]; rfl
        · rw [← hx] at hk
          rw [j16, rowsGo_step hi hx hk, List.append_assoc]
          rfl
        · exact j17
        · exact j18
end
end Mine
end
section
open PySem PySem.W PyProof.Rows PySem.Spec PySem.Calls
set_option maxHeartbeats 4000000
namespace Mine
theorem paired_get {α β : Type} {F : α → β → Prop} : ∀ {l : List α} {m : List β} (j : Nat) (v : α), Paired F l m → l[j]? = some v → ∃ y, m[j]? = some y ∧ F v y
  | _, _, _, _, .nil, h => by simp at h
  | _, _, 0, v, .cons h t, e => by
    simp only [List.getElem?_cons_zero, Option.some.injEq] at e
    exact ⟨_, rfl, e ▸ h⟩
  | _, _, j + 1, v, .cons h t, e => by
    simp only [List.getElem?_cons_succ] at e ⊢
    exact paired_get j v t e
theorem plain_of {h : Heap} {D : Addr} {ys : Array Value} (p : h.PlainList D ys) : PlainL h D ys := by
  obtain ⟨n, e⟩ := p
  exact ⟨_, n, e, rfl, rfl, rfl⟩
theorem keepI {h h' : Heap} {I : Addr} (hI : h.objs.size ≤ I) {h0 : Heap} (k : Keep h h0) (x : ∀ b o, b ∉ [I] → h0.get? b = some o → h'.get? b = some o) : Keep h h' := fun b o e =>
  x b o (fun hb => by rw [List.mem_singleton.mp hb] at e; exact Nat.lt_irrefl _ (Nat.lt_of_lt_of_le (Heap.lt_size e) hI)) (k b o e)
theorem walksLt {prog : Program} {w : World} {A : Around} {I : Addr} {fp wr : List Addr} {n : Nat} {P : Nat → Value → Prop} {St : Nat → Heap → Prop} (W : Walks prog w A I fp wr n P St) : Walks prog w A I fp wr n (fun i v => i < n ∧ P i v) St where
  sub := W.sub
  frame := W.frame
  item := fun i s Q E hi st hQ => W.item i s Q E hi st fun v h' tk hP st' hk => hQ v h' tk ⟨hi, hP⟩ st' hk
  done := W.done
  self := W.self
section
variable {w : World} {A : Around} {s : Shared} {env : Env} {E : Value → Shared → Prop}
theorem quiet0 {scope : Scope} {cl : List (Str × Addr)} {x : Str} {elt : PySem.Expr} {wr : List Addr} {P : Nat → Value → Prop} {F : Value → Value → Prop} {s₂ : Shared}
    (h : ∀ C i v s₃ m₃ E', P i v → s₃.heap.Ns C m₃ → m₃ x = some v → (∀ b o, b ∉ wr → s₂.heap.get? b = some o → s₃.heap.get? b = some o) → s₂.toks ≤ s₃.toks →
      wpAny (model prog w) A (eval elt (compEnvC scope cl C env)) (fun y s₄ => F v y ∧ Keeps s₃ s₄) E' s₃) :
    QuietOnC prog w A env scope cl x [] elt wr P (fun _ => true) F s₂ :=
  ⟨fun _ _ _ _ _ _ _ _ _ _ _ _ => wpAny_tests_nil ⟨rfl, _, _, rfl, fun _ _ e => e⟩, fun C i v s₃ m₃ E' _ hP _ hn hm hk ht => h C i v s₃ m₃ E' hP hn hm hk ht⟩
/-- an unfiltered comprehension over a range -/
theorem comp_rng {elt iter : PySem.Expr} {x : Str} {px : Pos} {scope : Scope} {cl : List (Str × Addr)} {pos : Pos} {Q : Value → Shared → Prop} (a : Int) (G : Nat → Value → Prop) (hA : A.handled = none)
    (hclos : closureFor scope env = pure cl) (hcell : ∀ y ∈ scope.names, y.2 ≠ .cell) (hkind : scope.kind = .function)
    (hnames : ∀ y ∈ scope.names, y.2 = .local → scope.names.lookup y.1 = some .local) (hx : scope.names.lookup x = some .local)
    (h : wpAny (model prog w) A (eval iter env) (fun r s₁ => ∃ (rg : Addr) (n : Nat) (t u v : Tok), r = .ref rg ∧ IsRange s₁.heap rg a (a + n) 1 t u v ∧ -(2 ^ 61) ≤ a ∧ a < 2 ^ 61 ∧ n ≤ 1000 ∧
      (∀ C j t s₃ m₃ E', j < n → Keep s₁.heap s₃.heap → s₁.toks ≤ s₃.toks → s₃.heap.Ns C m₃ → m₃ x = some (.int (a + (j : Nat)) t) → wpAny (model prog w) A (eval elt (compEnvC scope cl C env)) (fun y s₄ => G j y ∧ Keeps s₃ s₄) E' s₃) ∧
      (∀ D h' tk ys, s₁.heap.get? D = none → Keep s₁.heap h' → PlainL h' D ys → ys.size = n → (∀ j, j < n → ∃ y, ys[j]? = some y ∧ G j y) → Q (.ref D) { s₁ with heap := h', toks := tk })) E s)
    (hs : ∀ x, foldedSetIterable iter env x = pure x := by intro _; rfl) :
    wpAny (model prog w) A (eval (.ListComp elt [⟨.Name x px, iter, [], 0⟩] scope pos) env) Q E s := by
  refine wpAny_ListComp_free (fun _ => true) (fun v y => ∃ (j : Nat) (t : Tok), v = .int (a + j) t ∧ G j y) hclos hcell hkind hnames hx (wpAny_mono h (fun r s₁ h₁ => ?_) fun _ _ e => e) hs
  obtain ⟨rg, n, t, u, v, rfl, hr, ha1, ha2, hn1, turn, fin⟩ := h₁
  have hrs : Builtin.Range.rangeSize a (a + n) 1 = n := by rw [rangeSize_one]; split <;> omega
  refine wpAny_pyIter_range hr (small_one (by omega) (by omega) (by omega) (by omega)) ?_
  rw [hrs]
  have W := walksLt (Walks.range (prog := prog) (w := w) (A := A) hA s₁.heap.objs.size a 1 n)
  refine ⟨_, _, _, n, _, _, rfl, W, Nat.le_trans hn1 (by decide), ?_, ?_, quiet0 ?_, ?_⟩
  · have h1 : a + ((0 : Nat) : Int) * 1 = a := by omega
    have h2 : (n : Int) - ((0 : Nat) : Int) = n := by omega
    show IsRangeIter _ _ _ _ _
    rw [h1, h2]
    exact Heap.get?_push_size _ rfl
  · intro b hb
    rw [List.mem_singleton.mp hb]
    show _ < (s₁.heap.push _).objs.size
    rw [Heap.size_push]
    exact Nat.lt_succ_self _
  · intro C i v' s₃ m₃ E' hP hn hm hk ht
    obtain ⟨hi, t', hv⟩ := hP
    rw [Int.mul_one] at hv
    refine wpAny_mono (turn C i t' s₃ m₃ E' hi (keepI (Nat.le_refl _) (fun b o e => Heap.get?_push_of_some _ e) hk) ht hn (by rw [hm, hv])) (fun y s₄ h₄ => ⟨⟨i, t', hv, h₄.1⟩, h₄.2⟩) fun _ _ e => e
  · intro D h' tk ys vs hD hl hpl hlen hP hF hk
    have hvs : vs.filter (fun _ => true) = vs := List.filter_eq_self.mpr fun _ _ => rfl
    rw [hvs] at hF
    have hys : ys.size = n := by rw [← Array.length_toList, ← hlen]; exact hF.length.symm
    refine fin D h' tk ys ?_ (keepI (Nat.le_refl _) (fun b o e => Heap.get?_push_of_some _ e) hk) (plain_of hpl) hys fun j hj => ?_
    · cases e : s₁.heap.get? D with
      | none => rfl
      | some o => exact absurd (hD.symm.trans (Heap.get?_push_of_some _ e)) (by simp)
    · have hvj : vs[j]? = some vs[j] := List.getElem?_eq_getElem (by omega)
      obtain ⟨y, hy, j', t', hv', hg⟩ := paired_get j _ hF hvj
      obtain ⟨_, t'', hv''⟩ := hP j _ hvj
      rw [Int.mul_one] at hv''
      rw [hv''] at hv'
      have hjj : j = j' := by simp only [Value.int.injEq] at hv'; omega
      subst hjj
      exact ⟨y, by simpa using hy, hg⟩
/-- over a list -/
theorem comp_list {elt iter : PySem.Expr} {x : Str} {px : Pos} {scope : Scope} {cl : List (Str × Addr)} {pos : Pos} {Q : Value → Shared → Prop} (F : Value → Value → Prop) (hA : A.handled = none)
    (hclos : closureFor scope env = pure cl) (hcell : ∀ y ∈ scope.names, y.2 ≠ .cell) (hkind : scope.kind = .function)
    (hnames : ∀ y ∈ scope.names, y.2 = .local → scope.names.lookup y.1 = some .local) (hx : scope.names.lookup x = some .local)
    (h : wpAny (model prog w) A (eval iter env) (fun r s₁ => ∃ (l : Addr) (items : Array Value), r = .ref l ∧ s₁.heap.IsList l items ∧ items.size ≤ 1000 ∧
      (∀ C (j : Nat) v s₃ m₃ E', items[j]? = some v → Keep s₁.heap s₃.heap → s₁.toks ≤ s₃.toks → s₃.heap.Ns C m₃ → m₃ x = some v → wpAny (model prog w) A (eval elt (compEnvC scope cl C env)) (fun y s₄ => F v y ∧ Keeps s₃ s₄) E' s₃) ∧
      (∀ D h' tk ys, s₁.heap.get? D = none → Keep s₁.heap h' → PlainL h' D ys → Paired F items.toList ys.toList → Q (.ref D) { s₁ with heap := h', toks := tk })) E s)
    (hs : ∀ x, foldedSetIterable iter env x = pure x := by intro _; rfl) :
    wpAny (model prog w) A (eval (.ListComp elt [⟨.Name x px, iter, [], 0⟩] scope pos) env) Q E s := by
  refine wpAny_ListComp_free (fun _ => true) F hclos hcell hkind hnames hx (wpAny_mono h (fun r s₁ h₁ => ?_) fun _ _ e => e) hs
  obtain ⟨l, items, rfl, hl, hn1, turn, fin⟩ := h₁
  have hlt : l < s₁.heap.objs.size := by obtain ⟨o, e, _⟩ := hl; exact Heap.lt_size e
  refine wpAny_pyIter_list hl ?_
  have W := Walks.list (prog := prog) (w := w) (A := A) hA s₁.heap.objs.size l (Nat.ne_of_lt hlt) items
  refine ⟨_, _, _, items.size, _, _, rfl, W, Nat.le_trans hn1 (by decide), ⟨⟨_, Heap.get?_push_size _ rfl, rfl, rfl⟩, ?_⟩, ?_, quiet0 ?_, ?_⟩
  · obtain ⟨o, e, r⟩ := hl
    exact ⟨o, Heap.get?_push_of_some _ e, r⟩
  · intro b hb
    show _ < (s₁.heap.push _).objs.size
    rw [Heap.size_push]
    rcases List.mem_cons.mp hb with h | h
    · rw [h]; exact Nat.lt_succ_self _
    · rw [List.mem_singleton.mp h]; exact Nat.lt_succ_of_lt hlt
  · intro C i v' s₃ m₃ E' hP hn hm hk ht
    exact turn C i v' s₃ m₃ E' hP (keepI (Nat.le_refl _) (fun b o e => Heap.get?_push_of_some _ e) hk) ht hn hm
  · intro D h' tk ys vs hD hl hpl hlen hP hF hk
    have hvs : vs.filter (fun _ => true) = vs := List.filter_eq_self.mpr fun _ _ => rfl
    rw [hvs] at hF
    have hv2 : vs = items.toList := by
      refine List.ext_getElem? fun j => ?_
      by_cases hj : j < vs.length
      · have hvj : vs[j]? = some vs[j] := List.getElem?_eq_getElem hj
        have := hP j _ hvj
        rw [hvj, Array.getElem?_toList, this]
      · rw [List.getElem?_eq_none (by omega), List.getElem?_eq_none (by rw [Array.length_toList]; omega)]
    rw [hv2] at hF
    refine fin D h' tk ys ?_ (keepI (Nat.le_refl _) (fun b o e => Heap.get?_push_of_some _ e) hk) (plain_of hpl) hF
    cases e : s₁.heap.get? D with
    | none => rfl
    | some o => exact absurd (hD.symm.trans (Heap.get?_push_of_some _ e)) (by simp)
/-- over a range, kept under a local name -/
theorem asg_rng {elt iter : PySem.Expr} {x y : Str} {px py : Pos} {scope : Scope} {cl : List (Str × Addr)} {pos spos : Pos} {Q : Flow → Shared → Prop} {h₀ : Heap} {names : List (Str × NameKind)} (V : Ev env names) (a : Int) (G : Nat → Value → Prop) (hA : A.handled = none)
    (hclos : closureFor scope env = pure cl) (hcell : ∀ y ∈ scope.names, y.2 ≠ .cell) (hkind : scope.kind = .function)
    (hnames : ∀ y ∈ scope.names, y.2 = .local → scope.names.lookup y.1 = some .local) (hx : scope.names.lookup x = some .local) (hy : names.lookup y = some .local) (hnf : scope.isGenerator = false)
    (hsw : swapsWith (.ListComp elt [⟨.Name x px, iter, [], 0⟩] scope pos) (some (.Name y py)) spos.line env = pure true)
    (h : wpAny (model prog w) A (eval iter env) (fun r s₁ => ∃ (rg : Addr) (n : Nat) (t u v : Tok) (m cm : Str → Option Value), r = .ref rg ∧ IsRange s₁.heap rg a (a + n) 1 t u v ∧ -(2 ^ 61) ≤ a ∧ a < 2 ^ 61 ∧ n ≤ 1000 ∧ Fc h₀ env.locals m env.cells cm s₁.heap ∧
      (∀ C j t s₃ m₃ E', j < n → Keep s₁.heap s₃.heap → s₁.toks ≤ s₃.toks → s₃.heap.Ns C m₃ → m₃ x = some (.int (a + (j : Nat)) t) → wpAny (model prog w) A (eval elt (compEnvC scope cl C env)) (fun y s₄ => G j y ∧ Keeps s₃ s₄) E' s₃) ∧
      (∀ D h' tk ys, s₁.heap.get? D = none → Fc h₀ env.locals (fun z => if z = y then some (.ref D) else m z) env.cells cm h' → SeqK s₁.heap h' → PlainL h' D ys → ys.size = n → (∀ j, j < n → ∃ y, ys[j]? = some y ∧ G j y) → Q .next { s₁ with heap := h', toks := tk })) E s)
    (hs : ∀ x, foldedSetIterable iter env x = pure x := by intro _; rfl) :
    wpAny (model prog w) A (exec (.Assign [.Name y py] (.ListComp elt [⟨.Name x px, iter, [], 0⟩] scope pos) spos) env) Q E s := by
  refine wpAny_Assign_ListComp_free (fun _ => true) (fun v y => ∃ (j : Nat) (t : Tok), v = .int (a + j) t ∧ G j y) hsw hclos hcell hkind hnames hx ((V.kind y).trans hy) (by rw [V.fn]; rfl) (wpAny_mono h (fun r s₁ h₁ => ?_) fun _ _ e => e) hs
  obtain ⟨rg, n, t, u, v, m, cm, rfl, hr, ha1, ha2, hn1, F, turn, fin⟩ := h₁
  have hrs : Builtin.Range.rangeSize a (a + n) 1 = n := by rw [rangeSize_one]; split <;> omega
  refine wpAny_pyIter_range hr (small_one (by omega) (by omega) (by omega) (by omega)) ?_
  rw [hrs]
  have W := walksLt (Walks.range (prog := prog) (w := w) (A := A) hA s₁.heap.objs.size a 1 n)
  have kp : Keep s₁.heap (s₁.heap.push { cls := .type "range_iterator", data := .fields #[.int (a + ((0 : Nat) : Int) * 1) 0] }) := fun b o e => Heap.get?_push_of_some _ e
  have hLne : env.locals ≠ s₁.heap.objs.size := Nat.ne_of_lt F.ns.lt
  refine ⟨_, _, _, n, _, _, m, rfl, W, Nat.le_trans hn1 (by decide), ?_, ?_, ?_, F.ns.keeps fun b o e => Heap.get?_push_of_some _ e, quiet0 ?_, ?_⟩
  · have h1 : a + ((0 : Nat) : Int) * 1 = a := by omega
    have h2 : (n : Int) - ((0 : Nat) : Int) = n := by omega
    show IsRangeIter _ _ _ _ _
    rw [h1, h2]
    exact Heap.get?_push_size _ rfl
  · intro b hb
    rw [List.mem_singleton.mp hb]
    show _ < (s₁.heap.push _).objs.size
    rw [Heap.size_push]
    exact Nat.lt_succ_self _
  · intro hb
    exact hLne (List.mem_singleton.mp hb)
  · intro C i v' s₃ m₃ E' hP hn hm hk ht
    obtain ⟨hi, t', hv⟩ := hP
    rw [Int.mul_one] at hv
    refine wpAny_mono (turn C i t' s₃ m₃ E' hi (keepI (Nat.le_refl _) (fun b o e => Heap.get?_push_of_some _ e) hk) ht hn (by rw [hm, hv])) (fun y s₄ h₄ => ⟨⟨i, t', hv, h₄.1⟩, h₄.2⟩) fun _ _ e => e
  · intro D h' tk ys vs hD hl hpl hlen hP hF hn' hk
    have hvs : vs.filter (fun _ => true) = vs := List.filter_eq_self.mpr fun _ _ => rfl
    rw [hvs] at hF
    have hys : ys.size = n := by rw [← Array.length_toList, ← hlen]; exact hF.length.symm
    have up : ∀ b o, b ≠ env.locals → s₁.heap.get? b = some o → h'.get? b = some o := fun b o hb e =>
      hk b o hb (fun hm => by rw [List.mem_singleton.mp hm] at e; exact Nat.lt_irrefl _ (Heap.lt_size e)) (Heap.get?_push_of_some _ e)
    refine fin D h' tk ys ?_ ⟨hn', fun b o e => up b o (Nat.ne_of_lt (Nat.lt_of_lt_of_le (Heap.lt_size e) F.lo)) (F.keep b o e), fun k c' hc' => ?_, F.apart, F.above, F.lo⟩ ?_ (plain_of hpl) hys fun j hj => ?_
    · cases e : s₁.heap.get? D with
      | none => rfl
      | some o => exact absurd (hD.symm.trans (Heap.get?_push_of_some _ e)) (by simp)
    · obtain ⟨o, e, hd⟩ := F.cell k c' hc'
      exact ⟨o, up c' o (Nat.ne_of_gt (F.above k c' (mem_of_lookup hc'))) e, hd⟩
    · intro b o xs nn e hd
      refine up b o (fun hb => ?_) e
      obtain ⟨o', es, ep, e', he', _⟩ := F.ns
      rw [← hb, e] at e'
      cases e'
      rw [hd] at he'
      cases he'
    · have hvj : vs[j]? = some vs[j] := List.getElem?_eq_getElem (by omega)
      obtain ⟨y, hy, j', t', hv', hg⟩ := paired_get j _ hF hvj
      obtain ⟨_, t'', hv''⟩ := hP j _ hvj
      rw [Int.mul_one] at hv''
      rw [hv''] at hv'
      have hjj : j = j' := by simp only [Value.int.injEq] at hv'; omega
      subst hjj
      exact ⟨y, by simpa using hy, hg⟩
end
end Mine
end
section
open PySem PySem.W PyProof.Rows PySem.Spec PySem.Calls
set_option maxHeartbeats 4000000
namespace Mine
section
variable {prog : Program} {w : World} {A : Around} {s : Shared} {E : Value → Shared → Prop}
theorem draw_list {it l : Addr} {items : Array Value} (hne : l ≠ it) : ∀ (n i : Nat) (s : Shared) (Q : List Value → Shared → Prop), s.heap.IsListIter it l i → s.heap.IsList l items → i + n ≤ items.size →
    (∀ h', h'.IsListIter it l (i + n) → Heap.SameBut it s.heap h' → Q ((items.toList.drop i).take n) { s with heap := h' }) → wpAny (model prog w) A (draw (.ref it) n) Q E s
  | 0, i, s, Q, hit, _, _, hQ => by
    show wpAny _ _ (pure []) Q E s
    exact wpAny_pure (by simpa using hQ s.heap hit (Heap.SameBut.refl ..))
  | n + 1, i, s, Q, hit, ht, hle, hQ => by
    have hlt : i < items.size := by omega
    show wpAny _ _ (pyNext (.ref it) >>= _) Q E s
    refine wpAny_bind (wpAny_pyNext_list_item hit ht (x := items[i]) (by simp [hlt]) fun h₁ hit₁ hs₁ => ?_)
    refine wpAny_bind (wpAny_holding (draw_list hne n (i + 1) _ _ hit₁ (ht.extBut hs₁.extBut hne) (by omega) fun h₂ hit₂ hs₂ => wpAny_pure ?_))
    have hd : items.toList.drop i = items[i] :: items.toList.drop (i + 1) := by simp [List.drop_eq_getElem_cons, hlt]
    have := hQ h₂ (by rw [show i + (n + 1) = i + 1 + n by omega]; exact hit₂) (hs₁.trans hs₂)
    rw [hd, List.take_succ_cons] at this
    exact this
theorem unpackItems_list {t : Addr} {items : Array Value} {Q : List Value → Shared → Prop} (hh : A.handled = none) (ht : s.heap.IsList t items)
    (hQ : ∀ h', Heap.ExtBut s.heap.objs.size s.heap h' → Q items.toList { s with heap := h' }) : wpAny (model prog w) A (unpackItems (.ref t) items.size none) Q E s := by
  have hlt : t ≠ s.heap.objs.size := by obtain ⟨o, ho, _⟩ := ht; exact Nat.ne_of_lt (Heap.lt_size ho)
  unfold unpackItems
  refine wpAny_bind ?_
  · unfold notIterableAtAll
    refine wpAny_bind (wpAny_specialOf ht.typeIs slot_list_iter.lookup ?_)
    refine wpAny_pure ?_
    simp only [Bool.false_eq_true, if_false]
    refine wpAny_bind (wpAny_holding (wpAny_pyIter_list ht ?_))
    refine wpAny_bind (wpAny_holding (draw_list hlt items.size 0 _ _ ⟨_, Heap.get?_push_size _ rfl, rfl, rfl⟩ (ht.push _) (by omega) fun h₁ hit₁ hs₁ => ?_))
    have hall : List.take items.size (List.drop 0 items.toList) = items.toList := by
      rw [List.drop_zero]; exact List.take_of_length_le (by simp)
    rw [hall]
    rw [if_neg (by simp)]
    have ht₁ : h₁.IsList t items := (ht.push _).extBut hs₁.extBut hlt
    refine wpAny_bind (wpAny_holding (wpAny_pyNext_list_end hh hit₁ ht₁ (by simp) fun h₂ he₂ => ?_))
    simp only [Option.isSome_none, Bool.false_eq_true, if_false]
    refine wpAny_pure (hQ h₂ fun b o hb e => he₂ b o hb (hs₁.extBut b o hb (Heap.get?_push_of_some _ e)))
theorem assign_Tuple_list {env : Env} {elts : List PySem.Expr} {x1} {pos : Pos} {t : Addr} {items : Array Value} {Q : Unit → Shared → Prop} (hh : A.handled = none) (ht : s.heap.IsList t items)
    (hn : (assignEach elts env).length = items.size) (hstar : (assignEach elts env).findIdx? (·.1) = none)
    (h : ∀ h', Heap.ExtBut s.heap.objs.size s.heap h' → wpAny (model prog w) A (assignInOrder ((assignEach elts env).map (·.2)) items.toList) Q E { s with heap := h' }) :
    wpAny (model prog w) A (assign (.Tuple elts x1 pos) env (.ref t)) Q E s := by
  rw [assign_Tuple]
  refine wpAny_bind (wpAny_standAt ?_)
  unfold unpack
  rw [hn, hstar]
  exact wpAny_bind (wpAny_holding (unpackItems_list hh ht h))
end
theorem keep_of_ext {h h' : Heap} (e : Heap.ExtBut h.objs.size h h') : Keep h h' := fun b o x => e b o (Nat.ne_of_lt (Heap.lt_size x)) x
def relab (names cnames : List (Str × NameKind)) : List (Str × NameKind) := cnames.map fun (n, k) => if (k == .free && names.lookup n == some .cell) then (n, .cell) else (n, k)
/-- the environment of a comprehension -/
theorem Ev.comp {env : Env} {names : List (Str × NameKind)} (V : Ev env names) {scope : Scope} {cl : List (Str × Addr)} {C : Addr} (hk : scope.kind = .function) : Ev (compEnvC scope cl C env) (relab names scope.names) := by
  refine ⟨hk, fun x => ?_, V.glob, V.blt, ?_⟩
  · show List.lookup x (List.map _ scope.names) = List.lookup x (List.map _ scope.names)
    congr 1
    refine List.map_congr_left fun y _ => ?_
    obtain ⟨n, k⟩ := y
    show (if (k == .free && env.scope.kind == .function && env.kindOf n == some .cell) = true then _ else _) = _
    rw [V.fn, V.kind n]
    simp
  · unfold interactive
    have : (compEnvC scope cl C env).scope.kind = .function := hk
    rw [this]; rfl
section
variable {w : World} {mean : ExcName → Option Value} {mg mb : Str → Option Value} {A : Around} {s : Shared} {base : Heap} {env : Env} {names : List (Str × NameKind)} {m : Str → Option Value} {E : Value → Shared → Prop}
theorem Ev.nm {x : Str} {pos : Pos} {v : Value} {Q : Value → Shared → Prop} (V : Ev env names) (hn : s.heap.Ns env.locals m) (hx : names.lookup x = some .local) (hv : m x = some v) (h : Q v s)
    (hd : (x == ("__debug__" : Str)) = false := by decide) : wpAny (model prog w) A (eval (.Name x pos) env) Q E s := wpAny_Name (wpAny_loadName_local V.fn ((V.kind x).trans hx) hn hv h) hd
theorem Ev.ce {x : Str} {pos : Pos} {v : Value} {Q : Value → Shared → Prop} (V : Ev env names) {c : Addr} (hx : names.lookup x = some .cell) (hc : env.cells.lookup x = some c) (hv : s.heap.IsCell c (some v)) (h : Q v s)
    (hd : (x == ("__debug__" : Str)) = false := by decide) : wpAny (model prog w) A (eval (.Name x pos) env) Q E s := wpAny_Name (wpAny_loadName_cell V.fn ((V.kind x).trans hx) hc hv h) hd
end
section
variable {w : World} {A : Around} {s : Shared} {env : Env} {names : List (Str × NameKind)} {m cm : Str → Option Value} {h₀ : Heap}
/-- two names out of a list -/
theorem Ev.two {x y : Str} {p1 p2 p3 pos : Pos} {k : Nat} {value : PySem.Expr} {Q : Flow → Shared → Prop} {E : Value → Shared → Prop} (V : Ev env names) (hA : A.handled = none) (hx : names.lookup x = some .local) (hy : names.lookup y = some .local)
    (hs : swapsWithSole [.Tuple [.Name x p1, .Name y p2] k p3] value pos.line env = pure false) (hw : swappedStores [.Tuple [.Name x p1, .Name y p2] k p3] value env = pure none)
    (h : wpAny (model prog w) A (eval value env) (fun v s₁ => ∃ D a b m cm, v = .ref D ∧ s₁.heap.IsList D #[a, b] ∧ Fc h₀ env.locals m env.cells cm s₁.heap ∧
      ∀ h' tk, Fc h₀ env.locals (fun z => if z = y then some b else if z = x then some a else m z) env.cells cm h' → SeqK s₁.heap h' → Q .next { s₁ with heap := h', toks := tk }) E s) :
    wpAny (model prog w) A (exec (.Assign [.Tuple [.Name x p1, .Name y p2] k p3] value pos) env) Q E s := by
  refine Assign_Tuple (wpAny_mono h (fun v s₁ h₁ => ?_) fun _ _ e => e) hs hw
  obtain ⟨D, a, b, m, cm, rfl, hl, F, h₁⟩ := h₁
  refine assign_Tuple_list hA hl rfl rfl fun h2 he => ?_
  refine assignInOrder_cons (wpAny_assign_Name ((F.keeps (keep_of_ext he)).store V.fn ((V.kind x).trans hx) fun h3 tk3 F3 q3 _ => ?_))
  refine assignInOrder_cons (wpAny_assign_Name (F3.store V.fn ((V.kind y).trans hy) fun h4 tk4 F4 q4 _ => ?_))
  refine assignInOrder_nil ?_
  exact h₁ h4 tk4 F4 (((SeqK.of_keep (keep_of_ext he)).trans q3).trans q4)
end
end Mine
end
section
open PySem PySem.W PyProof.Rows PySem.Spec PySem.Calls
set_option maxHeartbeats 4000000
namespace Mine
section
variable {w : World} {A : Around} {E : Value → Shared → Prop} {s : Shared} {env : Env} {Q : Value → Shared → Prop}
theorem st_ns {value e1 : PySem.Expr} {p pos : Pos} (hs : ∀ o i, subscripted (.Slice none (some e1) none p) false o i = operate [i, o] (getItem o i))
    (h : wpAny (model prog w) A (eval value env) (fun o s₁ => ∃ x t, o = .str x t ∧ x.length ≤ sizeLine ∧ wpAny (model prog w) A (eval e1 env) (fun i s₃ => ∃ a ua, i = .int a ua ∧
      ∀ h' t' k, Keep s₃.heap h' → Q (.str (Txt.slice x none (some a)) t') { s₃ with heap := h', toks := k }) E s₁) E s) :
    wpAny (model prog w) A (eval (.Subscript value (.Slice none (some e1) none p) pos) env) Q E s := by
  refine Subscript_ (wpAny_mono h (fun o s₁ h₁ => ?_) fun _ _ e => e)
  obtain ⟨x, t, rfl, hx, h₁⟩ := h₁
  refine wpAny_Slice (evalPart_none_step (evalPart_some_step (wpAny_mono h₁ (fun i s₃ h₂ => ?_) fun _ _ e => e)))
  obtain ⟨a, ua, rfl, h₃⟩ := h₂
  refine evalPart_none_step ?_
  obtain ⟨T, id, hl, hT, hg⟩ := SBH.sliceItem_ns (prog := prog) (w := w) (A := A) (E := E) (s := s₃) (x := x) (t := t) (j := a) (uj := ua) (Q := Q) (P := fun h => Keep s₃.heap h) (keptKeep _) (fun _ _ e => e) (fun h' t' k hk => h₃ h' t' k (fun b o e => hk b o e)) hx
  exact tail_any hT hl hg (hs _ _)
theorem st_sn {value e1 : PySem.Expr} {p pos : Pos} (hs : ∀ o i, subscripted (.Slice (some e1) none none p) false o i = operate [i, o] (getItem o i))
    (h : wpAny (model prog w) A (eval value env) (fun o s₁ => ∃ x t, o = .str x t ∧ x.length ≤ sizeLine ∧ wpAny (model prog w) A (eval e1 env) (fun i s₃ => ∃ a ua, i = .int a ua ∧
      ∀ h' t' k, Keep s₃.heap h' → Q (.str (Txt.slice x (some a) none) t') { s₃ with heap := h', toks := k }) E s₁) E s) :
    wpAny (model prog w) A (eval (.Subscript value (.Slice (some e1) none none p) pos) env) Q E s := by
  refine Subscript_ (wpAny_mono h (fun o s₁ h₁ => ?_) fun _ _ e => e)
  obtain ⟨x, t, rfl, hx, h₁⟩ := h₁
  refine wpAny_Slice (evalPart_some_step (wpAny_mono h₁ (fun i s₃ h₂ => ?_) fun _ _ e => e))
  obtain ⟨a, ua, rfl, h₃⟩ := h₂
  refine evalPart_none_step (evalPart_none_step ?_)
  obtain ⟨T, id, hl, hT, hg⟩ := SBH.sliceItem_sn (prog := prog) (w := w) (A := A) (E := E) (s := s₃) (x := x) (t := t) (i := a) (ui := ua) (Q := Q) (P := fun h => Keep s₃.heap h) (keptKeep _) (fun _ _ e => e) (fun h' t' k hk => h₃ h' t' k (fun b o e => hk b o e)) hx
  exact tail_any hT hl hg (hs _ _)
/-- a short list against the empty one -/
theorem eq_nil {l b : Addr} {items : Array Value} (hl : s.heap.IsList l items) (hb : s.heap.IsList b #[]) (hu : A.units < cLine)
    (h : Q (.bool (items.size == 0)) s) : wpAny (model prog w) A (compareOp .Eq (.ref l) (.ref b)) Q E s := by
  by_cases hz : items.size = 0
  · refine SeqAt.eq_listAt (e := fun _ => true) hl hb hz hu (fun j h1 h2 => by simp at h2) ?_
    rw [hz] at h ⊢
    exact h
  · refine SeqAt.eq_list_lengthsAt hl hb (by simp; exact fun e => hz (by rw [e]; rfl)) hu ?_
    rw [show (items.size == 0) = false by simp; exact fun e => hz (by rw [e]; rfl)] at h
    exact h
theorem ne_nil {l b : Addr} {items : Array Value} (hl : s.heap.IsList l items) (hb : s.heap.IsList b #[]) (hu : A.units < cLine)
    (h : Q (.bool (!(items.size == 0))) s) : wpAny (model prog w) A (compareOp .NotEq (.ref l) (.ref b)) Q E s := by
  by_cases hz : items.size = 0
  · refine SeqAt.RcNeAt.lists (e := fun _ => true) hl hb hz hu (fun j h1 h2 => by simp at h2) prog w E Q ?_
    rw [hz] at h ⊢
    exact h
  · refine SeqAt.RcNeAt.lists_lengths hl hb (by simp; exact fun e => hz (by rw [e]; rfl)) hu prog w E Q ?_
    rw [show (items.size == 0) = false by simp; exact fun e => hz (by rw [e]; rfl)] at h
    exact h
end
def crlf : Str := ⟨#[13, 10]⟩
def dotS : Str := ⟨#[46]⟩
def crS : Str := ⟨#[13]⟩
def nlS : Str := ⟨#[10]⟩
def headB : Str := ⟨#[34, 40]⟩
def headC : Str := ⟨#[34, 41]⟩
def pieceA : Str := ⟨#[40, 34, 41, 34]⟩
def pieceB : Str := ⟨#[34, 40, 40, 34, 41]⟩
def pieceC : Str := ⟨#[34, 41, 34]⟩
def dotC : Str := ⟨#[46, 34, 41, 34]⟩
def stripD (x : Str) : Str := Txt.lstripChars x dotS
def getS (l : List Str) (p : Nat) : Str := l.getD p ⟨#[]⟩
def condB (l : List Str) (p : Nat) : Bool := (Txt.slice (getS l p) none (some 2) == headB) && takenF (l.take (p + 1)) false
def condC (l : List Str) (p : Nat) : Bool := (Txt.slice (getS l p) none (some 2) == headC) && takenF (l.take (p + 1)) true
def dN (rs : List Str) (p : Nat) : Nat := (getS rs p).length - (stripD (getS rs p)).length
def bareB (l : List Str) (b : Nat) : List Str := l.set b (pieceA ++ Txt.slice (getS l b) (some 5) none)
def bareC (l : List Str) (c : Nat) : List Str := l.set c (pieceB ++ Txt.slice (getS l c) (some 3) none)
def bare2 (l : List Str) (b c : Nat) : List Str := bareC (bareB l b) c
def keptP (rs : List Str) (b c : Nat) : List Str :=
  (List.range (rs.length - 1)).map (fun j => Txt.mul dotS (dN rs (j + 1) : Nat) ++ getS (bare2 (rs.map stripD) b c) (j + 1)) ++ [dotC ++ Txt.slice (getS (bare2 (rs.map stripD) b c) 0) (some 4) none]
def turnT (rs : List Str) (b c : Nat) : Str := dotF (crF (Txt.join crS (keptP rs b c) ++ nlS))
theorem paired_strs {f : Str → Str} : ∀ {l : List (Str × Tok)} {m : List Value}, Paired (fun v y => ∃ x t, v = .str x t ∧ ∃ t', y = .str (f x) t') (strValues l) m → ∃ k : List (Str × Tok), m = strValues k ∧ k.map (·.1) = (l.map (·.1)).map f
  | [], _, .nil => ⟨[], rfl, rfl⟩
  | (a, _) :: l, _, .cons h t => by
    obtain ⟨x, t1, e1, t2, e2⟩ := h
    obtain ⟨k, ek, hk⟩ := paired_strs (l := l) t
    cases e1
    exact ⟨(f a, t2) :: k, by rw [ek, e2]; rfl, by simp [hk]⟩
theorem sw_cell {env : Env} {names : List (Str × NameKind)} (V : Ev env names) {n : Str} {p pos : Pos} {l : Nat} {elt : PySem.Expr} {cs : List Comprehension} {scope : Scope} (hx : names.lookup n = some .cell) : swapsWith (.ListComp elt cs scope pos) (some (.Name n p)) l env = pure false := by
  show pure (env.blockKind == .function && env.kindOf n == some .local && _ && _) = pure false
  have : env.blockKind = .function := by
    have := V.fn
    unfold Env.blockKind
    rw [this]
    rfl
  rw [V.kind, hx, this]
  rfl
theorem Fc.cel {h₀ h : Heap} {L c : Addr} {m cm : Str → Option Value} {cs : List (Str × Addr)} {n : Str} {v : Value} (F : Fc h₀ L m cs cm h) (hc : cs.lookup n = some c) (hv : cm n = some v) : h.IsCell c (some v) := hv ▸ F.cell n c hc
theorem getS_map {l : List Str} {f : Str → Str} {p : Nat} (hp : p < l.length) : getS (l.map f) p = f (getS l p) := by
  unfold getS
  rw [List.getD_eq_getElem?_getD, List.getD_eq_getElem?_getD, List.getElem?_map, List.getElem?_eq_getElem hp]
  rfl
theorem dN_int (rs : List Str) (p : Nat) : ((getS rs p).length : Int) - ((stripD (getS rs p)).length : Int) = ((dN rs p : Nat) : Int) := by
  unfold dN
  have := len_lstripChars (getS rs p) dotS
  unfold stripD
  omega
theorem getS_len {l : List Str} {n p : Nat} (h : ∀ y ∈ l, y.length ≤ n) : (getS l p).length ≤ n := by
  unfold getS
  rw [List.getD_eq_getElem?_getD]
  cases e : l[p]? with
  | none => exact Nat.zero_le _
  | some y => exact h y (List.mem_of_getElem? e)
theorem none_of_keep {h h' : Heap} {D : Addr} (k : Keep h h') (e : h'.get? D = none) : h.get? D = none := by
  cases e' : h.get? D with
  | none => rfl
  | some o => rw [k D o e'] at e; cases e
theorem ne_of_plain {h : Heap} {D D' : Addr} {xs : Array Value} (p : PlainL h D xs) (e : h.get? D' = none) : D ≠ D' := by
  rintro rfl
  obtain ⟨o, _, ho, _⟩ := p
  rw [e] at ho
  cases ho
def tokOf : Value → Tok
  | .str _ t => t
  | _ => 0
theorem arr_strs {f : Nat → Str} {n : Nat} {ys : Array Value} (hs : ys.size = n) (h : ∀ j, j < n → ∃ y, ys[j]? = some y ∧ ∃ t, y = .str (f j) t) : ∃ l : List (Str × Tok), ys = (strValues l).toArray ∧ l.map (·.1) = (List.range n).map f := by
  refine ⟨(List.range n).map fun j => (f j, tokOf (ys.getD j .none)), ?_, ?_⟩
  · apply Array.ext'
    refine List.ext_getElem? fun j => ?_
    unfold strValues
    by_cases hj : j < n
    · obtain ⟨y, hy, t, rfl⟩ := h j hj
      have hg : ys.getD j .none = .str (f j) t := by
        rw [Array.getD_eq_getD_getElem?, hy]
        rfl
      rw [Array.getElem?_toList, hy]
      rw [Array.getD_eq_getD_getElem?, hy] at hg
      simp [hj, tokOf, hy]
    · rw [List.getElem?_eq_none (by simp; omega), List.getElem?_eq_none (by simp; omega)]
  · simp
theorem mul_ok {n : Nat} (h : n ≤ 100) : MulOk dotS (n : Nat) ∧ (Txt.mul dotS (n : Nat)).length ≤ 100 := by
  have a : ∀ n : Fin 101, MulOk dotS ((n.val : Nat) : Int) ∧ (Txt.mul dotS ((n.val : Nat) : Int)).length ≤ 100 := by
    unfold MulOk
    decide +kernel
  exact a ⟨n, by omega⟩
theorem dN_le {rs : List Str} (h : ∀ y ∈ rs, y.length ≤ 100) (p : Nat) : dN rs p ≤ 100 := by
  have := getS_len (p := p) h
  unfold dN
  omega
theorem strs_get {l : List (Str × Tok)} {xs : List Str} (e : l.map (·.1) = xs) {p : Nat} (hp : p < xs.length) : ∃ t, (strValues l).toArray[p]? = some (.str (getS xs p) t) := by
  subst e
  rw [List.length_map] at hp
  refine ⟨l[p].2, ?_⟩
  unfold getS strValues
  rw [List.getElem?_toArray, List.getElem?_map, List.getElem?_eq_getElem hp, List.getD_eq_getElem?_getD, List.getElem?_map, List.getElem?_eq_getElem hp]
  rfl
theorem strs_take (l : List (Str × Tok)) (k : Nat) : (strValues l).take k = strValues (l.take k) := by unfold strValues; rw [List.map_take]
theorem strs_set (l : List (Str × Tok)) (k : Nat) (x : Str) (t : Tok) : (strValues l).toArray.setIfInBounds k (.str x t) = (strValues (l.set k (x, t))).toArray := by unfold strValues; simp [List.map_set]
end Mine
end
section
open PySem PySem.W PyProof.Rows PySem.Spec PySem.Calls
set_option maxHeartbeats 4000000
namespace Mine
section
variable {w : World} {mean : ExcName → Option Value} {mg mb : Str → Option Value} {A : Around} {s : Shared} {Q E : Value → Shared → Prop} {base : Heap}

theorem turn_call (G : Gnd w mean mg mb base) (kb : Keep base s.heap) (R : Room A (16 + 1)) (x : Str) (t : Tok) (rs : List Str) (last : Str) (hsp : Txt.split x crlf = rs ++ [last]) (b c : Nat)
    (hxl : x.length ≤ 240) (hn : rs.length ≤ 20) (hr : ∀ y ∈ rs, y.length ≤ 100) (hb1 : 1 ≤ b) (hbc : b < c) (hcn : c < rs.length)
    (hj : ∀ k, (Txt.join ⟨#[]⟩ ((rs.map stripD).take k)).length ≤ 80)
    (hB : condB (rs.map stripD) b = true) (hB0 : ∀ p, 1 ≤ p → p < b → condB (rs.map stripD) p = false)
    (hC : condC (rs.map stripD) c = true) (hC0 : ∀ p, b < p → p < c → condC (rs.map stripD) p = false)
    (hk : (Txt.join crS (keptP rs b c) ++ nlS).length ≤ 240) (hk2 : ∀ y ∈ keptP rs b c, y.length ≤ 1000)
    (hq : ∀ T t1 t2 t3 t4 t5 s', Gro s s' → s'.heap.IsTuple T #[.str (turnT rs b c) t1, .int (b : Nat) t2, .int (c : Nat) t3, .int ((dN rs b : Nat) - 1) t4, .int ((dN rs c : Nat) - 1) t5] → Q (.ref T) s') :
    wpAny (model prog w) A (call (.ref 100) [.str x t]) Q E s := by
  have KX := G.X
  have hz : PySem.Challenge.rw_tr0020_01 = PySem.Challenge.rw_tr0020_01 := rfl
  revert hz KX
  k_fill
  intro KX _
  refine' enterC [(Str.ofString "text", .str x t)] G kb R ?k1 ?k2 ?k3 ?k4 ?_ ?c1 ?c2 ?c3
  case k1 => k_is
  case k2 => k_is
  case k3 => exact rfl
  case k4 => intro L x hx; rw [List.mem_singleton.mp hx]; exact .inl rfl
  case c1 => exact rfl
  case c2 => exact rfl
  case c3 => exact rfl
  intro A h₁ tk env R he F
  have V := Ev.of he rfl
  obtain ⟨e1, e2, e3, e4, e5⟩ := callEnvC_facts he
  have hcr : env.cells.lookup (Str.ofString "rows") = some (s.heap.objs.size + 1) := by rw [e5]; rfl
  have hcb : env.cells.lookup (Str.ofString "bare") = some (s.heap.objs.size + 1 + 1) := by rw [e5]; rfl
  have hcd : env.cells.lookup (Str.ofString "dots") = some (s.heap.objs.size + 1 + 1 + 1) := by rw [e5]; rfl
  have F0 : Fc s.heap env.locals (fun y => if y = Str.ofString "text" then some (.str x t) else none) env.cells (fun _ => none) h₁ := by
    have hh := F
    have hk : env.kindOf (Str.ofString "text") = some .local := (V.kind _).trans rfl
    simp only [bindL, bindC, hk, if_true] at hh
    exact hh
  clear F he e1
  have hbs : ∀ {h : Heap}, Keep s.heap h → Keep base h := fun k b o e => k b o (kb b o e)
  have lcrlf : (Str.ofString "\x0d\n" : Str) = crlf := by decide +kernel
  have ldot : (Str.ofString "." : Str) = dotS := by decide +kernel
  have lpo : (Builtin.Str.partsBetween x (Builtin.Str.occurrences x crlf 0 x.length (x.length + 1)) crlf.length).length ≤ sizeLine := by
    rw [length_partsBetween]
    have := StrLaws.occ_length_le x crlf 0 x.length (x.length + 1)
    have h2 : 242 ≤ sizeLine := by decide
    omega
  refine wpAny_execs_cons ?_
  with_reducible refine V.setC s.heap (s.heap.objs.size + 1) ?_ hcr sw_Sub ?_
  · rfl
  refine ev_lslice (fun _ _ => rfl) ?_
  refine Call_method1 rfl rfl rfl ?_
  with_reducible refine V.ld F0 ?_ yes ?_
  · rfl
  refine ⟨"str", _, F.plainAttrs_str, F.slot_str_split, F.type_str_split, typeIs_str _ _ _, (fun _ e => nomatch e), ?_⟩
  refine callWith_builtin rfl (evalArgs_plain (spliced_cons (wpAny_mkText (spliced_nil ?_))))
  rw [lcrlf]
  refine SCH.split1 (P := fun h => Keep h₁ h) (keptKeep _) (fun _ _ e => e) (by decide) (fun D0 l0 h2 tk2 hl0 k2 hD0 => ?_) (Nat.le_trans hxl (by decide)) lpo
  rw [hsp] at hl0
  refine evalPart_none_step (evalPart_some_step ?_)
  refine UnaryOp_ (wpAny_Constant_int ?_)
  refine PyProof.Rows.neg_int ?_
  dsimp only
  obtain ⟨lr, hlr1, hlr⟩ : ∃ lr : List (Str × Tok), l0.dropLast = lr ∧ lr.map (·.1) = rs := ⟨_, rfl, by rw [List.map_dropLast, hl0]; simp⟩
  have hl0n : l0.length = rs.length + 1 := by rw [← List.length_map (f := (·.1)), hl0]; simp
  refine ⟨D0, _, _, _, rfl, hD0, by unfold strValues; simp; omega, .none, .int _ _, fun Dr h3 k3 pl3 fr3 => ?_⟩
  rw [show (-1 : Int) = -((1 : Nat) : Int) from rfl, slicePick_butLast _ 1 (Nat.le_refl _)] at pl3
  have pr3 : PlainL h3 Dr (strValues lr).toArray := by
    have : (List.take ((strValues l0).toArray.size - 1) (strValues l0).toArray.toList).toArray = (strValues lr).toArray := by
      rw [← hlr1]
      unfold strValues
      simp [List.dropLast_eq_take, List.map_take]
    rw [← this]
    exact pl3
  clear pl3
  have F3 := (F0.keeps k2).keeps k3
  refine ⟨_, _, F3, fun h4 F4 q4 sb4 => ?_⟩
  try dsimp only at F4 q4 sb4 ⊢
  have pr4 := q4.plain pr3
  clear hD0 k2 k3 pr3 q4 sb4 F3 fr3
  refine wpAny_execs_cons ?_
  with_reducible refine V.setC s.heap (s.heap.objs.size + 1 + 1) ?_ hcb ?sw2 ?_
  · rfl
  case sw2 => exact sw_cell V rfl
  refine comp_list (cl := []) (fun v y => ∃ x t, v = .str x t ∧ ∃ t', y = .str (stripD x) t') R.handled ?_ (by decide) rfl (by decide) rfl ?_
  · unfold closureFor
    rfl
  with_reducible refine V.lc _ F4 ?_ hcr yes ?_
  · rfl
  refine ⟨Dr, _, rfl, pr4.isList, by unfold strValues; simp; rw [← hlr] at hn; simp at hn; omega, fun C j v s₃ m₃ E' hv k3 _ hn3 hm3 => ?_, fun Db h5 tk5 ys hDb k5 pb hF => ?_⟩
  · have VC := V.comp (scope := Scope.mk .function [(Str.ofString ".0", .local), (Str.ofString "row", .local)] false false []) (cl := []) (C := C) rfl
    obtain ⟨x', t', rfl, hx'⟩ : ∃ x' t', v = .str x' t' ∧ x' ∈ rs := by
      have hv' := hv
      unfold strValues at hv'
      rw [List.getElem?_toArray, List.getElem?_map] at hv'
      cases hj : lr[j]? with
      | none => rw [hj] at hv'; cases hv'
      | some p =>
        rw [hj] at hv'
        refine ⟨p.1, p.2, (Option.some.inj hv').symm, ?_⟩
        rw [← hlr]
        exact List.mem_map_of_mem (List.mem_of_getElem? hj)
    refine Call_method1 rfl rfl rfl ?_
    refine VC.nm hn3 rfl hm3 ?_
    refine SB.lstripChars (wpAny_mkText ⟨_, _, rfl, fun t2 k2 => ⟨⟨x', t', rfl, t2, by rw [ldot]; rfl⟩, _, _, rfl, fun _ _ e => e⟩⟩) (Nat.le_trans (hr x' hx') (by decide))
  obtain ⟨lb, hlb1, hlb⟩ := paired_strs hF
  rw [hlr] at hlb
  have hys : ys = (strValues lb).toArray := by rw [← hlb1]
  rw [hys] at pb
  clear hF hlb1 hys
  have frb := none_of_keep F4.keep hDb
  have hrb' : Dr ≠ Db := ne_of_plain pr4 hDb
  have F5 := F4.keeps k5
  refine ⟨_, _, F5, fun h6 F6 q6 sb6 => ?_⟩
  try dsimp only at F6 q6 sb6 ⊢
  have pr6 := q6.plain (pr4.keeps k5)
  have pb6 := q6.plain pb
  clear pr4 pb k5 F4 F5 q6 sb6 hDb
  have hlrn : lr.length = rs.length := by rw [← hlr, List.length_map]
  have hlbn : lb.length = rs.length := by rw [← List.length_map (f := (·.1)), hlb, List.length_map]
  have hrb : ∀ y ∈ rs.map stripD, y.length ≤ 100 := by
    intro y hy
    obtain ⟨z, hz, rfl⟩ := List.mem_map.mp hy
    exact Nat.le_trans (len_lstripChars z dotS) (hr z hz)
  refine wpAny_execs_cons ?_
  with_reducible refine V.setC s.heap (s.heap.objs.size + 1 + 1 + 1) ?_ hcd ?sw3 ?_
  · rfl
  case sw3 => exact sw_cell V rfl
  refine comp_rng (cl := [(Str.ofString "rows", s.heap.objs.size + 1), (Str.ofString "bare", s.heap.objs.size + 1 + 1)]) 0 (fun j y => ∃ t, y = .int (dN rs j : Nat) t) R.handled ?_ (by decide) rfl (by decide) rfl ?_
  · have hco1 : cellOf env (Str.ofString "bare") = pure (s.heap.objs.size + 1 + 1) := by unfold cellOf; rw [hcb]
    have hco2 : cellOf env (Str.ofString "rows") = pure (s.heap.objs.size + 1) := by unfold cellOf; rw [hcr]
    unfold closureFor
    simp only [List.forIn_cons, List.forIn_nil, hco1, hco2]
    rfl
  with_reducible refine V.r1 G (hbs F6.keep) ?_ ?_ ?_
  · rfl
  · rfl
  with_reducible refine V.b1 G (hbs F6.keep) ?_ G.g_len ?_ ?_
  · rfl
  · rfl
  with_reducible refine V.lc _ F6 ?_ hcr (ng yes) ?_
  · rfl
  refine call_len_list pr6.isList (by unfold strValues; simp; omega) ?_
  rw [show (strValues lr).toArray.size = rs.length by unfold strValues; simp [hlrn]]
  refine ⟨_, _, rfl, fun rg h7 tk7 u1 u2 u3 hr7 hk7 _ => ?_⟩
  try dsimp only at hr7 hk7 ⊢
  refine ⟨rg, rs.length, u1, u2, u3, rfl, by rw [Int.zero_add]; exact hr7, by decide, by decide, by omega, fun C j t₃ s₃ m₃ E' hj k3 _ hn3 hm3 => ?_, fun Dd h8 tk8 ys hDd k8 pd hys hyj => ?_⟩
  · have VC := V.comp (scope := Scope.mk .function [(Str.ofString ".0", .local), (Str.ofString "place", .local), (Str.ofString "len", .globalImplicit), (Str.ofString "bare", .free), (Str.ofString "rows", .free)] false false []) (cl := [(Str.ofString "rows", s.heap.objs.size + 1), (Str.ofString "bare", s.heap.objs.size + 1 + 1)]) (C := C) rfl
    have hn3' : s₃.heap.Ns (compEnvC (Scope.mk .function [(Str.ofString ".0", .local), (Str.ofString "place", .local), (Str.ofString "len", .globalImplicit), (Str.ofString "bare", .free), (Str.ofString "rows", .free)] false false []) [(Str.ofString "rows", s.heap.objs.size + 1), (Str.ofString "bare", s.heap.objs.size + 1 + 1)] C env).locals m₃ := hn3
    have k6 : Keep h6 s₃.heap := fun b o e => k3 b o (hk7 b o e)
    have kb3 : Keep base s₃.heap := hbs fun b o e => k6 b o (F6.keep b o e)
    have cr := (F6.cel hcr (ng yes)).keeps k6
    have cb := (F6.cel hcb yes).keeps k6
    obtain ⟨ta, ga⟩ := strs_get hlr hj
    obtain ⟨tb, gb⟩ := strs_get hlb (p := j) (by rw [List.length_map]; exact hj)
    refine wpAny_BinOp ?_
    with_reducible refine VC.b1 G kb3 ?_ G.g_len ?_ ?_
    · rfl
    · rfl
    refine ev_item (fun _ _ => .inl rfl) ?_
    with_reducible refine VC.ce ?_ ?_ cr ?_
    · rfl
    · rfl
    with_reducible refine VC.nm hn3' ?_ hm3 ?_
    · rfl
    refine ⟨Dr, _, _, _, _, rfl, rfl, (pr6.keeps k6).isList, by omega, by omega, by rw [show ((0 : Int) + (j : Nat)).toNat = j by omega]; exact ga, ?_⟩
    refine P.len_str (by have := getS_len (p := j) hr; omega) ?_
    try dsimp only
    with_reducible refine VC.b1 G ?_ ?_ G.g_len ?_ ?_
    · exact kb3
    · rfl
    · rfl
    refine ev_item (fun _ _ => .inl rfl) ?_
    with_reducible refine VC.ce ?_ ?_ cb ?_
    · rfl
    · rfl
    with_reducible refine VC.nm hn3' ?_ hm3 ?_
    · rfl
    refine ⟨Db, _, _, _, _, rfl, rfl, (pb6.keeps k6).isList, by omega, by omega, by rw [show ((0 : Int) + (j : Nat)).toNat = j by omega]; exact gb, ?_⟩
    refine P.len_str (by have := getS_len (p := j) hrb; omega) ?_
    try dsimp only
    refine PyProof.Rows.sub_int ?_
    rw [getS_map hj, dN_int]
    exact ⟨⟨_, rfl⟩, _, _, rfl, fun _ _ e => e⟩
  have hdb' : Db ≠ Dd := ne_of_plain (pb6.keeps hk7) hDd
  have F8 := (F6.keeps hk7).keeps k8
  refine ⟨_, _, F8, fun h9 F9 q9 sb9 => ?_⟩
  try dsimp only at F9 q9 sb9 ⊢
  have pr9 := q9.plain ((pr6.keeps hk7).keeps k8)
  have pb9 := q9.plain ((pb6.keeps hk7).keeps k8)
  have pd9 := q9.plain pd
  clear pr6 pb6 pd k8 hk7 F6 F8 q9 sb9 hDd hr7
  refine wpAny_execs_cons ?_
  with_reducible refine V.set s.heap ?_ sw_List ?_
  · rfl
  refine List_ ?_
  refine lit_end ?_
  refine wpAny_newList ?_ (by decide)
  refine ⟨_, _, F9.keeps fun b o e => Heap.get?_push_of_some _ e, fun h10 tk10 F10 q10 _ => ?_⟩
  obtain ⟨Df, hDf⟩ : ∃ Df, Df = h9.objs.size := ⟨_, rfl⟩
  have pf10 : PlainL h10 Df ([] : List Value).toArray := by
    rw [hDf]
    exact q10.plain ⟨_, _, Heap.get?_push_size _ rfl, rfl, rfl, rfl⟩
  have q910 : SeqK h9 h10 := fun b o xs n e hd => q10 b o xs n (Heap.get?_push_of_some _ e) hd
  have frf := fresh_none F9.keep
  have hrf : Dr < Df := by rw [hDf]; exact pr9.lt
  have hbf : Db < Df := by rw [hDf]; exact pb9.lt
  have hdf : Dd < Df := by rw [hDf]; exact pd9.lt
  rw [← hDf] at F10 frf
  try dsimp only at F10 ⊢
  have pr10 := q910.plain pr9
  have pb10 := q910.plain pb9
  have pd10 := q910.plain pd9
  clear pr9 pb9 pd9 q10 q910 F9
  refine wpAny_execs_cons ?_
  with_reducible refine For_rng (h₀ := s.heap) R.handled V.fn ((V.kind _).trans ?_) (fun _ => ?_) ?_
  · rfl
  · rfl
  with_reducible refine V.r2 G (hbs F10.keep) ?_ ?_ ?_
  · rfl
  · rfl
  refine wpAny_Constant_int ?_
  with_reducible refine V.b1 G (hbs F10.keep) ?_ G.g_len ?_ ?_
  · rfl
  · rfl
  with_reducible refine V.lc _ F10 ?_ hcr (ng (ng yes)) ?_
  · rfl
  refine call_len_list pr10.isList (by unfold strValues; simp; omega) ?_
  rw [show (strValues lr).toArray.size = rs.length by unfold strValues; simp [hlrn]]
  try dsimp only
  refine ⟨_, _, _, _, rfl, rfl, fun rg h11 tk11 u1 u2 u3 hr11 hk11 _ => ?_⟩
  try dsimp only at hr11 hk11 ⊢
  have F11 := F10.keeps hk11
  have pf11 := pf10.keeps hk11
  let J : Nat → (Str → Option Value) → (Str → Option Value) → Shared → Prop := fun i m cm σ => ∃ (fs : List Value),
    m (Str.ofString "found") = some (.ref Df) ∧ cm (Str.ofString "rows") = some (.ref Dr) ∧ cm (Str.ofString "bare") = some (.ref Db) ∧ cm (Str.ofString "dots") = some (.ref Dd) ∧
    PlainL σ.heap Df fs.toArray ∧ PlainL σ.heap Dr (strValues lr).toArray ∧ PlainL σ.heap Db (strValues lb).toArray ∧ PlainL σ.heap Dd ys ∧
    ((fs = [] ∧ i < b) ∨ (∃ t, fs = [.int (b : Nat) t] ∧ b ≤ i ∧ i < c)) ∧ (AllBare s.gens → AllBare σ.gens) ∧ σ.os = s.os
  refine ⟨rg, 1, rs.length - 1, u1, u2, u3, _, _, J, rfl, by rw [show (1 : Int) + ((rs.length - 1 : Nat) : Int) = (rs.length : Nat) by omega]; exact hr11, by decide, by decide, by omega, F11, ?j0, ?stable, ?turn, ?done⟩
  case j0 =>
    exact ⟨[], yes, ng (ng yes), ng yes, yes, pf11, pr10.keeps hk11, pb10.keeps hk11, pd10.keeps hk11, .inl ⟨rfl, by omega⟩, fun h => h, rfl⟩
  case stable =>
    rintro i m cm σ h' tk ⟨fs, j1, j2, j3, j4, j5, j6, j7, j8, j9⟩ q
    exact ⟨fs, j1, j2, j3, j4, q.plain j5, q.plain j6, q.plain j7, q.plain j8, j9⟩
  case done =>
    rintro m cm σ ⟨fs, j1, j2, j3, j4, j5, j6, j7, j8, j9, j10⟩ Fσ
    exfalso
    rcases j9 with ⟨_, h⟩ | ⟨_, _, _, h⟩ <;> omega
  case turn =>
    rintro i m cm σ tp hi ⟨fs, j1, j2, j3, j4, j5, j6, j7, j8, j9, j10, j11⟩ hkeep Fσ
    have hpl : (1 : Int) + (i : Nat) = ((i + 1 : Nat) : Int) := by omega
    rw [hpl] at Fσ
    have hfs : fs.length ≤ 1 := by rcases j9 with ⟨h, _⟩ | ⟨_, h, _⟩ <;> rw [h] <;> simp
    refine wpAny_execs_cons ?_
    with_reducible refine V.set s.heap ?_ sw_IfExp ?_
    · rfl
    refine wpAny_mono (Q := fun v s₁ => ∃ t, v = .str (if fs.length = 0 then headB else headC) t ∧ Keep σ.heap s₁.heap ∧ s₁.gens = σ.gens ∧ s₁.os = σ.os) (E := fun _ _ => False) ?_ ?_ (fun _ _ f => f)
    · refine wpAny_IfExp ?_
      refine wpAny_isTrue_Compare1 ?_
      with_reducible refine V.ld Fσ ?_ (ng j1) ?_
      · rfl
      refine List_ ?_
      refine lit_end ?_
      refine wpAny_newList ?_ (by decide)
      refine eq_nil (j5.isList.push _) ⟨_, Heap.get?_push_size _ rfl, rfl, _, rfl⟩ (by have := R.units; omega) ?_
      refine wpAny_truthy_bool ?_
      by_cases hc : fs.length = 0
      · rw [show (fs.toArray.size == 0) = true by simp [hc], if_pos rfl, if_pos hc]
        refine wpAny_mkText ⟨_, rfl, fun b o e => Heap.get?_push_of_some _ e, rfl, rfl⟩
      · rw [show (fs.toArray.size == 0) = false by simp; exact fun e => hc (by rw [e]; rfl), if_neg (by simp), if_neg hc]
        refine wpAny_mkText ⟨_, rfl, fun b o e => Heap.get?_push_of_some _ e, rfl, rfl⟩
    rintro v s₁ ⟨th, rfl, hk1, hg1, ho1⟩
    obtain ⟨hp1, g1, d1, tk1, o1⟩ := s₁
    simp only at hk1 hg1 ho1
    subst hg1 ho1
    refine ⟨_, _, Fσ.keeps hk1, fun h12 tk12 F12 q12 sb12 => ?_⟩
    try dsimp only at F12 q12 sb12 ⊢
    have qσ : SeqK σ.heap h12 := (SeqK.of_keep hk1).trans q12
    have hi12 : Hi h11.objs.size σ.heap h12 := (Hi.keep hk1).trans (Hi.same sb12 F11.ns.lt)
    have hp : i + 1 < rs.length := by omega
    obtain ⟨tb, gb⟩ := strs_get hlb (p := i + 1) (by rw [List.length_map]; exact hp)
    refine wpAny_execs_cons ?_
    refine wpAny_If ?_
    refine wpAny_mono (Q := fun r s₁ => r = ((Txt.slice (getS (rs.map stripD) (i + 1)) none (some 2) == (if fs.length = 0 then headB else headC)) && takenF ((rs.map stripD).take (i + 1 + 1)) (!(fs.toArray.size == 0))) ∧
      Keep h12 s₁.heap ∧ (AllBare σ.gens → AllBare s₁.gens) ∧ s₁.os = σ.os) (E := fun _ _ => False) ?_ ?_ (fun _ _ f => f)
    · refine isTrue_and (wpAny_isTrue_Compare1 ?_)
      refine st_ns (fun _ _ => rfl) ?_
      refine ev_item (fun _ _ => .inl rfl) ?_
      with_reducible refine V.lc _ F12 ?_ hcb j3 ?_
      · rfl
      with_reducible refine V.ld F12 ?_ (ng yes) ?_
      · rfl
      refine ⟨Db, _, _, _, _, rfl, rfl, (qσ.plain j7).isList, by omega, by omega, by rw [Int.toNat_natCast]; exact gb, ?_⟩
      refine ⟨_, _, rfl, Nat.le_trans (getS_len hrb) (by decide), wpAny_Constant_int ⟨_, _, rfl, fun h13 t13 tk13 k13 => ?_⟩⟩
      try dsimp only at k13 ⊢
      with_reducible refine V.ld (F12.keeps k13) ?_ yes ?_
      · rfl
      refine PyProof.Rows.eq_str (wpAny_truthy_bool ?_)
      cases hc1 : (Txt.slice (getS (rs.map stripD) (i + 1)) none (some 2) == (if fs.length = 0 then headB else headC)) with
      | false =>
        rw [if_neg (by simp)]
        exact ⟨rfl, k13, fun h => h, rfl⟩
      | true =>
        rw [if_pos rfl]
        refine isTrue_and (isTrue_plain ?_)
        with_reducible refine V.o2 G (hbs (F12.keeps k13).keep) ?_ G.g_taken ?_ ?_ ?_
        · rfl
        · exact G.k95
        · rfl
        refine ev_lslice (fun _ _ => rfl) ?_
        with_reducible refine V.lc _ (F12.keeps k13) ?_ hcb j3 ?_
        · rfl
        refine evalPart_none_step (evalPart_some_step ?_)
        refine wpAny_BinOp ?_
        with_reducible refine V.ld (F12.keeps k13) ?_ (ng yes) ?_
        · rfl
        refine wpAny_Constant_int ?_
        refine PyProof.Rows.add_int ?_
        rw [show ((i + 1 : Nat) : Int) + 1 = ((i + 1 + 1 : Nat) : Int) by omega]
        try dsimp only
        refine ⟨Db, _, _, _, rfl, ((qσ.plain j7).keeps k13).isList, by unfold strValues; simp; omega, .none, .int _ _, fun Ds h14 k14 pl14 _ => ?_⟩
        rw [slicePick_upto', strs_take] at pl14
        try dsimp only at k14 ⊢
        have k1214 : Keep h12 h14 := fun b o e => k14 b o (k13 b o e)
        refine wpAny_Compare1 ?_
        with_reducible refine V.ld (F12.keeps k1214) ?_ (ng (ng j1)) ?_
        · rfl
        refine List_ ?_
        refine lit_end ?_
        refine wpAny_newList ?_ (by decide)
        refine ne_nil (((qσ.plain j5).keeps k1214).isList.push _) ⟨_, Heap.get?_push_size _ rfl, rfl, _, rfl⟩ (by have := R.units; omega) ?_
        refine ⟨hbs fun b o e => Heap.get?_push_of_some _ (k1214 b o (F12.keep b o e)), ?_⟩
        refine taken_call G (hbs fun b o e => Heap.get?_push_of_some _ (k1214 b o (F12.keep b o e))) R Ds (lb.take (i + 1 + 1)) _ ?_ ?_ ?_ ?_ fun s' g => ?_
        · exact pl14.isList.push _
        · simp; omega
        · intro y hy
          rw [List.map_take, hlb] at hy
          exact Nat.le_trans (hrb y (List.mem_of_mem_take hy)) (by decide)
        · rw [List.map_take, hlb]
          exact hj _
        refine wpAny_truthy_bool ?_
        rw [List.map_take, hlb]
        have fin : ∀ r, r = takenF ((rs.map stripD).take (i + 1 + 1)) (!(fs.toArray.size == 0)) → (r = (true && takenF ((rs.map stripD).take (i + 1 + 1)) (!(fs.toArray.size == 0))) ∧
          Keep h12 s'.heap ∧ (AllBare σ.gens → AllBare s'.gens) ∧ s'.os = σ.os) := fun r hr => ⟨by rw [hr, Bool.true_and], fun b o e => g.heap b o (Heap.get?_push_of_some _ (k1214 b o e)), g.bare, g.os⟩
        cases hc2 : takenF ((rs.map stripD).take (i + 1 + 1)) (!(fs.toArray.size == 0)) with
        | false =>
          rw [if_neg (by simp)]
          rw [hc2] at fin
          exact fin _ rfl
        | true =>
          rw [if_pos rfl]
          rw [hc2] at fin
          exact isTrue_and_nil (fin _ rfl)
    rintro r s₁ ⟨hr1, hk1, hg1, ho1⟩
    obtain ⟨hp1, g1, d1, tk1, o1⟩ := s₁
    simp only at hk1 hg1 ho1
    have F13 := F12.keeps hk1
    have q13 : SeqK σ.heap hp1 := qσ.trans (SeqK.of_keep hk1)
    have hi13 : Hi h11.objs.size σ.heap hp1 := hi12.trans (Hi.keep hk1)
    have hDf11 : Df < h11.objs.size := pf11.lt
    have pf13 := q13.plain j5
    have pr13 := q13.plain j6
    have pb13 := q13.plain j7
    have pd13 := q13.plain j8
    clear F12 qσ hi12 hk1 sb12 q12
    rcases j9 with ⟨hf, hib⟩ | ⟨tb0, hf, hbi, hic⟩
    · have hr2 : r = condB (rs.map stripD) (i + 1) := by rw [hr1, hf]; rfl
      by_cases hpb : i + 1 = b
      · rw [hpb, hB] at hr2
        rw [hr2, if_pos rfl]
        refine wpAny_execs_cons ?_
        refine wpAny_Expr ?_ V.inter rfl
        refine wpAny_Call_append rfl rfl rfl rfl ?_
        with_reducible refine V.ld F13 ?_ (ng (ng j1)) ?_
        · rfl
        refine ⟨Df, _, rfl, pf13, ?_⟩
        with_reducible refine V.ld F13 ?_ (ng yes) ?_
        · rfl
        refine list_append_plainL pf13 (fun h14 hl14 sb14 => ?_) (by rw [List.size_toArray]; exact Nat.le_trans hfs (by decide))
        have F14 := F13.list pf13 frf sb14
        try dsimp only at hl14 sb14 ⊢
        refine wpAny_execs_cons ?_
        refine wpAny_If ?_
        refine wpAny_isTrue_Compare1 ?_
        with_reducible refine V.b1 G (hbs F14.keep) ?_ G.g_len ?_ ?_
        · rfl
        · rfl
        with_reducible refine V.ld F14 ?_ (ng (ng j1)) ?_
        · rfl
        refine call_len_list hl14.isList (by rw [hf]; simp) ?_
        refine wpAny_Constant_int ?_
        refine eq_int (wpAny_truthy_bool ?_)
        rw [hf]
        rw [if_neg (by simp)]
        refine wpAny_execs_nil (wpAny_execs_nil (wpAny_execs_nil ?_))
        refine ⟨hi13.trans (Hi.same sb14 hDf11), _, _, F14, [.int ((i + 1 : Nat) : Int) tp], ng (ng j1), j2, j3, j4, ?_, ?_, ?_, ?_, ?_, ?_, ?_⟩
        · rw [hf] at hl14
          exact hl14
        · exact pr13.extBut sb14.extBut (Nat.ne_of_lt hrf)
        · exact pb13.extBut sb14.extBut (Nat.ne_of_lt hbf)
        · exact pd13.extBut sb14.extBut (Nat.ne_of_lt hdf)
        · exact .inr ⟨tp, by rw [hpb], by omega, by omega⟩
        · exact fun h => hg1 (j10 h)
        · exact ho1.trans j11
      · rw [hB0 (i + 1) (by omega) (by omega)] at hr2
        rw [hr2, if_neg (by simp)]
        refine wpAny_execs_nil (wpAny_execs_nil ?_)
        exact ⟨hi13, _, _, F13, fs, ng (ng j1), j2, j3, j4, pf13, pr13, pb13, pd13, .inl ⟨hf, by omega⟩, fun h => hg1 (j10 h), ho1.trans j11⟩
    · have hr2 : r = condC (rs.map stripD) (i + 1) := by rw [hr1, hf]; rfl
      by_cases hpc : i + 1 = c
      · rw [hpc, hC] at hr2
        rw [hr2, if_pos rfl]
        refine wpAny_execs_cons ?_
        refine wpAny_Expr ?_ V.inter rfl
        refine wpAny_Call_append rfl rfl rfl rfl ?_
        with_reducible refine V.ld F13 ?_ (ng (ng j1)) ?_
        · rfl
        refine ⟨Df, _, rfl, pf13, ?_⟩
        with_reducible refine V.ld F13 ?_ (ng yes) ?_
        · rfl
        refine list_append_plainL pf13 (fun h14 hl14 sb14 => ?_) (by rw [List.size_toArray]; exact Nat.le_trans hfs (by decide))
        have F14 := F13.list pf13 frf sb14
        try dsimp only at hl14 sb14 ⊢
        refine wpAny_execs_cons ?_
        refine wpAny_If ?_
        refine wpAny_isTrue_Compare1 ?_
        with_reducible refine V.b1 G (hbs F14.keep) ?_ G.g_len ?_ ?_
        · rfl
        · rfl
        with_reducible refine V.ld F14 ?_ (ng (ng j1)) ?_
        · rfl
        refine call_len_list hl14.isList (by rw [hf]; simp) ?_
        refine wpAny_Constant_int ?_
        refine eq_int (wpAny_truthy_bool ?_)
        rw [hf]
        rw [if_pos (by simp)]
        refine wpAny_execs_cons (wpAny_Break ?_)
        dsimp only
        have pf14 : PlainL h14 Df #[.int (b : Nat) tb0, .int (c : Nat) tp] := by
          rw [hf, hpc] at hl14
          exact hl14
        have pr14 := pr13.extBut sb14.extBut (Nat.ne_of_lt hrf)
        have pb14 := pb13.extBut sb14.extBut (Nat.ne_of_lt hbf)
        have pd14 := pd13.extBut sb14.extBut (Nat.ne_of_lt hdf)
        clear hl14 sb14 pf13 pr13 pb13 pd13 F13 q13 hi13
        have hg14 : AllBare s.gens → AllBare g1 := fun h => hg1 (j10 h)
        have ho14 : o1 = s.os := ho1.trans j11
        clear hg1 ho1 j10 j11 hr1 hr2 hkeep
        refine wpAny_execs_cons ?_
        refine wpAny_If ?_
        refine wpAny_isTrue_Compare1 ?_
        with_reducible refine V.b1 G (hbs F14.keep) ?_ G.g_len ?_ ?_
        · rfl
        · rfl
        with_reducible refine V.ld F14 ?_ (ng (ng j1)) ?_
        · rfl
        refine call_len_list pf14.isList (by simp) ?_
        refine wpAny_Constant_int ?_
        refine lt_int (wpAny_truthy_bool ?_)
        rw [if_neg (by simp)]
        refine wpAny_execs_nil ?_
        dsimp only
        refine wpAny_execs_cons ?_
        with_reducible refine V.two (h₀ := s.heap) R.handled ?_ ?_ ?_ ?_ ?_
        · rfl
        · rfl
        · rfl
        · rfl
        with_reducible refine V.ld F14 ?_ (ng (ng j1)) ?_
        · rfl
        refine ⟨Df, _, _, _, _, rfl, pf14.isList, F14, fun h15 tk15 F15 q15 => ?_⟩
        try dsimp only at F15 q15 ⊢
        have pr15 := q15.plain pr14
        have pb15 := q15.plain pb14
        have pd15 := q15.plain pd14
        clear pr14 pb14 pd14 pf14 q15 F14
        have hbl : b < rs.length := by omega
        obtain ⟨t1, g1'⟩ := strs_get hlb (p := b) (by rw [List.length_map]; exact hbl)
        refine wpAny_execs_cons ?_
        refine wpAny_Assign_Subscript ?_ sw_Bin
        refine wpAny_BinOp (wpAny_mkText ?_)
        refine st_sn (fun _ _ => rfl) ?_
        refine ev_item (fun _ _ => .inl rfl) ?_
        with_reducible refine V.lc _ F15 ?_ hcb j3 ?_
        · rfl
        with_reducible refine V.ld F15 ?_ (ng yes) ?_
        · rfl
        refine ⟨Db, _, _, _, _, rfl, rfl, pb15.isList, by omega, by omega, by rw [Int.toNat_natCast]; exact g1', ?_⟩
        refine ⟨_, _, rfl, Nat.le_trans (getS_len hrb) (by decide), wpAny_Constant_int ⟨_, _, rfl, fun h16 t16 tk16 k16 => ?_⟩⟩
        try dsimp only at k16 ⊢
        have lpa : (Str.ofString "(\")\"" : Str) = pieceA := by decide +kernel
        have lpb : (Str.ofString "\"((\")" : Str) = pieceB := by decide +kernel
        have lpc : (Str.ofString ".\")\"" : Str) = dotC := by decide +kernel
        rw [lpa]
        have hsl5 : (Txt.slice (getS (rs.map stripD) b) (some 5) none).length ≤ 100 := Nat.le_trans (Txt.slice_le _ _ _) (getS_len hrb)
        refine PyProof.Rows.add_str (fun t17 tk17 => ?_) (by have : pieceA.length = 4 := rfl; have h2 : 104 ≤ sizeLine := (by decide); omega)
        have F16 := F15.keeps k16
        have pb16 := pb15.keeps k16
        with_reducible refine V.lc _ F16 ?_ hcb j3 ?_
        · rfl
        with_reducible refine V.ld F16 ?_ (ng yes) ?_
        · rfl
        refine wpAny_setItem_list pb16.isList (by omega) (by omega) (by unfold strValues; simp; omega) fun h17 hl17 sb17 => ?_
        rw [Int.toNat_natCast, strs_set] at hl17
        have F17 := F16.listI pb16.isList frb sb17
        try dsimp only at F17 hl17 sb17 ⊢
        have pr17 := (pr15.keeps k16).extBut sb17.extBut hrb'
        have pd17 := (pd15.keeps k16).extBut sb17.extBut (Ne.symm hdb')
        have hlB : (lb.set b (pieceA ++ Txt.slice (getS (rs.map stripD) b) (some 5) none, t17)).map (·.1) = bareB (rs.map stripD) b := by
          rw [List.map_set, hlb]
          rfl
        obtain ⟨lB, hlBd⟩ : ∃ lB, lB = lb.set b (pieceA ++ Txt.slice (getS (rs.map stripD) b) (some 5) none, t17) := ⟨_, rfl⟩
        rw [← hlBd] at hlB hl17
        have hBlen : (bareB (rs.map stripD) b).length = rs.length := by unfold bareB; simp
        have hlBn : lB.length = rs.length := by rw [hlBd]; simp [hlbn]
        have hrB : ∀ y ∈ bareB (rs.map stripD) b, y.length ≤ 104 := by
          intro y hy
          rcases List.mem_or_eq_of_mem_set hy with h | h
          · exact Nat.le_trans (hrb y h) (by decide)
          · rw [h, Str.length_append]
            have : pieceA.length = 4 := rfl
            omega
        clear pr15 pd15 pb15 pb16 F15 F16 sb17 k16
        obtain ⟨t2, g2'⟩ := strs_get hlB (p := c) (by rw [hBlen]; exact hcn)
        refine wpAny_execs_cons ?_
        refine wpAny_Assign_Subscript ?_ sw_Bin
        refine wpAny_BinOp (wpAny_mkText ?_)
        refine st_sn (fun _ _ => rfl) ?_
        refine ev_item (fun _ _ => .inl rfl) ?_
        with_reducible refine V.lc _ F17 ?_ hcb j3 ?_
        · rfl
        with_reducible refine V.ld F17 ?_ yes ?_
        · rfl
        refine ⟨Db, _, _, _, _, rfl, rfl, hl17, by omega, by omega, by rw [Int.toNat_natCast]; exact g2', ?_⟩
        refine ⟨_, _, rfl, Nat.le_trans (getS_len hrB) (by decide), wpAny_Constant_int ⟨_, _, rfl, fun h18 t18 tk18 k18 => ?_⟩⟩
        try dsimp only at k18 ⊢
        rw [lpb]
        have hsl3 : (Txt.slice (getS (bareB (rs.map stripD) b) c) (some 3) none).length ≤ 104 := Nat.le_trans (Txt.slice_le _ _ _) (getS_len hrB)
        refine PyProof.Rows.add_str (fun t19 tk19 => ?_) (by have : pieceB.length = 5 := rfl; have h2 : 109 ≤ sizeLine := (by decide); omega)
        have F18 := F17.keeps k18
        have pb18 : h18.IsList Db (strValues lB).toArray := by obtain ⟨o, e, r⟩ := hl17; exact ⟨o, k18 _ o e, r⟩
        with_reducible refine V.lc _ F18 ?_ hcb j3 ?_
        · rfl
        with_reducible refine V.ld F18 ?_ yes ?_
        · rfl
        refine wpAny_setItem_list pb18 (by omega) (by omega) (by unfold strValues; simp; omega) fun h19 hl19 sb19 => ?_
        rw [Int.toNat_natCast, strs_set] at hl19
        have F19 := F18.listI pb18 frb sb19
        try dsimp only at F19 hl19 sb19 ⊢
        have pr19 := (pr17.keeps k18).extBut sb19.extBut hrb'
        have pd19 := (pd17.keeps k18).extBut sb19.extBut (Ne.symm hdb')
        have hlC : (lB.set c (pieceB ++ Txt.slice (getS (bareB (rs.map stripD) b) c) (some 3) none, t19)).map (·.1) = bare2 (rs.map stripD) b c := by
          rw [List.map_set, hlB]
          rfl
        obtain ⟨lC, hlCd⟩ : ∃ lC, lC = lB.set c (pieceB ++ Txt.slice (getS (bareB (rs.map stripD) b) c) (some 3) none, t19) := ⟨_, rfl⟩
        rw [← hlCd] at hlC hl19
        have hClen : (bare2 (rs.map stripD) b c).length = rs.length := by unfold bare2 bareC; simp [hBlen]
        have hlCn : lC.length = rs.length := by rw [hlCd]; simp [hlBn]
        have hrC : ∀ y ∈ bare2 (rs.map stripD) b c, y.length ≤ 110 := by
          intro y hy
          rcases List.mem_or_eq_of_mem_set hy with h | h
          · exact Nat.le_trans (hrB y h) (by decide)
          · rw [h, Str.length_append]
            have : pieceB.length = 5 := rfl
            omega
        clear pr17 pd17 pb18 F17 F18 sb19 k18 hl17
        refine wpAny_execs_cons ?_
        with_reducible refine asg_rng (h₀ := s.heap) (cl := [(Str.ofString "dots", s.heap.objs.size + 1 + 1 + 1), (Str.ofString "bare", s.heap.objs.size + 1 + 1)]) V 1 (fun j y => ∃ t, y = .str (Txt.mul dotS (dN rs (j + 1) : Nat) ++ getS (bare2 (rs.map stripD) b c) (j + 1)) t) R.handled ?clos ?cell ?kind ?names ?hx ?hy ?nf ?sw ?iter ?hs
        case hs => intro _; rfl
        case cell => decide
        case kind => rfl
        case names => decide
        case hx => rfl
        case hy => rfl
        case nf => rfl
        case sw =>
          show pure (env.blockKind == .function && env.kindOf (Str.ofString "kept") == some .local && _ && _) = pure true
          have : env.blockKind = .function := by
            have := V.fn
            unfold Env.blockKind
            rw [this]
            rfl
          rw [V.kind, this]
          rfl
        case clos =>
          have hco1 : cellOf env (Str.ofString "bare") = pure (s.heap.objs.size + 1 + 1) := by unfold cellOf; rw [hcb]
          have hco2 : cellOf env (Str.ofString "dots") = pure (s.heap.objs.size + 1 + 1 + 1) := by unfold cellOf; rw [hcd]
          unfold closureFor
          simp only [List.forIn_cons, List.forIn_nil, hco1, hco2]
          rfl
        with_reducible refine V.r2 G (hbs F19.keep) ?_ ?_ ?_
        · rfl
        · rfl
        refine wpAny_Constant_int ?_
        with_reducible refine V.b1 G (hbs F19.keep) ?_ G.g_len ?_ ?_
        · rfl
        · rfl
        with_reducible refine V.lc _ F19 ?_ hcr j2 ?_
        · rfl
        refine call_len_list pr19.isList (by unfold strValues; simp; omega) ?_
        rw [show (strValues lr).toArray.size = rs.length by unfold strValues; simp [hlrn]]
        try dsimp only
        refine ⟨_, _, _, _, rfl, rfl, fun rg h20 tk20 v1 v2 v3 hr20 hk20 _ => ?_⟩
        try dsimp only at hr20 hk20 ⊢
        have hl20 : h20.IsList Db (strValues lC).toArray := by obtain ⟨o, e, r⟩ := hl19; exact ⟨o, hk20 _ o e, r⟩
        have pd20 := pd19.keeps hk20
        have F20 := F19.keeps hk20
        refine ⟨rg, rs.length - 1, v1, v2, v3, _, _, rfl, by rw [show (1 : Int) + ((rs.length - 1 : Nat) : Int) = (rs.length : Nat) by omega]; exact hr20, by decide, by decide, by omega, F20, fun C j t₃ s₃ m₃ E' hj k3 _ hn3 hm3 => ?_, fun Dk h21 tk21 yk hDk F21 q21 pk hyk hkj => ?_⟩
        · have VC := V.comp (scope := Scope.mk .function [(Str.ofString ".0", .local), (Str.ofString "place", .local), (Str.ofString "bare", .free), (Str.ofString "dots", .free)] false false []) (cl := [(Str.ofString "dots", s.heap.objs.size + 1 + 1 + 1), (Str.ofString "bare", s.heap.objs.size + 1 + 1)]) (C := C) rfl
          have hn3' : s₃.heap.Ns (compEnvC (Scope.mk .function [(Str.ofString ".0", .local), (Str.ofString "place", .local), (Str.ofString "bare", .free), (Str.ofString "dots", .free)] false false []) [(Str.ofString "dots", s.heap.objs.size + 1 + 1 + 1), (Str.ofString "bare", s.heap.objs.size + 1 + 1)] C env).locals m₃ := hn3
          have cb := (F20.cel hcb j3).keeps k3
          have cd := (F20.cel hcd j4).keeps k3
          obtain ⟨y, gy, ty, rfl⟩ := hyj (j + 1) (by omega)
          obtain ⟨tb, gb⟩ := strs_get hlC (p := j + 1) (by rw [hClen]; omega)
          have hm3' : m₃ (Str.ofString "place") = some (.int ((j + 1 : Nat) : Int) t₃) := by rw [hm3, show (1 : Int) + (j : Nat) = ((j + 1 : Nat) : Int) by omega]
          have mo := mul_ok (dN_le hr (j + 1))
          refine wpAny_BinOp (wpAny_BinOp (wpAny_mkText ?_))
          refine ev_item (fun _ _ => .inl rfl) ?_
          with_reducible refine VC.ce ?_ ?_ cd ?_
          · rfl
          · rfl
          with_reducible refine VC.nm hn3' ?_ hm3' ?_
          · rfl
          refine ⟨Dd, _, _, _, _, rfl, rfl, (pd20.keeps k3).isList, by omega, by omega, by rw [Int.toNat_natCast]; exact gy, ?_⟩
          rw [ldot]
          refine SB.mul mo.1 fun t5 k5 => ?_
          try dsimp only
          refine ev_item (fun _ _ => .inl rfl) ?_
          with_reducible refine VC.ce ?_ ?_ cb ?_
          · rfl
          · rfl
          with_reducible refine VC.nm hn3' ?_ hm3' ?_
          · rfl
          refine ⟨Db, _, _, _, _, rfl, rfl, ?_, by omega, by omega, by rw [Int.toNat_natCast]; exact gb, ?_⟩
          · obtain ⟨o, e, r⟩ := hl20
            exact ⟨o, k3 _ o e, r⟩
          refine PyProof.Rows.add_str (fun t6 k6 => ⟨⟨t6, rfl⟩, _, _, rfl, fun _ _ e => e⟩) ?_
          have h1 := getS_len (p := j + 1) hrC
          have h2 : 210 ≤ sizeLine := (by decide)
          omega
        obtain ⟨lk, hlk1, hlk⟩ := arr_strs hyk hkj
        rw [hlk1] at pk
        have hlkn : lk.length = rs.length - 1 := by rw [← List.length_map (f := (·.1)), hlk]; simp
        have frk : s.heap.get? Dk = none := none_of_keep F20.keep hDk
        have hbk : Db ≠ Dk := by
          rintro rfl
          obtain ⟨o, e, _⟩ := hl20
          rw [hDk] at e
          cases e
        have hdk : Dd ≠ Dk := ne_of_plain pd20 hDk
        have hl21 := q21.list hl20
        have pd21 := q21.plain pd20
        clear hl19 hl20 pd19 pd20 F19 F20 q21 hk20 hr20 pr19
        try dsimp only at F21 ⊢
        obtain ⟨t0, g0⟩ := strs_get hlC (p := 0) (by rw [hClen]; omega)
        refine wpAny_execs_cons ?_
        refine wpAny_Expr ?_ V.inter rfl
        refine wpAny_Call_append rfl rfl rfl rfl ?_
        with_reducible refine V.ld F21 ?_ yes ?_
        · rfl
        refine ⟨Dk, _, rfl, pk, ?_⟩
        refine wpAny_BinOp (wpAny_mkText ?_)
        refine st_sn (fun _ _ => rfl) ?_
        refine ev_item (fun _ _ => .inl rfl) ?_
        with_reducible refine V.lc _ F21 ?_ hcb j3 ?_
        · rfl
        refine wpAny_Constant_int ?_
        refine ⟨Db, _, _, _, _, rfl, rfl, hl21, by decide, by decide, g0, ?_⟩
        refine ⟨_, _, rfl, Nat.le_trans (getS_len hrC) (by decide), wpAny_Constant_int ⟨_, _, rfl, fun h22 t22 tk22 k22 => ?_⟩⟩
        try dsimp only at k22 ⊢
        rw [lpc]
        have hsl4 : (Txt.slice (getS (bare2 (rs.map stripD) b c) 0) (some 4) none).length ≤ 110 := Nat.le_trans (Txt.slice_le _ _ _) (getS_len hrC)
        refine PyProof.Rows.add_str (fun t23 tk23 => ?_) (by have : dotC.length = 4 := rfl; have h2 : 114 ≤ sizeLine := (by decide); omega)
        refine list_append_plainL (pk.keeps k22) (fun h23 hl23 sb23 => ?_) (by rw [List.size_toArray]; unfold strValues; rw [List.length_map, hlkn]; exact Nat.le_trans (by omega : rs.length - 1 ≤ 20) (by decide))
        have F23 := (F21.keeps k22).list (pk.keeps k22) frk sb23
        try dsimp only at F23 hl23 sb23 ⊢
        have pk23 : PlainL h23 Dk (strValues (lk ++ [(dotC ++ Txt.slice (getS (bare2 (rs.map stripD) b c) 0) (some 4) none, t23)])).toArray := by
          have : (strValues lk).toArray.push (Value.str (dotC ++ Txt.slice (getS (bare2 (rs.map stripD) b c) 0) (some 4) none) t23) = (strValues (lk ++ [(dotC ++ Txt.slice (getS (bare2 (rs.map stripD) b c) 0) (some 4) none, t23)])).toArray := by
            unfold strValues
            simp
          rw [← this]
          exact hl23
        have hlk2 : (lk ++ [(dotC ++ Txt.slice (getS (bare2 (rs.map stripD) b c) 0) (some 4) none, t23)]).map (·.1) = keptP rs b c := by
          rw [List.map_append, hlk]
          rfl
        obtain ⟨lK, hlKd⟩ : ∃ lK, lK = lk ++ [(dotC ++ Txt.slice (getS (bare2 (rs.map stripD) b c) 0) (some 4) none, t23)] := ⟨_, rfl⟩
        rw [← hlKd] at pk23 hlk2
        have hKlen : (keptP rs b c).length ≤ 20 := by unfold keptP; simp; omega
        have pd23 := (pd21.keeps k22).extBut sb23.extBut hdk
        clear hl23 sb23 pk k22 pd21 hl21 F21
        obtain ⟨yb, gyb, tyb, rfl⟩ := hyj b (by omega)
        obtain ⟨yc, gyc, tyc, rfl⟩ := hyj c (by omega)
        have lcr : (Str.ofString "\x0d" : Str) = crS := by decide +kernel
        have lnl : (Str.ofString "\n" : Str) = nlS := by decide +kernel
        refine wpAny_execs_cons (wpAny_Return_some ?_)
        refine Tuple_ ?_
        refine lit_any st_call ?_
        with_reducible refine V.o1 G (hbs F23.keep) ?_ G.g_quote ?_ ?_ ?_
        · rfl
        · exact G.k83
        · rfl
        refine wpAny_BinOp (Call_method1 rfl rfl rfl (wpAny_mkText (SB.join ?_)))
        with_reducible refine V.ld F23 ?_ yes ?_
        · rfl
        rw [lcr]
        refine ⟨Dk, lK, rfl, pk23.isList, _, hlk2, join_ok (Nat.le_trans hKlen (by decide)) hk2 (by decide), fun t24 k24 => ?_⟩
        try dsimp only
        refine wpAny_mkText ?_
        rw [lnl]
        have hkk : (Txt.join crS (keptP rs b c)).length + nlS.length ≤ 240 := by rw [← Str.length_append]; exact hk
        refine PyProof.Rows.add_str (fun t25 tk25 => ?_) (Nat.le_trans hkk (by decide))
        refine ⟨hbs F23.keep, ?_⟩
        refine quote_call G (hbs F23.keep) ⟨R.handled, by have := R.depth; omega, by have := R.units; omega⟩ _ _ hk fun t26 s26 g26 => ?_
        have F26 := F23.keeps g26.heap
        have pd26 := pd23.keeps g26.heap
        refine lit_any st_name ?_
        with_reducible refine V.ld F26 ?_ (ng (ng yes)) ?_
        · rfl
        refine lit_any st_name ?_
        with_reducible refine V.ld F26 ?_ (ng yes) ?_
        · rfl
        refine lit_any st_bin ?_
        refine wpAny_BinOp ?_
        refine ev_item (fun _ _ => .inl rfl) ?_
        with_reducible refine V.lc _ F26 ?_ hcd j4 ?_
        · rfl
        with_reducible refine V.ld F26 ?_ (ng (ng yes)) ?_
        · rfl
        refine ⟨Dd, _, _, _, _, rfl, rfl, pd26.isList, by omega, by omega, by rw [Int.toNat_natCast]; exact gyb, ?_⟩
        refine wpAny_Constant_int ?_
        refine PyProof.Rows.sub_int ?_
        refine lit_any st_bin ?_
        refine wpAny_BinOp ?_
        refine ev_item (fun _ _ => .inl rfl) ?_
        with_reducible refine V.lc _ F26 ?_ hcd j4 ?_
        · rfl
        with_reducible refine V.ld F26 ?_ (ng yes) ?_
        · rfl
        refine ⟨Dd, _, _, _, _, rfl, rfl, pd26.isList, by omega, by omega, by rw [Int.toNat_natCast]; exact gyc, ?_⟩
        refine wpAny_Constant_int ?_
        refine PyProof.Rows.sub_int ?_
        refine lit_end ?_
        try dsimp only
        refine wpAny_newTuple ?_ (Nat.le_trans (Nat.le_of_eq rfl) (show 5 ≤ sizeLine by decide))
        try dsimp only
        refine hq _ _ _ _ _ _ _ ⟨fun b o e => Heap.get?_push_of_some _ (F26.keep b o e), ?_, ?_⟩ ⟨_, Heap.get?_push_size _ rfl, rfl, _, rfl⟩
        · exact g26.os.trans ho14
        · exact fun h => g26.bare (hg14 h)
      · rw [hC0 (i + 1) (by omega) (by omega)] at hr2
        rw [hr2, if_neg (by simp)]
        refine wpAny_execs_nil (wpAny_execs_nil ?_)
        exact ⟨hi13, _, _, F13, fs, ng (ng j1), j2, j3, j4, pf13, pr13, pb13, pd13, .inr ⟨tb0, hf, by omega, by omega⟩, fun h => hg1 (j10 h), ho1.trans j11⟩
end
end Mine
end
section
open PySem PySem.W PyProof.Rows PySem.Spec PySem.Calls
set_option maxHeartbeats 4000000
namespace Mine
section
variable {w : World} {A : Around} {s : Shared} {env : Env} {E : Value → Shared → Prop}
/-- an unfiltered comprehension over a list of tuples of three -/
theorem comp_tri {elt iter : PySem.Expr} {x y z : Str} {p1 p2 p3 tp : Pos} {tk} {scope : Scope} {cl : List (Str × Addr)} {pos : Pos} {Q : Value → Shared → Prop} (G : Nat → Value → Prop) (hA : A.handled = none)
    (hclos : closureFor scope env = pure cl) (hcell : ∀ y ∈ scope.names, y.2 ≠ .cell) (hkind : scope.kind = .function)
    (hnames : ∀ y ∈ scope.names, y.2 = .local → scope.names.lookup y.1 = some .local) (hx : scope.names.lookup x = some .local) (hy : scope.names.lookup y = some .local) (hz : scope.names.lookup z = some .local)
    (hxy : x ≠ y) (hxz : x ≠ z) (hyz : y ≠ z)
    (h : wpAny (model prog w) A (eval iter env) (fun r s₁ => ∃ (l : Addr) (items : Array Value), r = .ref l ∧ s₁.heap.IsList l items ∧ items.size ≤ 1000 ∧
      (∀ j, j < items.size → ∃ T a b c, items[j]? = some (.ref T) ∧ s₁.heap.IsTuple T #[a, b, c] ∧
        ∀ C s₃ m₃ E', Keep s₁.heap s₃.heap → s₃.heap.Ns C m₃ → m₃ x = some a → m₃ y = some b → m₃ z = some c → wpAny (model prog w) A (eval elt (compEnvC scope cl C env)) (fun y s₄ => G j y ∧ Keeps s₃ s₄) E' s₃) ∧
      (∀ D h' tk ys, s₁.heap.get? D = none → Keep s₁.heap h' → PlainL h' D ys → ys.size = items.size → (∀ j, j < items.size → ∃ y, ys[j]? = some y ∧ G j y) → Q (.ref D) { s₁ with heap := h', toks := tk })) E s)
    (hs : ∀ x, foldedSetIterable iter env x = pure x := by intro _; rfl) :
    wpAny (model prog w) A (eval (.ListComp elt [⟨.Tuple [.Name x p1, .Name y p2, .Name z p3] tk tp, iter, [], 0⟩] scope pos) env) Q E s := by
  rw [eval_ListComp]
  refine wpAny_comprehension_free (use := none) rfl hs hclos hkind hnames (wpAny_mono h (fun xv s₁ h₁ => ?_) fun _ _ e => e)
  obtain ⟨l, items, rfl, hl, hn1, turn, fin⟩ := h₁
  have hlt : l < s₁.heap.objs.size := by obtain ⟨o, e, _⟩ := hl; exact Heap.lt_size e
  refine wpAny_pyIter_list hl ?_
  refine wpAny_newObj_type (wpAny_newFunctionEnv hcell (by intro y hy; simp at hy) (fun h₁ hns₁ hsb₁ => ?_) hkind)
  dsimp only at hns₁ hsb₁ ⊢
  obtain ⟨I, hI⟩ : ∃ I, I = s₁.heap.objs.size := ⟨_, rfl⟩
  obtain ⟨H1, hH1⟩ : ∃ H1, H1 = s₁.heap.push { cls := .type "list_iterator", data := .fields #[.ref l, .int 0 0] } := ⟨_, rfl⟩
  rw [← hH1] at hns₁ hsb₁ ⊢
  rw [← hI]
  obtain ⟨D, hD⟩ : ∃ D, D = H1.objs.size := ⟨_, rfl⟩
  obtain ⟨H2, hH2⟩ : ∃ H2, H2 = H1.push { cls := .type "list", dict := none, data := .seq ([] : List Value).toArray } := ⟨_, rfl⟩
  rw [← hH2] at hns₁ hsb₁ ⊢
  obtain ⟨C, hC⟩ : ∃ C, C = H2.objs.size := ⟨_, rfl⟩
  rw [← hC] at hns₁ hsb₁ ⊢
  rw [← hD]
  have eD : D = I + 1 := by rw [hD, hH1, Heap.size_push, hI]
  have eC : C = D + 1 := by rw [hC, hH2, Heap.size_push, hD]
  have hID : I ≠ D := by rw [eD]; exact Nat.ne_of_lt (Nat.lt_succ_self _)
  have hDC : D ≠ C := by rw [eC]; exact Nat.ne_of_lt (Nat.lt_succ_self _)
  have hIC : I ≠ C := by rw [eC, eD]; exact Nat.ne_of_lt (Nat.lt_succ_of_lt (Nat.lt_succ_self _))
  have below : ∀ b, b < s₁.heap.objs.size → b ≠ I ∧ b ≠ D ∧ b ≠ C := fun b hb => by
    rw [← hI] at hb
    exact ⟨Nat.ne_of_lt hb, by rw [eD]; exact Nat.ne_of_lt (Nat.lt_succ_of_lt hb), by rw [eC, eD]; exact Nat.ne_of_lt (Nat.lt_succ_of_lt (Nat.lt_succ_of_lt hb))⟩
  have k01 : Keep s₁.heap h₁ := fun b o e => hsb₁.extBut b o (below b (Heap.lt_size e)).2.2 (Heap.get?_push_of_some _ (by rw [hH2]; exact Heap.get?_push_of_some _ (by rw [hH1]; exact Heap.get?_push_of_some _ e)))
  have it1 : h₁.IsListIter I l 0 := ⟨_, hsb₁.extBut I _ hIC (Heap.get?_push_of_some _ (by rw [hH2]; exact Heap.get?_push_of_some _ (by rw [hH1, hI]; exact Heap.get?_push_size _ rfl))), rfl, rfl⟩
  have acc1 : PlainL h₁ D #[] := ⟨_, _, hsb₁.extBut D _ hDC (Heap.get?_push_of_some _ (by rw [hH2, hD]; exact Heap.get?_push_size _ rfl)), rfl, rfl, rfl⟩
  have hl1 : h₁.IsList l items := by obtain ⟨o, e, r⟩ := hl; exact ⟨o, k01 _ o e, r⟩
  have hDn : s₁.heap.get? D = none := by
    cases e : s₁.heap.get? D with
    | none => rfl
    | some o => exact absurd rfl (below D (Heap.lt_size e)).2.1
  have loop : ∀ s₂ : Shared, s₂ = { s₁ with heap := h₁, toks := s₁.toks + ([] : List (Str × Value)).length } →
      codeAny (model prog w) A (.compLoop (.ListComp elt [⟨.Tuple [.Name x p1, .Name y p2, .Name z p3] tk tp, iter, [], 0⟩] scope pos) 0 (.ref I) (.ref D) (compEnvC scope cl C env))
        (compPost (model prog w) A E none Q (.ref D) C) s₂ := by
    rintro s₂ rfl
    refine PyProof.Rows.LCp.codeAny_compLoop_pair
      (fun k s' => ∃ h' tk i ys m', s' = { s₁ with heap := h', toks := tk } ∧ h'.IsListIter I l i ∧ h'.IsList l items ∧ i ≤ items.size ∧ k = items.size + 1 - i ∧ PlainL h' D ys ∧ ys.size = i ∧ h'.Ns C m' ∧
        (∀ j, j < i → ∃ y, ys[j]? = some y ∧ G j y) ∧ Keep s₁.heap h') ?_ (items.size + 1)
      ⟨h₁, _, 0, #[], _, rfl, it1, hl1, Nat.zero_le _, rfl, acc1, rfl, hns₁, fun j hj => absurd hj (Nat.not_lt_zero _), k01⟩
    rintro k s' ⟨h', tk', i, ys, m', rfl, hit, hl', hi, rfl, acc, hys, hn', hG, hk⟩
    by_cases hlt' : i < items.size
    · obtain ⟨T, a, b, c, hiT, hT, ht⟩ := turn i hlt'
      refine wpAny_pyNext_list_item hit hl' hiT fun h2 hit2 hs2 => ?_
      have hT2 : h2.IsTuple T #[a, b, c] := by
        obtain ⟨o, e, r⟩ := hT
        exact ⟨o, hs2.extBut _ o (below T (Heap.lt_size e)).1 (hk _ o e), r⟩
      have k2 : Keep s₁.heap h2 := fun b o e => hs2.extBut b o (below b (Heap.lt_size e)).1 (hk b o e)
      refine wpAny_letOwnedTupleGo_listiter hit2 ?_
      refine assign_Tuple_tuple hA hT2 rfl rfl fun h3 he => ?_
      have k23 := keep_of_ext he
      refine assignInOrder_cons (wpAny_assign_Name (wpAny_storeName_local (lookup_relabel_local hx) ((hn'.at' fun o e => hs2.extBut C o (Ne.symm hIC) e).at' fun o e => k23 _ o e) (fun h4 hn4 hs4 => ?_) (by simp [compEnvC, relabel, hkind])))
      refine assignInOrder_cons (wpAny_assign_Name (wpAny_storeName_local (lookup_relabel_local hy) hn4 (fun h5 hn5 hs5 => ?_) (by simp [compEnvC, relabel, hkind])))
      refine assignInOrder_cons (wpAny_assign_Name (wpAny_storeName_local (lookup_relabel_local hz) hn5 (fun h6 hn6 hs6 => ?_) (by simp [compEnvC, relabel, hkind])))
      refine assignInOrder_nil ?_
      have up : ∀ b o, b ≠ C → h2.get? b = some o → h6.get? b = some o := fun b o hb e => hs6.extBut b o hb (hs5.extBut b o hb (hs4.extBut b o hb (k23 b o e)))
      have k6 : Keep s₁.heap h6 := fun b o e => up b o (below b (Heap.lt_size e)).2.2 (k2 b o e)
      try dsimp only
      refine wpAny_mono (ht C _ _ _ k6 hn6 (by simp [hxy, hxz]) (by simp [hyz]) (by simp)) (fun yv s₄ h₄ => ?_) fun _ _ e => e
      obtain ⟨hg, h7, tk7, rfl, k67⟩ := h₄
      have acc7 : PlainL h7 D ys := by
        obtain ⟨o, n, e, r⟩ := acc
        exact ⟨o, n, k67 D o (up D o hDC (hs2.extBut D o (Ne.symm hID) e)), r⟩
      refine list_append_plainL acc7 (fun h8 hl8 hs8 => ?_) (by rw [hys]; exact Nat.le_trans (Nat.le_trans hi hn1) (by decide))
      have hn8 := (hn6.keeps k67).sameBut hs8 (Ne.symm hDC)
      refine ⟨items.size + 1 - (i + 1), by omega, h8, tk7, i + 1, ys.push yv, _, rfl, ?_, ?_, hlt', rfl, hl8, by rw [Array.size_push, hys], hn8, ?_, ?_⟩
      · obtain ⟨o, e, r⟩ := hit2
        exact ⟨o, hs8.extBut I o hID (k67 I o (up I o hIC e)), r⟩
      · obtain ⟨o, e, r⟩ := hl
        exact ⟨o, hs8.extBut l o (below l hlt).2.1 (k67 l o (k6 l o e)), r⟩
      · intro j hj
        by_cases hji : j < i
        · obtain ⟨y, hy, hg'⟩ := hG j hji
          refine ⟨y, ?_, hg'⟩
          rw [Array.getElem?_push, if_neg (by omega)]
          exact hy
        · have : j = i := by omega
          subst this
          exact ⟨yv, by rw [Array.getElem?_push, if_pos (by omega)], hg⟩
      · exact fun b o e => hs8.extBut b o (below b (Heap.lt_size e)).2.1 (k67 b o (k6 b o e))
    · have hie : i = items.size := by omega
      subst hie
      refine wpAny_pyNext_list_end hA hit hl' (by simp) fun h2 he2 => ?_
      refine ⟨m', hn'.extBut he2 (Ne.symm hIC), fun h3 hs3 => ?_⟩
      refine fin D h3 _ ys hDn (fun b o e => hs3.extBut b o (below b (Heap.lt_size e)).2.2 (he2 b o (below b (Heap.lt_size e)).1 (hk b o e))) ?_ hys hG
      obtain ⟨o, n, e, r⟩ := acc
      exact ⟨o, n, hs3.extBut D o hDC (he2 D o (Ne.symm hID) e), r⟩
  exact codeAny_compStart_list (loop _ rfl) (wpAny_pyIter_listiter it1 (loop _ rfl))
/-- over a str -/
theorem comp_str {elt iter : PySem.Expr} {n : Str} {px : Pos} {scope : Scope} {cl : List (Str × Addr)} {pos : Pos} {Q : Value → Shared → Prop} (G : Nat → Value → Prop) (hA : A.handled = none)
    (hclos : closureFor scope env = pure cl) (hcell : ∀ y ∈ scope.names, y.2 ≠ .cell) (hkind : scope.kind = .function)
    (hnames : ∀ y ∈ scope.names, y.2 = .local → scope.names.lookup y.1 = some .local) (hx : scope.names.lookup n = some .local)
    (h : wpAny (model prog w) A (eval iter env) (fun r s₁ => ∃ (x : Str) (t : Tok), r = .str x t ∧ x.length ≤ 1000 ∧
      (∀ C c t s₃ m₃ E', c ∈ x.cps.toList → Keep s₁.heap s₃.heap → s₃.heap.Ns C m₃ → m₃ n = some (.str ⟨#[c]⟩ t) → wpAny (model prog w) A (eval elt (compEnvC scope cl C env)) (fun y s₄ => G c y ∧ Keeps s₃ s₄) E' s₃) ∧
      (∀ D h' tk ys, s₁.heap.get? D = none → Keep s₁.heap h' → PlainL h' D ys → ys.size = x.cps.size → (∀ (j c : Nat), x.cps[j]? = some c → ∃ y, ys[j]? = some y ∧ G c y) → Q (.ref D) { s₁ with heap := h', toks := tk })) E s)
    (hs : ∀ x, foldedSetIterable iter env x = pure x := by intro _; rfl) :
    wpAny (model prog w) A (eval (.ListComp elt [⟨.Name n px, iter, [], 0⟩] scope pos) env) Q E s := by
  refine wpAny_ListComp_free (fun _ => true) (fun v y => ∃ (c : Nat) (t : Tok), v = .str ⟨#[c]⟩ t ∧ G c y) hclos hcell hkind hnames hx (wpAny_mono h (fun r s₁ h₁ => ?_) fun _ _ e => e) hs
  obtain ⟨x, t, rfl, hxl, turn, fin⟩ := h₁
  refine wpAny_pyIter_str fun o St W st => ?_
  refine ⟨_, _, _, x.cps.size, _, _, rfl, W A hA, Nat.le_trans hxl (by decide), st, ?_, quiet0 ?_, ?_⟩
  · intro b hb
    rw [List.mem_singleton.mp hb]
    show _ < (s₁.heap.push _).objs.size
    rw [Heap.size_push]
    exact Nat.lt_succ_self _
  · intro C i v' s₃ m₃ E' hP hn hm hk _
    obtain ⟨c, u, hc, hv⟩ := hP
    have hmem : c ∈ x.cps.toList := by
      obtain ⟨h1, rfl⟩ := Array.getElem?_eq_some_iff.mp hc
      exact Array.getElem_mem_toList h1
    exact wpAny_mono (turn C c u s₃ m₃ E' hmem (keepI (Nat.le_refl _) (fun b o e => Heap.get?_push_of_some _ e) hk) hn (by rw [hm, hv])) (fun y s₄ h₄ => ⟨⟨c, u, hv, h₄.1⟩, h₄.2⟩) fun _ _ e => e
  · intro D h' tk ys vs hD hl hpl hlen hP hF hk
    have hvs : vs.filter (fun _ => true) = vs := List.filter_eq_self.mpr fun _ _ => rfl
    rw [hvs] at hF
    have hys : ys.size = x.cps.size := by rw [← Array.length_toList, ← hlen]; exact hF.length.symm
    refine fin D h' tk ys ?_ (keepI (Nat.le_refl _) (fun b o e => Heap.get?_push_of_some _ e) hk) (plain_of hpl) hys fun j c hc => ?_
    · cases e : s₁.heap.get? D with
      | none => rfl
      | some o' => exact absurd (hD.symm.trans (Heap.get?_push_of_some _ e)) (by simp)
    · have hj : j < x.cps.size := (Array.getElem?_eq_some_iff.mp hc).1
      have hvj : vs[j]? = some vs[j] := List.getElem?_eq_getElem (by omega)
      obtain ⟨y, hy, c', t', hv', hg⟩ := paired_get j _ hF hvj
      obtain ⟨c'', u, hc'', hv''⟩ := hP j _ hvj
      rw [hv''] at hv'
      have : c'' = c' := by simp only [Value.str.injEq, Str.mk.injEq] at hv'; simpa using hv'.1
      rw [hc] at hc''
      have h2 : c = c'' := by simpa using hc''
      subst h2
      subst this
      exact ⟨y, by simpa using hy, hg⟩
end
end Mine
end
section
open PySem PySem.W PyProof.Rows PySem.Spec PySem.Calls
set_option maxHeartbeats 4000000
namespace Mine
section
variable {w : World} {A : Around} {s : Shared} {E : Value → Shared → Prop}
theorem cat_lists {l b : Addr} {vs ws : Array Value} {Q : Value → Shared → Prop} (hl : s.heap.IsList l vs) (hb : s.heap.IsList b ws)
    (h : ∀ h', Keep s.heap h' → PlainL h' s.heap.objs.size (vs ++ ws) → Q (.ref s.heap.objs.size) { s with heap := h' })
    (hsz : vs.size + ws.size ≤ 1000) :
    wpAny (model prog w) A (binaryOp .Add (.ref l) (.ref b)) Q E s := by
  obtain ⟨⟨cls, dd, data, sl⟩, ho, hc, n, hd⟩ := id hl
  obtain ⟨⟨cls2, dd2, data2, sl2⟩, ho2, hc2, n2, hd2⟩ := id hb
  simp only at hc hd hc2 hd2
  subst hc hd hc2 hd2
  exact concat_meets ⟨_, ho, rfl⟩ ⟨_, ho2, rfl⟩ noFill_list_add seq_list_add F.slot_list_add F.entry_list_add (F.args_list_add_2 _ _) (list_addW l b vs ws n n2 dd dd2 sl sl2 (Nat.le_trans hsz (by decide))) ⟨ho, ho2, h _ (fun b o e => Heap.get?_push_of_some _ e) ⟨_, _, Heap.get?_push_size _ rfl, rfl, rfl, rfl⟩⟩
end
def pieceL : List Str := [pieceA, pieceB, pieceC]
def endL : List Str := [nlS, crS, crlf]
def bareR (r : Row) : Str := pieceL.getD r.kind ⟨#[]⟩ ++ dressL.getD r.dress ⟨#[]⟩
def firstP (rs : List Row) : List Str := rs.map bareR
def finAt (rs : List Row) (i : Nat) : Nat := (rs.getD i ⟨0, 0, 0⟩).fin
def startP (rs : List Row) : List Str := (List.range rs.length).map fun i => Txt.mul dotS (rs.length - i : Nat) ++ getS (firstP rs) i ++ getS endL (finAt rs i)
def startT (rs : List Row) : Str := dotF (crF (Txt.join ⟨#[]⟩ (startP rs)))
def nameC (c : Nat) : List Nat := if c = 38 then [38, 97, 109, 112, 59] else if c = 60 then [38, 108, 116, 59] else if c = 34 then [38, 113, 117, 111, 116, 59] else if c = 9 then [38, 35, 48, 57, 59] else [c]
structure TurnOk (x : Str) (rs : List Str) (b c : Nat) : Prop where
  sp : ∃ last, Txt.split x crlf = rs ++ [last]
  xl : x.length ≤ 240
  n : rs.length ≤ 20
  r : ∀ y ∈ rs, y.length ≤ 100
  b1 : 1 ≤ b
  bc : b < c
  cn : c < rs.length
  j : ∀ k, (Txt.join ⟨#[]⟩ ((rs.map stripD).take k)).length ≤ 80
  B : condB (rs.map stripD) b = true
  B0 : ∀ p, 1 ≤ p → p < b → condB (rs.map stripD) p = false
  C : condC (rs.map stripD) c = true
  C0 : ∀ p, b < p → p < c → condC (rs.map stripD) p = false
  k : (Txt.join crS (keptP rs b c) ++ nlS).length ≤ 240
  k2 : ∀ y ∈ keptP rs b c, y.length ≤ 1000
structure LawOk (rs : List Row) (tx : Nat → Str) (rsT : Nat → List Str) (bs cs : Nat → Nat) : Prop where
  n0 : 1 ≤ rs.length
  n9 : rs.length ≤ 9
  kind : ∀ r ∈ rs, r.kind < 3
  dress : ∀ r ∈ rs, r.dress < 8
  fin : ∀ r ∈ rs, r.fin < 3
  len : ∀ y ∈ firstP rs, y.length ≤ 7
  t1 : takenF (firstP rs) false = true
  t2 : takenF (firstP rs) true = true
  t3 : takenF ((firstP rs).drop 1 ++ (firstP rs).take 1) false = false
  t4 : takenF ((firstP rs).drop 1 ++ (firstP rs).take 1) true = true
  t5 : takenF ((firstP rs).drop (rs.length - 1) ++ (firstP rs).take (rs.length - 1)) true = false
  esc : escL (Txt.join ⟨#[]⟩ (firstP rs)).cps.toList = (Txt.join ⟨#[]⟩ (firstP rs)).cps.toList.flatMap nameC
  start : tx 0 = startT rs
  stl : (Txt.join ⟨#[]⟩ (startP rs)).length ≤ 240
  st2 : ∀ y ∈ startP rs, y.length ≤ 100
  turn : ∀ i, i < rs.length → TurnOk (tx i) (rsT i) (bs i) (cs i)
  next : ∀ i, i < rs.length → tx (i + 1) = turnT (rsT i) (bs i) (cs i)
  back : tx rs.length = tx 0
  chkC : ∀ t, t < rs.length → ∃ j, j < rs.length ∧ ((t : Int) - ((dN (rsT t) (cs t) : Nat) - 1)).fmod rs.length = (j : Nat) ∧ ((bs j : Nat) : Int) = (dN (rsT t) (cs t) : Nat) - 1
  chkB : ∀ t, t < rs.length → ∃ j, j < rs.length ∧ ((t : Int) - ((dN (rsT t) (bs t) : Nat) - 1)).fmod rs.length = (j : Nat) ∧ ((cs j : Nat) : Int) = (dN (rsT t) (bs t) : Nat) - 1
def TurnsAt (h : Heap) (its : List Value) (rsT : Nat → List Str) (bs cs : Nat → Nat) : Prop := ∀ j, j < its.length → ∃ T t1 t2 t3 t4, its[j]? = some (.ref T) ∧ h.IsTuple T #[.int (bs j : Nat) t1, .int (cs j : Nat) t2, .int ((dN (rsT j) (bs j) : Nat) - 1) t3, .int ((dN (rsT j) (cs j) : Nat) - 1) t4]
theorem TurnsAt.seq {h h' : Heap} {its : List Value} {rsT : Nat → List Str} {bs cs : Nat → Nat} (k : SeqK h h') (x : TurnsAt h its rsT bs cs) : TurnsAt h' its rsT bs cs := fun j hj => by
  obtain ⟨T, t1, t2, t3, t4, e, ht⟩ := x j hj
  exact ⟨T, t1, t2, t3, t4, e, k.tup ht⟩
theorem tup_ne_list {h : Heap} {T D : Addr} {vs xs : Array Value} (p : h.IsList D xs) (x : h.IsTuple T vs) : T ≠ D := fun hT => by
  obtain ⟨o, ho, hc, _⟩ := x
  obtain ⟨o', ho', hc', _⟩ := p
  rw [hT, ho'] at ho
  cases ho
  rw [hc] at hc'
  simp at hc'
theorem TurnsAt.same {h h' : Heap} {D : Addr} {xs : Array Value} {its : List Value} {rsT : Nat → List Str} {bs cs : Nat → Nat} (p : h.IsList D xs) (sb : Heap.SameBut D h h') (x : TurnsAt h its rsT bs cs) : TurnsAt h' its rsT bs cs := fun j hj => by
  obtain ⟨T, t1, t2, t3, t4, e, ht⟩ := x j hj
  exact ⟨T, t1, t2, t3, t4, e, ht.extBut sb.extBut (tup_ne_list p ht)⟩
theorem TurnsAt.snoc {h : Heap} {its : List Value} {rsT : Nat → List Str} {bs cs : Nat → Nat} (x : TurnsAt h its rsT bs cs) {T : Addr} {t1 t2 t3 t4 : Tok} {i : Nat} (hi : its.length = i)
    (ht : h.IsTuple T #[.int (bs i : Nat) t1, .int (cs i : Nat) t2, .int ((dN (rsT i) (bs i) : Nat) - 1) t3, .int ((dN (rsT i) (cs i) : Nat) - 1) t4]) : TurnsAt h (its ++ [.ref T]) rsT bs cs := fun j hj => by
  rw [List.length_append, List.length_singleton] at hj
  by_cases hji : j < its.length
  · obtain ⟨T', u1, u2, u3, u4, e, h'⟩ := x j hji
    exact ⟨T', u1, u2, u3, u4, by rw [List.getElem?_append_left hji]; exact e, h'⟩
  · have : j = i := by omega
    subst this
    exact ⟨T, t1, t2, t3, t4, by rw [List.getElem?_append_right (by omega), hi]; simp, ht⟩
theorem RowsAt.get {h : Heap} : ∀ {vs : List Value} {rs : List Row}, RowsAt h vs rs → vs.length = rs.length ∧ ∀ (j : Nat) (v : Value), vs[j]? = some v → ∃ r, rs[j]? = some r ∧ RowAt h v r
  | [], [], _ => ⟨rfl, fun j v e => by simp at e⟩
  | v :: vs, r :: rs, ⟨a, b⟩ => by
    obtain ⟨h1, h2⟩ := RowsAt.get b
    refine ⟨by simp [h1], fun j v' e => ?_⟩
    cases j with
    | zero =>
      simp only [List.getElem?_cons_zero, Option.some.injEq] at e
      exact ⟨r, rfl, e ▸ a⟩
    | succ j =>
      simp only [List.getElem?_cons_succ] at e ⊢
      exact h2 j v' e
theorem names_kvs {kvs : List (Str × Value)} {a1 a2 a3 a4 b1 b2 b3 b4 : Str} (h : PyProof.V.FlatPairs PyData.str kvs [(.str a1, .str b1), (.str a2, .str b2), (.str a3, .str b3), (.str a4, .str b4)]) :
    ∃ t1 t2 t3 t4, kvs = [(a1, .str b1 t1), (a2, .str b2 t2), (a3, .str b3 t3), (a4, .str b4 t4)] := by
  cases h with
  | cons f1 h =>
    cases h with
    | cons f2 h =>
      cases h with
      | cons f3 h =>
        cases h with
        | cons f4 h =>
          cases h
          obtain ⟨t1, rfl⟩ := f1.str_inv
          obtain ⟨t2, rfl⟩ := f2.str_inv
          obtain ⟨t3, rfl⟩ := f3.str_inv
          obtain ⟨t4, rfl⟩ := f4.str_inv
          exact ⟨t1, t2, t3, t4, rfl⟩
theorem range_getS (l : List Str) : (List.range l.length).map (getS l) = l := by
  refine List.ext_getElem? fun j => ?_
  by_cases h : j < l.length
  · unfold getS
    rw [List.getElem?_map, List.getElem?_range h]
    simp [List.getElem?_eq_getElem h]
  · rw [List.getElem?_eq_none (by simp; omega), List.getElem?_eq_none (by omega)]
theorem joinL (sep : Str) : ∀ l : List Str, (Txt.join sep l).cps.toList = ((l.map fun y : Str => y.cps.toList).intersperse sep.cps.toList).flatten := by
  intro l
  unfold Txt.join
  rw [StrLaws.glued_eq_join]
  induction l with
  | nil => rfl
  | cons a r ih =>
    cases r with
    | nil => simp [Str.join]
    | cons b r' =>
      show (a ++ sep ++ Str.join sep (b :: r')).cps.toList = _
      rw [Str.cps_append, Str.cps_append, Array.toList_append, Array.toList_append, ih]
      simp
theorem join_empty (l : List Str) : (Txt.join ⟨#[]⟩ l).cps.toList = l.flatMap fun y => y.cps.toList := by
  rw [joinL]
  induction l with
  | nil => rfl
  | cons a r ih =>
    cases r with
    | nil => simp
    | cons b r' =>
      simp at ih ⊢
      exact ih
theorem join0_le {l : List Str} (h : ∀ y ∈ l, y.length ≤ 7) (hn : l.length ≤ 9) : (Txt.join ⟨#[]⟩ l).length ≤ 63 := by
  have a : ∀ l : List Str, (∀ y ∈ l, y.length ≤ 7) → (l.flatMap fun y => y.cps.toList).length ≤ 7 * l.length := by
    intro l
    induction l with
    | nil => intro _; exact Nat.le_refl _
    | cons a r ih =>
      intro h
      rw [List.flatMap_cons, List.length_append, List.length_cons]
      have h1 := h a List.mem_cons_self
      have h2 := ih fun y hy => h y (List.mem_cons_of_mem _ hy)
      have h3 : a.cps.toList.length = a.length := rfl
      omega
  have h1 := a l h
  rw [← join_empty] at h1
  have h2 : (Txt.join ⟨#[]⟩ l).cps.toList.length = (Txt.join ⟨#[]⟩ l).length := rfl
  omega
theorem name_at (c : Nat) (t t1 t2 t3 t4 : Tok) : ∃ u, (valueAt [((⟨#[38]⟩ : Str), Value.str ⟨#[38, 97, 109, 112, 59]⟩ t1), (⟨#[60]⟩, .str ⟨#[38, 108, 116, 59]⟩ t2), (⟨#[34]⟩, .str ⟨#[38, 113, 117, 111, 116, 59]⟩ t3), (⟨#[9]⟩, .str ⟨#[38, 35, 48, 57, 59]⟩ t4)] ⟨#[c]⟩).getD (.str ⟨#[c]⟩ t) = .str ⟨(nameC c).toArray⟩ u := by
  unfold nameC
  by_cases h1 : c = 38
  · subst h1; exact ⟨t1, rfl⟩
  · by_cases h2 : c = 60
    · subst h2; exact ⟨t2, rfl⟩
    · by_cases h3 : c = 34
      · subst h3; exact ⟨t3, rfl⟩
      · by_cases h4 : c = 9
        · subst h4; exact ⟨t4, rfl⟩
        · refine ⟨t, ?_⟩
          rw [if_neg h1, if_neg h2, if_neg h3, if_neg h4]
          unfold valueAt
          have e1 : ¬ 38 = c := fun e => h1 e.symm
          have e2 : ¬ 60 = c := fun e => h2 e.symm
          have e3 : ¬ 34 = c := fun e => h3 e.symm
          have e4 : ¬ 9 = c := fun e => h4 e.symm
          simp [e1, e2, e3, e4]
theorem nameC_len (c : Nat) : (nameC c).length ≤ 6 := by
  unfold nameC
  split
  · decide
  · split
    · decide
    · split
      · decide
      · split
        · decide
        · exact Nat.le_of_ble_eq_true rfl
theorem names_map (l : List Nat) : (List.range l.length).map (fun j => (⟨(nameC (l.getD j 0)).toArray⟩ : Str)) = l.map fun c => (⟨(nameC c).toArray⟩ : Str) := by
  refine List.ext_getElem? fun j => ?_
  by_cases h : j < l.length
  · rw [List.getElem?_map, List.getElem?_range h, List.getElem?_map, List.getElem?_eq_getElem h]
    show (some (Str.mk (nameC (l.getD j 0)).toArray) : Option Str) = some (Str.mk (nameC l[j]).toArray)
    rw [List.getD_eq_getElem?_getD, List.getElem?_eq_getElem h]
    rfl
  · rw [List.getElem?_eq_none (by simp; omega), List.getElem?_eq_none (by simp; omega)]
section
variable {w : World} {A : Around} {s : Shared} {env : Env} {names : List (Str × NameKind)} {h₀ : Heap}
theorem Ev.four {x0 x1 x2 x3 : Str} {p0 p1 p2 p3 pt pos : Pos} {k : Nat} {value : PySem.Expr} {Q : Flow → Shared → Prop} {E : Value → Shared → Prop} (V : Ev env names) (hA : A.handled = none)
    (hx0 : names.lookup x0 = some .local) (hx1 : names.lookup x1 = some .local) (hx2 : names.lookup x2 = some .local) (hx3 : names.lookup x3 = some .local)
    (hs : swapsWithSole [.Tuple [.Name x0 p0, .Name x1 p1, .Name x2 p2, .Name x3 p3] k pt] value pos.line env = pure false) (hw : swappedStores [.Tuple [.Name x0 p0, .Name x1 p1, .Name x2 p2, .Name x3 p3] k pt] value env = pure none)
    (h : wpAny (model prog w) A (eval value env) (fun v s₁ => ∃ T a b c d m cm, v = .ref T ∧ s₁.heap.IsTuple T #[a, b, c, d] ∧ Fc h₀ env.locals m env.cells cm s₁.heap ∧
      ∀ h' tk, Fc h₀ env.locals (fun z => if z = x3 then some d else if z = x2 then some c else if z = x1 then some b else if z = x0 then some a else m z) env.cells cm h' → SeqK s₁.heap h' → (∀ N, env.locals < N → Hi N s₁.heap h') → Q .next { s₁ with heap := h', toks := tk }) E s) :
    wpAny (model prog w) A (exec (.Assign [.Tuple [.Name x0 p0, .Name x1 p1, .Name x2 p2, .Name x3 p3] k pt] value pos) env) Q E s := by
  refine Assign_Tuple (wpAny_mono h (fun v s₁ h₁ => ?_) fun _ _ e => e) hs hw
  obtain ⟨T, a, b, c, d, m, cm, rfl, hl, F, h₁⟩ := h₁
  refine assign_Tuple_tuple hA hl rfl rfl fun g0 he => ?_
  have F0 := F.keeps (keep_of_ext he)
  have q0 := SeqK.of_keep (keep_of_ext he)
  have i0 : ∀ N, env.locals < N → Hi N s₁.heap g0 := fun N _ => Hi.keep (keep_of_ext he)
  refine assignInOrder_cons (wpAny_assign_Name (F0.store V.fn ((V.kind _).trans hx0) fun g1 tk1 F1 q1 s1 => ?_))
  refine assignInOrder_cons (wpAny_assign_Name (F1.store V.fn ((V.kind _).trans hx1) fun g2 tk2 F2 q2 s2 => ?_))
  refine assignInOrder_cons (wpAny_assign_Name (F2.store V.fn ((V.kind _).trans hx2) fun g3 tk3 F3 q3 s3 => ?_))
  refine assignInOrder_cons (wpAny_assign_Name (F3.store V.fn ((V.kind _).trans hx3) fun g4 tk4 F4 q4 s4 => ?_))
  refine assignInOrder_nil ?_
  exact h₁ g4 _ F4 ((((q0.trans q1).trans q2).trans q3).trans q4) fun N hN => (((((i0 N hN).trans (Hi.same s1 hN)).trans (Hi.same s2 hN)).trans (Hi.same s3 hN)).trans (Hi.same s4 hN))
theorem Ev.five {x0 x1 x2 x3 x4 : Str} {p0 p1 p2 p3 p4 pt pos : Pos} {k : Nat} {value : PySem.Expr} {Q : Flow → Shared → Prop} {E : Value → Shared → Prop} (V : Ev env names) (hA : A.handled = none)
    (hx0 : names.lookup x0 = some .local) (hx1 : names.lookup x1 = some .local) (hx2 : names.lookup x2 = some .local) (hx3 : names.lookup x3 = some .local) (hx4 : names.lookup x4 = some .local)
    (hs : swapsWithSole [.Tuple [.Name x0 p0, .Name x1 p1, .Name x2 p2, .Name x3 p3, .Name x4 p4] k pt] value pos.line env = pure false) (hw : swappedStores [.Tuple [.Name x0 p0, .Name x1 p1, .Name x2 p2, .Name x3 p3, .Name x4 p4] k pt] value env = pure none)
    (h : wpAny (model prog w) A (eval value env) (fun v s₁ => ∃ T a b c d e m cm, v = .ref T ∧ s₁.heap.IsTuple T #[a, b, c, d, e] ∧ Fc h₀ env.locals m env.cells cm s₁.heap ∧
      ∀ h' tk, Fc h₀ env.locals (fun z => if z = x4 then some e else if z = x3 then some d else if z = x2 then some c else if z = x1 then some b else if z = x0 then some a else m z) env.cells cm h' → SeqK s₁.heap h' → (∀ N, env.locals < N → Hi N s₁.heap h') → Q .next { s₁ with heap := h', toks := tk }) E s) :
    wpAny (model prog w) A (exec (.Assign [.Tuple [.Name x0 p0, .Name x1 p1, .Name x2 p2, .Name x3 p3, .Name x4 p4] k pt] value pos) env) Q E s := by
  refine Assign_Tuple (wpAny_mono h (fun v s₁ h₁ => ?_) fun _ _ e => e) hs hw
  obtain ⟨T, a, b, c, d, e, m, cm, rfl, hl, F, h₁⟩ := h₁
  refine assign_Tuple_tuple hA hl rfl rfl fun g0 he => ?_
  have F0 := F.keeps (keep_of_ext he)
  have q0 := SeqK.of_keep (keep_of_ext he)
  have i0 : ∀ N, env.locals < N → Hi N s₁.heap g0 := fun N _ => Hi.keep (keep_of_ext he)
  refine assignInOrder_cons (wpAny_assign_Name (F0.store V.fn ((V.kind _).trans hx0) fun g1 tk1 F1 q1 s1 => ?_))
  refine assignInOrder_cons (wpAny_assign_Name (F1.store V.fn ((V.kind _).trans hx1) fun g2 tk2 F2 q2 s2 => ?_))
  refine assignInOrder_cons (wpAny_assign_Name (F2.store V.fn ((V.kind _).trans hx2) fun g3 tk3 F3 q3 s3 => ?_))
  refine assignInOrder_cons (wpAny_assign_Name (F3.store V.fn ((V.kind _).trans hx3) fun g4 tk4 F4 q4 s4 => ?_))
  refine assignInOrder_cons (wpAny_assign_Name (F4.store V.fn ((V.kind _).trans hx4) fun g5 tk5 F5 q5 s5 => ?_))
  refine assignInOrder_nil ?_
  exact h₁ g5 _ F5 (((((q0.trans q1).trans q2).trans q3).trans q4).trans q5) fun N hN => ((((((i0 N hN).trans (Hi.same s1 hN)).trans (Hi.same s2 hN)).trans (Hi.same s3 hN)).trans (Hi.same s4 hN)).trans (Hi.same s5 hN))
end
end Mine
end
section
open PySem PySem.W PyProof.Rows PySem.Spec PySem.Calls
set_option maxHeartbeats 4000000
namespace Mine
section
variable {w : World} {mean : ExcName → Option Value} {mg mb : Str → Option Value} {A : Around} {s : Shared} {Q E : Value → Shared → Prop} {base : Heap}
theorem turn_ok (G : Gnd w mean mg mb base) (kb : Keep base s.heap) (R : Room A (16 + 1)) (x : Str) (t : Tok) (rs : List Str) (b c : Nat) (H : TurnOk x rs b c)
    (hq : ∀ T t1 t2 t3 t4 t5 s', Gro s s' → s'.heap.IsTuple T #[.str (turnT rs b c) t1, .int (b : Nat) t2, .int (c : Nat) t3, .int ((dN rs b : Nat) - 1) t4, .int ((dN rs c : Nat) - 1) t5] → Q (.ref T) s') :
    wpAny (model prog w) A (call (.ref 100) [.str x t]) Q E s := by
  obtain ⟨last, hsp⟩ := H.sp
  exact turn_call G kb R x t rs last hsp b c H.xl H.n H.r H.b1 H.bc H.cn H.j H.B H.B0 H.C H.C0 H.k H.k2 hq

theorem law_call (G : Gnd w mean mg mb base) (kb : Keep base s.heap) (R : Room A (17 + 1)) (D : Addr) (vals : List Value) (script : List Int) (hl : s.heap.IsList D vals.toArray) (hv : IntsAre vals script) (hlen : script.length ≤ 63)
    (tx : Nat → Str) (rsT : Nat → List Str) (bs cs : Nat → Nat) (H : LawOk (rowsP script) tx rsT bs cs) (hq : ∀ s', Gro s s' → Q (.bool true) s') :
    wpAny (model prog w) A (call (.ref 105) [.ref D]) Q E s := by
  have KX := G.X
  have hz : PySem.Challenge.rw_tr0020_01 = PySem.Challenge.rw_tr0020_01 := rfl
  revert hz KX
  k_fill
  intro KX _
  refine' enterC [(Str.ofString "script", .ref D)] G kb R ?k1 ?k2 ?k3 ?k4 ?_ ?c1 ?c2 ?c3
  case k1 => k_is
  case k2 => k_is
  case k3 => exact rfl
  case k4 => intro L x hx; rw [List.mem_singleton.mp hx]; exact .inl rfl
  case c1 => exact rfl
  case c2 => exact rfl
  case c3 => exact rfl
  intro A h₁ tk env R he F
  have V := Ev.of he rfl
  obtain ⟨e1, e2, e3, e4, e5⟩ := callEnvC_facts he
  have hcr : env.cells.lookup (Str.ofString "rows") = some (s.heap.objs.size + 1) := by rw [e5]; rfl
  have hcs : env.cells.lookup (Str.ofString "size") = some (s.heap.objs.size + 1 + 1) := by rw [e5]; rfl
  have hce : env.cells.lookup (Str.ofString "ends") = some (s.heap.objs.size + 1 + 1 + 1) := by rw [e5]; rfl
  have hcp : env.cells.lookup (Str.ofString "pieces") = some (s.heap.objs.size + 1 + 1 + 1 + 1) := by rw [e5]; rfl
  have hcf : env.cells.lookup (Str.ofString "first") = some (s.heap.objs.size + 1 + 1 + 1 + 1 + 1) := by rw [e5]; rfl
  have hcn : env.cells.lookup (Str.ofString "names") = some (s.heap.objs.size + 1 + 1 + 1 + 1 + 1 + 1) := by rw [e5]; rfl
  have F0 : Fc s.heap env.locals (fun y => if y = Str.ofString "script" then some (.ref D) else none) env.cells (fun _ => none) h₁ := by
    have hh := F
    have hk : env.kindOf (Str.ofString "script") = some .local := (V.kind _).trans rfl
    simp only [bindL, bindC, hk, if_true] at hh
    exact hh
  clear F he e1
  have hbs : ∀ {h : Heap}, Keep s.heap h → Keep base h := fun k b o e => k b o (kb b o e)
  obtain ⟨rs, hrs⟩ : ∃ rs, rs = rowsP script := ⟨_, rfl⟩
  rw [← hrs] at H
  have n9 := H.n9
  have n0 := H.n0
  obtain ⟨n, hn⟩ : ∃ n, n = rs.length := ⟨_, rfl⟩
  refine wpAny_execs_cons ?_
  with_reducible refine V.setC s.heap (s.heap.objs.size + 1) ?_ hcr sw_Call ?_
  · rfl
  with_reducible refine V.o1 G (hbs F0.keep) ?_ G.g_rows ?_ ?_ ?_
  · rfl
  · exact G.k88
  · rfl
  with_reducible refine V.ld F0 ?_ yes ?_
  · rfl
  refine ⟨hbs F0.keep, ?_⟩
  refine rows_call G (hbs F0.keep) ⟨R.handled, by have := R.depth; omega, by have := R.units; omega⟩ D vals script (by obtain ⟨o, e, r⟩ := hl; exact ⟨o, F0.keep _ o e, r⟩) hv hlen fun Dr its s2 g2 pl2 ra2 => ?_
  rw [← hrs] at ra2
  have F2 := F0.keeps g2.heap
  obtain ⟨h2, gg2, dd2, tk2, os2⟩ := s2
  have hg2 := g2.bare
  have ho2 := g2.os
  simp only at hg2 ho2 pl2 ra2 F2
  clear g2 F0
  refine ⟨_, _, F2, fun h3 F3 q3 _ => ?_⟩
  try dsimp only at F3 q3 ⊢
  have pl3 := q3.plain pl2
  have ra3 := ra2.seq q3
  clear pl2 ra2 F2 q3
  have hitl : its.length = n := by rw [ra3.get.1, hn]
  refine wpAny_execs_cons ?_
  with_reducible refine V.setC s.heap (s.heap.objs.size + 1 + 1) ?_ hcs sw_Call ?_
  · rfl
  with_reducible refine V.b1 G (hbs F3.keep) ?_ G.g_len ?_ ?_
  · rfl
  · rfl
  with_reducible refine V.lc _ F3 ?_ hcr yes ?_
  · rfl
  refine call_len_list pl3.isList (by rw [List.size_toArray]; omega) ?_
  rw [List.size_toArray, hitl]
  try dsimp only
  refine ⟨_, _, F3, fun h4 F4 q4 _ => ?_⟩
  try dsimp only at F4 q4 ⊢
  have pl4 := q4.plain pl3
  have ra4 := ra3.seq q4
  clear pl3 ra3 F3 q4
  refine wpAny_execs_cons ?_
  with_reducible refine V.setC s.heap (s.heap.objs.size + 1 + 1 + 1) ?_ hce sw_List ?_
  · rfl
  refine List_ ?_
  iterate 3 (refine lit_str ?_; dsimp only)
  refine lit_end ?_
  refine wpAny_newList ?_ (Nat.le_trans (Nat.le_of_eq rfl) (show 3 ≤ sizeLine by decide))
  refine ⟨_, _, F4.keeps fun b o e => Heap.get?_push_of_some _ e, fun h5 F5 q5 _ => ?_⟩
  obtain ⟨De, hDe⟩ : ∃ De, De = h4.objs.size := ⟨_, rfl⟩
  have en5 : ∃ its, PlainL h5 De its ∧ ∀ j, j < 3 → ∃ t, its[j]? = some (.str (getS endL j) t) := by
    rw [hDe]
    refine ⟨_, q5.plain ⟨_, _, Heap.get?_push_size _ rfl, rfl, rfl, rfl⟩, fun j hj => ?_⟩
    match j, hj with
    | 0, _ => exact ⟨_, rfl⟩
    | 1, _ => exact ⟨_, rfl⟩
    | 2, _ => exact ⟨_, rfl⟩
  have q45 : SeqK h4 h5 := fun b o xs n e hd => q5 b o xs n (Heap.get?_push_of_some _ e) hd
  rw [← hDe] at F5
  try dsimp only at F5 ⊢
  have pl5 := q45.plain pl4
  have ra5 := ra4.seq q45
  clear pl4 ra4 F4 q45 q5 hDe
  refine wpAny_execs_cons ?_
  with_reducible refine V.setC s.heap (s.heap.objs.size + 1 + 1 + 1 + 1) ?_ hcp sw_List ?_
  · rfl
  refine List_ ?_
  iterate 3 (refine lit_str ?_; dsimp only)
  refine lit_end ?_
  refine wpAny_newList ?_ (Nat.le_trans (Nat.le_of_eq rfl) (show 3 ≤ sizeLine by decide))
  refine ⟨_, _, F5.keeps fun b o e => Heap.get?_push_of_some _ e, fun h6 F6 q6 _ => ?_⟩
  obtain ⟨Dp, hDp⟩ : ∃ Dp, Dp = h5.objs.size := ⟨_, rfl⟩
  have pc6 : ∃ its, PlainL h6 Dp its ∧ ∀ j, j < 3 → ∃ t, its[j]? = some (.str (pieceL.getD j ⟨#[]⟩) t) := by
    rw [hDp]
    refine ⟨_, q6.plain ⟨_, _, Heap.get?_push_size _ rfl, rfl, rfl, rfl⟩, fun j hj => ?_⟩
    match j, hj with
    | 0, _ => exact ⟨_, rfl⟩
    | 1, _ => exact ⟨_, rfl⟩
    | 2, _ => exact ⟨_, rfl⟩
  have q56 : SeqK h5 h6 := fun b o xs n e hd => q6 b o xs n (Heap.get?_push_of_some _ e) hd
  rw [← hDp] at F6
  try dsimp only at F6 ⊢
  have pl6 := q56.plain pl5
  have ra6 := ra5.seq q56
  obtain ⟨ie, pe5, xe⟩ := en5
  have pe6 := q56.plain pe5
  obtain ⟨ip, pp6, xp⟩ := pc6
  clear pl5 ra5 F5 q56 q6 hDp pe5
  refine wpAny_execs_cons ?_
  with_reducible refine V.setC s.heap (s.heap.objs.size + 1 + 1 + 1 + 1 + 1) ?_ hcf ?sw1 ?_
  · rfl
  case sw1 => exact sw_cell V rfl
  refine comp_tri (cl := [(Str.ofString "pieces", s.heap.objs.size + 1 + 1 + 1 + 1)]) (fun j y => ∃ t, y = .str (getS (firstP rs) j) t) R.handled ?_ (by decide) rfl (by decide) rfl rfl rfl (by decide) (by decide) (by decide) ?_
  · have hco1 : cellOf env (Str.ofString "pieces") = pure (s.heap.objs.size + 1 + 1 + 1 + 1) := by unfold cellOf; rw [hcp]
    unfold closureFor
    simp only [List.forIn_cons, List.forIn_nil, hco1]
    rfl
  with_reducible refine V.lc _ F6 ?_ hcr (ng (ng (ng yes))) ?_
  · rfl
  refine ⟨Dr, _, rfl, pl6.isList, by rw [List.size_toArray]; omega, fun j hj => ?_, fun Df h7 tk7 ys hDf k7 pf hys hyj => ?_⟩
  · rw [List.size_toArray] at hj
    obtain ⟨r, hr, T, t1, u, t2, hT, ht⟩ := ra6.get.2 j its[j] (List.getElem?_eq_getElem hj)
    have hrm : r ∈ rs := List.mem_of_getElem? hr
    refine ⟨T, _, _, _, by rw [List.getElem?_toArray, List.getElem?_eq_getElem hj, hT], ht, fun C s₃ m₃ E' k3 hn3 hx3 hy3 hz3 => ?_⟩
    have VC := V.comp (scope := Scope.mk .function [(Str.ofString ".0", .local), (Str.ofString "kind", .local), (Str.ofString "dress", .local), (Str.ofString "end", .local), (Str.ofString "pieces", .free)] false false []) (cl := [(Str.ofString "pieces", s.heap.objs.size + 1 + 1 + 1 + 1)]) (C := C) rfl
    have hn3' : s₃.heap.Ns (compEnvC (Scope.mk .function [(Str.ofString ".0", .local), (Str.ofString "kind", .local), (Str.ofString "dress", .local), (Str.ofString "end", .local), (Str.ofString "pieces", .free)] false false []) [(Str.ofString "pieces", s.heap.objs.size + 1 + 1 + 1 + 1)] C env).locals m₃ := hn3
    have cp := (F6.cel hcp yes).keeps k3
    obtain ⟨tp, gp⟩ := xp r.kind (H.kind r hrm)
    refine wpAny_BinOp ?_
    refine ev_item (fun _ _ => .inl rfl) ?_
    with_reducible refine VC.ce ?_ ?_ cp ?_
    · rfl
    · rfl
    with_reducible refine VC.nm hn3' ?_ hx3 ?_
    · rfl
    refine ⟨Dp, _, _, _, _, rfl, rfl, (pp6.keeps k3).isList, by omega, by have := H.kind r hrm; omega, by rw [Int.toNat_natCast]; exact gp, ?_⟩
    with_reducible refine VC.nm hn3' ?_ hy3 ?_
    · rfl
    have hfr : getS (firstP rs) j = bareR r := by
      unfold getS firstP
      rw [List.getD_eq_getElem?_getD, List.getElem?_map, hr]
      rfl
    refine PyProof.Rows.add_str (fun t6 k6 => ⟨⟨t6, by rw [hfr]; rfl⟩, _, _, rfl, fun _ _ e => e⟩) ?_
    have h1 := H.len (bareR r) (List.mem_map_of_mem hrm)
    have h2 : 7 ≤ sizeLine := (by decide)
    unfold bareR at h1
    rw [Str.length_append] at h1
    exact Nat.le_trans h1 h2
  have hys2 : ys.size = n := by rw [hys, List.size_toArray]; exact hitl
  have hfl : (firstP rs).length = n := by unfold firstP; rw [List.length_map, hn]
  obtain ⟨lf, hlf1, hlf⟩ := arr_strs (f := getS (firstP rs)) hys2 (fun j hj => hyj j (by rw [List.size_toArray, hitl]; exact hj))
  rw [← hfl, range_getS] at hlf
  have hlfn : lf.length = n := by rw [← List.length_map (f := (·.1)), hlf, hfl]
  rw [hlf1] at pf
  have F7 := F6.keeps k7
  refine ⟨_, _, F7, fun h8 F8 q8 _ => ?_⟩
  try dsimp only at F8 q8 ⊢
  have pl8 := q8.plain (pl6.keeps k7)
  have ra8 := (ra6.seq (SeqK.of_keep k7)).seq q8
  have pe8 := q8.plain (pe6.keeps k7)
  have pf8 := q8.plain pf
  clear pl6 ra6 pe6 pf pp6 xp F6 F7 q8 hyj hys hys2 hlf1 hDf
  refine wpAny_execs_cons ?_
  with_reducible refine V.set s.heap ?_ sw_Bin ?_
  · rfl
  refine wpAny_BinOp ?_
  refine ev_lslice (fun _ _ => rfl) ?_
  with_reducible refine V.lc _ F8 ?_ hcf yes ?_
  · rfl
  refine evalPart_some_step (wpAny_Constant_int (evalPart_none_step ?_))
  try dsimp only
  refine ⟨Df, _, _, _, rfl, pf8.isList, by unfold strValues; simp; omega, .int _ _, .none, fun D1 h9 k9 pa9 _ => ?_⟩
  try dsimp only at k9 ⊢
  refine ev_lslice (fun _ _ => rfl) ?_
  with_reducible refine V.lc _ (F8.keeps k9) ?_ hcf yes ?_
  · rfl
  refine evalPart_none_step (evalPart_some_step (wpAny_Constant_int ?_))
  try dsimp only
  refine ⟨Df, _, _, _, rfl, (pf8.keeps k9).isList, by unfold strValues; simp; omega, .none, .int _ _, fun D2 h10 k10 pb10 _ => ?_⟩
  try dsimp only at k10 ⊢
  rw [show (1 : Int) = ((1 : Nat) : Int) from rfl, slicePick_from'] at pa9
  rw [show (1 : Int) = ((1 : Nat) : Int) from rfl, slicePick_upto'] at pb10
  refine cat_lists (pa9.keeps k10).isList pb10.isList (fun h11 k11 pc11 => ?_) (by unfold strValues; simp; omega)
  have pbe : PlainL h11 h10.objs.size (strValues (lf.drop 1 ++ lf.take 1)).toArray := by
    have : ((strValues lf).toArray.toList.drop 1).toArray ++ ((strValues lf).toArray.toList.take 1).toArray = (strValues (lf.drop 1 ++ lf.take 1)).toArray := by unfold strValues; simp [List.map_drop, List.map_take]
    rw [← this]
    exact pc11
  obtain ⟨Db, hDb⟩ : ∃ Db, Db = h10.objs.size := ⟨_, rfl⟩
  try dsimp only
  rw [← hDb] at pbe ⊢
  clear pc11 pa9 pb10
  have k811 : Keep h8 h11 := fun b o e => k11 b o (k10 b o (k9 b o e))
  have F11 := F8.keeps k811
  refine ⟨_, _, F11, fun h12 tk12 F12 q12 _ => ?_⟩
  try dsimp only at F12 q12 ⊢
  have q812 := (SeqK.of_keep k811).trans q12
  have pl12 := q812.plain pl8
  have ra12 := ra8.seq q812
  have pe12 := q812.plain pe8
  have pf12 := q812.plain pf8
  have pb12 := q12.plain pbe
  clear pl8 ra8 pe8 pf8 F8 F11 k9 k10 k11 q812 q12 pbe hDb k811
  refine wpAny_execs_cons ?_
  with_reducible refine V.set s.heap ?_ sw_Bin ?_
  · rfl
  refine wpAny_BinOp ?_
  refine ev_lslice (fun _ _ => rfl) ?_
  with_reducible refine V.lc _ F12 ?_ hcf yes ?_
  · rfl
  refine evalPart_some_step (UnaryOp_ (wpAny_Constant_int (PyProof.Rows.neg_int (evalPart_none_step ?_))))
  try dsimp only
  refine ⟨Df, _, _, _, rfl, pf12.isList, by unfold strValues; simp; omega, .int _ _, .none, fun D3 h13 k13 pa13 _ => ?_⟩
  try dsimp only at k13 ⊢
  refine ev_lslice (fun _ _ => rfl) ?_
  with_reducible refine V.lc _ (F12.keeps k13) ?_ hcf yes ?_
  · rfl
  refine evalPart_none_step (evalPart_some_step (UnaryOp_ (wpAny_Constant_int (PyProof.Rows.neg_int ?_))))
  try dsimp only
  refine ⟨Df, _, _, _, rfl, (pf12.keeps k13).isList, by unfold strValues; simp; omega, .none, .int _ _, fun D4 h14 k14 pb14 _ => ?_⟩
  try dsimp only at k14 ⊢
  rw [show (-1 : Int) = -((1 : Nat) : Int) from rfl, slicePick_last _ 1 (Nat.le_refl _)] at pa13
  rw [show (-1 : Int) = -((1 : Nat) : Int) from rfl, slicePick_butLast _ 1 (Nat.le_refl _)] at pb14
  refine cat_lists (pa13.keeps k14).isList pb14.isList (fun h15 k15 pc15 => ?_) (by unfold strValues; simp; omega)
  have pah : PlainL h15 h14.objs.size (strValues (lf.drop (n - 1) ++ lf.take (n - 1))).toArray := by
    have : ((strValues lf).toArray.toList.drop ((strValues lf).toArray.size - 1)).toArray ++ ((strValues lf).toArray.toList.take ((strValues lf).toArray.size - 1)).toArray = (strValues (lf.drop (n - 1) ++ lf.take (n - 1))).toArray := by unfold strValues; simp [List.map_drop, List.map_take, hlfn]
    rw [← this]
    exact pc15
  obtain ⟨Da, hDa⟩ : ∃ Da, Da = h14.objs.size := ⟨_, rfl⟩
  try dsimp only
  rw [← hDa] at pah ⊢
  clear pc15 pa13 pb14
  have k1215 : Keep h12 h15 := fun b o e => k15 b o (k14 b o (k13 b o e))
  have F15 := F12.keeps k1215
  refine ⟨_, _, F15, fun h16 tk16 F16 q16 _ => ?_⟩
  try dsimp only at F16 q16 ⊢
  have q1216 := (SeqK.of_keep k1215).trans q16
  have pl16 := q1216.plain pl12
  have ra16 := ra12.seq q1216
  have pe16 := q1216.plain pe12
  have pf16 := q1216.plain pf12
  have pb16 := q1216.plain pb12
  have pa16 := q16.plain pah
  clear pl12 ra12 pe12 pf12 pb12 F12 F15 k13 k14 k15 q1216 q16 pah hDa k1215
  have kbX : ∀ {h : Heap}, Keep h16 h → Keep base h := fun k => hbs fun b o e => k b o (F16.keep b o e)
  have RT : Room A (15 + 1) := ⟨R.handled, by have := R.depth; omega, by have := R.units; omega⟩
  have tkn : ∀ {σ : Shared} {Q' : Value → Shared → Prop} (X : Addr) (l : List (Str × Tok)) (page : Bool), Keep h16 σ.heap → PlainL h16 X (strValues l).toArray → l.length = n → (∀ y ∈ l.map (·.1), y ∈ firstP rs) →
      (∀ s', Gro σ s' → Q' (.bool (takenF (l.map (·.1)) page)) s') → wpAny (model prog w) A (call (.ref 95) [.ref X, .bool page]) Q' (fun _ _ => False) σ := by
    intro σ Q' X l page k p hln hmem hq'
    refine taken_call G (kbX k) RT X l page (p.keeps k).isList (by rw [List.length_map]; omega) (fun y hy => Nat.le_trans (H.len y (hmem y hy)) (by decide)) ?_ hq'
    exact Nat.le_trans (join0_le (fun y hy => H.len y (hmem y hy)) (by rw [List.length_map]; omega)) (by decide)
  have mem1 : ∀ k, ∀ y ∈ (lf.drop k ++ lf.take k).map (·.1), y ∈ firstP rs := by
    intro k y hy
    rw [List.map_append, List.map_drop, List.map_take, hlf] at hy
    rcases List.mem_append.mp hy with h | h
    · exact List.mem_of_mem_drop h
    · exact List.mem_of_mem_take h
  have len1 : ∀ k, k ≤ n → (lf.drop k ++ lf.take k).length = n := by
    intro k hk
    rw [List.length_append, List.length_drop, List.length_take]
    omega
  have map1 : ∀ k, (lf.drop k ++ lf.take k).map (·.1) = (firstP rs).drop k ++ (firstP rs).take k := by
    intro k
    rw [List.map_append, List.map_drop, List.map_take, hlf]
  have T1 := H.t1
  have T2 := H.t2
  have T3 := H.t3
  have T4 := H.t4
  have T5 := H.t5
  rw [← hn] at T5
  refine wpAny_execs_cons ?_
  refine wpAny_If ?_
  refine isTrue_or (wpAny_isTrue_Compare1 ?_)
  with_reducible refine V.o2 G (hbs F16.keep) ?_ G.g_taken ?_ ?_ ?_
  · rfl
  · exact G.k95
  · rfl
  with_reducible refine V.lc _ F16 ?_ hcf yes ?_
  · rfl
  refine wpAny_Constant_bool ⟨hbs F16.keep, ?_⟩
  refine tkn Df lf false (fun _ _ e => e) pf16 hlfn (by rw [hlf]; exact fun y hy => hy) fun s17 g17 => ?_
  rw [hlf, T1]
  refine wpAny_Constant_bool ?_
  refine isnot_bool ?_
  refine wpAny_truthy_bool ?_
  rw [show (true != true) = false from rfl, if_neg (by simp)]
  refine isTrue_or (wpAny_isTrue_Compare1 ?_)
  have k17 : Keep h16 s17.heap := g17.heap
  with_reducible refine V.o2 G (kbX k17) ?_ G.g_taken ?_ ?_ ?_
  · rfl
  · exact G.k95
  · rfl
  with_reducible refine V.lc _ (F16.keeps k17) ?_ hcf yes ?_
  · rfl
  refine wpAny_Constant_bool ⟨kbX k17, ?_⟩
  refine tkn Df lf true k17 pf16 hlfn (by rw [hlf]; exact fun y hy => hy) fun s18 g18 => ?_
  rw [hlf, T2]
  refine wpAny_Constant_bool ?_
  refine isnot_bool ?_
  refine wpAny_truthy_bool ?_
  rw [show (true != true) = false from rfl, if_neg (by simp)]
  refine isTrue_or_nil ?_
  rw [if_neg (by simp)]
  refine wpAny_execs_nil ?_
  dsimp only
  have k18 : Keep h16 s18.heap := fun b o e => g18.heap b o (k17 b o e)
  refine wpAny_execs_cons ?_
  refine wpAny_If ?_
  refine isTrue_or (wpAny_isTrue_Compare1 ?_)
  with_reducible refine V.o2 G (kbX k18) ?_ G.g_taken ?_ ?_ ?_
  · rfl
  · exact G.k95
  · rfl
  with_reducible refine V.ld (F16.keeps k18) ?_ (ng yes) ?_
  · rfl
  refine wpAny_Constant_bool ⟨kbX k18, ?_⟩
  refine tkn Db _ false k18 pb16 (len1 1 (by omega)) (mem1 1) fun s19 g19 => ?_
  rw [map1, T3]
  refine wpAny_Constant_bool ?_
  refine isnot_bool ?_
  refine wpAny_truthy_bool ?_
  rw [show (false != false) = false from rfl, if_neg (by simp)]
  have k19 : Keep h16 s19.heap := fun b o e => g19.heap b o (k18 b o e)
  refine isTrue_or (wpAny_isTrue_Compare1 ?_)
  with_reducible refine V.o2 G (kbX k19) ?_ G.g_taken ?_ ?_ ?_
  · rfl
  · exact G.k95
  · rfl
  with_reducible refine V.ld (F16.keeps k19) ?_ (ng yes) ?_
  · rfl
  refine wpAny_Constant_bool ⟨kbX k19, ?_⟩
  refine tkn Db _ true k19 pb16 (len1 1 (by omega)) (mem1 1) fun s20 g20 => ?_
  rw [map1, T4]
  refine wpAny_Constant_bool ?_
  refine isnot_bool ?_
  refine wpAny_truthy_bool ?_
  rw [show (true != true) = false from rfl, if_neg (by simp)]
  refine isTrue_or_nil ?_
  rw [if_neg (by simp)]
  refine wpAny_execs_nil ?_
  dsimp only
  have k20 : Keep h16 s20.heap := fun b o e => g20.heap b o (k19 b o e)
  refine wpAny_execs_cons ?_
  refine wpAny_If ?_
  refine wpAny_isTrue_Compare1 ?_
  with_reducible refine V.o2 G (kbX k20) ?_ G.g_taken ?_ ?_ ?_
  · rfl
  · exact G.k95
  · rfl
  with_reducible refine V.ld (F16.keeps k20) ?_ yes ?_
  · rfl
  refine wpAny_Constant_bool ⟨kbX k20, ?_⟩
  refine tkn Da _ true k20 pa16 (len1 (n - 1) (by omega)) (mem1 (n - 1)) fun s21 g21 => ?_
  rw [map1, T5]
  refine wpAny_Constant_bool ?_
  refine isnot_bool ?_
  refine wpAny_truthy_bool ?_
  rw [show (false != false) = false from rfl, if_neg (by simp)]
  refine wpAny_execs_nil ?_
  dsimp only
  have k21 : Keep h16 s21.heap := fun b o e => g21.heap b o (k20 b o e)
  have bare21 : AllBare s.gens → AllBare s21.gens := fun h => g21.bare (g20.bare (g19.bare (g18.bare (g17.bare (hg2 h)))))
  have os21 : s21.os = s.os := g21.os.trans (g20.os.trans (g19.os.trans (g18.os.trans (g17.os.trans ho2))))
  have F21 := F16.keeps k21
  have pl21 := pl16.keeps k21
  have ra21 := ra16.seq (SeqK.of_keep k21)
  have pe21 := pe16.keeps k21
  have pf21 := pf16.keeps k21
  obtain ⟨h21, gg21, dd21, tk21, os21'⟩ := s21
  simp only at bare21 os21 F21 pl21 ra21 pe21 pf21
  clear pl16 ra16 pe16 pf16 pb16 pa16 tkn mem1 len1 map1 kbX k21 k20 k19 k18 k17 g17 g18 g19 g20 g21 hg2 ho2 T1 T2 T3 T4 T5 F16
  have la1 : (Str.ofString "&" : Str) = ⟨#[38]⟩ := by decide +kernel
  have la2 : (Str.ofString "<" : Str) = ⟨#[60]⟩ := by decide +kernel
  have la3 : (Str.ofString "\"" : Str) = ⟨#[34]⟩ := by decide +kernel
  have la4 : (Str.ofString "\t" : Str) = ⟨#[9]⟩ := by decide +kernel
  have lb1 : (Str.ofString "&amp;" : Str) = ⟨#[38, 97, 109, 112, 59]⟩ := by decide +kernel
  have lb2 : (Str.ofString "&lt;" : Str) = ⟨#[38, 108, 116, 59]⟩ := by decide +kernel
  have lb3 : (Str.ofString "&quot;" : Str) = ⟨#[38, 113, 117, 111, 116, 59]⟩ := by decide +kernel
  have lb4 : (Str.ofString "&#09;" : Str) = ⟨#[38, 35, 48, 57, 59]⟩ := by decide +kernel
  have lem : (Str.ofString "" : Str) = ⟨#[]⟩ := by decide +kernel
  have ldot : (Str.ofString "." : Str) = dotS := by decide +kernel
  refine wpAny_execs_cons ?_
  with_reducible refine V.setC s.heap (s.heap.objs.size + 1 + 1 + 1 + 1 + 1 + 1) ?_ hcn sw_Dict ?_
  · rfl
  with_reducible refine Dict_lits_str (D := [(.str (Str.ofString "&"), .str (Str.ofString "&amp;")), (.str (Str.ofString "<"), .str (Str.ofString "&lt;")), (.str (Str.ofString "\""), .str (Str.ofString "&quot;")), (.str (Str.ofString "\t"), .str (Str.ofString "&#09;"))]) ?_ ?_ ?_ ?_ ?_ ?_ ?_ fun Dn o h22 tk22 hDn ho htab hk22 => ?_
  · rfl
  · rfl
  · decide +kernel
  · rfl
  · rfl
  · exact fun h => nomatch h
  · decide
  rw [la1, la2, la3, la4, lb1, lb2, lb3, lb4] at htab
  obtain ⟨kvs, hd, hf⟩ := htab
  obtain ⟨u1, u2, u3, u4, rfl⟩ := names_kvs hf
  have dict22 : h22.DictOf (strKind prog w) Dn _ := Heap.dictOf_iff.mpr ⟨o, ho, hd⟩
  try dsimp only at hk22 hDn ⊢
  have F22 := F21.keeps hk22
  have hnc : Dn ≠ s.heap.objs.size + 1 + 1 + 1 + 1 + 1 + 1 := by
    have h1 := (F21.cell _ _ hcn).lt
    exact Nat.ne_of_gt (Nat.lt_of_lt_of_le h1 hDn)
  have hds : (Dn == sysModules) = false := by
    have h1 := (F21.cell _ _ hcn).lt
    have h2 : 1 < Dn := Nat.lt_of_lt_of_le (Nat.lt_of_le_of_lt (Nat.succ_le_succ (Nat.zero_le _)) h1) hDn
    have h3 : Dn ≠ sysModules := Nat.ne_of_gt h2
    simpa using h3
  refine ⟨_, _, F22, fun h23 F23 q23 sb23 => ?_⟩
  try dsimp only at F23 q23 sb23 ⊢
  have q2123 := (SeqK.of_keep hk22).trans q23
  have dict23 := dict22.sameBut sb23 hnc
  have pl23 := q2123.plain pl21
  have ra23 := ra21.seq q2123
  have pe23 := q2123.plain pe21
  have pf23 := q2123.plain pf21
  clear pl21 ra21 pe21 pf21 F21 F22 dict22 q23 sb23 hk22 hd hf ho hDn hnc q2123
  have hxl : (Txt.join ⟨#[]⟩ (firstP rs)).length ≤ 63 := join0_le H.len (by omega)
  have jok : JoinOk ⟨#[]⟩ (firstP rs) = true := join_ok (by omega) (fun y hy => Nat.le_trans (H.len y hy) (by decide)) (by decide)
  obtain ⟨X, hX⟩ : ∃ X, X = Txt.join ⟨#[]⟩ (firstP rs) := ⟨_, rfl⟩
  have hesc := H.esc
  rw [← hX] at hxl hesc
  refine wpAny_execs_cons ?_
  refine wpAny_If ?_
  refine wpAny_isTrue_Compare1 ?_
  with_reducible refine V.o1 G (hbs F23.keep) ?_ G.g_esc ?_ ?_ ?_
  · rfl
  · exact G.k45
  · rfl
  with_reducible refine Call_method1 ?_ ?_ ?_ ?_
  · rfl
  · rfl
  · rfl
  refine wpAny_mkText ?_
  refine SB.join ?_
  with_reducible refine V.lc _ F23 ?_ hcf (ng yes) ?_
  · rfl
  rw [lem]
  refine ⟨Df, lf, rfl, pf23.isList, _, hlf, jok, fun t24 k24 => ?_⟩
  refine ⟨hbs F23.keep, ?_⟩
  rw [← hX]
  try dsimp only
  refine esc_call G (hbs F23.keep) ⟨R.handled, by have := R.depth; omega, by have := R.units; omega⟩ X _ (by omega) fun t25 s25 g25 => ?_
  have k25 : Keep h23 s25.heap := g25.heap
  with_reducible refine Call_method1 ?_ ?_ ?_ ?_
  · rfl
  · rfl
  · rfl
  refine wpAny_mkText ?_
  refine SB.join ?_
  with_reducible refine comp_str (cl := [(Str.ofString "names", s.heap.objs.size + 1 + 1 + 1 + 1 + 1 + 1)]) (fun c y => ∃ t, y = .str ⟨(nameC c).toArray⟩ t) R.handled ?_ ?_ ?_ ?_ ?_ ?_ ?hs1
  case hs1 => intro _; rfl
  · have hco1 : cellOf env (Str.ofString "names") = pure (s.heap.objs.size + 1 + 1 + 1 + 1 + 1 + 1) := by unfold cellOf; rw [hcn]
    unfold closureFor
    simp only [List.forIn_cons, List.forIn_nil, hco1]
    rfl
  · decide
  · rfl
  · decide
  · rfl
  with_reducible refine Call_method1 ?_ ?_ ?_ ?_
  · rfl
  · rfl
  · rfl
  refine wpAny_mkText ?_
  refine SB.join ?_
  with_reducible refine V.lc _ (F23.keeps k25) ?_ hcf (ng yes) ?_
  · rfl
  refine ⟨Df, lf, rfl, (pf23.keeps k25).isList, _, hlf, jok, fun t26 k26 => ?_⟩
  rw [← hX]
  refine ⟨X, _, rfl, by omega, fun C c t₃ s₃ m₃ E' hc k3 hn3 hm3 => ?_, fun Dk h27 tk27 yk hDk k27 pk hyk hkj => ?_⟩
  · have VC := V.comp (scope := Scope.mk .function [(Str.ofString ".0", .local), (Str.ofString "sign", .local), (Str.ofString "names", .free)] false false []) (cl := [(Str.ofString "names", s.heap.objs.size + 1 + 1 + 1 + 1 + 1 + 1)]) (C := C) rfl
    have hn3' : s₃.heap.Ns (compEnvC (Scope.mk .function [(Str.ofString ".0", .local), (Str.ofString "sign", .local), (Str.ofString "names", .free)] false false []) [(Str.ofString "names", s.heap.objs.size + 1 + 1 + 1 + 1 + 1 + 1)] C env).locals m₃ := hn3
    have k3' : Keep h23 s₃.heap := fun b o e => k3 b o (k25 b o e)
    have cn := (F23.cel hcn yes).keeps k3'
    have d3 := dict23.keep k3'
    refine Call_method2 rfl rfl rfl ?_
    with_reducible refine VC.ce ?_ ?_ cn ?_
    · rfl
    · rfl
    refine ⟨"dict", "dict.get", F.plainAttrs_dict, F.slot_dict_get, F.type_dict_get, d3.typeIs, d3.mapOf.noDict, ?_⟩
    refine wpAny_dict_get2 (knd := strKind prog w) hds ?_
    with_reducible refine VC.nm hn3' ?_ hm3 ?_
    · rfl
    with_reducible refine VC.nm hn3' ?_ hm3 ?_
    · rfl
    refine ⟨_, _, strKind_is prog w _ _, d3.mapOf, ?_⟩
    exact ⟨name_at c _ _ _ _ _, _, _, rfl, fun _ _ e => e⟩
  obtain ⟨lk, hlk1, hlk⟩ := arr_strs (f := fun j => ⟨(nameC (X.cps.toList.getD j 0)).toArray⟩) (n := X.cps.toList.length) (ys := yk) (by rw [hyk]; rfl) (fun j hj => by
    have hc : X.cps[j]? = some (X.cps.toList.getD j 0) := by
      rw [List.getD_eq_getElem?_getD, ← Array.getElem?_toList, List.getElem?_eq_getElem hj]
      rfl
    exact hkj j _ hc)
  have hmap := names_map X.cps.toList
  rw [hmap] at hlk
  rw [hlk1] at pk
  have hXl : X.cps.toList.length ≤ 63 := hxl
  refine ⟨Dk, lk, rfl, pk.isList, _, hlk, join_ok (by rw [List.length_map]; omega) (fun y hy => ?_) (by decide), fun t28 k28 => ?_⟩
  · obtain ⟨c, _, rfl⟩ := List.mem_map.mp hy
    show (nameC c).toArray.size ≤ 1000
    rw [List.size_toArray]
    exact Nat.le_trans (nameC_len c) (by decide)
  refine PyProof.Rows.ne_str ?_
  refine wpAny_truthy_bool ?_
  have heq : (⟨(escL X.cps.toList).toArray⟩ : Str) = Txt.join ⟨#[]⟩ (X.cps.toList.map fun c => (⟨(nameC c).toArray⟩ : Str)) := by
    refine Str.ext' (Array.toList_inj.mp ?_)
    rw [join_empty, hesc, List.flatMap_map]
  rw [← heq, show ((⟨(escL X.cps.toList).toArray⟩ : Str) != ⟨(escL X.cps.toList).toArray⟩) = false by simp, if_neg (by simp)]
  refine wpAny_execs_nil ?_
  dsimp only
  have k2527 : Keep h23 h27 := fun b o e => k27 b o (k25 b o e)
  have F27 := F23.keeps k2527
  have pl27 := pl23.keeps k2527
  have ra27 := ra23.seq (SeqK.of_keep k2527)
  have pe27 := pe23.keeps k2527
  have pf27 := pf23.keeps k2527
  have bare27 : AllBare s.gens → AllBare s25.gens := fun h => g25.bare (bare21 h)
  have os27 : s25.os = s.os := g25.os.trans os21
  clear pl23 ra23 pe23 pf23 F23 dict23 k2527 k27 k25 g25 heq hlk hmap hlk1 pk hkj bare21 os21
  refine wpAny_execs_cons ?_
  with_reducible refine V.set s.heap ?_ sw_Call ?_
  · rfl
  with_reducible refine V.o1 G (hbs F27.keep) ?_ G.g_quote ?_ ?_ ?_
  · rfl
  · exact G.k83
  · rfl
  with_reducible refine Call_method1 ?_ ?_ ?_ ?_
  · rfl
  · rfl
  · rfl
  refine wpAny_mkText ?_
  refine SB.join ?_
  with_reducible refine comp_rng (cl := [(Str.ofString "size", s.heap.objs.size + 1 + 1), (Str.ofString "rows", s.heap.objs.size + 1), (Str.ofString "first", s.heap.objs.size + 1 + 1 + 1 + 1 + 1), (Str.ofString "ends", s.heap.objs.size + 1 + 1 + 1)]) 0 (fun j y => ∃ t, y = .str (Txt.mul dotS (rs.length - j : Nat) ++ getS (firstP rs) j ++ getS endL (finAt rs j)) t) R.handled ?_ ?_ ?_ ?_ ?_ ?_ ?hs2
  case hs2 => intro _; rfl
  · have hco1 : cellOf env (Str.ofString "ends") = pure (s.heap.objs.size + 1 + 1 + 1) := by unfold cellOf; rw [hce]
    have hco2 : cellOf env (Str.ofString "first") = pure (s.heap.objs.size + 1 + 1 + 1 + 1 + 1) := by unfold cellOf; rw [hcf]
    have hco3 : cellOf env (Str.ofString "rows") = pure (s.heap.objs.size + 1) := by unfold cellOf; rw [hcr]
    have hco4 : cellOf env (Str.ofString "size") = pure (s.heap.objs.size + 1 + 1) := by unfold cellOf; rw [hcs]
    unfold closureFor
    simp only [List.forIn_cons, List.forIn_nil, hco1, hco2, hco3, hco4]
    rfl
  · decide
  · rfl
  · decide
  · rfl
  with_reducible refine V.r1 G (hbs F27.keep) ?_ ?_ ?_
  · rfl
  · rfl
  with_reducible refine V.lc _ F27 ?_ hcs (ng (ng (ng (ng yes)))) ?_
  · rfl
  refine ⟨_, _, rfl, fun rg h28 tk28 v1 v2 v3 hr28 hk28 _ => ?_⟩
  try dsimp only at hr28 hk28 ⊢
  refine ⟨rg, n, v1, v2, v3, rfl, by rw [Int.zero_add]; exact hr28, by decide, by decide, by omega, fun C j t₃ s₃ m₃ E' hj k3 _ hn3 hm3 => ?_, fun Dk2 h29 tk29 y2 hDk2 k29 pk2 hyk2 hkj2 => ?_⟩
  · have VC := V.comp (scope := Scope.mk .function [(Str.ofString ".0", .local), (Str.ofString "i", .local), (Str.ofString "ends", .free), (Str.ofString "first", .free), (Str.ofString "rows", .free), (Str.ofString "size", .free)] false false []) (cl := [(Str.ofString "size", s.heap.objs.size + 1 + 1), (Str.ofString "rows", s.heap.objs.size + 1), (Str.ofString "first", s.heap.objs.size + 1 + 1 + 1 + 1 + 1), (Str.ofString "ends", s.heap.objs.size + 1 + 1 + 1)]) (C := C) rfl
    have hn3' : s₃.heap.Ns (compEnvC (Scope.mk .function [(Str.ofString ".0", .local), (Str.ofString "i", .local), (Str.ofString "ends", .free), (Str.ofString "first", .free), (Str.ofString "rows", .free), (Str.ofString "size", .free)] false false []) [(Str.ofString "size", s.heap.objs.size + 1 + 1), (Str.ofString "rows", s.heap.objs.size + 1), (Str.ofString "first", s.heap.objs.size + 1 + 1 + 1 + 1 + 1), (Str.ofString "ends", s.heap.objs.size + 1 + 1 + 1)] C env).locals m₃ := hn3
    have k3' : Keep h27 s₃.heap := fun b o e => k3 b o (hk28 b o e)
    have cs' := (F27.cel hcs (ng (ng (ng (ng yes))))).keeps k3'
    have cr' := (F27.cel hcr (ng (ng (ng (ng (ng yes)))))).keeps k3'
    have cf' := (F27.cel hcf (ng yes)).keeps k3'
    have ce' := (F27.cel hce (ng (ng (ng yes)))).keeps k3'
    rw [Int.zero_add] at hm3
    obtain ⟨tf, gf⟩ := strs_get hlf (p := j) (by rw [hfl]; exact hj)
    have hji : j < its.length := by rw [hitl]; exact hj
    obtain ⟨r, hr, T, t1, u, t2, hT, ht⟩ := ra27.get.2 j its[j] (List.getElem?_eq_getElem hji)
    have hrm : r ∈ rs := List.mem_of_getElem? hr
    have hfin : finAt rs j = r.fin := by
      unfold finAt
      rw [List.getD_eq_getElem?_getD, hr]
      rfl
    have hr3 := H.fin r hrm
    obtain ⟨te, ge⟩ := xe r.fin hr3
    have hmo := mul_ok (n := n - j) (by omega)
    have hfj := getS_len (p := j) H.len
    have hbig : 200 ≤ sizeLine := (by decide)
    have hel : (getS endL (finAt rs j)).length ≤ 2 := by
      rw [hfin]
      match r.fin, hr3 with
      | 0, _ => decide
      | 1, _ => decide
      | 2, _ => decide
    refine wpAny_BinOp ?_
    refine wpAny_BinOp ?_
    refine wpAny_BinOp ?_
    refine wpAny_mkText ?_
    refine wpAny_BinOp ?_
    with_reducible refine VC.ce ?_ ?_ cs' ?_
    · rfl
    · rfl
    with_reducible refine VC.nm hn3' ?_ hm3 ?_
    · rfl
    refine PyProof.Rows.sub_int ?_
    rw [show (n : Int) - (j : Nat) = ((n - j : Nat) : Int) by omega, ldot]
    refine SB.mul hmo.1 fun t5 k5 => ?_
    try dsimp only
    refine ev_item (fun _ _ => .inl rfl) ?_
    with_reducible refine VC.ce ?_ ?_ cf' ?_
    · rfl
    · rfl
    with_reducible refine VC.nm hn3' ?_ hm3 ?_
    · rfl
    refine ⟨Df, _, _, _, _, rfl, rfl, (pf27.keeps k3').isList, by omega, by omega, by rw [Int.toNat_natCast]; exact gf, ?_⟩
    refine PyProof.Rows.add_str (fun t6 k6 => ?_) (by omega)
    try dsimp only
    refine ev_item (fun _ _ => .inl rfl) ?_
    with_reducible refine VC.ce ?_ ?_ ce' ?_
    · rfl
    · rfl
    refine ev_item_t (fun _ _ => .inl rfl) ?_
    refine ev_item (fun _ _ => .inl rfl) ?_
    with_reducible refine VC.ce ?_ ?_ cr' ?_
    · rfl
    · rfl
    with_reducible refine VC.nm hn3' ?_ hm3 ?_
    · rfl
    refine ⟨Dr, _, _, _, _, rfl, rfl, (pl27.keeps k3').isList, by omega, by omega, by rw [Int.toNat_natCast, List.getElem?_toArray, List.getElem?_eq_getElem hji], ?_⟩
    refine wpAny_Constant_int ?_
    refine ⟨T, _, _, _, 2, hT, rfl, (SeqK.of_keep k3').tup ht, by decide, rfl, ?_⟩
    refine ⟨De, _, _, _, _, rfl, rfl, (pe27.keeps k3').isList, by omega, by omega, by rw [Int.toNat_natCast]; exact ge, ?_⟩
    refine PyProof.Rows.add_str (fun t7 k7 => ⟨⟨t7, by rw [hfin, ← hn]⟩, _, _, rfl, fun _ _ e => e⟩) (by rw [Str.length_append]; rw [hfin] at hel; omega)
  obtain ⟨lS, hlS1, hlS⟩ := arr_strs hyk2 hkj2
  have hlS2 : lS.map (·.1) = startP rs := by rw [hlS, hn]; rfl
  rw [hlS1] at pk2
  have hSl : (startP rs).length ≤ 9 := by unfold startP; simp; omega
  refine ⟨Dk2, lS, rfl, pk2.isList, _, hlS2, join_ok (by omega) (fun y hy => Nat.le_trans (H.st2 y hy) (by decide)) (by decide), fun t30 k30 => ?_⟩
  have k2729 : Keep h27 h29 := fun b o e => k29 b o (hk28 b o e)
  have F29 := F27.keeps k2729
  refine ⟨hbs F29.keep, ?_⟩
  try dsimp only
  refine quote_call G (hbs F29.keep) ⟨R.handled, by have := R.depth; omega, by have := R.units; omega⟩ _ _ H.stl fun t31 s31 g31 => ?_
  rw [show dotF (crF (Txt.join ⟨#[]⟩ (startP rs))) = tx 0 from H.start.symm]
  have k2731 : Keep h27 s31.heap := fun b o e => g31.heap b o (k2729 b o e)
  have F31 := F27.keeps k2731
  refine ⟨_, _, F31, fun h32 tk32 F32 q32 _ => ?_⟩
  try dsimp only at F32 q32 ⊢
  have bare32 : AllBare s.gens → AllBare s31.gens := fun h => g31.bare (bare27 h)
  have os32 : s31.os = s.os := g31.os.trans os27
  clear pl27 ra27 pe27 pf27 F27 k2729 hk28 k29 g31 k2731 F31 F29 bare27 os27 hlS hlS2 hlS1 pk2 hkj2 q32
  refine wpAny_execs_cons ?_
  with_reducible refine V.set s.heap ?_ sw_Name ?_
  · rfl
  with_reducible refine V.ld F32 ?_ yes ?_
  · rfl
  refine ⟨_, _, F32, fun h33 tk33 F33 _ _ => ?_⟩
  try dsimp only at F33 ⊢
  clear F32
  refine wpAny_execs_cons ?_
  with_reducible refine V.set s.heap ?_ sw_List ?_
  · rfl
  refine List_ ?_
  refine lit_end ?_
  refine wpAny_newList ?_ (by decide)
  refine ⟨_, _, F33.keeps fun b o e => Heap.get?_push_of_some _ e, fun h34 tk34 F34 q34 _ => ?_⟩
  obtain ⟨Dt, hDt⟩ : ∃ Dt, Dt = h33.objs.size := ⟨_, rfl⟩
  have pt34 : PlainL h34 Dt ([] : List Value).toArray := by
    rw [hDt]
    exact q34.plain ⟨_, _, Heap.get?_push_size _ rfl, rfl, rfl, rfl⟩
  have frt := fresh_none F33.keep
  rw [← hDt] at F34 frt
  try dsimp only at F34 ⊢
  clear F33 q34 hDt
  refine wpAny_execs_cons ?_
  with_reducible refine For_rng (h₀ := s.heap) R.handled V.fn ((V.kind _).trans ?_) (fun _ => ?_) ?_
  · rfl
  · rfl
  with_reducible refine V.r1 G (hbs F34.keep) ?_ ?_ ?_
  · rfl
  · rfl
  with_reducible refine V.lc _ F34 ?_ hcs (ng (ng (ng (ng yes)))) ?_
  · rfl
  refine ⟨_, _, rfl, fun rg h35 tk35 w1 w2 w3 hr35 hk35 _ => ?_⟩
  try dsimp only at hr35 hk35 ⊢
  have F35 := F34.keeps hk35
  have pt35 := pt34.keeps hk35
  have hDt35 : Dt < h35.objs.size := pt35.lt
  let J : Nat → (Str → Option Value) → (Str → Option Value) → Shared → Prop := fun i m cm σ => ∃ (itt : List Value) (ta tb : Tok),
    m (Str.ofString "text") = some (.str (tx i) ta) ∧ m (Str.ofString "start") = some (.str (tx 0) tb) ∧ m (Str.ofString "turns") = some (.ref Dt) ∧ cm (Str.ofString "size") = some (.int (n : Nat) (tk2 + 1)) ∧
    PlainL σ.heap Dt itt.toArray ∧ TurnsAt σ.heap itt rsT bs cs ∧ itt.length = i ∧ (AllBare s.gens → AllBare σ.gens) ∧ σ.os = s.os
  refine ⟨rg, 0, n, w1, w2, w3, _, _, J, rfl, by rw [Int.zero_add]; exact hr35, by decide, by decide, by omega, F35, ?j0, ?stable, ?turn, ?done⟩
  case j0 =>
    exact ⟨[], _, _, ng yes, ng (ng yes), yes, ng (ng (ng (ng yes))), pt35, fun j hj => absurd hj (Nat.not_lt_zero _), rfl, bare32, os32⟩
  case stable =>
    rintro i m cm σ h' tk ⟨itt, ta, tb, j1, j2, j3, j4, j5, j6, j7⟩ q
    exact ⟨itt, ta, tb, j1, j2, j3, j4, q.plain j5, j6.seq q, j7⟩
  case turn =>
    rintro i m cm σ tp hi ⟨itt, ta, tb, j1, j2, j3, j4, j5, j6, j7, j8, j9⟩ hkeep Fσ
    rw [Int.zero_add] at Fσ
    refine wpAny_execs_cons ?_
    with_reducible refine V.five (h₀ := s.heap) R.handled ?_ ?_ ?_ ?_ ?_ ?_ ?_ ?_
    · rfl
    · rfl
    · rfl
    · rfl
    · rfl
    · rfl
    · rfl
    with_reducible refine V.o1 G (hbs Fσ.keep) ?_ G.g_turn ?_ ?_ ?_
    · rfl
    · exact G.k100
    · rfl
    with_reducible refine V.ld Fσ ?_ (ng j1) ?_
    · rfl
    refine ⟨hbs Fσ.keep, ?_⟩
    refine turn_ok G (hbs Fσ.keep) R _ _ (rsT i) (bs i) (cs i) (H.turn i (by omega)) fun T t1 t2 t3 t4 t5 s40 g40 hT40 => ?_
    rw [← H.next i (by omega)] at hT40
    have F40 := Fσ.keeps g40.heap
    refine ⟨T, _, _, _, _, _, _, _, rfl, hT40, F40, fun h41 tk41 F41 q41 i41 => ?_⟩
    try dsimp only at F41 q41 i41 ⊢
    have q41σ : SeqK σ.heap h41 := (SeqK.of_keep g40.heap).trans q41
    have hi41 : Hi h35.objs.size σ.heap h41 := (Hi.keep g40.heap).trans (i41 _ F35.ns.lt)
    have pt41 := q41σ.plain j5
    have ta41 := j6.seq q41σ
    refine wpAny_execs_cons ?_
    refine wpAny_Expr ?_ V.inter rfl
    refine wpAny_Call_append rfl rfl rfl rfl ?_
    with_reducible refine V.ld F41 ?_ (ng (ng (ng (ng (ng (ng j3)))))) ?_
    · rfl
    refine ⟨Dt, _, rfl, pt41, ?_⟩
    refine Tuple_ ?_
    refine lit_any st_name ?_
    with_reducible refine V.ld F41 ?_ (ng (ng (ng yes))) ?_
    · rfl
    refine lit_any st_name ?_
    with_reducible refine V.ld F41 ?_ (ng (ng yes)) ?_
    · rfl
    refine lit_any st_name ?_
    with_reducible refine V.ld F41 ?_ (ng yes) ?_
    · rfl
    refine lit_any st_name ?_
    with_reducible refine V.ld F41 ?_ yes ?_
    · rfl
    refine lit_end ?_
    try dsimp only
    refine wpAny_newTuple ?_ (Nat.le_trans (Nat.le_of_eq rfl) (show 4 ≤ sizeLine by decide))
    try dsimp only
    refine list_append_plainL (pt41.keeps fun b o e => Heap.get?_push_of_some _ e) (fun h42 hl42 sb42 => ?_) (by rw [List.size_toArray]; exact Nat.le_trans (by omega : itt.length ≤ 9) (by decide))
    obtain ⟨hN, kN, tupN, sbN⟩ : ∃ hN, Keep h41 hN ∧ hN.IsTuple h41.objs.size #[.int (bs i : Nat) t2, .int (cs i : Nat) t3, .int ((dN (rsT i) (bs i) : Nat) - 1) t4, .int ((dN (rsT i) (cs i) : Nat) - 1) t5] ∧ Heap.SameBut Dt hN h42 :=
      ⟨_, fun b o e => Heap.get?_push_of_some _ e, ⟨_, Heap.get?_push_size _ rfl, rfl, _, rfl⟩, sb42⟩
    clear sb42
    try dsimp only
    refine wpAny_execs_nil ?_
    dsimp only
    have ptN := pt41.keeps kN
    have taN := TurnsAt.snoc (ta41.seq (SeqK.of_keep kN)) j7 tupN
    refine ⟨hi41.trans ((Hi.keep kN).trans (Hi.same sbN hDt35)), _, _, (F41.keeps kN).list ptN frt sbN, itt ++ [.ref h41.objs.size], t1, tb, ng (ng (ng (ng yes))), ng (ng (ng (ng (ng (ng j2))))), ng (ng (ng (ng (ng (ng j3))))), j4, ?_, taN.same ptN.isList sbN, ?_, ?_, ?_⟩
    · rw [show (itt ++ [Value.ref h41.objs.size]).toArray = itt.toArray.push (.ref h41.objs.size) by simp]
      exact hl42
    · rw [List.length_append, j7]; rfl
    · exact fun h => g40.bare (j8 h)
    · exact g40.os.trans j9
  case done =>
    rintro m cm σ ⟨itt, ta, tb, j1, j2, j3, j4, j5, j6, j7, j8, j9⟩ Fσ
    refine wpAny_execs_cons ?_
    with_reducible refine For_rng (h₀ := s.heap) R.handled V.fn ((V.kind _).trans ?_) (fun _ => ?_) ?_
    · rfl
    · rfl
    with_reducible refine V.r1 G (hbs Fσ.keep) ?_ ?_ ?_
    · rfl
    · rfl
    with_reducible refine V.lc _ Fσ ?_ hcs j4 ?_
    · rfl
    refine ⟨_, _, rfl, fun rg2 h50 tk50 z1 z2 z3 hr50 hk50 _ => ?_⟩
    try dsimp only at hr50 hk50 ⊢
    have F50 := Fσ.keeps hk50
    have pt50 := j5.keeps hk50
    have ta50 := j6.seq (SeqK.of_keep hk50)
    let J2 : Nat → (Str → Option Value) → (Str → Option Value) → Shared → Prop := fun _ m cm σ =>
      m (Str.ofString "text") = some (.str (tx n) ta) ∧ m (Str.ofString "start") = some (.str (tx 0) tb) ∧ m (Str.ofString "turns") = some (.ref Dt) ∧ cm (Str.ofString "size") = some (.int (n : Nat) (tk2 + 1)) ∧
      PlainL σ.heap Dt itt.toArray ∧ TurnsAt σ.heap itt rsT bs cs ∧ (AllBare s.gens → AllBare σ.gens) ∧ σ.os = s.os
    refine ⟨rg2, 0, n, z1, z2, z3, _, _, J2, rfl, by rw [Int.zero_add]; exact hr50, by decide, by decide, by omega, F50, ?k0, ?kstable, ?kturn, ?kdone⟩
    case k0 => exact ⟨j1, j2, j3, j4, pt50, ta50, j8, j9⟩
    case kstable =>
      rintro i m cm σ h' tk ⟨j1, j2, j3, j4, j5, j6, j7⟩ q
      exact ⟨j1, j2, j3, j4, q.plain j5, j6.seq q, j7⟩
    case kdone =>
      clear j1 j2 j3 j4 j5 j6 j8 j9 Fσ F50 pt50 ta50 hk50
      rintro m cm σ ⟨j1, j2, j3, j4, j5, j6, j8, j9⟩ Fσ
      refine wpAny_execs_cons (wpAny_Return_some ?_)
      refine wpAny_Compare1 ?_
      with_reducible refine V.ld Fσ ?_ j1 ?_
      · rfl
      with_reducible refine V.ld Fσ ?_ j2 ?_
      · rfl
      refine PyProof.Rows.eq_str ?_
      have hb := H.back
      rw [← hn] at hb
      rw [hb, show (tx 0 == tx 0) = true by simp]
      exact hq σ ⟨Fσ.keep, j9, j8⟩
    case kturn =>
      clear j1 j2 j3 j4 j5 j6 j8 j9 Fσ pt50 ta50 hk50
      rintro i m cm σ tp hi ⟨j1, j2, j3, j4, j5, j6, j8, j9⟩ hkeep Fσ
      rw [Int.zero_add] at Fσ
      obtain ⟨T, t1, t2, t3, t4, hiT, hT⟩ := j6 i (by omega)
      refine wpAny_execs_cons ?_
      with_reducible refine V.four (h₀ := s.heap) R.handled ?_ ?_ ?_ ?_ ?_ ?_ ?_
      · rfl
      · rfl
      · rfl
      · rfl
      · rfl
      · rfl
      refine ev_item (fun _ _ => .inl rfl) ?_
      with_reducible refine V.ld Fσ ?_ (ng j3) ?_
      · rfl
      with_reducible refine V.ld Fσ ?_ yes ?_
      · rfl
      refine ⟨Dt, _, _, _, _, rfl, rfl, j5.isList, by omega, by omega, by rw [Int.toNat_natCast, List.getElem?_toArray]; exact hiT, ?_⟩
      refine ⟨T, _, _, _, _, _, _, rfl, hT, Fσ, fun h51 tk51 F51 q51 i51 => ?_⟩
      try dsimp only at F51 q51 i51 ⊢
      have pt51 := q51.plain j5
      have ta51 := j6.seq q51
      obtain ⟨jc, hjc, hmc, hvc⟩ := H.chkC i (by omega)
      obtain ⟨jb, hjb, hmb, hvb⟩ := H.chkB i (by omega)
      rw [← hn] at hjc hmc hjb hmb
      obtain ⟨Tc, c1, c2, c3, c4, hcT, hcTup⟩ := ta51 jc (by omega)
      obtain ⟨Tb, d1, d2, d3, d4, hbT, hbTup⟩ := ta51 jb (by omega)
      have hn0 : ((n : Nat) : Int) ≠ 0 := by omega
      refine wpAny_execs_cons ?_
      refine wpAny_If ?_
      refine isTrue_or ?_
      refine wpAny_isTrue_Compare1 ?_
      refine ev_item_t (fun _ _ => .inl rfl) ?_
      refine ev_item (fun _ _ => .inl rfl) ?_
      with_reducible refine V.ld F51 ?_ (ng (ng (ng (ng (ng j3))))) ?_
      · rfl
      refine wpAny_BinOp ?_
      refine wpAny_BinOp ?_
      with_reducible refine V.ld F51 ?_ (ng (ng (ng (ng yes)))) ?_
      · rfl
      with_reducible refine V.ld F51 ?_ yes ?_
      · rfl
      refine PyProof.Rows.sub_int ?_
      try dsimp only
      with_reducible refine V.lc _ F51 ?_ hcs j4 ?_
      · rfl
      refine PyProof.Rows.mod_int hn0 ?_
      rw [hmc]
      try dsimp only
      refine ⟨Dt, _, _, _, _, rfl, rfl, pt51.isList, by omega, by omega, by rw [Int.toNat_natCast, List.getElem?_toArray]; exact hcT, ?_⟩
      refine wpAny_Constant_int ?_
      refine ⟨Tc, _, _, _, 0, rfl, rfl, hcTup, by decide, rfl, ?_⟩
      try dsimp only
      with_reducible refine V.ld F51 ?_ yes ?_
      · rfl
      refine ne_int ?_
      refine wpAny_truthy_bool ?_
      rw [show (((bs jc : Nat) : Int) != (dN (rsT i) (cs i) : Nat) - 1) = false by rw [hvc]; simp, if_neg (by simp)]
      refine isTrue_or ?_
      refine wpAny_isTrue_Compare1 ?_
      try dsimp only
      refine ev_item_t (fun _ _ => .inl rfl) ?_
      refine ev_item (fun _ _ => .inl rfl) ?_
      try dsimp only
      with_reducible refine V.ld F51 ?_ (ng (ng (ng (ng (ng j3))))) ?_
      · rfl
      refine wpAny_BinOp ?_
      refine wpAny_BinOp ?_
      try dsimp only
      with_reducible refine V.ld F51 ?_ (ng (ng (ng (ng yes)))) ?_
      · rfl
      try dsimp only
      with_reducible refine V.ld F51 ?_ (ng yes) ?_
      · rfl
      refine PyProof.Rows.sub_int ?_
      try dsimp only
      with_reducible refine V.lc _ F51 ?_ hcs j4 ?_
      · rfl
      refine PyProof.Rows.mod_int hn0 ?_
      rw [hmb]
      try dsimp only
      refine ⟨Dt, _, _, _, _, rfl, rfl, pt51.isList, by omega, by omega, by rw [Int.toNat_natCast, List.getElem?_toArray]; exact hbT, ?_⟩
      refine wpAny_Constant_int ?_
      refine ⟨Tb, _, _, _, 1, rfl, rfl, hbTup, by decide, rfl, ?_⟩
      try dsimp only
      with_reducible refine V.ld F51 ?_ (ng yes) ?_
      · rfl
      refine ne_int ?_
      refine wpAny_truthy_bool ?_
      rw [show (((cs jb : Nat) : Int) != (dN (rsT i) (bs i) : Nat) - 1) = false by rw [hvb]; simp, if_neg (by simp)]
      refine isTrue_or_nil ?_
      rw [if_neg (by simp)]
      refine wpAny_execs_nil ?_
      dsimp only
      refine wpAny_execs_nil ?_
      dsimp only
      exact ⟨i51 _ F50.ns.lt, _, _, F51, ng (ng (ng (ng (ng j1)))), ng (ng (ng (ng (ng j2)))), ng (ng (ng (ng (ng j3)))), j4, pt51, ta51, j8, j9⟩
end
end Mine
end
section
open PySem PySem.W PyProof.Rows PySem.Spec PySem.Calls
set_option maxHeartbeats 4000000
namespace Mine
theorem slice_mid (x : Str) {a b : Nat} (hab : a ≤ b) (hb : b ≤ x.length) : (Txt.slice x (some (a : Int)) (some (b : Int))).cps.toList = (x.cps.toList.drop a).take (b - a) := by
  unfold Txt.slice
  split
  · rename_i h
    have h2 : (Builtin.Str.strSliceIndices (some (a : Int)) (some (b : Int)) 1 x.length).length = x.length := by simpa using h
    rw [StrLaws.strSliceIndices_plain hab hb, List.length_map, List.length_range] at h2
    have ha : a = 0 := by omega
    have hb' : b = x.length := by omega
    subst ha
    rw [hb', List.drop_zero, Nat.sub_zero]
    exact (List.take_of_length_le (by simp [Str.length])).symm
  · show (List.toArray _).toList = _
    rw [List.toList_toArray, StrLaws.sliced_plain x hab hb]
theorem slice_to_end (x : Str) (a : Nat) : Txt.slice x (some (a : Int)) none = Txt.slice x (some (a : Int)) (some (x.length : Int)) := by
  have : Builtin.Str.strSliceIndices (some (a : Int)) none 1 x.length = Builtin.Str.strSliceIndices (some (a : Int)) (some (x.length : Int)) 1 x.length := by
    have h1 : ¬ ((x.length : Int) < 0) := by omega
    have h2 : max (0 : Int) (min (x.length : Int) (x.length : Int)) = x.length := by omega
    simp only [Builtin.Str.strSliceIndices, h1, if_false, h2, show ((1 : Int) > 0) = True from by simp, if_true]
  unfold Txt.slice
  rw [this]
theorem slice_end (x : Str) {a : Nat} (ha : a ≤ x.length) : (Txt.slice x (some (a : Int)) none).cps.toList = x.cps.toList.drop a := by
  rw [slice_to_end, slice_mid x ha (Nat.le_refl _)]
  exact List.take_of_length_le (by simp [Str.length])
/-- what stands outside of quotation marks -/
def sgo : List Nat → Bool → Bool → List Nat
  | [], _, _ => []
  | c :: r, true, q => (if q then [] else [c]) ++ sgo r false q
  | c :: r, false, q => if c = 92 then (if q then [] else [c]) ++ sgo r true q else if c = 34 then sgo r false (!q) else (if q then [] else [c]) ++ sgo r false q
def qend : List Nat → Bool → Bool → Bool
  | [], _, q => q
  | c :: r, true, q => qend r false q
  | c :: r, false, q => if c = 92 then qend r true q else if c = 34 then qend r false (!q) else qend r false q
def flatS (l : List Str) : List Nat := l.flatMap fun y => y.cps.toList
def OutAt (x : Str) (i st : Nat) (op : Option Nat) (acc : List Str) (out : List Nat) : Prop := match op with
  | none => st ≤ i ∧ flatS acc ++ (x.cps.toList.drop st).take (i - st) = out
  | some o => st ≤ o ∧ o < i ∧ flatS acc ++ (x.cps.toList.drop st).take (o - st) = out
theorem take_one {l : List Nat} {st i c : Nat} (h : st ≤ i) (hc : l[i]? = some c) : (l.drop st).take (i + 1 - st) = (l.drop st).take (i - st) ++ [c] := by
  rw [show i + 1 - st = (i - st) + 1 by omega, List.take_add_one, List.getElem?_drop, show st + (i - st) = i by omega, hc]
  rfl
theorem strip_inv (x : Str) : ∀ (l : List Nat) (i : Nat) (e : Bool) (st : Nat) (op : Option Nat) (acc : List Str) (out : List Nat), x.cps.toList.drop i = l → i ≤ x.length → (e = true → 1 ≤ i) → OutAt x i st op acc out → qend l e op.isSome = false →
    (stripGo x (gtoks l i e) st op acc).1 ≤ x.length ∧ flatS (stripGo x (gtoks l i e) st op acc).2 ++ x.cps.toList.drop (stripGo x (gtoks l i e) st op acc).1 = out ++ sgo l e op.isSome
  | [], i, e, st, op, acc, out, hl, hi, _, ho, hq => by
    have hop : op = none := by cases op with | none => rfl | some o => cases e <;> simp [qend] at hq
    subst hop
    have hlen : x.cps.toList.length ≤ i := List.drop_eq_nil_iff.mp hl
    have hxl : x.cps.toList.length = x.length := rfl
    have fin : stripGo x (gtoks [] i e) st none acc = (st, acc) := by
      cases e with
      | false => rfl
      | true => simp [gtoks, stripGo]
    rw [fin]
    obtain ⟨h1, h2⟩ := ho
    refine ⟨by omega, ?_⟩
    rw [List.take_of_length_le (by simp [Str.length] at *; omega)] at h2
    simp only [sgo, List.append_nil]
    exact h2
  | c :: r, i, e, st, op, acc, out, hl, hi, he, ho, hq => by
    have hil : i < x.cps.toList.length := by
      have h1 := congrArg List.length hl
      rw [List.length_drop, List.length_cons] at h1
      omega
    have hic : x.cps.toList[i]? = some c := by
      have h1 := congrArg (fun l => l[0]?) hl
      simp only [List.getElem?_drop, List.getElem?_cons_zero] at h1
      exact h1
    have hr : x.cps.toList.drop (i + 1) = r := by
      rw [← List.tail_drop, hl]
      rfl
    have hxl : x.cps.toList.length = x.length := rfl
    have step : ∀ op' : Option Nat, op' = op → OutAt x (i + 1) st op acc (out ++ if op.isSome then [] else [c]) := by
      intro _ _
      cases op with
      | none =>
        obtain ⟨h1, h2⟩ := ho
        refine ⟨by omega, ?_⟩
        rw [take_one h1 hic, ← List.append_assoc, h2]
        rfl
      | some o =>
        obtain ⟨h1, h2, h3⟩ := ho
        exact ⟨h1, by omega, by simpa using h3⟩
    have step := step op rfl
    cases e with
    | true =>
      have hne : ¬ ([92, c] : List Nat) = [34] := by simp
      simp only [gtoks, stripGo, hne, if_false, sgo, qend] at hq ⊢
      rw [← List.append_assoc]
      exact strip_inv x r (i + 1) false st op acc _ hr (by omega) (fun h => nomatch h) step hq
    | false =>
      by_cases h92 : c = 92
      · simp only [gtoks, h92, if_true, sgo, qend] at hq ⊢
        rw [← List.append_assoc]
        rw [h92] at step
        exact strip_inv x r (i + 1) true st op acc _ hr (by omega) (fun _ => by omega) step hq
      · by_cases h34 : c = 34
        · subst h34
          simp only [gtoks, h92, if_false, if_true, stripGo, sgo, qend] at hq ⊢
          cases op with
          | none =>
            obtain ⟨h1, h2⟩ := ho
            exact strip_inv x r (i + 1) false st (some i) acc out hr (by omega) (fun h => nomatch h) ⟨h1, by omega, h2⟩ hq
          | some o =>
            obtain ⟨h1, h2, h3⟩ := ho
            refine strip_inv x r (i + 1) false (i + 1) none _ out hr (by omega) (fun h => nomatch h) ⟨Nat.le_refl _, ?_⟩ hq
            rw [Nat.sub_self, List.take_zero, List.append_nil]
            by_cases hso : st = o
            · rw [if_pos hso]
              rw [hso, Nat.sub_self, List.take_zero, List.append_nil] at h3
              exact h3
            · rw [if_neg hso]
              unfold flatS at h3 ⊢
              rw [List.flatMap_append, List.flatMap_singleton, slice_mid x h1 (by omega)]
              exact h3
        · have hne : ¬ ([c] : List Nat) = [34] := by simp [h34]
          simp only [gtoks, h92, h34, if_false, stripGo, hne, sgo, qend] at hq ⊢
          rw [← List.append_assoc]
          exact strip_inv x r (i + 1) false st op acc _ hr (by omega) (fun h => nomatch h) step hq
theorem sgo_free : ∀ (l : List Nat) (e : Bool), 34 ∉ l → sgo l e false = l
  | [], _, _ => rfl
  | c :: r, e, h => by
    have h1 : ¬ c = 34 := fun hc => h (hc ▸ List.mem_cons_self)
    have h2 : 34 ∉ r := fun hc => h (List.mem_cons_of_mem _ hc)
    cases e with
    | true => simp [sgo, sgo_free r _ h2]
    | false =>
      by_cases h92 : c = 92
      · subst h92; simp [sgo, sgo_free r _ h2]
      · simp [sgo, h92, h1, sgo_free r _ h2]
theorem stripF_list (x : Str) (hq : qend x.cps.toList false false = false) : (stripF x).cps.toList = sgo x.cps.toList false false := by
  unfold stripF
  rw [contains_one]
  by_cases hc : (34 : Nat) ∈ x.cps.toList
  · rw [if_pos (by simpa using hc)]
    have key := strip_inv x x.cps.toList 0 false 0 none [] [] rfl (Nat.zero_le _) (fun h => nomatch h) ⟨Nat.le_refl _, rfl⟩ hq
    rw [List.nil_append] at key
    obtain ⟨k1, k2⟩ := key
    rw [join_empty]
    show flatS _ = _
    unfold flatS at k2 ⊢
    rw [List.flatMap_append]
    simp only [Option.isSome_none] at k2
    rw [← k2]
    congr 1
    by_cases hlt : (stripGo x (gtoks x.cps.toList 0 false) 0 none []).1 < x.length
    · rw [if_pos hlt, List.flatMap_singleton, slice_end x k1]
    · rw [if_neg hlt]
      symm
      have hxl : x.cps.toList.length = x.length := rfl
      exact List.drop_eq_nil_iff.mpr (by omega)
  · rw [if_neg (by simpa using hc), sgo_free _ _ hc]
def cgo : List Nat → Bool → Int → Bool
  | [], _, o => o == 0
  | _ :: r, true, o => cgo r false o
  | c :: r, false, o => if c = 92 then cgo r true o else if c = 40 then cgo r false (o + 1) else if c = 41 then (if o - 1 < 0 then false else cgo r false (o - 1)) else cgo r false o
theorem check_list : ∀ (l : List Nat) (i : Nat) (e : Bool) (o : Int), checkGo (gtoks l i e) o = cgo l e o
  | [], i, false, o => rfl
  | [], i, true, o => rfl
  | c :: r, i, true, o => by
    have h1 : ¬ ([92, c] : List Nat) = [40] := by simp
    have h2 : ¬ ([92, c] : List Nat) = [41] := by simp
    simp only [gtoks, checkGo, h1, h2, if_false, cgo]
    exact check_list r _ _ _
  | c :: r, i, false, o => by
    by_cases h92 : c = 92
    · simp only [gtoks, h92, if_true, cgo]
      exact check_list r _ _ _
    · simp only [gtoks, h92, if_false, checkGo, cgo, List.cons.injEq, and_true]
      rw [check_list r, check_list r, check_list r]
theorem checkF_list (x : Str) (hq : qend x.cps.toList false false = false) : checkF x = cgo (sgo x.cps.toList false false) false 0 := by
  unfold checkF
  rw [check_list, stripF_list x hq]
end Mine
end
section
open PySem PySem.W PyProof.Rows PySem.Spec PySem.Calls
set_option maxHeartbeats 4000000
namespace Mine
/-- y begins here -/
def Pre (y l : List Nat) : Prop := l.take y.length = y
/-- nothing of y begins inside p -/
def Tight (y p rest : List Nat) : Prop := ∀ k, k < p.length → ¬ Pre y ((p ++ rest).drop k)
def Tights (y : List Nat) : List (List Nat) → Prop
  | [] => False
  | [p] => Tight y p []
  | p :: q :: r => Tight y p (y ++ ((q :: r).intersperse y).flatten) ∧ Tights y (q :: r)
theorem at_iff (x y : Str) (k : Nat) (hy : 1 ≤ y.length) : StrLaws.At x y x.length k ↔ Pre y.cps.toList (x.cps.toList.drop k) := by
  unfold StrLaws.At Pre
  rw [StrLaws.subAt_eq]
  have e : y.cps.toList.length = y.length := rfl
  rw [e]
  constructor
  · rintro ⟨_, h⟩
    simpa using h
  · intro h
    refine ⟨?_, by simpa using h⟩
    have h1 := congrArg List.length h
    rw [List.length_take, List.length_drop, e] at h1
    have h2 : x.cps.toList.length = x.length := rfl
    omega
theorem parts_of (x y : Str) (hy : 1 ≤ y.length) : ∀ (ps : List (List Nat)) (cuts : List Nat) (a f : Nat), a ≤ x.length → x.cps.toList.drop a = (ps.intersperse y.cps.toList).flatten → Tights y.cps.toList ps →
    StrLaws.ChainG x y x.length a cuts f → (∀ k, f ≤ k → ¬ StrLaws.At x y x.length k) → (StrLaws.partsFrom x y.length a cuts).map (fun p => p.cps.toList) = ps ∧ cuts.length + 1 = ps.length
  | [], _, _, _, _, _, ht, _, _ => ht.elim
  | [p], cuts, a, f, ha, hl, ht, hc, hf => by
    have hxl : x.cps.toList.length = x.length := rfl
    have hl' : x.cps.toList.drop a = p := by simpa using hl
    cases cuts with
    | nil =>
      refine ⟨?_, rfl⟩
      show [(Builtin.Str.strSub x a x.length).cps.toList] = [p]
      rw [StrLaws.strSub_toList, List.take_of_length_le (by rw [List.length_drop]; omega), hl']
    | cons c r =>
      obtain ⟨h1, h2, _⟩ := hc
      rw [at_iff x y c hy] at h2
      exfalso
      have hlen : c < x.length := by
        have h3 := congrArg List.length h2
        rw [List.length_take, List.length_drop] at h3
        have : y.cps.toList.length = y.length := rfl
        omega
      refine ht (c - a) ?_ ?_
      · rw [← hl', List.length_drop]; omega
      · rw [List.append_nil, ← hl', List.drop_drop, show a + (c - a) = c by omega]
        exact h2
  | p :: q :: r, cuts, a, f, ha, hl, ht, hc, hf => by
    have hxl : x.cps.toList.length = x.length := rfl
    have hyl : y.cps.toList.length = y.length := rfl
    have hl' : x.cps.toList.drop a = p ++ (y.cps.toList ++ ((q :: r).intersperse y.cps.toList).flatten) := by
      rw [hl]
      simp
    have hlen : a + p.length + y.length ≤ x.length := by
      have h3 := congrArg List.length hl'
      rw [List.length_drop, List.length_append, List.length_append] at h3
      omega
    have hat : StrLaws.At x y x.length (a + p.length) := by
      rw [at_iff x y _ hy, ← List.drop_drop, hl', List.drop_left]
      unfold Pre
      rw [List.take_left]
    have hno : ∀ k, a ≤ k → k < a + p.length → ¬ StrLaws.At x y x.length k := by
      intro k h1 h2 h3
      rw [at_iff x y k hy] at h3
      refine ht.1 (k - a) (by omega) ?_
      rw [← hl', List.drop_drop, show a + (k - a) = k by omega]
      exact h3
    cases cuts with
    | nil =>
      have hfa : f = a := hc
      exact absurd hat (hf _ (by omega))
    | cons c cr =>
      obtain ⟨h1, h2, h3, h4⟩ := hc
      have hca : c = a + p.length := by
        rcases Nat.lt_trichotomy c (a + p.length) with h | h | h
        · exact absurd h2 (hno c h1 h)
        · exact h
        · exact absurd hat (h3 _ (by omega) h)
      subst hca
      have hrest : x.cps.toList.drop (a + p.length + y.length) = ((q :: r).intersperse y.cps.toList).flatten := by
        rw [← List.drop_drop, ← List.drop_drop, hl', List.drop_left, ← hyl, List.drop_left]
      obtain ⟨i1, i2⟩ := parts_of x y hy (q :: r) cr (a + p.length + y.length) f hlen hrest ht.2 h4 hf
      refine ⟨?_, by simp at i2 ⊢; omega⟩
      show (Builtin.Str.strSub x a (a + p.length)).cps.toList :: (StrLaws.partsFrom x y.length (a + p.length + y.length) cr).map _ = _
      rw [i1, StrLaws.strSub_toList, hl', show a + p.length - a = p.length by omega, List.take_left]
theorem parts_all (x y : Str) (hy : 1 ≤ y.length) (ps : List (List Nat)) (hl : x.cps.toList = (ps.intersperse y.cps.toList).flatten) (ht : Tights y.cps.toList ps) :
    (Builtin.Str.partsBetween x (Builtin.Str.occurrences x y 0 x.length (x.length + 1)) y.length).map (fun p => p.cps.toList) = ps ∧ (Builtin.Str.occurrences x y 0 x.length (x.length + 1)).length + 1 = ps.length := by
  obtain ⟨f, hc, hf⟩ := StrLaws.occ_tight x y hy
  rw [StrLaws.partsBetween_eq]
  exact parts_of x y hy ps _ 0 f (Nat.zero_le _) (by rw [List.drop_zero]; exact hl) ht hc hf
theorem strs_inj {l m : List Str} (h : l.map (fun p => p.cps.toList) = m.map (fun p => p.cps.toList)) : l = m := by
  induction l generalizing m with
  | nil => cases m with
    | nil => rfl
    | cons _ _ => simp at h
  | cons a r ih => cases m with
    | nil => simp at h
    | cons b q =>
      simp only [List.map_cons, List.cons.injEq] at h
      rw [ih h.2, Str.ext' (Array.toList_inj.mp h.1)]
theorem replace_list (x y z : Str) (hy : 1 ≤ y.length) (ps : List (List Nat)) (hl : x.cps.toList = (ps.intersperse y.cps.toList).flatten) (ht : Tights y.cps.toList ps) :
    (Txt.replace x y z).cps.toList = (ps.intersperse z.cps.toList).flatten := by
  obtain ⟨h1, h2⟩ := parts_all x y hy ps hl ht
  unfold Txt.replace
  have hy0 : ¬ y.length = 0 := by omega
  split
  · rename_i h
    have he : (Builtin.Str.occurrences x y 0 x.length (x.length + 1)) = [] := by simpa [hy0] using h
    rw [he] at h2
    match ps, h2 with
    | [p], _ =>
      rw [hl]
      simp
  · have hg : ∀ l, Builtin.Str.glued z l = Txt.join z l := fun _ => rfl
    rw [hg, joinL, h1]
theorem split_list (x y : Str) (hy : 1 ≤ y.length) (hk : Builtin.Str.strKind y = 1) (ps : List Str) (hps : 2 ≤ ps.length) (hl : x.cps.toList = ((ps.map fun p => p.cps.toList).intersperse y.cps.toList).flatten) (ht : Tights y.cps.toList (ps.map fun p => p.cps.toList)) :
    Txt.split x y = ps := by
  obtain ⟨h1, h2⟩ := parts_all x y hy _ hl ht
  rw [List.length_map] at h2
  have hne : ¬ (Builtin.Str.occurrences x y 0 x.length (x.length + 1)) = [] := fun e => by rw [e] at h2; simp at h2; omega
  have hk1 : 1 ≤ Builtin.Str.strKind x := by
    unfold Builtin.Str.strKind
    split
    · exact Nat.le_refl _
    · split <;> decide
  have hlen : y.length ≤ x.length := by
    have h3 := congrArg List.length hl
    match ps, hps with
    | a :: b :: r, _ =>
      simp at h3
      have h4 : x.cps.size = x.length := rfl
      have h5 : y.cps.size = y.length := rfl
      omega
  unfold Txt.split
  rw [if_neg (by simp [hk]; omega), if_neg (by simpa using hne)]
  exact strs_inj h1
end Mine
end
section
open PySem PySem.W PyProof.Rows PySem.Spec PySem.Calls
set_option maxHeartbeats 4000000
namespace Mine
theorem tights_of {y : List Nat} : ∀ {ps : List (List Nat)}, ps ≠ [] → (∀ p ∈ ps, ∀ rest, Tight y p rest) → Tights y ps
  | [], h, _ => absurd rfl h
  | [p], _, h => h p List.mem_cons_self []
  | p :: q :: r, _, h => ⟨h p List.mem_cons_self _, tights_of (fun e => nomatch e) fun a ha => h a (List.mem_cons_of_mem _ ha)⟩
def quotL : List Nat := [38, 113, 117, 111, 116, 59]
def pgC (c : Nat) : List Nat := if c = 34 then [39] else escC c
def splq : List Nat → List (List Nat)
  | [] => [[]]
  | c :: r => if c = 34 then [] :: splq r else (c :: (splq r).headD []) :: (splq r).tail
theorem splq_ne : ∀ l, ∃ p r, splq l = p :: r
  | [] => ⟨_, _, rfl⟩
  | c :: r => by
    unfold splq
    split <;> exact ⟨_, _, rfl⟩
theorem splq_free : ∀ l, ∀ p ∈ splq l, 34 ∉ p
  | [], p, h => by simp [splq] at h; subst h; simp
  | c :: r, p, h => by
    have ih := splq_free r
    unfold splq at h
    split at h
    · rcases List.mem_cons.mp h with rfl | h
      · simp
      · exact ih p h
    · rename_i hc
      obtain ⟨q, t, e⟩ := splq_ne r
      rw [e] at h ih
      rcases List.mem_cons.mp h with rfl | h
      · have := ih q List.mem_cons_self
        simp
        exact ⟨fun hh => hc hh.symm, this⟩
      · exact ih p (List.mem_cons_of_mem _ h)
theorem splq_flat {f : Nat → List Nat} {z : List Nat} (hz : f 34 = z) : ∀ l : List Nat, l.flatMap f = (((splq l).map fun p => p.flatMap f).intersperse z).flatten
  | [] => by simp [splq]
  | c :: r => by
    have ih := splq_flat hz r
    obtain ⟨q, t, e⟩ := splq_ne r
    unfold splq
    split
    · rename_i hc
      subst hc
      rw [List.flatMap_cons, hz, ih, e]
      simp
    · rw [List.flatMap_cons, ih, e]
      cases t with
      | nil => simp
      | cons a b => simp
theorem tight_esc : ∀ (p : List Nat), 34 ∉ p → ∀ rest, Tight quotL (p.flatMap escC) rest
  | [], _, rest => fun k hk => absurd hk (Nat.not_lt_zero _)
  | c :: r, h, rest => fun k hk => by
    have h1 : ¬ c = 34 := fun hc => h (hc ▸ List.mem_cons_self)
    have ih := tight_esc r (fun hc => h (List.mem_cons_of_mem _ hc)) rest
    rw [List.flatMap_cons, List.append_assoc]
    by_cases hlt : k < (escC c).length
    · clear ih hk h
      unfold escC at hlt ⊢
      unfold Pre quotL
      by_cases a1 : c = 38
      · subst a1
        simp at hlt ⊢
        match k, hlt with
        | 0, _ => simp
        | 1, _ => simp
        | 2, _ => simp
        | 3, _ => simp
        | 4, _ => simp
      by_cases a2 : c = 60
      · subst a2
        simp at hlt ⊢
        match k, hlt with
        | 0, _ => simp
        | 1, _ => simp
        | 2, _ => simp
        | 3, _ => simp
      by_cases a3 : c = 62
      · subst a3
        simp at hlt ⊢
        match k, hlt with
        | 0, _ => simp
        | 1, _ => simp
        | 2, _ => simp
        | 3, _ => simp
      by_cases a5 : c = 13
      · subst a5
        simp at hlt ⊢
        match k, hlt with
        | 0, _ => simp
        | 1, _ => simp
        | 2, _ => simp
        | 3, _ => simp
        | 4, _ => simp
      by_cases a6 : c = 10
      · subst a6
        simp at hlt ⊢
        match k, hlt with
        | 0, _ => simp
        | 1, _ => simp
        | 2, _ => simp
        | 3, _ => simp
        | 4, _ => simp
      by_cases a7 : c = 9
      · subst a7
        simp at hlt ⊢
        match k, hlt with
        | 0, _ => simp
        | 1, _ => simp
        | 2, _ => simp
        | 3, _ => simp
        | 4, _ => simp
      simp only [a1, a2, a3, h1, a5, a6, a7, if_false] at hlt ⊢
      simp at hlt
      subst hlt
      simp [a1]
    · have h3 : ((escC c ++ (r.flatMap escC ++ rest)).drop k) = (r.flatMap escC ++ rest).drop (k - (escC c).length) := by
        rw [List.drop_append, List.drop_eq_nil_iff.mpr (by omega), List.nil_append]
      rw [h3]
      refine ih (k - (escC c).length) ?_
      rw [List.flatMap_cons, List.length_append] at hk
      omega
theorem pageF_list (x : Str) : (pageF x).cps.toList = x.cps.toList.flatMap pgC := by
  obtain ⟨l, hl⟩ : ∃ l, l = x.cps.toList := ⟨_, rfl⟩
  unfold pageF
  rw [← hl]
  have h1 : (⟨(escL l).toArray⟩ : Str).cps.toList = (((splq l).map fun p => p.flatMap escC).intersperse quot.cps.toList).flatten := by
    show escL l = _
    exact splq_flat (f := escC) (z := quotL) rfl l
  have hne : ((splq l).map fun p => p.flatMap escC) ≠ [] := by
    obtain ⟨q, t, e⟩ := splq_ne l
    rw [e]; simp
  have ht : Tights quot.cps.toList ((splq l).map fun p => p.flatMap escC) := by
    refine tights_of hne fun p hp rest => ?_
    obtain ⟨q, hq, rfl⟩ := List.mem_map.mp hp
    exact tight_esc q (splq_free l q hq) rest
  rw [replace_list _ quot apos (by decide) _ h1 ht, splq_flat (f := pgC) (z := [39]) rfl l]
  congr 2
  refine List.map_congr_left fun p hp => ?_
  have hf := splq_free l p hp
  have : ∀ q : List Nat, 34 ∉ q → q.flatMap escC = q.flatMap pgC := by
    intro q
    induction q with
    | nil => intro _; rfl
    | cons c r ih =>
      intro h
      rw [List.flatMap_cons, List.flatMap_cons, ih fun hc => h (List.mem_cons_of_mem _ hc)]
      have h1 : ¬ c = 34 := fun hc => h (hc ▸ List.mem_cons_self)
      simp [pgC, h1]
  exact this p hf
/-- place by place, with the sign before -/
def scan (g : Option Nat → Nat → List Nat) : Option Nat → List Nat → List Nat
  | _, [] => []
  | p, c :: r => g p c ++ scan g (some c) r
theorem scan_upto {F : Nat → List Nat} {T : Array Nat} {g : Option Nat → Nat → List Nat} (h : ∀ j, j < T.size → F j = g (if j = 0 then none else some (T.getD (j - 1) 0)) (T.getD j 0)) : upto F 0 T.size = scan g none T.toList := by
  have key : ∀ n i, i + n = T.size → (List.range' i n).flatMap F = scan g (if i = 0 then none else some (T.getD (i - 1) 0)) (T.toList.drop i) := by
    intro n
    induction n with
    | zero =>
      intro i hi
      rw [List.drop_eq_nil_iff.mpr (by rw [Array.length_toList]; omega)]
      simp [scan]
    | succ n ih =>
      intro i hi
      have hlt : i < T.toList.length := by rw [Array.length_toList]; omega
      rw [List.range'_succ, List.flatMap_cons, h i (by omega), ih (i + 1) (by omega), List.drop_eq_getElem_cons hlt]
      show _ = g _ _ ++ scan g _ _
      have he : T.toList[i] = T.getD i 0 := by
        rw [Array.getD_eq_getD_getElem?, Array.getElem?_eq_getElem (by omega)]
        simp
      rw [he, if_neg (show ¬ i + 1 = 0 by omega), Nat.add_sub_cancel]
  have := key T.size 0 (by omega)
  unfold upto
  rw [Nat.sub_zero, this, if_pos rfl, List.drop_zero]
def g2 (p : Option Nat) (c : Nat) : List Nat := if c = 13 then [13, 10] else if c = 10 then (if p = some 13 then [] else [13, 10]) else [c]
def g1 (p : Option Nat) (c : Nat) : List Nat := if (p = none ∨ p = some 10) ∧ c = 46 then [46, 46] else [c]
theorem crF_list (x : Str) : (crF x).cps.toList = scan g2 none x.cps.toList := by
  show upto (F2 x.cps) 0 x.cps.size = _
  refine scan_upto fun j hj => ?_
  unfold F2 g2
  by_cases h0 : j = 0
  · subst h0
    simp
  · simp [h0, Nat.pos_of_ne_zero h0]
theorem dotF_list (x : Str) : (dotF x).cps.toList = scan g1 none x.cps.toList := by
  show upto (F1 x.cps) 0 x.cps.size = _
  refine scan_upto fun j hj => ?_
  unfold F1 g1
  by_cases h0 : j = 0
  · subst h0
    simp [hj]
  · simp [h0, hj]
theorem plain2 : ∀ (b : List Nat) (p : Option Nat), (∀ c ∈ b, c ≠ 13 ∧ c ≠ 10) → b ≠ [] → ∃ q, q ≠ some 13 ∧ ∀ r, scan g2 p (b ++ r) = b ++ scan g2 q r
  | [], _, _, h => absurd rfl h
  | [c], p, h, _ => by
    obtain ⟨h1, h2⟩ := h c List.mem_cons_self
    refine ⟨some c, by simpa using h1, fun r => ?_⟩
    show g2 p c ++ scan g2 (some c) r = _
    unfold g2
    simp [h1, h2]
  | c :: d :: b, p, h, _ => by
    obtain ⟨h1, h2⟩ := h c List.mem_cons_self
    obtain ⟨q, hq, hr⟩ := plain2 (d :: b) (some c) (fun a ha => h a (List.mem_cons_of_mem _ ha)) (fun e => nomatch e)
    refine ⟨q, hq, fun r => ?_⟩
    show g2 p c ++ scan g2 (some c) ((d :: b) ++ r) = _
    rw [hr]
    unfold g2
    simp [h1, h2]
theorem cr_rows : ∀ (L : List (List Nat × List Nat)) (p : Option Nat), (∀ x ∈ L, x.1 ≠ [] ∧ (∀ c ∈ x.1, c ≠ 13 ∧ c ≠ 10) ∧ (x.2 = [10] ∨ x.2 = [13] ∨ x.2 = [13, 10])) →
    scan g2 p (L.flatMap fun x => x.1 ++ x.2) = L.flatMap fun x => x.1 ++ [13, 10]
  | [], _, _ => rfl
  | (b, e) :: L, p, h => by
    obtain ⟨h1, h2, h3⟩ := h (b, e) List.mem_cons_self
    have ih := fun q => cr_rows L q fun x hx => h x (List.mem_cons_of_mem _ hx)
    obtain ⟨q, hq, hr⟩ := plain2 b p h2 h1
    rw [List.flatMap_cons, List.flatMap_cons]
    show scan g2 p ((b ++ e) ++ _) = (b ++ [13, 10]) ++ _
    rw [List.append_assoc, hr, List.append_assoc]
    congr 1
    rcases h3 with h3 | h3 | h3 <;> (simp only at h3; subst h3)
    · show g2 q 10 ++ scan g2 (some 10) (L.flatMap fun x => x.1 ++ x.2) = _
      rw [ih]
      simp [g2, hq]
    · show g2 q 13 ++ scan g2 (some 13) (L.flatMap fun x => x.1 ++ x.2) = _
      rw [ih]
      simp [g2]
    · show g2 q 13 ++ (g2 (some 13) 10 ++ scan g2 (some 10) (L.flatMap fun x => x.1 ++ x.2)) = _
      rw [ih]
      simp [g2]
theorem plain1 : ∀ (b : List Nat) (p : Nat), p ≠ 10 → (∀ c ∈ b, c ≠ 10) → ∃ q, q ≠ 10 ∧ ∀ r, scan g1 (some p) (b ++ r) = b ++ scan g1 (some q) r
  | [], p, hp, _ => ⟨p, hp, fun _ => rfl⟩
  | c :: b, p, hp, h => by
    obtain ⟨q, hq, hr⟩ := plain1 b c (h c List.mem_cons_self) fun a ha => h a (List.mem_cons_of_mem _ ha)
    refine ⟨q, hq, fun r => ?_⟩
    show g1 (some p) c ++ scan g1 (some c) (b ++ r) = _
    rw [hr]
    unfold g1
    simp [hp]
theorem dot_rows : ∀ (L : List (Nat × List Nat)) (p : Option Nat), (p = none ∨ p = some 10) → (∀ x ∈ L, 1 ≤ x.1 ∧ ∀ c ∈ x.2, c ≠ 10) →
    scan g1 p (L.flatMap fun x => List.replicate x.1 46 ++ x.2 ++ [13, 10]) = L.flatMap fun x => List.replicate (x.1 + 1) 46 ++ x.2 ++ [13, 10]
  | [], _, _, _ => rfl
  | (n, b) :: L, p, hp, h => by
    obtain ⟨h1, h2⟩ := h (n, b) List.mem_cons_self
    have ih := dot_rows L (some 10) (.inr rfl) fun x hx => h x (List.mem_cons_of_mem _ hx)
    obtain ⟨m, rfl⟩ : ∃ m, n = m + 1 := ⟨n - 1, by simp only at h1; omega⟩
    rw [List.flatMap_cons, List.flatMap_cons]
    simp only [List.replicate_succ, List.cons_append]
    show g1 p 46 ++ scan g1 (some 46) _ = _
    obtain ⟨q, hq, hr⟩ := plain1 (List.replicate m 46 ++ b) 46 (by decide) (by
      intro c hc
      rcases List.mem_append.mp hc with h | h
      · rw [List.eq_of_mem_replicate h]; decide
      · exact h2 c h)
    rw [List.append_assoc, hr]
    have hg : g1 p 46 = [46, 46] := by unfold g1; simp [hp]
    rw [hg]
    show [46, 46] ++ (_ ++ (g1 (some q) 13 ++ (g1 (some 13) 10 ++ scan g1 (some 10) (L.flatMap fun x => List.replicate x.1 46 ++ x.2 ++ [13, 10])))) = _
    rw [ih]
    simp [g1, hq, List.replicate_succ]
end Mine
end
section
open PySem PySem.W PyProof.Rows PySem.Spec PySem.Calls
set_option maxHeartbeats 4000000
namespace Mine
def piecC : Nat → List Nat
  | 0 => [40, 34, 41, 34]
  | 1 => [34, 40, 40, 34, 41]
  | _ => [34, 41, 34]
def dressC : Nat → List Nat
  | 0 => []
  | 1 => [97]
  | 2 => [38]
  | 3 => [60]
  | 4 => [9]
  | 5 => [92, 40]
  | 6 => [92, 41]
  | _ => [92, 34]
def rowC (p : Nat × Nat) : List Nat := piecC p.1 ++ dressC p.2
def bareS (p : Nat × Nat) : Str := ⟨(rowC p).toArray⟩
def Ok (P : List (Nat × Nat)) : Prop := ∀ p ∈ P, p.1 < 3 ∧ p.2 < 8
def balA : List Nat → Nat → Bool
  | [], o => o == 0
  | 0 :: r, o => balA r (o + 1)
  | 1 :: r, o => if o = 0 then false else balA r (o - 1)
  | _ :: r, o => balA r o
def balB : List Nat → Nat → Bool
  | [], o => o == 0
  | 0 :: r, o => balB r o
  | 1 :: r, o => balB r (o + 1)
  | _ :: r, o => if o = 0 then false else balB r (o - 1)
theorem three_cases {P : Nat → Prop} (h0 : P 0) (h1 : P 1) (h2 : P 2) {k : Nat} (hk : k < 3) : P k := by
  match k, hk with
  | 0, _ => exact h0
  | 1, _ => exact h1
  | 2, _ => exact h2
theorem eight_cases {P : Nat → Prop} (h0 : P 0) (h1 : P 1) (h2 : P 2) (h3 : P 3) (h4 : P 4) (h5 : P 5) (h6 : P 6) (h7 : P 7) {k : Nat} (hk : k < 8) : P k := by
  match k, hk with
  | 0, _ => exact h0
  | 1, _ => exact h1
  | 2, _ => exact h2
  | 3, _ => exact h3
  | 4, _ => exact h4
  | 5, _ => exact h5
  | 6, _ => exact h6
  | 7, _ => exact h7
def outC : Nat → List Nat
  | 0 => [40]
  | 1 => [41]
  | _ => []
theorem sgo_dress {d : Nat} (hd : d < 8) (r : List Nat) : sgo (dressC d ++ r) false false = dressC d ++ sgo r false false := by
  refine eight_cases (P := fun d => sgo (dressC d ++ r) false false = dressC d ++ sgo r false false) ?_ ?_ ?_ ?_ ?_ ?_ ?_ ?_ hd <;> rfl
theorem qend_dress {d : Nat} (hd : d < 8) (r : List Nat) : qend (dressC d ++ r) false false = qend r false false := by
  refine eight_cases (P := fun d => qend (dressC d ++ r) false false = qend r false false) ?_ ?_ ?_ ?_ ?_ ?_ ?_ ?_ hd <;> rfl
theorem cgo_dress {d : Nat} (hd : d < 8) (r : List Nat) (o : Int) : cgo (dressC d ++ r) false o = cgo r false o := by
  refine eight_cases (P := fun d => cgo (dressC d ++ r) false o = cgo r false o) ?_ ?_ ?_ ?_ ?_ ?_ ?_ ?_ hd <;> rfl
theorem cgo_page {d : Nat} (hd : d < 8) (r : List Nat) (o : Int) : cgo ((dressC d).flatMap pgC ++ r) false o = cgo r false o := by
  refine eight_cases (P := fun d => cgo ((dressC d).flatMap pgC ++ r) false o = cgo r false o) ?_ ?_ ?_ ?_ ?_ ?_ ?_ ?_ hd <;> rfl
theorem sgo_row {p : Nat × Nat} (hk : p.1 < 3) (hd : p.2 < 8) (r : List Nat) : sgo (rowC p ++ r) false false = outC p.1 ++ dressC p.2 ++ sgo r false false := by
  obtain ⟨k, d⟩ := p
  unfold rowC
  rw [List.append_assoc, List.append_assoc]
  refine three_cases (P := fun k => sgo (piecC k ++ (dressC d ++ r)) false false = outC k ++ (dressC d ++ sgo r false false)) ?_ ?_ ?_ hk
  · show [40] ++ sgo (dressC d ++ r) false false = _
    rw [sgo_dress hd]; rfl
  · show [41] ++ sgo (dressC d ++ r) false false = _
    rw [sgo_dress hd]; rfl
  · show sgo (dressC d ++ r) false false = _
    rw [sgo_dress hd]; rfl
theorem qend_row {p : Nat × Nat} (hk : p.1 < 3) (hd : p.2 < 8) (r : List Nat) : qend (rowC p ++ r) false false = qend r false false := by
  obtain ⟨k, d⟩ := p
  unfold rowC
  rw [List.append_assoc]
  refine three_cases (P := fun k => qend (piecC k ++ (dressC d ++ r)) false false = qend r false false) ?_ ?_ ?_ hk
  · show qend (dressC d ++ r) false false = _
    exact qend_dress hd r
  · show qend (dressC d ++ r) false false = _
    exact qend_dress hd r
  · show qend (dressC d ++ r) false false = _
    exact qend_dress hd r
theorem qend_rows : ∀ {P : List (Nat × Nat)}, Ok P → qend (P.flatMap rowC) false false = false
  | [], _ => rfl
  | p :: P, h => by
    obtain ⟨hk, hd⟩ := h p List.mem_cons_self
    rw [List.flatMap_cons, qend_row hk hd]
    exact qend_rows fun q hq => h q (List.mem_cons_of_mem _ hq)
theorem cgo_close (r : List Nat) (o : Nat) : cgo (41 :: r) false (o : Int) = if o = 0 then false else cgo r false ((o - 1 : Nat) : Int) := by
  show (if (o : Int) - 1 < 0 then false else cgo r false ((o : Int) - 1)) = _
  by_cases h : o = 0
  · rw [if_pos h, if_pos (by omega)]
  · rw [if_neg h, if_neg (by omega), show (o : Int) - 1 = ((o - 1 : Nat) : Int) by omega]
theorem balA_eq : ∀ {P : List (Nat × Nat)}, Ok P → ∀ o : Nat, cgo (sgo (P.flatMap rowC) false false) false (o : Int) = balA (P.map (·.1)) o
  | [], _, o => by
    show ((o : Int) == 0) = (o == 0)
    by_cases h : o = 0
    · subst h; rfl
    · rw [show ((o : Int) == 0) = false by simpa using h, show (o == 0) = false by simpa using h]
  | p :: P, h, o => by
    obtain ⟨hk, hd⟩ := h p List.mem_cons_self
    have ih := balA_eq fun q hq => h q (List.mem_cons_of_mem _ hq)
    rw [List.flatMap_cons, sgo_row hk hd, List.append_assoc, List.map_cons]
    obtain ⟨k, d⟩ := p
    refine three_cases (P := fun k => cgo (outC k ++ (dressC d ++ sgo (P.flatMap rowC) false false)) false (o : Int) = balA (k :: P.map (·.1)) o) ?_ ?_ ?_ hk
    · show cgo (dressC d ++ sgo (P.flatMap rowC) false false) false ((o : Int) + 1) = balA (P.map (·.1)) (o + 1)
      rw [cgo_dress hd, ← ih]
      rfl
    · show cgo (41 :: (dressC d ++ sgo (P.flatMap rowC) false false)) false (o : Int) = if o = 0 then false else balA (P.map (·.1)) (o - 1)
      rw [cgo_close, cgo_dress hd, ih]
    · show cgo (dressC d ++ sgo (P.flatMap rowC) false false) false (o : Int) = balA (P.map (·.1)) o
      rw [cgo_dress hd, ih]
theorem balB_eq : ∀ {P : List (Nat × Nat)}, Ok P → ∀ o : Nat, cgo ((P.flatMap rowC).flatMap pgC) false (o : Int) = balB (P.map (·.1)) o
  | [], _, o => by
    show ((o : Int) == 0) = (o == 0)
    by_cases h : o = 0
    · subst h; rfl
    · rw [show ((o : Int) == 0) = false by simpa using h, show (o == 0) = false by simpa using h]
  | p :: P, h, o => by
    obtain ⟨hk, hd⟩ := h p List.mem_cons_self
    have ih := balB_eq fun q hq => h q (List.mem_cons_of_mem _ hq)
    rw [List.flatMap_cons, List.flatMap_append, List.map_cons]
    obtain ⟨k, d⟩ := p
    show cgo ((piecC k ++ dressC d).flatMap pgC ++ _) false (o : Int) = _
    rw [List.flatMap_append, List.append_assoc]
    refine three_cases (P := fun k => cgo ((piecC k).flatMap pgC ++ ((dressC d).flatMap pgC ++ (P.flatMap rowC).flatMap pgC)) false (o : Int) = balB (k :: P.map (·.1)) o) ?_ ?_ ?_ hk
    · show cgo (41 :: 39 :: ((dressC d).flatMap pgC ++ (P.flatMap rowC).flatMap pgC)) false (((o + 1 : Nat)) : Int) = balB (P.map (·.1)) o
      rw [cgo_close, if_neg (by omega)]
      show cgo ((dressC d).flatMap pgC ++ (P.flatMap rowC).flatMap pgC) false _ = _
      rw [cgo_page hd, ih]
      rfl
    · show cgo (41 :: ((dressC d).flatMap pgC ++ (P.flatMap rowC).flatMap pgC)) false (((o + 2 : Nat)) : Int) = balB (P.map (·.1)) (o + 1)
      rw [cgo_close, if_neg (by omega), cgo_page hd, ih]
      rfl
    · show cgo (41 :: 39 :: ((dressC d).flatMap pgC ++ (P.flatMap rowC).flatMap pgC)) false (o : Int) = if o = 0 then false else balB (P.map (·.1)) (o - 1)
      rw [cgo_close]
      show (if o = 0 then false else cgo ((dressC d).flatMap pgC ++ (P.flatMap rowC).flatMap pgC) false _) = _
      rw [cgo_page hd, ih]
theorem pg_free (l : List Nat) : 34 ∉ l.flatMap pgC := by
  intro h
  obtain ⟨c, _, hc⟩ := List.mem_flatMap.mp h
  unfold pgC escC at hc
  split at hc
  · simp at hc
  · rename_i hn
    split at hc
    · simp at hc
    split at hc
    · simp at hc
    split at hc
    · simp at hc
    split at hc
    · simp at hc
    split at hc
    · simp at hc
    split at hc
    · simp at hc
    · simp at hc
      exact hn hc.symm
theorem qend_free : ∀ (l : List Nat) (e : Bool), 34 ∉ l → qend l e false = false
  | [], _, _ => rfl
  | c :: r, e, h => by
    have h1 : ¬ c = 34 := fun hc => h (hc ▸ List.mem_cons_self)
    have h2 : 34 ∉ r := fun hc => h (List.mem_cons_of_mem _ hc)
    cases e with
    | true => exact qend_free r _ h2
    | false =>
      unfold qend
      simp only [h1, if_false]
      split
      · exact qend_free r _ h2
      · exact qend_free r _ h2
theorem join_rows (P : List (Nat × Nat)) : (Txt.join ⟨#[]⟩ (P.map bareS)).cps.toList = P.flatMap rowC := by
  rw [join_empty, List.flatMap_map]
  rfl
theorem taken_A {P : List (Nat × Nat)} (h : Ok P) : takenF (P.map bareS) false = balA (P.map (·.1)) 0 := by
  show checkF (Txt.join ⟨#[]⟩ (P.map bareS)) = _
  rw [checkF_list _ (by rw [join_rows]; exact qend_rows h), join_rows]
  exact balA_eq h 0
theorem taken_B {P : List (Nat × Nat)} (h : Ok P) : takenF (P.map bareS) true = balB (P.map (·.1)) 0 := by
  show checkF (pageF (Txt.join ⟨#[]⟩ (P.map bareS))) = _
  have hf := pg_free (P.flatMap rowC)
  rw [checkF_list _ (by rw [pageF_list, join_rows]; exact qend_free _ _ hf), pageF_list, join_rows, sgo_free _ _ hf]
  exact balB_eq h 0
end Mine
end
section
open PySem PySem.W PyProof.Rows PySem.Spec PySem.Calls
set_option maxHeartbeats 4000000
namespace Mine
theorem fact_strip {n k d : Nat} (hn : n < 11) (hk : k < 3) (hd : d < 8) : stripD ⟨(List.replicate n 46 ++ rowC (k, d)).toArray⟩ = bareS (k, d) := by
  have a : ∀ n : Fin 11, ∀ k : Fin 3, ∀ d : Fin 8, stripD ⟨(List.replicate n.val 46 ++ rowC (k.val, d.val)).toArray⟩ = bareS (k.val, d.val) := by decide +kernel
  exact a ⟨n, hn⟩ ⟨k, hk⟩ ⟨d, hd⟩
theorem fact_head {k d : Nat} (hk : k < 3) (hd : d < 8) : (Txt.slice (bareS (k, d)) none (some 2) == headB) = (k == 1) ∧ (Txt.slice (bareS (k, d)) none (some 2) == headC) = (k == 2) := by
  have a : ∀ k : Fin 3, ∀ d : Fin 8, (Txt.slice (bareS (k.val, d.val)) none (some 2) == headB) = (k.val == 1) ∧ (Txt.slice (bareS (k.val, d.val)) none (some 2) == headC) = (k.val == 2) := by decide +kernel
  exact a ⟨k, hk⟩ ⟨d, hd⟩
theorem fact_cut {d : Nat} (hd : d < 8) : pieceA ++ Txt.slice (bareS (1, d)) (some 5) none = bareS (0, d) ∧ pieceB ++ Txt.slice (bareS (2, d)) (some 3) none = bareS (1, d) ∧
    dotC ++ Txt.slice (bareS (0, d)) (some 4) none = ⟨(List.replicate 1 46 ++ rowC (2, d)).toArray⟩ := by
  have a : ∀ d : Fin 8, pieceA ++ Txt.slice (bareS (1, d.val)) (some 5) none = bareS (0, d.val) ∧ pieceB ++ Txt.slice (bareS (2, d.val)) (some 3) none = bareS (1, d.val) ∧
    dotC ++ Txt.slice (bareS (0, d.val)) (some 4) none = ⟨(List.replicate 1 46 ++ rowC (2, d.val)).toArray⟩ := by decide +kernel
  exact a ⟨d, hd⟩
theorem fact_mul {n : Nat} (hn : n < 11) : Txt.mul dotS (n : Nat) = ⟨(List.replicate n 46).toArray⟩ := by
  have a : ∀ n : Fin 11, Txt.mul dotS ((n.val : Nat) : Int) = ⟨(List.replicate n.val 46).toArray⟩ := by decide +kernel
  exact a ⟨n, hn⟩
theorem fact_row {k d : Nat} (hk : k < 3) (hd : d < 8) : rowC (k, d) ≠ [] ∧ (rowC (k, d)).length ≤ 7 ∧ (∀ c ∈ rowC (k, d), c ≠ 13 ∧ c ≠ 10) ∧ (rowC (k, d)).flatMap escC = (rowC (k, d)).flatMap nameC ∧ bareR ⟨k, d, 0⟩ = bareS (k, d) := by
  have a : ∀ k : Fin 3, ∀ d : Fin 8, rowC (k.val, d.val) ≠ [] ∧ (rowC (k.val, d.val)).length ≤ 7 ∧ (∀ c ∈ rowC (k.val, d.val), c ≠ 13 ∧ c ≠ 10) ∧ (rowC (k.val, d.val)).flatMap escC = (rowC (k.val, d.val)).flatMap nameC ∧ bareR ⟨k.val, d.val, 0⟩ = bareS (k.val, d.val) := by decide +kernel
  exact a ⟨k, hk⟩ ⟨d, hd⟩
def pairsD : Nat → List (Nat × Nat) → List (Nat × List Nat)
  | _, [] => []
  | m, p :: ps => (m, rowC p) :: pairsD (m - 1) ps
def rowD (x : Nat × List Nat) : List Nat := List.replicate x.1 46 ++ x.2
def rowsS (m : Nat) (P : List (Nat × Nat)) : List Str := (pairsD m P).map fun x => ⟨(rowD x).toArray⟩
def textL (m : Nat) (P : List (Nat × Nat)) : List Nat := (pairsD m P).flatMap fun x => rowD x ++ [13, 10]
def textS (m : Nat) (P : List (Nat × Nat)) : Str := ⟨(textL m P).toArray⟩
theorem pairsD_len : ∀ (m : Nat) (P : List (Nat × Nat)), (pairsD m P).length = P.length
  | _, [] => rfl
  | m, _ :: P => by simp [pairsD, pairsD_len (m - 1) P]
theorem pairsD_get : ∀ (m : Nat) (P : List (Nat × Nat)) (j : Nat), (pairsD m P)[j]? = P[j]?.map fun p => (m - j, rowC p)
  | _, [], j => by simp [pairsD]
  | m, p :: P, 0 => by simp [pairsD]
  | m, p :: P, j + 1 => by
    simp only [pairsD, List.getElem?_cons_succ]
    rw [pairsD_get (m - 1) P j, show m - 1 - j = m - (j + 1) by omega]
theorem pairsD_mem {m : Nat} {P : List (Nat × Nat)} {x : Nat × List Nat} (h : x ∈ pairsD m P) : ∃ p ∈ P, ∃ j, j < P.length ∧ x = (m - j, rowC p) := by
  obtain ⟨j, hj⟩ := List.getElem?_of_mem h
  rw [pairsD_get] at hj
  cases e : P[j]? with
  | none => rw [e] at hj; cases hj
  | some p =>
    rw [e] at hj
    have hl : j < P.length := (List.getElem?_eq_some_iff.mp e).1
    exact ⟨p, List.mem_of_getElem? e, j, hl, (Option.some.inj hj).symm⟩
theorem pairsD_succ : ∀ (m : Nat) (P : List (Nat × Nat)), P.length ≤ m → pairsD (m + 1) P = (pairsD m P).map fun x => (x.1 + 1, x.2)
  | _, [], _ => rfl
  | m, p :: P, h => by
    simp only [List.length_cons] at h
    obtain ⟨k, rfl⟩ : ∃ k, m = k + 1 := ⟨m - 1, by omega⟩
    show (k + 1 + 1, rowC p) :: pairsD (k + 1) P = (k + 1 + 1, rowC p) :: (pairsD k P).map _
    rw [pairsD_succ k P (by omega)]
theorem rowsS_len (m : Nat) (P : List (Nat × Nat)) : (rowsS m P).length = P.length := by unfold rowsS; rw [List.length_map, pairsD_len]
theorem rowsS_get (m : Nat) (P : List (Nat × Nat)) (j : Nat) : (rowsS m P)[j]? = P[j]?.map fun p => (⟨(List.replicate (m - j) 46 ++ rowC p).toArray⟩ : Str) := by
  unfold rowsS
  rw [List.getElem?_map, pairsD_get]
  cases P[j]? <;> rfl
theorem rowsS_getS {m : Nat} {P : List (Nat × Nat)} {j : Nat} {p : Nat × Nat} (h : P[j]? = some p) : getS (rowsS m P) j = ⟨(List.replicate (m - j) 46 ++ rowC p).toArray⟩ := by
  unfold getS
  rw [List.getD_eq_getElem?_getD, rowsS_get, h]
  rfl
theorem strip_rows {m : Nat} {P : List (Nat × Nat)} (hm : m < 11) (h : Ok P) : (rowsS m P).map stripD = P.map bareS := by
  refine List.ext_getElem? fun j => ?_
  rw [List.getElem?_map, rowsS_get, List.getElem?_map]
  cases e : P[j]? with
  | none => rfl
  | some p =>
    obtain ⟨hk, hd⟩ := h p (List.mem_of_getElem? e)
    show some (stripD _) = some _
    rw [fact_strip (by omega) hk hd]
theorem dN_rows {m : Nat} {P : List (Nat × Nat)} {j : Nat} {p : Nat × Nat} (hm : m < 11) (h : Ok P) (e : P[j]? = some p) : dN (rowsS m P) j = m - j := by
  obtain ⟨hk, hd⟩ := h p (List.mem_of_getElem? e)
  unfold dN
  rw [rowsS_getS e, fact_strip (by omega) hk hd]
  show (List.replicate (m - j) 46 ++ rowC p).toArray.size - (rowC p).toArray.size = _
  simp
theorem inter_end (y : List Nat) : ∀ ls : List (List Nat), ((ls ++ [[]]).intersperse y).flatten = ls.flatMap fun l => l ++ y
  | [] => rfl
  | [a] => by simp
  | a :: b :: r => by
    have ih := inter_end y (b :: r)
    simp only [List.cons_append] at ih ⊢
    rw [List.intersperse_cons₂, List.flatten_cons, List.flatten_cons, ih]
    simp
theorem rows_safe {m : Nat} {P : List (Nat × Nat)} (h : Ok P) : ∀ x ∈ pairsD m P, rowD x ≠ [] ∧ (∀ c ∈ rowD x, c ≠ 13 ∧ c ≠ 10) ∧ ∀ c ∈ x.2, c ≠ 10 := by
  intro x hx
  obtain ⟨p, hp, j, _, rfl⟩ := pairsD_mem hx
  obtain ⟨hk, hd⟩ := h p hp
  obtain ⟨f1, _, f3, _⟩ := fact_row hk hd
  refine ⟨fun e => f1 (List.append_eq_nil_iff.mp e).2, fun c hc => ?_, fun c hc => (f3 c hc).2⟩
  rcases List.mem_append.mp hc with hc | hc
  · rw [List.eq_of_mem_replicate hc]; decide
  · exact f3 c hc
theorem split_rows {m : Nat} {P : List (Nat × Nat)} (h : Ok P) (hP : P ≠ []) : Txt.split (textS m P) crlf = rowsS m P ++ [⟨#[]⟩] := by
  have hmap : (rowsS m P ++ [(⟨#[]⟩ : Str)]).map (fun p => p.cps.toList) = (pairsD m P).map rowD ++ [[]] := by
    unfold rowsS
    rw [List.map_append, List.map_map]
    rfl
  have hl : 1 ≤ P.length := by
    cases P with
    | nil => exact absurd rfl hP
    | cons _ _ => simp
  refine split_list _ crlf (by decide) (by decide +kernel) _ (by rw [List.length_append, rowsS_len]; simp; omega) ?_ ?_
  · rw [hmap]
    show textL m P = (((pairsD m P).map rowD ++ [[]]).intersperse [13, 10]).flatten
    rw [inter_end, List.flatMap_map]
    rfl
  · rw [hmap]
    refine tights_of (by simp) fun p hp rest k hk hpre => ?_
    have hno : ∀ c ∈ p, c ≠ 13 := by
      rcases List.mem_append.mp hp with hp | hp
      · obtain ⟨x, hx, rfl⟩ := List.mem_map.mp hp
        exact fun c hc => ((rows_safe h x hx).2.1 c hc).1
      · rw [List.mem_singleton.mp hp]; exact fun c hc => nomatch hc
    have hpk : (p ++ rest).drop k = p[k] :: (p ++ rest).drop (k + 1) := by
      rw [List.drop_eq_getElem_cons (by rw [List.length_append]; omega), List.getElem_append_left hk]
    rw [hpk] at hpre
    have : p[k] = 13 := by
      have h2 : (p[k] :: (p ++ rest).drop (k + 1)).take 2 = [13, 10] := hpre
      simp at h2
      exact h2.1
    exact hno _ (List.getElem_mem hk) this
def withEnds : List (List Nat) → List (List Nat × List Nat)
  | [] => []
  | [a] => [(a, [10])]
  | a :: b :: r => (a, [13]) :: withEnds (b :: r)
theorem ends_flat : ∀ ls : List (List Nat), ls ≠ [] → (ls.intersperse [13]).flatten ++ [10] = (withEnds ls).flatMap fun x => x.1 ++ x.2
  | [], h => absurd rfl h
  | [a], _ => by simp [withEnds]
  | a :: b :: r, _ => by
    have ih := ends_flat (b :: r) (fun e => nomatch e)
    rw [List.intersperse_cons₂, List.flatten_cons, List.flatten_cons, List.append_assoc, List.append_assoc, ih]
    simp [withEnds]
theorem ends_fst : ∀ ls : List (List Nat), ((withEnds ls).flatMap fun x => x.1 ++ [13, 10]) = ls.flatMap fun l => l ++ [13, 10]
  | [] => rfl
  | [a] => by simp [withEnds]
  | a :: b :: r => by
    have ih := ends_fst (b :: r)
    simp only [withEnds, List.flatMap_cons] at ih ⊢
    rw [ih]
theorem ends_mem : ∀ (ls : List (List Nat)), ∀ x ∈ withEnds ls, x.1 ∈ ls ∧ (x.2 = [10] ∨ x.2 = [13] ∨ x.2 = [13, 10])
  | [], x, h => by simp [withEnds] at h
  | [a], x, h => by
    simp [withEnds] at h
    subst h
    exact ⟨List.mem_cons_self, .inl rfl⟩
  | a :: b :: r, x, h => by
    simp only [withEnds] at h
    rcases List.mem_cons.mp h with rfl | h
    · exact ⟨List.mem_cons_self, .inr (.inl rfl)⟩
    · obtain ⟨h1, h2⟩ := ends_mem (b :: r) x h
      exact ⟨List.mem_cons_of_mem _ h1, h2⟩
theorem dot_text {m : Nat} {P : List (Nat × Nat)} (h : Ok P) (hm : P.length ≤ m) : scan g1 none (textL m P) = textL (m + 1) P := by
  unfold textL
  rw [pairsD_succ m P hm, List.flatMap_map]
  refine dot_rows (pairsD m P) none (.inl rfl) fun x hx => ⟨?_, (rows_safe h x hx).2.2⟩
  obtain ⟨p, _, j, hj, rfl⟩ := pairsD_mem hx
  show 1 ≤ m - j
  omega
theorem quote_text {x : Str} {m : Nat} {P : List (Nat × Nat)} (h : Ok P) (hm : P.length ≤ m) (hx : scan g2 none x.cps.toList = textL m P) : dotF (crF x) = textS (m + 1) P := by
  refine Str.ext' (Array.toList_inj.mp ?_)
  rw [dotF_list, crF_list, hx, dot_text h hm]
  rfl
theorem join_text {m : Nat} {P : List (Nat × Nat)} (h : Ok P) (hP : P ≠ []) : scan g2 none (Txt.join crS (rowsS m P) ++ nlS).cps.toList = textL m P := by
  have e1 : (Txt.join crS (rowsS m P) ++ nlS).cps.toList = (((pairsD m P).map rowD).intersperse [13]).flatten ++ [10] := by
    rw [Str.cps_append, Array.toList_append, joinL]
    unfold rowsS
    rw [List.map_map]
    rfl
  have hne : (pairsD m P).map rowD ≠ [] := by
    cases P with
    | nil => exact absurd rfl hP
    | cons _ _ => simp [pairsD]
  rw [e1, ends_flat _ hne, cr_rows, ends_fst, List.flatMap_map]
  · rfl
  · intro x hx
    obtain ⟨h1, h2⟩ := ends_mem _ x hx
    obtain ⟨y, hy, hxy⟩ := List.mem_map.mp h1
    obtain ⟨s1, s2, _⟩ := rows_safe h y hy
    rw [hxy] at s1 s2
    exact ⟨s1, s2, h2⟩
end Mine
end
section
open PySem PySem.W PyProof.Rows PySem.Spec PySem.Calls
set_option maxHeartbeats 4000000
namespace Mine
theorem getD_of {P : List (Nat × Nat)} {j : Nat} (h : j < P.length) : P[j]? = some (P.getD j (0, 0)) := by
  rw [List.getD_eq_getElem?_getD, List.getElem?_eq_getElem h]
  rfl
theorem bare_getS {P : List (Nat × Nat)} {j : Nat} (h : j < P.length) : getS (P.map bareS) j = bareS (P.getD j (0, 0)) := by
  unfold getS
  rw [List.getD_eq_getElem?_getD, List.getElem?_map, getD_of h]
  rfl
theorem Ok.get {P : List (Nat × Nat)} (h : Ok P) {j : Nat} (hj : j < P.length) : (P.getD j (0, 0)).1 < 3 ∧ (P.getD j (0, 0)).2 < 8 := h _ (List.mem_of_getElem? (getD_of hj))
theorem Ok.take {P : List (Nat × Nat)} (h : Ok P) (k : Nat) : Ok (P.take k) := fun p hp => h p (List.mem_of_mem_take hp)
theorem Ok.drop {P : List (Nat × Nat)} (h : Ok P) (k : Nat) : Ok (P.drop k) := fun p hp => h p (List.mem_of_mem_drop hp)
theorem Ok.append {P R : List (Nat × Nat)} (h : Ok P) (h' : Ok R) : Ok (P ++ R) := fun p hp => (List.mem_append.mp hp).elim (h p) (h' p)
theorem Ok.set {P : List (Nat × Nat)} (h : Ok P) {j : Nat} {q : Nat × Nat} (hq : q.1 < 3 ∧ q.2 < 8) : Ok (P.set j q) := fun p hp => by
  rcases List.mem_or_eq_of_mem_set hp with h' | h'
  · exact h p h'
  · rw [h']; exact hq
def cB (ks : List Nat) (p : Nat) : Bool := ks.getD p 0 == 1 && balA (ks.take (p + 1)) 0
def cC (ks : List Nat) (p : Nat) : Bool := ks.getD p 0 == 2 && balB (ks.take (p + 1)) 0
theorem kind_getD (P : List (Nat × Nat)) (j : Nat) : (P.map (·.1)).getD j 0 = (P.getD j (0, 0)).1 := by
  rw [List.getD_eq_getElem?_getD, List.getD_eq_getElem?_getD, List.getElem?_map]
  cases P[j]? <;> rfl
theorem condB_eq {P : List (Nat × Nat)} (h : Ok P) {p : Nat} (hp : p < P.length) : condB (P.map bareS) p = cB (P.map (·.1)) p := by
  unfold condB cB
  obtain ⟨hk, hd⟩ := h.get hp
  rw [bare_getS hp, (fact_head hk hd).1, ← List.map_take, taken_A (h.take _), kind_getD, List.map_take]
theorem condC_eq {P : List (Nat × Nat)} (h : Ok P) {p : Nat} (hp : p < P.length) : condC (P.map bareS) p = cC (P.map (·.1)) p := by
  unfold condC cC
  obtain ⟨hk, hd⟩ := h.get hp
  rw [bare_getS hp, (fact_head hk hd).2, ← List.map_take, taken_B (h.take _), kind_getD, List.map_take]
def promo2 (P : List (Nat × Nat)) (b c : Nat) : List (Nat × Nat) := (P.set b (0, (P.getD b (0, 0)).2)).set c (1, (P.getD c (0, 0)).2)
def promo (P : List (Nat × Nat)) (b c : Nat) : List (Nat × Nat) := (promo2 P b c).drop 1 ++ [(2, (P.getD 0 (0, 0)).2)]
theorem promo_len {P : List (Nat × Nat)} {b c : Nat} (h : 1 ≤ P.length) : (promo P b c).length = P.length := by
  unfold promo promo2
  simp
  omega
theorem set_getD_ne {P : List (Nat × Nat)} {b c : Nat} {q : Nat × Nat} (h : b ≠ c) : (P.set b q).getD c (0, 0) = P.getD c (0, 0) := by
  rw [List.getD_eq_getElem?_getD, List.getD_eq_getElem?_getD, List.getElem?_set_ne h]
theorem bare2_eq {P : List (Nat × Nat)} (h : Ok P) {b c : Nat} (hbc : b < c) (hc : c < P.length) (kb : (P.getD b (0, 0)).1 = 1) (kc : (P.getD c (0, 0)).1 = 2) : bare2 (P.map bareS) b c = (promo2 P b c).map bareS := by
  have hbl : b < P.length := by omega
  have db := (h.get hbl).2
  have dc := (h.get hc).2
  have e1 : bareB (P.map bareS) b = (P.set b (0, (P.getD b (0, 0)).2)).map bareS := by
    unfold bareB
    rw [bare_getS hbl, List.map_set]
    congr 1
    rw [← (fact_cut db).1]
    congr 3
    exact Prod.ext kb rfl
  unfold bare2 bareC
  rw [e1, bare_getS (by rw [List.length_set]; exact hc), set_getD_ne (by omega)]
  unfold promo2
  rw [List.map_set]
  have e2 : pieceB ++ Txt.slice (bareS (P.getD c (0, 0))) (some 3) none = bareS (1, (P.getD c (0, 0)).2) := by
    rw [show P.getD c (0, 0) = (2, (P.getD c (0, 0)).2) from Prod.ext kc rfl]
    exact (fact_cut dc).2.1
  rw [e2, List.map_set, List.map_set]
theorem promo2_ok {P : List (Nat × Nat)} (h : Ok P) {b c : Nat} (hb : b < P.length) (hc : c < P.length) : Ok (promo2 P b c) := Ok.set (q := (1, (P.getD c (0, 0)).2)) (Ok.set (q := (0, (P.getD b (0, 0)).2)) h ⟨(by decide : (0 : Nat) < 3), (h.get hb).2⟩) ⟨(by decide : (1 : Nat) < 3), (h.get hc).2⟩
theorem promo_ok {P : List (Nat × Nat)} (h : Ok P) {b c : Nat} (hb : b < P.length) (hc : c < P.length) : Ok (promo P b c) := by
  refine ((promo2_ok h hb hc).drop 1).append fun p hp => ?_
  rw [List.mem_singleton.mp hp]
  exact ⟨(by decide : (2 : Nat) < 3), (h.get (by omega : 0 < P.length)).2⟩
theorem str_cat (a b : List Nat) : (⟨a.toArray⟩ : Str) ++ ⟨b.toArray⟩ = ⟨(a ++ b).toArray⟩ := Str.ext' (Array.toList_inj.mp (by rw [Str.cps_append, Array.toList_append]))
theorem kept_eq {P : List (Nat × Nat)} (h : Ok P) (h9 : P.length ≤ 9) {b c : Nat} (hb1 : 1 ≤ b) (hbc : b < c) (hc : c < P.length) (kb : (P.getD b (0, 0)).1 = 1) (kc : (P.getD c (0, 0)).1 = 2) (k0 : (P.getD 0 (0, 0)).1 = 0) :
    keptP (rowsS (P.length + 1) P) b c = rowsS P.length (promo P b c) := by
  have hok2 := promo2_ok h (by omega : b < P.length) hc
  have hl2 : (promo2 P b c).length = P.length := by unfold promo2; simp
  unfold keptP
  rw [rowsS_len, strip_rows (by omega) h, bare2_eq h hbc hc kb kc]
  refine List.ext_getElem? fun j => ?_
  rw [rowsS_get]
  by_cases hj : j < P.length - 1
  · rw [List.getElem?_append_left (by simp; exact hj), List.getElem?_map, List.getElem?_range hj]
    have e1 : (promo P b c)[j]? = some ((promo2 P b c).getD (j + 1) (0, 0)) := by
      unfold promo
      rw [List.getElem?_append_left (by rw [List.length_drop]; omega), List.getElem?_drop, Nat.add_comm 1 j]
      exact getD_of (by omega)
    rw [e1]
    show some (Txt.mul dotS _ ++ getS ((promo2 P b c).map bareS) (j + 1)) = some _
    rw [dN_rows (by omega) h (getD_of (by omega : j + 1 < P.length)), bare_getS (by omega), fact_mul (by omega), show P.length + 1 - (j + 1) = P.length - j by omega]
    unfold bareS
    rw [str_cat]
  · by_cases hj2 : j = P.length - 1
    · have e2 : (promo P b c)[j]? = some (2, (P.getD 0 (0, 0)).2) := by
        unfold promo
        rw [List.getElem?_append_right (by rw [List.length_drop]; omega), List.length_drop, hl2, hj2]
        simp
      rw [e2, List.getElem?_append_right (by simp; omega)]
      have d0 := (h.get (by omega : 0 < P.length)).2
      have e3 : (promo2 P b c).getD 0 (0, 0) = P.getD 0 (0, 0) := by
        unfold promo2
        rw [set_getD_ne (by omega), set_getD_ne (by omega)]
      rw [show j - ((List.range (P.length - 1)).map _).length = 0 by simp; omega]
      show some (dotC ++ Txt.slice (getS ((promo2 P b c).map bareS) 0) (some 4) none) = some _
      rw [bare_getS (by omega), e3, show P.getD 0 (0, 0) = (0, (P.getD 0 (0, 0)).2) from Prod.ext k0 rfl, (fact_cut d0).2.2, show P.length - j = 1 by omega]
    · rw [List.getElem?_eq_none (by simp; omega)]
      have : (promo P b c)[j]? = none := List.getElem?_eq_none (by rw [promo_len (by omega)]; omega)
      rw [this]
      rfl
theorem turn_eq {P : List (Nat × Nat)} (h : Ok P) (h9 : P.length ≤ 9) {b c : Nat} (hb1 : 1 ≤ b) (hbc : b < c) (hc : c < P.length) (kb : (P.getD b (0, 0)).1 = 1) (kc : (P.getD c (0, 0)).1 = 2) (k0 : (P.getD 0 (0, 0)).1 = 0) :
    turnT (rowsS (P.length + 1) P) b c = textS (P.length + 1) (promo P b c) := by
  unfold turnT
  rw [kept_eq h h9 hb1 hbc hc kb kc k0]
  have hl := promo_len (P := P) (b := b) (c := c) (by omega)
  have hok := promo_ok h (by omega : b < P.length) hc
  refine quote_text hok (by omega) (join_text hok ?_)
  intro e
  rw [e] at hl
  simp at hl
  omega
theorem flat_le {α : Type} {f : α → List Nat} {n : Nat} : ∀ {l : List α}, (∀ x ∈ l, (f x).length ≤ n) → (l.flatMap f).length ≤ n * l.length
  | [], _ => Nat.zero_le _
  | a :: r, h => by
    have h1 := h a List.mem_cons_self
    have h2 := flat_le (l := r) fun x hx => h x (List.mem_cons_of_mem _ hx)
    rw [List.flatMap_cons, List.length_append, List.length_cons, Nat.mul_add]
    omega
theorem row_len {m : Nat} {P : List (Nat × Nat)} (h : Ok P) (hm : m ≤ 10) : ∀ x ∈ pairsD m P, (rowD x).length ≤ 17 := by
  intro x hx
  obtain ⟨p, hp, j, _, rfl⟩ := pairsD_mem hx
  obtain ⟨hk, hd⟩ := h p hp
  have : (rowC p).length ≤ 7 := (fact_row hk hd).2.1
  unfold rowD
  rw [List.length_append, List.length_replicate]
  show m - j + (rowC p).length ≤ 17
  omega
theorem text_len {m : Nat} {P : List (Nat × Nat)} (h : Ok P) (hm : m ≤ 10) (h9 : P.length ≤ 9) : (textS m P).length ≤ 240 := by
  have h1 : (textL m P).length ≤ 19 * (pairsD m P).length := flat_le fun x hx => by
    have := row_len h hm x hx
    rw [List.length_append]
    show _ + 2 ≤ 19
    omega
  rw [pairsD_len] at h1
  show (textL m P).toArray.size ≤ 240
  rw [List.size_toArray]
  omega
theorem rows_len {m : Nat} {P : List (Nat × Nat)} (h : Ok P) (hm : m ≤ 10) : ∀ y ∈ rowsS m P, y.length ≤ 17 := by
  intro y hy
  unfold rowsS at hy
  obtain ⟨x, hx, rfl⟩ := List.mem_map.mp hy
  show (rowD x).toArray.size ≤ 17
  rw [List.size_toArray]
  exact row_len h hm x hx
theorem bare_join {P : List (Nat × Nat)} (h : Ok P) (h9 : P.length ≤ 9) (k : Nat) : (Txt.join ⟨#[]⟩ ((P.map bareS).take k)).length ≤ 80 := by
  rw [← List.map_take]
  show (Txt.join ⟨#[]⟩ ((P.take k).map bareS)).cps.toList.length ≤ 80
  rw [join_rows]
  have h1 : ((P.take k).flatMap rowC).length ≤ 7 * (P.take k).length := flat_le fun p hp => by
    obtain ⟨hk, hd⟩ := h p (List.mem_of_mem_take hp)
    exact (fact_row hk hd).2.1
  rw [List.length_take] at h1
  omega
theorem kept_len {m : Nat} {P : List (Nat × Nat)} (h : Ok P) (hm : m ≤ 9) (h9 : P.length ≤ 9) (hP : P ≠ []) : (Txt.join crS (rowsS m P) ++ nlS).length ≤ 240 := by
  show (Txt.join crS (rowsS m P) ++ nlS).cps.toList.length ≤ 240
  rw [Str.cps_append, Array.toList_append, joinL]
  unfold rowsS
  rw [List.map_map]
  show ((((pairsD m P).map rowD).intersperse [13]).flatten ++ [10]).length ≤ 240
  have hne : (pairsD m P).map rowD ≠ [] := by
    cases P with
    | nil => exact absurd rfl hP
    | cons _ _ => simp [pairsD]
  rw [ends_flat _ hne]
  have h1 : ((withEnds ((pairsD m P).map rowD)).flatMap fun x => x.1 ++ x.2).length ≤ 19 * (withEnds ((pairsD m P).map rowD)).length := flat_le fun x hx => by
    obtain ⟨e1, e2⟩ := ends_mem _ x hx
    obtain ⟨y, hy, hxy⟩ := List.mem_map.mp e1
    have := row_len h (by omega) y hy
    rw [List.length_append, ← hxy]
    rcases e2 with e2 | e2 | e2 <;> rw [e2] <;> simp <;> omega
  have h2 : ∀ ls : List (List Nat), (withEnds ls).length = ls.length := by
    intro ls
    induction ls with
    | nil => rfl
    | cons a r ih =>
      cases r with
      | nil => rfl
      | cons b r' => simp only [withEnds, List.length_cons] at ih ⊢; omega
  rw [h2, List.length_map, pairsD_len] at h1
  omega
/-- a turn is fit -/
theorem turnOk {P : List (Nat × Nat)} (h : Ok P) (h9 : P.length ≤ 9) {b c : Nat} (hb1 : 1 ≤ b) (hbc : b < c) (hc : c < P.length) (k0 : (P.getD 0 (0, 0)).1 = 0)
    (hB : cB (P.map (·.1)) b = true) (hB0 : ∀ p, 1 ≤ p → p < b → cB (P.map (·.1)) p = false) (hC : cC (P.map (·.1)) c = true) (hC0 : ∀ p, b < p → p < c → cC (P.map (·.1)) p = false) :
    TurnOk (textS (P.length + 1) P) (rowsS (P.length + 1) P) b c ∧ turnT (rowsS (P.length + 1) P) b c = textS (P.length + 1) (promo P b c) := by
  have kb : (P.getD b (0, 0)).1 = 1 := by
    unfold cB at hB
    rw [kind_getD] at hB
    simp at hB
    exact hB.1
  have kc : (P.getD c (0, 0)).1 = 2 := by
    unfold cC at hC
    rw [kind_getD] at hC
    simp at hC
    exact hC.1
  have hP : P ≠ [] := by
    intro e
    rw [e] at hc
    exact absurd hc (Nat.not_lt_zero _)
  have hpl := promo_len (P := P) (b := b) (c := c) (by omega)
  have hpo := promo_ok h (by omega : b < P.length) hc
  have hpn : promo P b c ≠ [] := by
    intro e
    rw [e] at hpl
    simp at hpl
    omega
  have hs := strip_rows (m := P.length + 1) (by omega) h
  refine ⟨⟨⟨_, split_rows h hP⟩, text_len h (by omega) h9, by rw [rowsS_len]; omega, fun y hy => Nat.le_trans (rows_len h (by omega) y hy) (by decide), hb1, hbc, by rw [rowsS_len]; exact hc, ?_, ?_, ?_, ?_, ?_, ?_, ?_⟩, turn_eq h h9 hb1 hbc hc kb kc k0⟩
  · intro k; rw [hs]; exact bare_join h h9 k
  · rw [hs, condB_eq h (by omega)]; exact hB
  · intro p h1 h2; rw [hs, condB_eq h (by omega)]; exact hB0 p h1 h2
  · rw [hs, condC_eq h hc]; exact hC
  · intro p h1 h2; rw [hs, condC_eq h (by omega)]; exact hC0 p h1 h2
  · rw [kept_eq h h9 hb1 hbc hc kb kc k0]; exact kept_len hpo h9 (by omega) hpn
  · intro y hy
    rw [kept_eq h h9 hb1 hbc hc kb kc k0] at hy
    exact Nat.le_trans (rows_len hpo (by omega) y hy) (by decide)
end Mine
end
section
open PySem PySem.W PyProof.Rows PySem.Spec PySem.Calls
set_option maxHeartbeats 4000000
namespace Mine
def fBk (ks : List Nat) : Nat := ((List.range ks.length).find? fun p => decide (1 ≤ p) && cB ks p).getD 0
def fCk (ks : List Nat) (b : Nat) : Nat := ((List.range ks.length).find? fun p => decide (b < p) && cC ks p).getD 0
def promoK (ks : List Nat) (b c : Nat) : List Nat := ((ks.set b 0).set c 1).drop 1 ++ [2]
def stepOk (k : List Nat) (b c : Nat) : Bool := decide (1 ≤ b) && decide (b < c) && decide (c < k.length) && (k.getD 0 0 == 0) && cB k b && cC k c &&
  (List.range b).all (fun p => decide (p = 0) || !cB k p) && (List.range c).all (fun p => decide (p ≤ b) || !cC k p)
def kT (ks : List Nat) : Nat → List Nat
  | 0 => ks
  | t + 1 => promoK (kT ks t) (fBk (kT ks t)) (fCk (kT ks t) (fBk (kT ks t)))
def bT (ks : List Nat) (t : Nat) : Nat := fBk (kT ks t)
def cT (ks : List Nat) (t : Nat) : Nat := fCk (kT ks t) (bT ks t)
def goodA (ks : List Nat) : Bool := balA ks 0 && balB ks 0 && !balA (ks.drop 1 ++ ks.take 1) 0 && balB (ks.drop 1 ++ ks.take 1) 0 && !balB (ks.drop (ks.length - 1) ++ ks.take (ks.length - 1)) 0
def goodT (ks : List Nat) : Bool := (List.range ks.length).all (fun t => stepOk (kT ks t) (bT ks t) (cT ks t)) && decide (kT ks ks.length = ks)
/-- (t - (n - c_t)) mod n = (t + c_t) mod n -/
def goodC (ks : List Nat) : Bool := (List.range ks.length).all fun t => decide (bT ks ((t + cT ks t) % ks.length) = ks.length - cT ks t) && decide (cT ks ((t + bT ks t) % ks.length) = ks.length - bT ks t)
def good (ks : List Nat) : Bool := goodA ks && goodT ks && goodC ks
def wordsK (n : Nat) : Nat → Nat → Nat → Nat → List (List Nat)
  | 0, _, _, _ => [[]]
  | f + 1, a, b, c => (freeL n a b c).flatMap fun k => (wordsK n f (if k = 1 then a + 1 else a) (if k = 2 then b + 1 else b) (if k = 3 then c + 1 else c)).map fun l => (k - 1) :: l
theorem good6 : (wordsK 2 6 0 0 0).all good = true := by decide +kernel
theorem good9 : (wordsK 3 9 0 0 0).all good = true := by decide +kernel
end Mine
end
section
open PySem PySem.W PyProof.Rows PySem.Spec PySem.Calls
set_option maxHeartbeats 4000000
namespace Mine
theorem free_pos {n a b c : Nat} (h1 : c ≤ b) (h2 : b ≤ a) (h3 : a ≤ n) (h4 : a + b + c < 3 * n) : 0 < (freeL n a b c).length := by
  unfold freeL
  by_cases e1 : a < n
  · simp [e1]
  · by_cases e2 : b < a
    · simp [e1, e2]
    · by_cases e3 : c < b
      · simp [e1, e2, e3]
      · exfalso; omega
theorem free_mem {n a b c k : Nat} (h : k ∈ freeL n a b c) : (k = 1 ∧ a < n) ∨ (k = 2 ∧ b < a) ∨ (k = 3 ∧ c < b) := by
  unfold freeL at h
  by_cases h1 : a < n <;> by_cases h2 : b < a <;> by_cases h3 : c < b <;> simp [h1, h2, h3] at h <;> omega
theorem rowsGo_ok (n : Nat) : ∀ (xs : List Nat) (a b c : Nat), c ≤ b → b ≤ a → a ≤ n → a + b + c + xs.length = 3 * n →
    (rowsGo n a b c xs).map (·.kind) ∈ wordsK n xs.length a b c ∧ (rowsGo n a b c xs).length = xs.length ∧ ∀ r ∈ rowsGo n a b c xs, r.kind < 3 ∧ r.dress < 8 ∧ r.fin < 3
  | [], _, _, _, _, _, _, _ => ⟨List.mem_cons_self, rfl, fun _ h => nomatch h⟩
  | x :: xs, a, b, c, h1, h2, h3, h4 => by
    rw [List.length_cons] at h4
    have hpos := free_pos (n := n) h1 h2 h3 (by omega)
    obtain ⟨k, hk⟩ : ∃ k, k = (freeL n a b c).getD (x % (freeL n a b c).length) 0 := ⟨_, rfl⟩
    have hmod : x % (freeL n a b c).length < (freeL n a b c).length := Nat.mod_lt _ hpos
    have hmem : k ∈ freeL n a b c := by
      rw [hk, List.getD_eq_getElem?_getD, List.getElem?_eq_getElem hmod]
      exact List.getElem_mem hmod
    have hk3 := free_mem hmem
    have e : rowsGo n a b c (x :: xs) = ⟨k - 1, x / 6 % 8, x / 48 % 3⟩ :: rowsGo n (if k = 1 then a + 1 else a) (if k = 2 then b + 1 else b) (if k = 3 then c + 1 else c) xs := by rw [hk]; rfl
    have ih := rowsGo_ok n xs (if k = 1 then a + 1 else a) (if k = 2 then b + 1 else b) (if k = 3 then c + 1 else c) (by rcases hk3 with h | h | h <;> simp [h.1] <;> omega) (by rcases hk3 with h | h | h <;> simp [h.1] <;> omega)
      (by rcases hk3 with h | h | h <;> simp [h.1] <;> omega) (by rcases hk3 with h | h | h <;> simp [h.1] <;> omega)
    rw [e]
    refine ⟨?_, by rw [List.length_cons, List.length_cons, ih.2.1], fun r hr => ?_⟩
    · show (k - 1) :: (rowsGo n _ _ _ xs).map (·.kind) ∈ (freeL n a b c).flatMap _
      exact List.mem_flatMap.mpr ⟨k, hmem, List.mem_map.mpr ⟨_, ih.1, rfl⟩⟩
    · rcases List.mem_cons.mp hr with rfl | hr
      · refine ⟨?_, Nat.mod_lt _ (by decide), Nat.mod_lt _ (by decide)⟩
        show k - 1 < 3
        omega
      · exact ih.2.2 r hr
theorem rowsP_ok (script : List Int) : good ((rowsP script).map (·.kind)) = true ∧ (1 ≤ (rowsP script).length ∧ (rowsP script).length ≤ 9) ∧ ∀ r ∈ rowsP script, r.kind < 3 ∧ r.dress < 8 ∧ r.fin < 3 := by
  unfold rowsP
  by_cases h : script.length > 6
  · have e : sizeP script = 9 := by unfold sizeP; rw [if_pos h]
    rw [e]
    have key := rowsGo_ok 3 ((List.range 9).map (xAt script)) 0 0 0 (Nat.le_refl _) (Nat.le_refl _) (by decide) (by simp)
    have hl : ((List.range 9).map (xAt script)).length = 9 := by simp
    rw [hl] at key
    exact ⟨List.all_eq_true.mp good9 _ key.1, by rw [show 9 / 3 = 3 from rfl, key.2.1]; decide, key.2.2⟩
  · have e : sizeP script = 6 := by unfold sizeP; rw [if_neg h]
    rw [e]
    have key := rowsGo_ok 2 ((List.range 6).map (xAt script)) 0 0 0 (Nat.le_refl _) (Nat.le_refl _) (by decide) (by simp)
    have hl : ((List.range 6).map (xAt script)).length = 6 := by simp
    rw [hl] at key
    exact ⟨List.all_eq_true.mp good6 _ key.1, by rw [show 6 / 3 = 2 from rfl, key.2.1]; decide, key.2.2⟩
def P0 (rs : List Row) : List (Nat × Nat) := rs.map fun r => (r.kind, r.dress)
def PT (P : List (Nat × Nat)) (ks : List Nat) : Nat → List (Nat × Nat)
  | 0 => P
  | t + 1 => promo (PT P ks t) (bT ks t) (cT ks t)
theorem promo_fst {P : List (Nat × Nat)} (b c : Nat) : (promo P b c).map (·.1) = promoK (P.map (·.1)) b c := by
  unfold promo promo2 promoK
  rw [List.map_append, List.map_drop, List.map_set, List.map_set]
  rfl
theorem promo_snd {P : List (Nat × Nat)} (b c : Nat) (hP : 1 ≤ P.length) : (promo P b c).map (·.2) = (P.map (·.2)).drop 1 ++ (P.map (·.2)).take 1 := by
  have e2 : (promo2 P b c).map (·.2) = P.map (·.2) := by
    unfold promo2
    rw [List.map_set, List.map_set]
    refine List.ext_getElem? fun j => ?_
    rw [List.getElem?_set, List.getElem?_set, List.getElem?_map, List.length_set, List.length_map]
    by_cases hj : j < P.length
    · rw [getD_of hj]
      by_cases h1 : c = j
      · subst h1; simp [hj]
      · rw [if_neg h1]
        by_cases h2 : b = j
        · subst h2; simp [hj]
        · rw [if_neg h2]
    · have : P[j]? = none := List.getElem?_eq_none (by omega)
      rw [this]
      by_cases h1 : c = j
      · subst h1; simp [hj]
      · rw [if_neg h1]
        by_cases h2 : b = j
        · subst h2; simp [hj]
        · rw [if_neg h2]
  unfold promo
  rw [List.map_append, List.map_drop, e2]
  congr 1
  match P, hP with
  | p :: r, _ => rfl
theorem pair_ext : ∀ {P R : List (Nat × Nat)}, P.map (·.1) = R.map (·.1) → P.map (·.2) = R.map (·.2) → P = R
  | [], [], _, _ => rfl
  | [], _ :: _, h, _ => by simp at h
  | _ :: _, [], h, _ => by simp at h
  | p :: P, r :: R, h1, h2 => by
    simp only [List.map_cons, List.cons.injEq] at h1 h2
    rw [pair_ext h1.2 h2.2, Prod.ext h1.1 h2.1]
theorem rot_step {l : List Nat} {t : Nat} (h : t < l.length) : (l.drop t ++ l.take t).drop 1 ++ (l.drop t ++ l.take t).take 1 = l.drop (t + 1) ++ l.take (t + 1) := by
  rw [List.drop_eq_getElem_cons h]
  simp only [List.cons_append, List.drop_succ_cons, List.drop_zero, List.take_succ_cons, List.take_zero]
  rw [List.append_assoc, List.take_append_getElem h]
theorem stepOk_facts {k : List Nat} {b c : Nat} (h : stepOk k b c = true) : 1 ≤ b ∧ b < c ∧ c < k.length ∧ k.getD 0 0 = 0 ∧ cB k b = true ∧ cC k c = true ∧ (∀ p, 1 ≤ p → p < b → cB k p = false) ∧ (∀ p, b < p → p < c → cC k p = false) := by
  unfold stepOk at h
  simp only [Bool.and_eq_true, decide_eq_true_eq, beq_iff_eq, List.all_eq_true, List.mem_range, Bool.or_eq_true, Bool.not_eq_true'] at h
  obtain ⟨⟨⟨⟨⟨⟨⟨h1, h2⟩, h3⟩, h4⟩, h5⟩, h6⟩, h7⟩, h8⟩ := h
  exact ⟨h1, h2, h3, h4, h5, h6, fun p hp hb => (h7 p hb).resolve_left (by omega), fun p hp hc => (h8 p hc).resolve_left (by omega)⟩
theorem good_facts {ks : List Nat} (h : good ks = true) : (balA ks 0 = true ∧ balB ks 0 = true ∧ balA (ks.drop 1 ++ ks.take 1) 0 = false ∧ balB (ks.drop 1 ++ ks.take 1) 0 = true ∧ balB (ks.drop (ks.length - 1) ++ ks.take (ks.length - 1)) 0 = false) ∧
    (∀ t, t < ks.length → stepOk (kT ks t) (bT ks t) (cT ks t) = true) ∧ kT ks ks.length = ks ∧ ∀ t, t < ks.length → bT ks ((t + cT ks t) % ks.length) = ks.length - cT ks t ∧ cT ks ((t + bT ks t) % ks.length) = ks.length - bT ks t := by
  unfold good goodA goodT goodC at h
  simp only [Bool.and_eq_true, decide_eq_true_eq, List.all_eq_true, List.mem_range, Bool.not_eq_true'] at h
  obtain ⟨⟨⟨⟨⟨⟨h1, h2⟩, h3⟩, h4⟩, h5⟩, h6, h7⟩, h8⟩ := h
  exact ⟨⟨h1, h2, h3, h4, h5⟩, h6, h7, h8⟩
theorem PT_facts {P : List (Nat × Nat)} {ks : List Nat} (hok : Ok P) (hks : P.map (·.1) = ks) (hg : good ks = true) : ∀ t, t ≤ P.length → Ok (PT P ks t) ∧ (PT P ks t).length = P.length ∧ (PT P ks t).map (·.1) = kT ks t ∧ (PT P ks t).map (·.2) = (P.map (·.2)).drop t ++ (P.map (·.2)).take t
  | 0, _ => ⟨hok, rfl, hks, by simp [PT]⟩
  | t + 1, ht => by
    obtain ⟨i1, i2, i3, i4⟩ := PT_facts hok hks hg t (by omega)
    have hkl : ks.length = P.length := by rw [← hks, List.length_map]
    obtain ⟨_, g2, _⟩ := good_facts hg
    obtain ⟨s1, s2, s3, _⟩ := stepOk_facts (g2 t (by omega))
    have hkt : (kT ks t).length = P.length := by rw [← i3, List.length_map, i2]
    refine ⟨promo_ok i1 (by omega) (by omega), ?_, ?_, ?_⟩
    · show (promo _ _ _).length = _
      rw [promo_len (by omega), i2]
    · show (promo _ _ _).map (·.1) = promoK (kT ks t) (bT ks t) (cT ks t)
      rw [promo_fst, i3]
    · show (promo _ _ _).map (·.2) = _
      rw [promo_snd _ _ (by omega), i4]
      exact rot_step (by rw [List.length_map]; omega)
theorem fmod_add {t n c : Nat} (hn : 0 < n) (hc : c ≤ n) : ((t : Int) - ((n - c : Nat) : Int)).fmod (n : Nat) = (((t + c) % n : Nat) : Int) := by
  rw [Int.fmod_eq_emod_of_nonneg _ (by omega), show (t : Int) - ((n - c : Nat) : Int) = ((t + c : Nat) : Int) + (-1) * (n : Int) by omega, Int.add_mul_emod_self_right]
  exact (Int.natCast_emod _ _).symm
end Mine
end
section
open PySem PySem.W PyProof.Rows PySem.Spec PySem.Calls
set_option maxHeartbeats 4000000
namespace Mine
def endC : Nat → List Nat
  | 0 => [10]
  | 1 => [13]
  | _ => [13, 10]
theorem end_fact {f : Nat} (hf : f < 3) : getS endL f = ⟨(endC f).toArray⟩ ∧ (endC f = [10] ∨ endC f = [13] ∨ endC f = [13, 10]) := by
  refine three_cases (P := fun f => getS endL f = ⟨(endC f).toArray⟩ ∧ (endC f = [10] ∨ endC f = [13] ∨ endC f = [13, 10])) ?_ ?_ ?_ hf
  · exact ⟨rfl, .inl rfl⟩
  · exact ⟨rfl, .inr (.inl rfl)⟩
  · exact ⟨rfl, .inr (.inr rfl)⟩
def OkR (rs : List Row) : Prop := ∀ r ∈ rs, r.kind < 3 ∧ r.dress < 8 ∧ r.fin < 3
theorem P0_ok {rs : List Row} (h : OkR rs) : Ok (P0 rs) := fun p hp => by
  obtain ⟨r, hr, rfl⟩ := List.mem_map.mp hp
  exact ⟨(h r hr).1, (h r hr).2.1⟩
theorem first_eq {rs : List Row} (h : OkR rs) : firstP rs = (P0 rs).map bareS := by
  unfold firstP P0
  rw [List.map_map]
  refine List.map_congr_left fun r hr => ?_
  exact (fact_row (h r hr).1 (h r hr).2.1).2.2.2.2
theorem P0_len (rs : List Row) : (P0 rs).length = rs.length := List.length_map ..
theorem fin_ok {rs : List Row} (h : OkR rs) (i : Nat) : finAt rs i < 3 := by
  unfold finAt
  rw [List.getD_eq_getElem?_getD]
  cases e : rs[i]? with
  | none => exact (by decide : (0 : Nat) < 3)
  | some r => exact (h r (List.mem_of_getElem? e)).2.2
def startL (rs : List Row) : List (List Nat × List Nat) := (List.range rs.length).map fun i => (List.replicate (rs.length - i) 46 ++ rowC ((P0 rs).getD i (0, 0)), endC (finAt rs i))
theorem start_item {rs : List Row} (h : OkR rs) (h9 : rs.length ≤ 9) {i : Nat} (hi : i < rs.length) :
    Txt.mul dotS (rs.length - i : Nat) ++ getS (firstP rs) i ++ getS endL (finAt rs i) = ⟨((List.replicate (rs.length - i) 46 ++ rowC ((P0 rs).getD i (0, 0))) ++ endC (finAt rs i)).toArray⟩ := by
  rw [fact_mul (by omega), first_eq h, bare_getS (by rw [P0_len]; exact hi), (end_fact (fin_ok h i)).1]
  unfold bareS
  rw [str_cat, str_cat]
theorem start_flat {rs : List Row} (h : OkR rs) (h9 : rs.length ≤ 9) : (Txt.join ⟨#[]⟩ (startP rs)).cps.toList = (startL rs).flatMap fun x => x.1 ++ x.2 := by
  rw [join_empty]
  unfold startP startL
  rw [List.flatMap_map, List.flatMap_map]
  have : ∀ l : List Nat, (∀ i ∈ l, i < rs.length) → (l.flatMap fun a => (Txt.mul dotS (rs.length - a : Nat) ++ getS (firstP rs) a ++ getS endL (finAt rs a)).cps.toList) = l.flatMap fun a => (List.replicate (rs.length - a) 46 ++ rowC ((P0 rs).getD a (0, 0))) ++ endC (finAt rs a) := by
    intro l
    induction l with
    | nil => intro _; rfl
    | cons a r ih =>
      intro hl
      rw [List.flatMap_cons, List.flatMap_cons, ih fun i hi => hl i (List.mem_cons_of_mem _ hi), start_item h h9 (hl a List.mem_cons_self)]
  exact this _ fun i hi => List.mem_range.mp hi
theorem startL_fst (rs : List Row) : (startL rs).map (·.1) = (pairsD rs.length (P0 rs)).map rowD := by
  unfold startL
  rw [List.map_map]
  refine List.ext_getElem? fun j => ?_
  rw [List.getElem?_map, List.getElem?_map, pairsD_get]
  by_cases hj : j < rs.length
  · rw [List.getElem?_range hj, getD_of (by rw [P0_len]; exact hj)]
    rfl
  · rw [List.getElem?_eq_none (by simp; omega), List.getElem?_eq_none (by rw [P0_len]; omega)]
    rfl
theorem startL_end {rs : List Row} (h : OkR rs) : ∀ x ∈ startL rs, x.2 = [10] ∨ x.2 = [13] ∨ x.2 = [13, 10] := by
  intro x hx
  obtain ⟨i, _, rfl⟩ := List.mem_map.mp hx
  exact (end_fact (fin_ok h i)).2
theorem startL_row {rs : List Row} {x : List Nat × List Nat} (hx : x ∈ startL rs) : ∃ y ∈ pairsD rs.length (P0 rs), rowD y = x.1 := by
  have h1 : x.1 ∈ (startL rs).map (·.1) := List.mem_map_of_mem hx
  rw [startL_fst] at h1
  exact List.mem_map.mp h1
theorem start_text {rs : List Row} (h : OkR rs) (h9 : rs.length ≤ 9) : startT rs = textS (rs.length + 1) (P0 rs) := by
  have hok := P0_ok h
  unfold startT
  refine quote_text hok (by rw [P0_len]; exact Nat.le_refl _) ?_
  rw [start_flat h h9, cr_rows]
  · have e : ∀ L : List (List Nat × List Nat), (L.flatMap fun x => x.1 ++ [13, 10]) = (L.map (·.1)).flatMap fun l => l ++ [13, 10] := fun L => by rw [List.flatMap_map]
    rw [e, startL_fst, List.flatMap_map]
    rfl
  · intro x hx
    obtain ⟨y, hy, hxy⟩ := startL_row hx
    obtain ⟨s1, s2, _⟩ := rows_safe hok y hy
    rw [hxy] at s1 s2
    exact ⟨s1, s2, startL_end h x hx⟩
theorem start_len {rs : List Row} (h : OkR rs) (h9 : rs.length ≤ 9) : (Txt.join ⟨#[]⟩ (startP rs)).length ≤ 240 := by
  show (Txt.join ⟨#[]⟩ (startP rs)).cps.toList.length ≤ 240
  rw [start_flat h h9]
  have h1 : ((startL rs).flatMap fun x => x.1 ++ x.2).length ≤ 19 * (startL rs).length := flat_le fun x hx => by
    obtain ⟨y, hy, hxy⟩ := startL_row hx
    have := row_len (P0_ok h) (by omega) y hy
    rw [List.length_append, ← hxy]
    rcases startL_end h x hx with e2 | e2 | e2 <;> rw [e2] <;> simp <;> omega
  have h2 : (startL rs).length = rs.length := by unfold startL; simp
  omega
theorem start_each {rs : List Row} (h : OkR rs) (h9 : rs.length ≤ 9) : ∀ y ∈ startP rs, y.length ≤ 100 := by
  intro y hy
  obtain ⟨i, hi, rfl⟩ := List.mem_map.mp hy
  have hil := List.mem_range.mp hi
  rw [start_item h h9 hil]
  have hx : (List.replicate (rs.length - i) 46 ++ rowC ((P0 rs).getD i (0, 0)), endC (finAt rs i)) ∈ startL rs := List.mem_map.mpr ⟨i, hi, rfl⟩
  obtain ⟨z, hz, hxy⟩ := startL_row hx
  have h1 := row_len (P0_ok h) (by omega) z hz
  rw [hxy] at h1
  have h1' : (List.replicate (rs.length - i) 46 ++ rowC ((P0 rs).getD i (0, 0))).length ≤ 17 := h1
  show (List.toArray _).size ≤ 100
  rw [List.size_toArray, List.length_append]
  rcases startL_end h _ hx with e2 | e2 | e2 <;> simp only at e2 <;> rw [e2] <;> simp only [List.length_cons, List.length_nil] <;> omega
/-- the law's premises, for every script -/
theorem lawOk (script : List Int) : ∃ tx rsT bs cs, LawOk (rowsP script) tx rsT bs cs := by
  obtain ⟨hg, ⟨n1, n9⟩, hr⟩ := rowsP_ok script
  obtain ⟨rs, hrs⟩ : ∃ rs, rs = rowsP script := ⟨_, rfl⟩
  rw [← hrs] at hg n1 n9 hr ⊢
  have hR : OkR rs := hr
  obtain ⟨ks, hks⟩ : ∃ ks, ks = rs.map (·.kind) := ⟨_, rfl⟩
  rw [← hks] at hg
  have hok := P0_ok hR
  have hpk : (P0 rs).map (·.1) = ks := by rw [hks]; unfold P0; rw [List.map_map]; rfl
  have hkl : ks.length = rs.length := by rw [hks, List.length_map]
  have hpl := P0_len rs
  obtain ⟨⟨a1, a2, a3, a4, a5⟩, gT, gE, gC⟩ := good_facts hg
  have F := PT_facts hok hpk hg
  rw [hpl] at F
  rw [hkl] at gT gE gC a5
  have hcyc : ∀ k, Ok ((P0 rs).drop k ++ (P0 rs).take k) := fun k => (hok.drop k).append (hok.take k)
  have hfirst := first_eq hR
  have hmapc : ∀ k, (firstP rs).drop k ++ (firstP rs).take k = ((P0 rs).drop k ++ (P0 rs).take k).map bareS := fun k => by rw [hfirst, List.map_append, List.map_drop, List.map_take]
  have hmapk : ∀ k, ((P0 rs).drop k ++ (P0 rs).take k).map (·.1) = ks.drop k ++ ks.take k := fun k => by rw [List.map_append, List.map_drop, List.map_take, hpk]
  have T : ∀ t, t < rs.length → TurnOk (textS (rs.length + 1) (PT (P0 rs) ks t)) (rowsS (rs.length + 1) (PT (P0 rs) ks t)) (bT ks t) (cT ks t) ∧
      turnT (rowsS (rs.length + 1) (PT (P0 rs) ks t)) (bT ks t) (cT ks t) = textS (rs.length + 1) (PT (P0 rs) ks (t + 1)) := by
    intro t ht
    obtain ⟨i1, i2, i3, _⟩ := F t (by omega)
    obtain ⟨s1, s2, s3, s4, s5, s6, s7, s8⟩ := stepOk_facts (gT t ht)
    rw [← i3] at s3 s4 s5 s6 s7 s8
    rw [List.length_map] at s3
    rw [kind_getD] at s4
    have := turnOk i1 (by omega) s1 s2 s3 s4 s5 s7 s6 s8
    rw [i2] at this
    exact this
  have D : ∀ t p, t < rs.length → p < rs.length → dN (rowsS (rs.length + 1) (PT (P0 rs) ks t)) p = rs.length + 1 - p := by
    intro t p ht hp
    obtain ⟨i1, i2, _⟩ := F t (by omega)
    exact dN_rows (by omega) i1 (getD_of (by omega))
  refine ⟨fun t => textS (rs.length + 1) (PT (P0 rs) ks t), fun t => rowsS (rs.length + 1) (PT (P0 rs) ks t), bT ks, cT ks, ?_⟩
  refine ⟨n1, n9, fun r h => (hr r h).1, fun r h => (hr r h).2.1, fun r h => (hr r h).2.2, ?_, ?_, ?_, ?_, ?_, ?_, ?_, ?_, start_len hR n9, start_each hR n9, fun t ht => (T t ht).1, fun t ht => (T t ht).2.symm, ?_, ?_, ?_⟩
  · intro y hy
    rw [hfirst] at hy
    obtain ⟨p, hp, rfl⟩ := List.mem_map.mp hy
    show (rowC p).toArray.size ≤ 7
    rw [List.size_toArray]
    exact (fact_row (hok p hp).1 (hok p hp).2).2.1
  · rw [hfirst, taken_A hok, hpk]; exact a1
  · rw [hfirst, taken_B hok, hpk]; exact a2
  · rw [hmapc, taken_A (hcyc 1), hmapk]; exact a3
  · rw [hmapc, taken_B (hcyc 1), hmapk]; exact a4
  · rw [hmapc, taken_B (hcyc _), hmapk]; exact a5
  · rw [hfirst, join_rows]
    unfold escL
    rw [List.flatMap_assoc, List.flatMap_assoc]
    have : ∀ P : List (Nat × Nat), Ok P → (P.flatMap fun x => (rowC x).flatMap escC) = P.flatMap fun x => (rowC x).flatMap nameC := by
      intro P
      induction P with
      | nil => intro _; rfl
      | cons p r ih =>
        intro hP
        rw [List.flatMap_cons, List.flatMap_cons, ih fun q hq => hP q (List.mem_cons_of_mem _ hq)]
        obtain ⟨hk, hd⟩ := hP p List.mem_cons_self
        rw [show (rowC p).flatMap escC = (rowC p).flatMap nameC from (fact_row hk hd).2.2.2.1]
    exact this _ hok
  · exact (start_text hR n9).symm
  · show textS _ (PT (P0 rs) ks rs.length) = textS _ (P0 rs)
    obtain ⟨_, _, i3, i4⟩ := F rs.length (Nat.le_refl _)
    congr 1
    refine pair_ext (by rw [i3, gE, hpk]) ?_
    rw [i4, List.drop_eq_nil_iff.mpr (by rw [List.length_map]; omega), List.nil_append, List.take_of_length_le (by rw [List.length_map]; omega)]
  · intro t ht
    obtain ⟨_, i2, i3, _⟩ := F t (by omega)
    obtain ⟨s1, s2, s3, _⟩ := stepOk_facts (gT t ht)
    rw [← i3, List.length_map, i2] at s3
    refine ⟨(t + cT ks t) % rs.length, Nat.mod_lt _ (by omega), ?_, ?_⟩
    · rw [D t _ ht s3, show (((rs.length + 1 - cT ks t : Nat) : Int) - 1) = ((rs.length - cT ks t : Nat) : Int) by omega]
      exact fmod_add (by omega) (by omega)
    · rw [D t _ ht s3, (gC t ht).1]
      omega
  · intro t ht
    obtain ⟨_, i2, i3, _⟩ := F t (by omega)
    obtain ⟨s1, s2, s3, _⟩ := stepOk_facts (gT t ht)
    rw [← i3, List.length_map, i2] at s3
    have hb : bT ks t < rs.length := by omega
    refine ⟨(t + bT ks t) % rs.length, Nat.mod_lt _ (by omega), ?_, ?_⟩
    · rw [D t _ ht hb, show (((rs.length + 1 - bT ks t : Nat) : Int) - 1) = ((rs.length - bT ks t : Nat) : Int) by omega]
      exact fmod_add (by omega) (by omega)
    · rw [D t _ ht hb, (gC t ht).2]
      omega
end Mine
end
section
open PySem PySem.W PyProof.Rows PySem.Spec PySem.Calls
set_option maxHeartbeats 8000000
theorem PySem.Challenge.cw_tr0020_01_holds : PySem.Challenge.rw_tr0020_01.Holds :=
  Mine.hd (by
  k_fill
  intro w s₀ s₁ mg mb G Y fa o pm cd doc dV kV ho hd hcd hD hmg hg args vals as hpre hlay hrd hwl hlo
  have KX := kIn_of Y
  have X := (Ground.X G).1
  have V := (Ground.X G).2
  refine Ground.open G ?_
  intro T B D TE TW
  wrow_args hpre hlay hrd hwl hlo
  all_goals (x_fa T KX hmg)
  rename_i script _ _ _ _ _ _ _ D vals _ hL _ _ _ hI _ hc _
  obtain ⟨tx, rsT, bs, cs, H⟩ := Mine.lawOk script
  refine Mine.law_call ⟨KX, T⟩ (fun _ _ e => e) ⟨rfl, by decide, by decide⟩ D vals script hL hI (by omega) tx rsT bs cs H fun s' g => ?_
  refine ⟨.inl ⟨_, .bool true, [], rfl, fun _ => rfl, .bool true, ?post, unshared_nil⟩, .of_keep g.heap, g.os, g.bare (.of_eq hg)⟩
  first | rfl | wrow_post | with_unfolding_all rfl)
end
