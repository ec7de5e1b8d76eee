import PyProof.Rows.All
import Wide.All
import OpenK.AllK
import Wide.FinOn
import PySem.Challenge.RW_tr0011_01
set_option Elab.async false
section
open PySem PySem.W PyProof.Rows
set_option Elab.async false
set_option maxRecDepth 100000
set_option maxHeartbeats 8000000
open_top Mine.hd for PySem.Challenge.rw_tr0011_01
end

section
open PySem PySem.W PySem.Calls PyProof.Rows
set_option Elab.async false
set_option maxRecDepth 100000
set_option maxHeartbeats 8000000
namespace Mine
abbrev PP := PySem.Challenge.pw_tr0011_01
abbrev TopM (mg mb : Str → Option Value) (h : Heap) : Prop := TopRead hd.view_39 (looseW hd.view_39 [Str.ofString "_twin_re_1", Str.ofString "_twin_re_2"]) mg mb h

theorem enter {prog : Program} {w : World} {A : Around} {s : Shared} {K : Frag} {R : Result → Shared → Prop} {name qual : Str} {params : Arguments} {body : List Stmt} {scope : Scope} {dV kV doc pm cdv ct oc : Value} {an od : Option Addr} {osl : Array (Option Value)} {f : Addr} {args : Args} {binds : List (Str × Value)}
    (X : K.In s.heap) (hlim : s.heap.NoLimit)
    (ho : K.lookup f = some ⟨oc, od, .func (fnOf name qual params body scope dV kV doc pm an cdv ct), osl⟩) (hcd : codeIn K cdv qual = true) (hroom : A.depth < recursionLimit)
    (hbind : BindsTo s (fnOf name qual params body scope dV kV doc pm an cdv ct) args binds) (hloc : ∀ y ∈ binds, scope.names.lookup y.1 = some .local)
    (h : ∀ h₁, Fr s.heap s.heap.objs.size h₁ (fun y => binds.reverse.lookup y) →
      wpAny (model prog w) (A.deeper (envOf qual scope s.heap.objs.size f cdv)) (execs body (envOf qual scope s.heap.objs.size f cdv))
        (fun fl s' => R (.ok (.ret (match fl with | .ret v => v | _ => .none))) s') (fun _ _ => False)
        { s with heap := h₁, toks := s.toks + binds.length })
    (hcell : ∀ x ∈ scope.names, x.2 ≠ .cell) (hco : scope.isCoroutine = false) (hgen : scope.isGenerator = false) (hk : scope.kind = .function) : codeAny (model prog w) A (.call (.ref f) args) R s := by
  refine codeAny_call_def (fd := fnOf name qual params body scope dV kV doc pm an cdv ct) (body := body) (binds := binds) hroom (X _ _ ho) rfl hlim (codeRec_of X hcd) rfl hbind hcell hloc (fun h₁ hns hk₁ => ?_) hco hgen hk
  exact wpAny_mono (h h₁ ⟨hns, hk₁, Nat.le_refl _⟩) (fun _ _ x => x) (fun _ _ x => x.elim)

theorem fill : (∀ P, hd.heap_39 P = hd.heap_39 P) ∧ PySem.Challenge.rw_tr0011_01.foot = 4 := by
  k_fill
  exact ⟨fun _ => rfl, rfl⟩
end Mine
end

section
open PySem PySem.W PySem.Calls PyProof.Rows
open Sem (wp)
set_option Elab.async false
set_option maxRecDepth 100000
set_option maxHeartbeats 8000000
namespace Mine

/-! rules for the body of a generator, beyond the library's -/
section
variable {M : Model} {A : Around} {R : GenEnd} {Y : Protocol} {n : Nat} {s₀ : Shared} {c : Code} {fs : List Frame} {s : Shared} {env : Env}
  {K : Flow → Sem Fin} {H : Value → Sem Fin} {gd : Bool → Bool} {lv : List Value → List Value}

theorem seg_If {test : Expr} {body orelse : List Stmt} {pos : Pos}
    (h : wpAny M (A.over c fs) (isTrue test env (eval test env)) (fun b s' =>
      if b = true then Seg M A R Y n s₀ c ((execs body env).wrap K H gd lv) fs s' else Seg M A R Y n s₀ c ((execs orelse env).wrap K H gd lv) fs s') (fun _ _ => False) s) :
    Seg M A R Y n s₀ c ((exec (.If test body orelse pos) env).wrap K H gd lv) fs s := by
  rw [exec_If]
  show Seg M A R Y n s₀ c (.at pos fun _ => (isTrue test env (eval test env) >>= fun b => if b = true then execs body env else execs orelse env).wrap K H gd lv) fs s
  refine seg_at (seg_bind_wrap (wpAny_mono h (fun b s' hb => ?_) fun _ _ x => x.elim))
  cases b with
  | true => exact hb
  | false => exact hb

theorem seg_plain {st : Stmt}
    (h : wpAny M (A.over c fs) (exec st env) (fun f s' => Seg M A R Y n s₀ c (K f) fs s') (fun _ _ => False) s) :
    Seg M A R Y n s₀ c ((exec st env).wrap K H gd lv) fs s :=
  seg_wrap (wpAny_mono h (fun _ _ x => x) fun _ _ x => x.elim)

abbrev cameTo (env : Env) (K : Flow → Sem Fin) (H : Value → Sem Fin) (gd : Bool → Bool) (lv : List Value → List Value) : Result → Sem Fin := fun r =>
  ((match r with | .ok f => (.pure f : Sem Flow) | .error e => .raise e).onRaise fun (x : Value) => do
    if (← field x 1) == Value.none then unsupported "frame.own-activation:exception-without-traceback"
    setFlight x env.frame).wrap K H gd lv

theorem seg_For {target iter : Expr} {body orelse : List Stmt} {pos : Pos}
    (h : wpAny M (A.over c fs) (eval iter env) (fun x s₁ => wpAny M (A.over c fs) (pyIter x) (fun it s₂ =>
      ∀ p, Seg M A R Y n s₀ (.forLoop target it body orelse env) (M.den (.forLoop target it body orelse env)) (.ret (cameTo env K H gd lv) none (gd false) (lv []) c p [] :: fs) s₂) (fun _ _ => False) s₁) (fun _ _ => False) s)
    (hs : ∀ x, foldedSetIterable iter env x = pure x) :
    Seg M A R Y n s₀ c ((exec (.For target iter body orelse pos) env).wrap K H gd lv) fs s := by
  rw [exec_For]
  refine seg_bind_wrap (wpAny_standAt ?_)
  refine seg_bind_wrap (wpAny_mono h (fun x s₁ h₁ => ?_) fun _ _ x => x.elim)
  refine seg_bind_wrap (wpAny_of_eq (hs x) ?_)
  refine seg_bind_wrap (wpAny_standAt ?_)
  refine seg_bind_wrap (wpAny_holding (wpAny_mono h₁ (fun it s₂ h₂ => ?_) fun _ _ x => x.elim))
  exact seg_call h₂
end

section
variable {prog : Program} {w : World} {A : Around} {R : GenEnd} {Y : Protocol} {n : Nat} {s₀ : Shared} {fs : List Frame} {s : Shared} {env : Env}

theorem seg_forLoop {target : Expr} {it : Value} {body orelse : List Stmt}
    (h : wpAny (model prog w) (A.over (.forLoop target it body orelse env) fs) (pyNext it) (fun r s₁ => match r with
      | none => Seg (model prog w) A R Y n s₀ (.forLoop target it body orelse env) (.pure (.again (.block orelse env))) fs s₁
      | some v => wpAny (model prog w) (A.over (.forLoop target it body orelse env) fs) (letOwnedTupleGo target it v) (fun _ s₂ =>
          wpAny (model prog w) (A.over (.forLoop target it body orelse env) fs) (assign target env v) (fun _ s₃ =>
            ∀ H, Seg (model prog w) A R Y n s₀ (.forLoop target it body orelse env) ((execs body env).wrap (fun f => match f with
              | .next | .cont => .pure (.again (.forLoop target it body orelse env))
              | .brk => .pure (.done .next)
              | .ret v => .pure (.done (.ret v))) H id id) fs s₃) (fun _ _ => False) s₂) (fun _ _ => False) s₁) (fun _ _ => False) s) :
    Seg (model prog w) A R Y n s₀ (.forLoop target it body orelse env) ((model prog w).den (.forLoop target it body orelse env)) fs s := by
  show Seg _ A R Y n s₀ _ ((forTurn target it body orelse env).onRaise (fun x => do noteFrame x env; theTreesLotGoes x)) fs s
  unfold forTurn
  rw [Sem.onRaise_eq_wrap]
  refine seg_bind_wrap (wpAny_standAt ?_)
  refine seg_bind_wrap (wpAny_onRaise (wpAny_mono h (fun r s₁ h₁ => ?_) fun _ _ x => x.elim))
  cases r with
  | none => exact h₁
  | some v =>
    refine seg_bind_wrap (wpAny_mono h₁ (fun _ s₂ h₂ => ?_) fun _ _ x => x.elim)
    refine seg_bind_wrap (wpAny_mono h₂ (fun _ s₃ h₃ => ?_) fun _ _ x => x.elim)
    rw [Sem.bind_eq_wrap', Sem.wrap_wrap]
    rw [Sem.wrap_congr (execs body env) _ _ (K' := fun f => match f with
              | .next | .cont => .pure (.again (.forLoop target it body orelse env))
              | .brk => .pure (.done .next)
              | .ret v => .pure (.done (.ret v))) (fun f => by cases f <;> rfl) (fun _ => rfl)]
    exact h₃ _

theorem seg_block_nil (h : Seg (model prog w) A R Y n s₀ (.block [] env) (.pure (.done .next)) fs s) :
    Seg (model prog w) A R Y n s₀ (.block [] env) ((model prog w).den (.block [] env)) fs s := h
end

/-! waking a generator that is a def -/
section
variable {prog : Program} {w : World} {A : Around} {E : Value → Shared → Prop} {s : Shared}

theorem wpAny_pyNext_def {a : Addr} {g n : Nat} {gs : GenState} {P : Nat → Shared → Shared → Prop} {Y : Protocol} {Q : Option Value → Shared → Prop} (hh : A.handled = none)
    (hl : s.heap.NoLimit) (hroom : A.depth < recursionLimit) (hg : s.heap.IsGen a g) (hgs : s.gens[g]? = some gs)
    (hgo : gs.Goes (model prog w) A.in1 (fun n s₀ r s₁ => r = .ok (.ret .none) ∧ P n s₀ s₁) Y n (.send .none) (s.setGen g .running))
    (hY : ∀ v s₁ gs', gs'.bare = true → Y (n - 1) (s.setGen g .running) v s₁ (fun r' s'' => match n with
        | 0 => False
        | m + 1 => gs'.Goes (model prog w) A.in1 (fun n s₀ r s₁ => r = .ok (.ret .none) ∧ P n s₀ s₁) Y m r' s'') → Q (some v) (s₁.setGen g gs'))
    (hP : ∀ s₁, P n (s.setGen g .running) s₁ → ∀ h', (∀ b o, s₁.heap.get? b = some o → h'.get? b = some o) → Q none { s₁.setGen g .finished with heap := h' }) :
    wpAny (model prog w) A (pyNext (.ref a)) Q E s := by
  unfold pyNext
  refine wpAny_bind (wpAny_attempt (wpAny_callSpecial?_slot (name := Str.ofString "__next__") hg.typeIs slot_gen_next
    (wpAny_call_entry slot_gen_next hg.typeIs entry_gen_next ?_ (args_gen_next _))))
  show wpAny _ A.in1 (Builtin.Generator.genWake (.ref a) (.send .none)) _ _ s
  unfold Builtin.Generator.genWake
  refine wpAny_bind (wpAny_holding (wpAny_genNumber hg (wpAny_bind (wpAny_genState hgs ?_))))
  have wake : ∀ gs', gs = gs' → (gs' matches .fresh _ | .suspended ..) = true := by
    rintro gs' rfl
    cases gs with
    | running => exact hgo.elim
    | finished => exact hgo.elim
    | _ => rfl
  cases gs with
  | running => exact absurd (wake _ rfl) Bool.false_ne_true
  | finished => exact absurd (wake _ rfl) Bool.false_ne_true
  | _ =>
    refine wpAny_bind (wpAny_roomToWake hl hroom ?_)
    show wpAny _ A.in1 (.resume g (.send .none) [] _) _ _ s
    refine wpAny_resumeQ hgs hgo (fun x s₁ hx => ?_) (fun v s₁ gs' hb hv => wpAny_pure ⟨v, rfl, wpAny_pure (hY v s₁ gs' hb hv)⟩)
    obtain ⟨rfl, hp⟩ := hx
    show wpAny _ A.in1 (newExc (.type "StopIteration") [] >>= _) _ _ _
    simp only [newExc, newTuple]
    refine wpAny_bind (wpAny_bind (wpAny_newObj_type ?_ (by size_fits)))
    refine wpAny_bind (m := firstArgMember _ _) (wpAny_of_eq (a := Value.none) (by simp only [firstArgMember]; rfl) (wpAny_newObj_type ?_ (by size_fits)))
    simp only [raiseNew]
    refine wpAny_bind (wpAny_bind (wpAny_handled ?_))
    rw [show A.in1.handled = none from hh]
    refine wpAny_throw (wpAny_bind (wpAny_isInstance (T := "StopIteration") (b := true) ⟨_, Heap.get?_push_size _ rfl, rfl⟩ isSubtype_stop ?_))
    exact wpAny_pure (hP s₁ hp _ fun b o e => Heap.get?_push_of_some _ (Heap.get?_push_of_some _ e))
end
end Mine
end

section
open PySem PySem.W PySem.Calls PyProof.Rows
open Sem (wp)
set_option Elab.async false
set_option maxRecDepth 100000
set_option maxHeartbeats 8000000
namespace Mine

def itDef : List Stmt × Scope := match PP.main.body with
  | _ :: _ :: .FunctionDef _ _ b _ _ _ sc _ _ _ :: _ => (b, sc)
  | _ => ([], default)
abbrev itScope : Scope := itDef.2
abbrev itEnv (L : Addr) (cd : Value) : Env := envOf (Str.ofString "_iter_escaped_chars") itScope L 38 cd
def itFor : Stmt := itDef.1.getD 2 (.Pass default)
def itTarget : Expr := match itFor with | .For t _ _ _ _ => t | _ => default
def itLoop : List Stmt := match itFor with | .For _ _ b _ _ => b | _ => []

/-- what the generator yields from place i on -/
def escs : Bool → Nat → List Nat → List (Nat × List Nat)
  | true, i, [] => [(i - 1, [92])]
  | false, _, [] => []
  | true, i, c :: r => (i, [92, c]) :: escs false (i + 1) r
  | false, i, c :: r => if c = 92 then escs true (i + 1) r else (i, [c]) :: escs false (i + 1) r

def Kept (base : Heap) (kp : List Addr) (h h' : Heap) : Prop := ∀ b o, (b ∈ kp ∨ (base.get? b).isSome = true) → h.get? b = some o → h'.get? b = some o
theorem Kept.refl {base : Heap} {kp : List Addr} {h : Heap} : Kept base kp h h := fun _ _ _ e => e
theorem Kept.trans {base : Heap} {kp : List Addr} {h h' h'' : Heap} (x : Kept base kp h h') (y : Kept base kp h' h'') : Kept base kp h h'' := fun b o c e => y b o c (x b o c e)
def Since (base : Heap) (kp : List Addr) (s₀ s : Shared) : Prop := ∃ h tk, s = { s₀ with heap := h, toks := tk } ∧ Kept base kp s₀.heap h
theorem Since.refl {base : Heap} {kp : List Addr} {s : Shared} : Since base kp s s := ⟨s.heap, s.toks, rfl, Kept.refl⟩
theorem Since.step {base : Heap} {kp : List Addr} {s₀ s : Shared} (x : Since base kp s₀ s) {h' : Heap} {tk : Nat} (hk : Kept base kp s.heap h') : Since base kp s₀ { s with heap := h', toks := tk } := by
  obtain ⟨h₁, tk₁, rfl, hk₁⟩ := x
  exact ⟨h', tk, rfl, hk₁.trans hk⟩
structure Rdy (base : Heap) (kp : List Addr) (h : Heap) : Prop where
  keep : ∀ b o, base.get? b = some o → h.get? b = some o
  live : ∀ b ∈ kp, (h.get? b).isSome = true
def apart (base : Heap) (kp : List Addr) (b : Addr) : Prop := base.get? b = none ∧ b ∉ kp
def IsItem (items : List (Nat × List Nat)) (m : Nat) (v : Value) (h : Heap) : Prop :=
  ∃ p x T tk tk', items.reverse[m]? = some (p, x) ∧ v = .ref T ∧ h.IsTuple T #[.int (p : Nat) tk, .str ⟨x.toArray⟩ tk']
def proto (base : Heap) (kp : List Addr) (items : List (Nat × List Nat)) : Protocol := fun m s₀ v s kap =>
  IsItem items m v s.heap ∧ Since base kp s₀ s ∧ ∃ priv : List Addr, (∀ b ∈ priv, apart base kp b) ∧
    ∀ s'' : Shared, (∀ b ∈ priv, ∀ o, s.heap.get? b = some o → s''.heap.get? b = some o) → Rdy base kp s''.heap → kap (.send .none) s''
def Rend (base : Heap) (kp : List Addr) : GenEnd := fun n s₀ r s₁ => r = .ok (.ret .none) ∧ (n = 0 ∧ Since base kp s₀ s₁)

theorem Rdy.kept {base : Heap} {kp : List Addr} {h h' : Heap} (r : Rdy base kp h) (hk : Kept base kp h h') : Rdy base kp h' :=
  ⟨fun b o ho => hk b o (.inr (by rw [ho]; rfl)) (r.keep b o ho), fun b hb => by
    obtain ⟨o, ho⟩ := Option.isSome_iff_exists.mp (r.live b hb)
    rw [hk b o (.inl hb) ho]; rfl⟩

theorem reverse_at {α : Type} {items pre rest : List α} {x : α} (h : items = pre ++ x :: rest) : items.reverse[rest.length]? = some x := by
  subst h
  simp

theorem fr0 {h : Heap} {L : Addr} {m : Str → Option Value} (hn : h.Ns L m) : Fr {} L h m := ⟨hn, fun b o e => by simp [Heap.get?] at e, Nat.zero_le _⟩
end Mine
end

section
open PySem PySem.W PySem.Calls PyProof.Rows
open Sem (wp)
set_option Elab.async false
set_option maxRecDepth 100000
set_option maxHeartbeats 8000000
namespace Mine
theorem truthy_bool {M : Model} {A : Around} {E : Value → Shared → Prop} {s : Shared} {b : Bool} {Q : Bool → Shared → Prop} (h : Q b s) : wpAny M A (truthy (.bool b)) Q E s := wpAny_of_eq rfl h

abbrev StrEnum (w : World) (A : Around) (e it : Addr) (xs : List Nat) (St : Nat → Heap → Prop) : Prop :=
  ∃ Mid, WalksT PP w A e [e, it] [e, it] xs.length (fun i vals => ∃ t x, (∃ c u, xs[i]? = some c ∧ x = Value.str ⟨#[c]⟩ u) ∧ vals = #[.int (i : Nat) t, x]) St Mid

section
variable {w : World} {A : Around} {base : Heap} {kp : List Addr} {xs : List Nat} {Lg e it : Addr} {cd : Value} {St : Nat → Heap → Prop}
  {items : List (Nat × List Nat)} {fs : List Frame}

theorem seg_it_loop (hh : A.handled = none) (W : ∀ A' : Around, A'.handled = none → StrEnum w A' e it xs St)
    (hfs : splitAtGen fs = none) (hfg : fs.any Frame.guarded = false)
    (hov : ∀ c, (A.over c fs).handled = none)
    (pL : apart base kp Lg) (pe : apart base kp e) (pi : apart base kp it) (hLe : Lg ≠ e) (hLi : Lg ≠ it)
    (tail : ∀ esc s₀ s m tkp p', s.heap.Ns Lg m → m "escape" = some (.bool esc) → m "pos" = some (.int p' tkp) → (esc = true → p' = ((xs.length - 1 : Nat) : Int)) →
      Since base kp s₀ s → Rdy base kp s.heap → (∃ pre, items = pre ++ escs esc xs.length []) →
      Seg (model PP w) A (Rend base kp) (proto base kp items) (escs esc xs.length []).length s₀ (.block [] (itEnv Lg cd)) (.pure (.done .next)) fs s) :
    ∀ (k i : Nat) (esc : Bool) (s₀ s : Shared) (m : Str → Option Value) (p' : Int) (tkp : Tok), xs.length - i = k → i ≤ xs.length → St i s.heap → s.heap.Ns Lg m →
      m "escape" = some (.bool esc) → m "pos" = some (.int p' tkp) → (esc = true → p' = ((i - 1 : Nat) : Int)) → Since base kp s₀ s → Rdy base kp s.heap → (∃ pre, items = pre ++ escs esc i (xs.drop i)) →
      Seg (model PP w) A (Rend base kp) (proto base kp items) (escs esc i (xs.drop i)).length s₀ (.forLoop itTarget (.ref e) itLoop [] (itEnv Lg cd))
        ((model PP w).den (.forLoop itTarget (.ref e) itLoop [] (itEnv Lg cd))) fs s := by
  have keepOff : ∀ h h' : Heap, (∀ b o, b ∉ [e, it] → h.get? b = some o → h'.get? b = some o) → Kept base kp h h' := fun h h' hk b o hb ho => hk b o (fun hm => by
    have hp : apart base kp b := by
      rcases List.mem_cons.mp hm with rfl | hm
      · exact pe
      · rw [List.mem_singleton.mp hm]; exact pi
    rcases hb with hb | hb
    · exact hp.2 hb
    · rw [hp.1] at hb; cases hb) ho
  have keepL : ∀ h h' : Heap, Heap.SameBut Lg h h' → Kept base kp h h' := fun h h' hs b o hb ho => hs.extBut b o (fun hm => by
    rcases hb with hb | hb
    · exact pL.2 (hm ▸ hb)
    · rw [hm, pL.1] at hb; cases hb) ho
  intro k
  induction k with
  | zero =>
    intro i esc s₀ s m p' tkp hk hi hst hn he hp hpe hsince hr hitems
    have hin : i = xs.length := by omega
    subst hin
    obtain ⟨Mid, W'⟩ := W _ (hov (.forLoop itTarget (.ref e) itLoop [] (itEnv Lg cd)))
    refine seg_forLoop (W'.done s _ _ hst fun h' tk hk' => ?_)
    rw [List.drop_length] at hitems ⊢
    have kk := keepOff _ _ hk'
    refine seg_again rfl (seg_block_nil ?_)
    exact tail esc s₀ _ m tkp p' (hn.at' fun o eo => hk' Lg o (by simp [hLe, hLi]) eo) he hp hpe (hsince.step kk) (hr.kept kk) hitems
  | succ k ih =>
    intro i esc s₀ s m p' tkp hk hi hst hn he hp hpe hsince hr hitems
    have hlt : i < xs.length := by omega
    obtain ⟨Mid, W'⟩ := W _ (hov (.forLoop itTarget (.ref e) itLoop [] (itEnv Lg cd)))
    refine seg_forLoop (W'.item i s _ _ hlt hst fun T vals h₁ tk₁ hPt hTs hT hMid hk₁ => ?_)
    obtain ⟨t, x, ⟨c, u, hc, rfl⟩, rfl⟩ := hPt
    refine W'.go _ _ _ i T _ _ _ hMid fun h₂ hst₂ hk₂ => ?_
    have ht₂ : h₂.IsTuple T #[.int (i : Nat) t, .str ⟨#[c]⟩ u] := hT.at fun o e => hk₂ T o (W'.apart i T h₁ hMid) e
    refine wpAny_assign_Tuple (hov _) ht₂ rfl rfl fun h₃ hx₃ => ?_
    replace hx₃ : Heap.ExtBut h₂.objs.size h₂ h₃ := hx₃
    have up₃ : ∀ b o, h₂.get? b = some o → h₃.get? b = some o := fun b o x => hx₃ b o (Nat.ne_of_lt (Heap.lt_size x)) x
    have k₃ : ∀ b o, b ∉ [e, it] → s.heap.get? b = some o → h₃.get? b = some o := fun b o hb x => up₃ b o (hk₂ b o hb (hk₁ b o hb x))
    show wpAny _ _ (do holding [Value.str ⟨#[c]⟩ u] (assign (.Name (Str.ofString "pos") _) (itEnv Lg cd) (.int (i : Nat) t)); do holding [] (assign (.Name (Str.ofString "ch") _) (itEnv Lg cd) (.str ⟨#[c]⟩ u)); pure ()) _ _ _
    refine wpAny_bind (wpAny_holding (wpAny_assign_Name (wpAny_storeName_local rfl (hn.at' fun o eo => k₃ Lg o (by simp [hLe, hLi]) eo) (fun h₄ hn₄ hs₄ => ?_) rfl)))
    replace hs₄ : Heap.SameBut Lg h₃ h₄ := hs₄
    refine wpAny_bind (wpAny_holding (wpAny_assign_Name (wpAny_storeName_local rfl hn₄ (fun h₅ hn₅ hs₅ => wpAny_pure ?_) rfl)))
    replace hs₅ : Heap.SameBut Lg h₄ h₅ := hs₅
    have kk : Kept base kp s.heap h₅ := (keepOff _ _ k₃).trans ((keepL _ _ hs₄).trans (keepL _ _ hs₅))
    have hbL : ∀ b ∈ [e, it], b ≠ Lg := fun b hb q => by
      rcases List.mem_cons.mp hb with rfl | hb
      · exact hLe q.symm
      · exact hLi (q.symm.trans (List.mem_singleton.mp hb))
    have hst₅ : St (i + 1) h₅ := W'.frame _ _ _ hst₂ fun b hb o x => hs₅.extBut b o (fun q => hbL b hb q) (hs₄.extBut b o (fun q => hbL b hb q) (up₃ b o x))
    have hcx : xs.drop i = c :: xs.drop (i + 1) := by
      rw [List.drop_eq_getElem_cons hlt]
      rw [List.getElem?_eq_getElem hlt] at hc
      rw [Option.some.inj hc]
    rw [hcx] at hitems ⊢
    intro H
    have F := fr0 hn₅
    have hov' := hov (.forLoop itTarget (.ref e) itLoop [] (itEnv Lg cd))
    have he' : (fun y => if y = Str.ofString "ch" then some (Value.str ⟨#[c]⟩ u) else if y = Str.ofString "pos" then some (Value.int (i : Nat) t) else m y) (Str.ofString "escape") = some (.bool esc) := by
      dsimp only
      rw [if_neg (by decide), if_neg (by decide)]; exact he
    have N := (News.nil : News {} Lg h₅ [])
    have lowL : ∀ h', Heap.SameBut Lg h₅ h' → ∀ b ∈ [e, it], ∀ o, h₅.get? b = some o → h'.get? b = some o := fun h' hs b hb o x => hs.extBut b o (hbL b hb) x
    -- the turn's end: no yield
    have on : ∀ (esc' : Bool) (sX : Shared) (m' : Str → Option Value) (tkp' : Tok), (∀ b ∈ [e, it], ∀ o, h₅.get? b = some o → sX.heap.get? b = some o) → sX.heap.Ns Lg m' → m' "escape" = some (.bool esc') → m' "pos" = some (.int (i : Nat) tkp') →
        ∀ s₀', Since base kp s₀' sX → Rdy base kp sX.heap → (∃ pre, items = pre ++ escs esc' (i + 1) (xs.drop (i + 1))) →
        Seg (model PP w) A (Rend base kp) (proto base kp items) (escs esc' (i + 1) (xs.drop (i + 1))).length s₀' (.forLoop itTarget (.ref e) itLoop [] (itEnv Lg cd)) (.pure (.again (.forLoop itTarget (.ref e) itLoop [] (itEnv Lg cd)))) fs sX :=
      fun esc' sX m' tkp' hk hn' he' hp' s₀' hs' hr' hi' => seg_again rfl (ih (i + 1) esc' s₀' sX m' i tkp' (by omega) hlt (W'.frame _ _ _ hst₅ hk) hn' he' hp' (fun _ => by simp) hs' hr' hi')
    have privs : ∀ b ∈ [Lg, e, it], apart base kp b := fun b hb => by
      simp only [List.mem_cons, List.not_mem_nil, or_false] at hb
      rcases hb with rfl | rfl | rfl <;> assumption
    cases esc with
    | true =>
      refine seg_execs_cons (seg_If (isTrue_plain (ld F he' (truthy_bool ?_))))
      rw [if_pos rfl]
      rw [show (escs true i (c :: xs.drop (i + 1))).length = (escs false (i + 1) (xs.drop (i + 1))).length + 1 from rfl]
      obtain ⟨pre, hpre⟩ := hitems
      have hit := reverse_at (rest := escs false (i + 1) (xs.drop (i + 1))) hpre
      refine seg_execs_cons (seg_Expr_Yield hfs rfl hfg ?_)
      walk1
      walk1
      walk1
      walk1
      walk1
      walk1
      walk1
      walk1
      walk1
      refine wpAny_newTuple ?_
      intro kap hkap
      have up₆ : ∀ (o' : Obj) b o, h₅.get? b = some o → (h₅.push o').get? b = some o := fun o' b o x => Heap.get?_push_of_some _ x
      refine ⟨⟨i, [92, c], _, _, _, hit, rfl, ⟨_, Heap.get?_push_size _ rfl, rfl, _, rfl⟩⟩, hsince.step (kk.trans fun b o _ x => up₆ _ b o x), [Lg, e, it], privs, fun s'' hal hr'' => hkap .none s'' ?_⟩
      have hn'' : s''.heap.Ns Lg _ := (hn₅.push _).at' fun o x => hal Lg (by simp) o x
      have hal' : ∀ b ∈ [e, it], ∀ o, h₅.get? b = some o → s''.heap.get? b = some o := fun b hb o x => hal b (List.mem_cons_of_mem _ hb) o (up₆ _ b o x)
      refine seg_execs_cons (seg_plain (wpAny_Assign_Name (Constant_bool (wpAny_storeName_local rfl hn'' (fun h₇ hn₇ hs₇ => ?_) rfl))))
      replace hs₇ : Heap.SameBut Lg s''.heap h₇ := hs₇
      refine seg_execs_nil ?_
      have k₇ := keepL _ _ hs₇
      refine on false _ _ _ (fun b hb o x => hs₇.extBut b o (hbL b hb) (hal' b hb o x)) hn₇ (by simp) (by first | rfl | (dsimp only; rw [if_neg (by decide), if_neg (by decide), if_pos rfl])) _ (Since.refl.step k₇) (hr''.kept k₇) ⟨pre ++ [(i, [92, c])], by simp [hpre, escs]⟩
    | false =>
      refine seg_execs_cons (seg_If (isTrue_plain (ld F he' (truthy_bool ?_))))
      rw [if_neg (by decide)]
      refine seg_execs_cons (seg_If ?_)
      walk1
      walk1
      walk1
      walk1
      walk1
      by_cases h92 : c = 92
      · subst h92
        rw [if_pos (by decide)]
        rw [show escs false i (92 :: xs.drop (i + 1)) = escs true (i + 1) (xs.drop (i + 1)) from rfl] at hitems ⊢
        refine seg_execs_cons (seg_plain (wpAny_Assign_Name (Constant_bool (wpAny_storeName_local rfl hn₅ (fun h₇ hn₇ hs₇ => ?_) rfl))))
        replace hs₇ : Heap.SameBut Lg h₅ h₇ := hs₇
        refine seg_execs_nil (seg_execs_nil ?_)
        have k₇ := keepL _ _ hs₇
        exact on true _ _ _ (lowL _ hs₇) hn₇ (by simp) (by rw [if_neg (by decide), if_neg (by decide), if_pos rfl]) _ (hsince.step (kk.trans k₇)) ((hr.kept kk).kept k₇) hitems
      · rw [if_neg (by
          intro hq
          have := eq_of_beq hq
          rw [show Str.ofString "\\" = (⟨#[92]⟩ : Str) from by decide] at this
          injection this with this
          injection this with this
          injection this with this
          exact h92 this)]
        have hes : escs false i (c :: xs.drop (i + 1)) = (i, [c]) :: escs false (i + 1) (xs.drop (i + 1)) := by simp [escs, h92]
        rw [hes] at hitems ⊢
        obtain ⟨pre, hpre⟩ := hitems
        have hit := reverse_at hpre
        rw [List.length_cons]
        refine seg_execs_cons (seg_Expr_Yield hfs rfl hfg ?_)
        walk1
        walk1
        walk1
        walk1
        walk1
        walk1
        refine wpAny_newTuple ?_
        intro kap hkap
        have up₆ : ∀ (o' : Obj) b o, h₅.get? b = some o → (h₅.push o').get? b = some o := fun o' b o x => Heap.get?_push_of_some _ x
        refine ⟨⟨i, [c], _, _, _, hit, rfl, ⟨_, Heap.get?_push_size _ rfl, rfl, _, rfl⟩⟩, hsince.step (kk.trans fun b o _ x => up₆ _ b o x), [Lg, e, it], privs, fun s'' hal hr'' => hkap .none s'' ?_⟩
        have hn'' : s''.heap.Ns Lg _ := (hn₅.push _).at' fun o x => hal Lg (by simp) o x
        have hal' : ∀ b ∈ [e, it], ∀ o, h₅.get? b = some o → s''.heap.get? b = some o := fun b hb o x => hal b (List.mem_cons_of_mem _ hb) o (up₆ _ b o x)
        refine seg_execs_nil (seg_execs_nil ?_)
        exact on false _ _ _ hal' hn'' he' (by rw [if_neg (by decide), if_pos rfl]) _ Since.refl hr'' ⟨pre ++ [(i, [c])], by simp [hpre]⟩
end
end Mine
end

section
open PySem PySem.W PySem.Calls PyProof.Rows
open Sem (wp)
set_option Elab.async false
set_option maxRecDepth 100000
set_option maxHeartbeats 8000000
namespace Mine
theorem fill4 : (∀ P, hd.heap_39 P = hd.heap_39 P) ∧ PySem.Challenge.rw_tr0011_01.foot = 4 := by
  k_fill
  exact ⟨fun _ => rfl, rfl⟩

section
variable {w : World} {A : Around} {base : Heap} {kp : List Addr} {xs : List Nat} {Lg : Addr} {cd : Value} {mg mb : Str → Option Value}

theorem strEnum (e it : Addr) (x : Str) (t : Tok) (hei : e ≠ it) (hx : x.cps.toList = xs) :
    ∀ A' : Around, A'.handled = none → StrEnum w A' e it xs (fun i h => (∃ old, IsEnum h e it (i : Nat) old) ∧ h.IsStrIter it (strIterType x) x t i) := by
  intro A' hA
  subst hx
  have hef : e ∉ [it] := fun h => hei (List.mem_singleton.mp h)
  cases ha : x.cps.all (· < 128)
  · have D := WalksT.enumerateD (Draws.strWide (prog := PP) (w := w) (A := A'.in1) hA it x t) e hei hef (by simp)
    have hty : strIterType x = "str_iterator" := by simp [strIterType, ha]
    rw [hty]
    exact ⟨_, by simpa using D⟩
  · have D := WalksT.enumerateD (Draws.strAscii (prog := PP) (w := w) (A := A'.in1) hA it x t) e hei hef (by simp)
    have hty : strIterType x = "str_ascii_iterator" := by simp [strIterType, ha]
    rw [hty]
    exact ⟨_, by simpa using D⟩

theorem seg_it (hh : A.handled = none) (K0 : (hd.heap_39 w.params).In base) (T0 : TopM mg mb base) (pL : apart base kp Lg) (hab : base.objs.size ≤ Lg)
    {s : Shared} {m : Str → Option Value} {t : Tok} (hn : s.heap.Ns Lg m) (ha : m "addr" = some (.str ⟨xs.toArray⟩ t)) (hr : Rdy base kp s.heap) :
    Seg (model PP w) A (Rend base kp) (proto base kp (escs false 0 xs)) (escs false 0 xs).length s (.func itDef.1 (itEnv Lg cd)) ((model PP w).den (.func itDef.1 (itEnv Lg cd))) [] s := by
  have keepL : ∀ h h' : Heap, Heap.SameBut Lg h h' → Kept base kp h h' := fun h h' hs b o hb ho => hs.extBut b o (fun hm => by
    rcases hb with hb | hb
    · exact pL.2 (hm ▸ hb)
    · rw [hm, pL.1] at hb; cases hb) ho
  refine seg_func ?_
  refine seg_execs_cons (seg_plain (wpAny_Assign_Name (wpAny_Constant_int (wpAny_storeName_local rfl hn (fun h₁ hn₁ hs₁ => ?_) rfl))))
  replace hs₁ : Heap.SameBut Lg s.heap h₁ := hs₁
  refine seg_execs_cons (seg_plain (wpAny_Assign_Name (Constant_bool (wpAny_storeName_local rfl hn₁ (fun h₂ hn₂ hs₂ => ?_) rfl))))
  replace hs₂ : Heap.SameBut Lg h₁ h₂ := hs₂
  have k₂ := (keepL _ _ hs₁).trans (keepL _ _ hs₂)
  have hr₂ := hr.kept k₂
  have F : Fr base Lg h₂ _ := ⟨hn₂, hr₂.keep, hab⟩
  have N := (News.nil : News base Lg h₂ [])
  refine seg_execs_cons (seg_For ?_ (fun _ => rfl))
  walk1
  walk1
  walk1
  walk1
  refine ld F (v := .str ⟨xs.toArray⟩ t) (by rw [if_neg (by decide), if_neg (by decide)]; exact ha) ?_
  walk1
  refine call_enumerate_str fun h₃ he₃ hit₃ hsz₃ hk₃ => ?_
  refine wpAny_pyIter_enum he₃ fun p => ?_
  have hL₂ : Lg < h₂.objs.size := hn₂.lt
  have fresh : ∀ b, h₂.objs.size ≤ b → apart base kp b := fun b hb => ⟨by
    cases hq : base.get? b with
    | none => rfl
    | some o => exact absurd (Heap.lt_size (hr₂.keep b o hq)) (Nat.not_lt.mpr hb), fun hm => by
    obtain ⟨o, ho⟩ := Option.isSome_iff_exists.mp (hr₂.live b hm)
    exact absurd (Heap.lt_size ho) (Nat.not_lt.mpr hb)⟩
  have k₃ : Kept base kp h₂ h₃ := fun b o _ x => hk₃ b o x
  have hn₃ := hn₂.keeps hk₃
  refine seg_it_loop (St := fun i h => (∃ old, IsEnum h (h₂.objs.size + 1) h₂.objs.size (i : Nat) old) ∧ h.IsStrIter h₂.objs.size (strIterType ⟨xs.toArray⟩) ⟨xs.toArray⟩ t i) hh (strEnum _ _ ⟨xs.toArray⟩ t (Nat.succ_ne_self _) (by simp)) (by rfl) (by rfl) (by intro _; exact hh) pL (fresh _ (Nat.le_succ _)) (fresh _ (Nat.le_refl _)) (Nat.ne_of_lt (Nat.lt_succ_of_lt hL₂)) (Nat.ne_of_lt hL₂) ?_
    xs.length 0 false s _ _ 0 _ rfl (Nat.zero_le _) ⟨⟨_, he₃⟩, hit₃⟩ hn₃ (by simp) (by rw [if_neg (by decide), if_pos rfl]) (fun q => by cases q) (Since.refl.step (k₂.trans k₃)) (hr₂.kept k₃) ⟨[], rfl⟩
  intro esc s₀ s₄ m₄ tk₄ p₄ hn₄ he₄ hp₄ hpe₄ hs₄ hr₄ hi₄
  refine seg_leaf (.ok .next) ?_
  show Seg _ A _ _ _ s₀ _ (Sem.wrap _ _ _ _ (execs _ (itEnv Lg cd))) [] s₄
  have F₄ := fr0 hn₄
  refine seg_execs_cons (seg_If (isTrue_plain (ld F₄ he₄ (truthy_bool ?_))))
  cases esc with
  | false =>
    rw [if_neg (by decide)]
    refine seg_execs_nil (seg_execs_nil (seg_end (.ok (.ret .none)) ⟨rfl, rfl, hs₄⟩))
  | true =>
    rw [if_pos rfl]
    obtain ⟨pre, hpre⟩ := hi₄
    have hit := reverse_at (rest := []) hpre
    rw [show (escs true xs.length []).length = 0 + 1 from rfl]
    refine seg_execs_cons (seg_Expr_Yield rfl rfl rfl ?_)
    have N := (News.nil : News {} Lg s₄.heap [])
    walk1
    walk1
    refine ld F₄ hp₄ ?_
    walk1
    walk1
    walk1
    refine wpAny_newTuple ?_
    intro kap hkap
    rw [hpe₄ rfl]
    refine ⟨⟨xs.length - 1, [92], _, _, _, hit, rfl, ⟨_, Heap.get?_push_size _ rfl, rfl, _, rfl⟩⟩, hs₄.step (fun b o _ x => Heap.get?_push_of_some _ x), [], (fun b hb => nomatch hb), fun s'' hal hr'' => hkap .none s'' ?_⟩
    exact seg_execs_nil (seg_execs_nil (seg_end (.ok (.ret .none)) ⟨rfl, rfl, Since.refl⟩))
end
end Mine
end

section
open PySem PySem.W PySem.Calls PyProof.Rows
open Sem (wp)
set_option Elab.async false
set_option maxRecDepth 100000
set_option maxHeartbeats 8000000
namespace Mine

def GenAt (w : World) (A : Around) (base : Heap) (kp : List Addr) (a g : Nat) (items : List (Nat × List Nat)) (j : Nat) (s : Shared) : Prop :=
  s.heap.IsGen a g ∧ ∃ (gs : GenState) (priv : List Addr), s.gens[g]? = some gs ∧ (∀ b ∈ priv, apart base kp b) ∧ ∀ s'' : Shared, (∀ b ∈ priv, ∀ o, s.heap.get? b = some o → s''.heap.get? b = some o) → Rdy base kp s''.heap →
    gs.Goes (model PP w) A.in1 (Rend base kp) (proto base kp items) (items.length - j) (.send .none) s''

theorem GenAt.frame {w : World} {A : Around} {base : Heap} {kp cm : List Addr} {a g : Nat} {items : List (Nat × List Nat)} {j : Nat} {s s' : Shared} (st : GenAt w A base kp a g items j s)
    (hcm : ∀ b ∈ cm, b ∈ kp) (ha : a ∉ cm) (hg : s'.gens = s.gens) (hk : ∀ b o, b ∉ cm → s.heap.get? b = some o → s'.heap.get? b = some o) : GenAt w A base kp a g items j s' := by
  obtain ⟨⟨o, nm, qn, ho, r⟩, gs, priv, hgs, hp, hgo⟩ := st
  exact ⟨⟨o, nm, qn, hk a o ha ho, r⟩, gs, priv, hg ▸ hgs, hp, fun s'' hal hr => hgo s'' (fun b hb o x => hal b hb o (hk b o (fun hm => (hp b hb).2 (hcm b hm)) x)) hr⟩

structure GMoved (base : Heap) (kp : List Addr) (g : Nat) (s s' : Shared) : Prop where
  kept : Kept base kp s.heap s'.heap
  gens : GenOnlyQ g s.gens s'.gens
  os : s'.os = s.os

section
variable {w : World} {A : Around} {base : Heap} {kp : List Addr} {a g : Nat} {items : List (Nat × List Nat)} {j : Nat} {s : Shared} {Q : Option Value → Shared → Prop} {E : Value → Shared → Prop}

theorem gen_item (hh : A.handled = none) (hroom : A.depth < recursionLimit) (hlim : base.NoLimit) (haK : a ∈ kp) (hr : Rdy base kp s.heap) (st : GenAt w A base kp a g items j s) (hj : j < items.length)
    (hQ : ∀ p x T tk tk' s', items[j]? = some (p, x) → s'.heap.IsTuple T #[.int (p : Nat) tk, .str ⟨x.toArray⟩ tk'] → GenAt w A base kp a g items (j + 1) s' → GMoved base kp g s s' → Q (some (.ref T)) s') :
    wpAny (model PP w) A (pyNext (.ref a)) Q E s := by
  obtain ⟨hg, gs, priv, hgs, hp, hgo⟩ := st
  obtain ⟨m, hm⟩ : ∃ m, items.length - j = m + 1 := ⟨items.length - j - 1, by omega⟩
  rw [hm] at hgo
  refine wpAny_pyNext_def (P := fun n s₀ s₁ => n = 0 ∧ Since base kp s₀ s₁) hh (hlim.keeps hr.keep) hroom hg hgs (hgo _ (fun _ _ _ x => x) hr) (fun v s₁ gs' hb hv => ?_) (fun s₁ hx h' hk => ?_)
  · obtain ⟨⟨p, x, T, tk, tk', hidx, rfl, hT⟩, ⟨h₁, tk₁, rfl, hk₁⟩, priv', hp', hkap⟩ := hv
    have hk₁' : Kept base kp s.heap h₁ := hk₁
    rw [Nat.add_sub_cancel] at hidx
    have hjx : items[j]? = some (p, x) := by
      rw [List.getElem?_reverse (by omega)] at hidx
      rw [← hidx]; congr 1; omega
    obtain ⟨o, nm, qn, ho, r⟩ := hg
    refine hQ p x T tk tk' _ hjx hT ⟨⟨o, nm, qn, hk₁' a o (.inl haK) ho, r⟩, gs', priv', setGen_self (gs := .running) (setGen_self hgs), hp', fun s'' hal hr'' => ?_⟩
      ⟨hk₁', GenOnlyQ.of ((GenOnly.setGen s g .running).trans (GenOnly.setGen _ g gs')) (setGen_self (gs := .running) (setGen_self hgs)) hb, rfl⟩
    rw [show items.length - (j + 1) = m by omega]
    exact hkap s'' hal hr''
  · exact absurd hx.1 (Nat.succ_ne_zero m)

theorem gen_done (hh : A.handled = none) (hroom : A.depth < recursionLimit) (hlim : base.NoLimit) (hr : Rdy base kp s.heap) (st : GenAt w A base kp a g items items.length s)
    (hQ : ∀ s', GMoved base kp g s s' → Q none s') : wpAny (model PP w) A (pyNext (.ref a)) Q E s := by
  obtain ⟨hg, gs, priv, hgs, hp, hgo⟩ := st
  rw [Nat.sub_self] at hgo
  refine wpAny_pyNext_def (P := fun n s₀ s₁ => n = 0 ∧ Since base kp s₀ s₁) hh (hlim.keeps hr.keep) hroom hg hgs (hgo _ (fun _ _ _ x => x) hr) (fun v s₁ gs' hb hv => ?_) (fun s₁ hx h' hk => ?_)
  · obtain ⟨_, ⟨h₁, tk₁, rfl, hk₁⟩, priv', hp', hkap⟩ := hv
    exact (hkap _ (fun _ _ _ x => x) (Rdy.kept (h := s.heap) hr hk₁)).elim
  · obtain ⟨_, h₁, tk₁, rfl, hk₁⟩ := hx
    have hk₁' : Kept base kp s.heap h₁ := hk₁
    exact hQ _ ⟨fun b o hb x => hk b o (hk₁' b o hb x), GenOnlyQ.of ((GenOnly.setGen s g .running).trans (GenOnly.setGen _ g .finished)) (setGen_self (gs := .running) (setGen_self hgs)) rfl, rfl⟩

theorem wpAny_letOwned_gen {elts : List Expr} {k : Nat} {pos : Pos} {T : Addr} {Q : Unit → Shared → Prop} (hg : s.heap.IsGen a g) (h : Q () s) :
    wpAny (model PP w) A (letOwnedTupleGo (.Tuple elts k pos) (.ref a) (.ref T)) Q E s := by
  obtain ⟨o, nm, qn, ho, hc, hd, _⟩ := hg
  unfold letOwnedTupleGo
  refine wpAny_bind (wpAny_load ho ?_)
  rw [hc, hd]
  exact wpAny_pure h
end
end Mine
end

section
open PySem PySem.W PySem.Calls PyProof.Rows
open Sem (wp)
set_option Elab.async false
set_option maxRecDepth 100000
set_option maxHeartbeats 8000000
namespace Mine

theorem GenOnlyQ.refl (g : Nat) (a : Array GenState) : GenOnlyQ g a a := .inl rfl

section
variable {w : World} {A : Around} {base : Heap} {cm : List Addr} {a g L : Addr} {items : List (Nat × List Nat)} {s : Shared} {env : Env}

theorem for_gen {R : Result → Shared → Prop} {body : List Stmt} {pk pv pt : Pos} {x1 : Nat} {m : Str → Option Value} {Rv : Value → Prop}
    (hh : A.handled = none) (hroom : A.depth < recursionLimit) (hlim : base.NoLimit)
    (hloc : env.locals = L) (hxi : env.kindOf (Str.ofString "pos") = some .local) (hxc : env.kindOf (Str.ofString "ch") = some .local)
    (hp : (env.scope.kind == .class || (env.scope.kind == .module && env.locals != env.globals)) = false)
    (ha : a ∉ cm) (hab : base.get? a = none) (hLc : L ∈ cm)
    (J : Nat → (Str → Option Value) → Heap → Prop)
    (hJ : ∀ j m h h', (∀ b o, b ∈ cm → b ≠ L → h.get? b = some o → h'.get? b = some o) → J j m h → J j m h')
    (hlive : ∀ j m h, J j m h → ∀ b ∈ cm, b ≠ L → (h.get? b).isSome = true)
    (step : ∀ j p x tk tk' m s₁ own, items[j]? = some (p, x) → J j m s₁.heap →
      Fr base L s₁.heap (fun y => if y = Str.ofString "ch" then some (.str ⟨x.toArray⟩ tk') else if y = Str.ofString "pos" then some (.int (p : Nat) tk) else m y) →
      (∀ q ∈ own, q.1 ∉ cm) → News base L s₁.heap own →
      wpAny (model PP w) A (execs body env) (fun f s' => match f with
        | .next | .cont => ∃ m', Fr base L s'.heap m' ∧ News base L s'.heap own ∧ J (j + 1) m' s'.heap ∧ s'.gens = s₁.gens ∧ s'.os = s₁.os
        | .brk => False
        | .ret v => Rv v ∧ (∀ b o, base.get? b = some o → s'.heap.get? b = some o) ∧ s'.gens = s₁.gens ∧ s'.os = s₁.os) (fun _ _ => False) s₁)
    (hEnd : ∀ s' m', Fr base L s'.heap m' → J items.length m' s'.heap → GenOnlyQ g s.gens s'.gens → s'.os = s.os → R (.ok .next) s')
    (hRet : ∀ v s', Rv v → (∀ b o, base.get? b = some o → s'.heap.get? b = some o) → GenOnlyQ g s.gens s'.gens → s'.os = s.os → R (.ok (.ret v)) s')
    (F : Fr base L s.heap m) (h0 : J 0 m s.heap) (st : GenAt w A base (a :: cm) a g items 0 s) :
    codeAny (model PP w) A (.forLoop (.Tuple [.Name (Str.ofString "pos") pk, .Name (Str.ofString "ch") pv] x1 pt) (.ref a) body [] env) R s := by
  have rdy : ∀ j m h, Fr base L h m → J j m h → h.IsGen a g → Rdy base (a :: cm) h := fun j m h F hj hg => ⟨F.keep, fun b hb => by
    rcases List.mem_cons.mp hb with rfl | hb
    · obtain ⟨o, nm, qn, ho, _⟩ := hg; rw [ho]; rfl
    · by_cases hbL : b = L
      · subst hbL; obtain ⟨o, _, _, ho, _⟩ := F.ns; rw [ho]; rfl
      · exact hlive j m h hj b hb hbL⟩
  refine codeAny_forLoop_any (fun k s' => ∃ j m', k = items.length + 1 - j ∧ j ≤ items.length ∧ Fr base L s'.heap m' ∧ J j m' s'.heap ∧ GenAt w A base (a :: cm) a g items j s' ∧ GenOnlyQ g s.gens s'.gens ∧ s'.os = s.os) ?_ (items.length + 1)
    ⟨0, m, rfl, Nat.zero_le _, F, h0, st, GenOnlyQ.refl _ _, rfl⟩
  rintro k s₁ ⟨j, m', rfl, hj, F₁, hJ₁, st₁, hg₁, hos₁⟩
  have r₁ := rdy j m' _ F₁ hJ₁ st₁.1
  have keepJ : ∀ {s₂ : Shared}, Kept base (a :: cm) s₁.heap s₂.heap → Fr base L s₂.heap m' ∧ J j m' s₂.heap := fun hk =>
    ⟨⟨F₁.ns.at' fun o x => hk L o (.inl (List.mem_cons_of_mem _ hLc)) x, fun b o x => hk b o (.inr (by rw [x]; rfl)) (F₁.keep b o x), F₁.above⟩, hJ j m' _ _ (fun b o hb _ x => hk b o (.inl (List.mem_cons_of_mem _ hb)) x) hJ₁⟩
  by_cases hlt : j < items.length
  · refine wpAny_mono (E := fun _ _ => False) (gen_item hh hroom hlim (List.mem_cons_self ..) r₁ st₁ hlt fun p x T tk tk' s₂ hit hT st₂ hm => ?_) (fun _ _ h => h) fun _ _ h => h.elim
    obtain ⟨F₂, hJ₂⟩ := keepJ hm.kept
    dsimp only
    refine wpAny_mono (E := fun _ _ => False) (wpAny_letOwned_gen st₂.1 ?_) (fun _ _ h => h) fun _ _ h => h.elim
    refine wpAny_mono (E := fun _ _ => False) (wpAny_assign_Tuple hh hT rfl rfl fun h₃ hx₃ => ?_) (fun _ _ h => h) fun _ _ h => h.elim
    replace hx₃ : Heap.ExtBut s₂.heap.objs.size s₂.heap h₃ := hx₃
    have up₃ : ∀ b o, s₂.heap.get? b = some o → h₃.get? b = some o := fun b o x => hx₃ b o (Nat.ne_of_lt (Heap.lt_size x)) x
    have F₃ : Fr base L h₃ m' := ⟨F₂.ns.keeps up₃, fun b o x => up₃ b o (F₂.keep b o x), F₂.above⟩
    subst hloc
    show wpAny _ A (do holding [Value.str ⟨x.toArray⟩ tk'] (assign (.Name (Str.ofString "pos") pk) env (.int (p : Nat) tk)); do holding [] (assign (.Name (Str.ofString "ch") pv) env (.str ⟨x.toArray⟩ tk')); pure ()) _ _ _
    refine wpAny_bind (wpAny_holding (wpAny_assign_Name (wpAny_storeName_local hxi F₃.ns (fun h₄ hn₄ hs₄ => ?_) hp)))
    replace hs₄ : Heap.SameBut env.locals h₃ h₄ := hs₄
    have F₄ := F₃.set hn₄ hs₄
    refine wpAny_bind (wpAny_holding (wpAny_assign_Name (wpAny_storeName_local hxc F₄.ns (fun h₅ hn₅ hs₅ => wpAny_pure ?_) hp)))
    replace hs₅ : Heap.SameBut env.locals h₄ h₅ := hs₅
    have F₅ := F₄.set hn₅ hs₅
    have up₅ : ∀ b o, b ≠ env.locals → s₂.heap.get? b = some o → h₅.get? b = some o := fun b o hb x => hs₅.extBut b o hb (hs₄.extBut b o hb (up₃ b o x))
    have hJ₅ := hJ j m' _ h₅ (fun b o _ hb x => up₅ b o hb x) hJ₂
    have fpL : env.locals ∉ (List.range h₅.objs.size).filter (fun b => !cm.contains b) := fun hm => by
      have := (List.mem_filter.mp hm).2
      simp [hLc] at this
    refine wpAny_mono (step j p x tk tk' m' _ (ownOf base ((List.range h₅.objs.size).filter (fun b => !cm.contains b)) h₅) hit hJ₅ F₅ (fun q hq => ?_) (news_ownOf fpL)) (fun f s₆ h₆ => ?_) fun _ _ h => h.elim
    · have := ownOf_sub q hq
      have := (List.mem_filter.mp this).2
      simpa using this
    have st₅ : ∀ s₆ : Shared, s₆.gens = s₂.gens → Fr base env.locals s₆.heap (fun y => none) ∨ True → (∀ b o, b ∉ cm → h₅.get? b = some o → s₆.heap.get? b = some o) → GenAt w A base (a :: cm) a g items (j + 1) s₆ := fun s₆ hg _ hk =>
      st₂.frame (cm := cm) (fun b hb => List.mem_cons_of_mem _ hb) ha hg fun b o hb x => hk b o hb (up₅ b o (fun q => hb (q ▸ hLc)) x)
    have fin : (∃ m'', Fr base env.locals s₆.heap m'' ∧ News base env.locals s₆.heap (ownOf base ((List.range h₅.objs.size).filter (fun b => !cm.contains b)) h₅) ∧ J (j + 1) m'' s₆.heap ∧ s₆.gens = s₂.gens ∧ s₆.os = s₂.os) →
        ∃ k', k' < items.length + 1 - j ∧ ∃ j' m', k' = items.length + 1 - j' ∧ j' ≤ items.length ∧ Fr base env.locals s₆.heap m' ∧ J j' m' s₆.heap ∧ GenAt w A base (a :: cm) a g items j' s₆ ∧ GenOnlyQ g s.gens s₆.gens ∧ s₆.os = s.os := by
      rintro ⟨m'', F₆, N₆, hJ₆, hg₆, ho₆⟩
      refine ⟨items.length + 1 - (j + 1), by omega, j + 1, m'', rfl, hlt, F₆, hJ₆, st₅ s₆ hg₆ (.inr trivial) fun b o hb x => ?_, hg₆ ▸ hg₁.trans hm.gens, ho₆.trans (hm.os.trans hos₁)⟩
      cases hn : base.get? b with
      | some o₀ =>
        have : o₀ = o := by have q := F₅.keep b o₀ hn; rw [x] at q; exact (Option.some.inj q).symm
        exact this ▸ F₆.keep b o₀ hn
      | none => exact (N₆ _ (mem_ownOf (List.mem_filter.mpr ⟨List.mem_range.mpr (Heap.lt_size x), by simpa using hb⟩) hn x)).1
    cases f with
    | next => exact fin h₆
    | cont => exact fin h₆
    | brk => exact h₆.elim
    | ret v => exact hRet v s₆ h₆.1 h₆.2.1 (h₆.2.2.1 ▸ hg₁.trans hm.gens) (h₆.2.2.2.trans (hm.os.trans hos₁))
  · have hjn : j = items.length := by omega
    subst hjn
    refine wpAny_mono (E := fun _ _ => False) (gen_done hh hroom hlim r₁ st₁ fun s₂ hm => wpAny_execs_nil ?_) (fun _ _ h => h) fun _ _ h => h.elim
    obtain ⟨F₂, hJ₂⟩ := keepJ hm.kept
    exact hEnd s₂ m' F₂ hJ₂ (hg₁.trans hm.gens) (hm.os.trans hos₁)
end
end Mine
end

section
open PySem PySem.W PySem.Calls PyProof.Rows
open Sem (wp)
set_option Elab.async false
set_option maxRecDepth 100000
set_option maxHeartbeats 8000000
namespace Mine
theorem fill7 : (∀ P, hd.heap_39 P = hd.heap_39 P) ∧ PySem.Challenge.rw_tr0011_01.foot = 4 := by
  k_fill
  exact ⟨fun _ => rfl, rfl⟩

section
variable {w : World} {A : Around} {base : Heap} {L : Addr} {s : Shared} {m mg mb : Str → Option Value} {E : Value → Shared → Prop}

theorem call_it {x : Str} {t : Tok} {Q : Value → Shared → Prop} (hroom : A.depth < recursionLimit)
    (K0 : (hd.heap_39 w.params).In base) (T0 : TopM mg mb base) (F : Fr base L s.heap m)
    (hQ : ∀ a s' gs, Fr base L s'.heap m → (∀ b o, s.heap.get? b = some o → s'.heap.get? b = some o) → base.get? a = none → s.heap.objs.size ≤ a → s'.gens = s.gens.push gs → gs.bare = true → s'.os = s.os → s.toks ≤ s'.toks →
      s'.heap.IsGen a s.gens.size →
      (∀ (A' : Around) cm, A'.handled = none → (∀ b ∈ cm, (s.heap.get? b).isSome = true) → GenAt w A' base (a :: cm) a s.gens.size (escs false 0 x.cps.toList) 0 s') → Q (.ref a) s') :
    wpAny (model PP w) A (call (.ref 38) [.str x t]) Q E s := by
  refine wpAny_call ?_
  have KS := K0.keeps F.keep
  have hLs : L < s.heap.objs.size := F.ns.lt
  have hab := F.above
  refine codeAny_call_generator hroom (KS 38 _ rfl) rfl rfl rfl rfl (codeRec_of KS (by k_is)) (BindsTo.of_eq (binds := [(Str.ofString "addr", .str x t)]) rfl _ _ _ _ ?_)
  refine wpAny_newFunctionEnv (by decide) (locs rfl) (fun h' hn' hs' => ⟨(T0.nolimit.keeps F.keep).fresh _ hs', ?_⟩)
  replace hs' : Heap.SameBut s.heap.objs.size (s.heap.push { cls := .type "frame", data := .dict #[] }) h' := hs'
  have up : ∀ b o, s.heap.get? b = some o → h'.get? b = some o := fun b o e => hs'.extBut b o (Nat.ne_of_lt (Heap.lt_size e)) (Heap.get?_push_of_some _ e)
  have hsz : h'.objs.size = s.heap.objs.size + 1 := by rw [hs'.1, Heap.size_push]
  have none_of : ∀ b, s.heap.objs.size ≤ b → base.get? b = none := fun b hb => by
    cases hq : base.get? b with
    | none => rfl
    | some o => exact absurd (Heap.lt_size (F.keep b o hq)) (Nat.not_lt.mpr hb)
  have up' : ∀ (ob : Obj) b o, s.heap.get? b = some o → (h'.push ob).get? b = some o := fun ob b o e => Heap.get?_push_of_some _ (up b o e)
  refine hQ h'.objs.size _ _ ⟨F.ns.keeps (up' _), fun b o e => up' _ b o (F.keep b o e), hab⟩ (up' _) (none_of _ (by omega)) (by omega) rfl rfl rfl (by dsimp only; omega) ⟨_, _, _, Heap.get?_push_size _ rfl, rfl, rfl, rfl⟩ (fun A' cm hA' hcm => ⟨⟨_, _, _, Heap.get?_push_size _ rfl, rfl, rfl, rfl⟩, _, [s.heap.objs.size], Array.getElem?_push_size .., ?_, ?_⟩)
  · intro b hb
    obtain rfl := List.mem_singleton.mp hb
    refine ⟨none_of _ (Nat.le_refl _), fun hm => ?_⟩
    rcases List.mem_cons.mp hm with e | hm
    · exact absurd (hsz.symm.trans e.symm) (Nat.succ_ne_self _)
    · obtain ⟨o, ho⟩ := Option.isSome_iff_exists.mp (hcm _ hm)
      exact absurd (Heap.lt_size ho) (Nat.lt_irrefl _)
  · intro s'' hal hr
    refine ⟨rfl, ?_⟩
    have hn'' : s''.heap.Ns s.heap.objs.size _ := (hn'.push _).at' fun o e => hal _ (by simp) o e
    exact seg_it (xs := x.cps.toList) (t := t) (A := A'.in1) hA' K0 T0 ⟨none_of _ (Nat.le_refl _), fun hm => by
      rcases List.mem_cons.mp hm with e | hm
      · exact absurd (hsz.symm.trans e.symm) (Nat.succ_ne_self _)
      · obtain ⟨o, ho⟩ := Option.isSome_iff_exists.mp (hcm _ hm)
        exact absurd (Heap.lt_size ho) (Nat.lt_irrefl _)⟩ (Nat.le_of_lt (Nat.lt_of_le_of_lt hab hLs)) hn'' rfl hr
end
end Mine
end

section
open PySem PySem.W PySem.Calls PyProof.Rows
open Sem (wp)
set_option Elab.async false
set_option maxRecDepth 100000
set_option maxHeartbeats 8000000
namespace Mine

/-- a call that leaves all that stood as it stood -/
structure Later (s s' : Shared) : Prop where
  keep : ∀ b o, s.heap.get? b = some o → s'.heap.get? b = some o
  gens : AllBare s.gens → AllBare s'.gens
  os : s'.os = s.os
  toks : s.toks ≤ s'.toks
theorem Later.refl {s : Shared} : Later s s := ⟨fun _ _ e => e, fun x => x, rfl, Nat.le_refl _⟩
theorem Later.trans {s s' s'' : Shared} (x : Later s s') (y : Later s' s'') : Later s s'' := ⟨fun b o e => y.keep b o (x.keep b o e), fun g => y.gens (x.gens g), y.os.trans x.os, Nat.le_trans x.toks y.toks⟩
theorem Later.fr {s s' : Shared} {base : Heap} {L : Addr} {m : Str → Option Value} (x : Later s s') (F : Fr base L s.heap m) : Fr base L s'.heap m := ⟨F.ns.keeps x.keep, fun b o e => x.keep b o (F.keep b o e), F.above⟩
theorem Later.news {s s' : Shared} {base : Heap} {L : Addr} {news : List (Addr × Obj)} (x : Later s s') (N : News base L s.heap news) : News base L s'.heap news := fun p hp => ⟨x.keep _ _ (N p hp).1, (N p hp).2⟩

/-- room for n frames more -/
structure Room (A : Around) (n : Nat) : Prop where
  hh : A.handled = none
  d : A.depth + n < recursionLimit
  u : A.units + 100 * n < cLine
theorem Room.deeper {A : Around} {n : Nat} (r : Room A (n + 1)) (env : Env) : Room (A.deeper env) n := ⟨r.hh, by have := r.d; show A.depth + 1 + n < _; omega, by have := r.u; show A.units + 3 + 100 * n < _; omega⟩
theorem Room.less {A : Around} {n m : Nat} (r : Room A n) (h : m ≤ n) : Room A m := ⟨r.hh, by have := r.d; omega, by have := r.u; omega⟩
theorem Room.lt {A : Around} {n : Nat} (r : Room A n) : A.depth < recursionLimit := by have := r.d; omega

theorem allBare_onlyQ {g : Nat} {a b : Array GenState} {gs : GenState} (hg : gs.bare = true) (h : GenOnlyQ g (a.push gs) b) (x : AllBare a) : AllBare b := h.bare (x.push hg)

/-- enter a def: the frame, no raise -/
theorem enterL {w : World} {A : Around} {n : Nat} {s : Shared} {mg mb : Str → Option Value} {K : Frag} {R : Result → Shared → Prop} {name qual : Str} {params : Arguments} {body : List Stmt} {scope : Scope} {dV kV doc pm cdv ct oc : Value} {an od : Option Addr} {osl : Array (Option Value)} {f : Addr} {args : Args} {binds : List (Str × Value)}
    (rm : Room A (n + 1)) (X : K.In s.heap) (T : TopM mg mb s.heap)
    (ho : K.lookup f = some ⟨oc, od, .func (fnOf name qual params body scope dV kV doc pm an cdv ct), osl⟩) (hcd : codeIn K cdv qual = true)
    (hbind : BindsTo s (fnOf name qual params body scope dV kV doc pm an cdv ct) args binds) (hloc : ∀ y ∈ binds, scope.names.lookup y.1 = some .local)
    (h : ∀ h₁ A', Room A' n → Fr s.heap s.heap.objs.size h₁ (fun y => binds.reverse.lookup y) → News s.heap s.heap.objs.size h₁ [] →
      wpAny (model PP w) A' (execs body (envOf qual scope s.heap.objs.size f cdv))
        (fun fl s' => s.toks ≤ s'.toks → R (.ok (.ret (match fl with | .ret v => v | _ => .none))) s') (fun _ _ => False)
        { s with heap := h₁, toks := s.toks + binds.length })
    (hcell : ∀ x ∈ scope.names, x.2 ≠ .cell) (hco : scope.isCoroutine = false) (hgen : scope.isGenerator = false) (hk : scope.kind = .function) : codeAny (model PP w) A (.call (.ref f) args) R s := by
  refine codeAny_with_toks (Nat.le_refl s.toks) ?_
  refine enter X T.nolimit ho hcd rm.lt hbind hloc (fun h₁ F => ?_) hcell hco hgen hk
  exact h h₁ _ (rm.deeper _) F .nil

theorem later_of {s s' : Shared} {L : Addr} {m : Str → Option Value} (F : Fr s.heap L s'.heap m) (hg : AllBare s.gens → AllBare s'.gens) (ho : s'.os = s.os) (ht : s.toks ≤ s'.toks) : Later s s' := ⟨F.keep, hg, ho, ht⟩
end Mine
end

section
open PySem PySem.W PySem.Calls PyProof.Rows
set_option Elab.async false
namespace Mine

theorem pick_range (l : List Nat) (a : Nat) : ∀ c, a + c ≤ l.length → ((List.range c).map (fun k => a + k)).filterMap (l[·]?) = (l.drop a).take c := by
  intro c
  induction c with
  | zero => intro _; rfl
  | succ c ih =>
    intro h
    have : a + c < l.length := by omega
    rw [List.range_succ, List.map_append, List.filterMap_append, ih (by omega), List.take_add_one, List.getElem?_drop, List.getElem?_eq_getElem this]
    simp [List.getElem?_eq_getElem this]

theorem range_nat (a b : Nat) : sliceRange (a : Int) (b : Int) 1 = (List.range (b - a)).map (fun k => a + k) := by
  unfold sliceRange
  simp only [show (1 : Int) > 0 by decide, if_true, Int.one_mul, Int.ediv_one]
  by_cases h : (a : Int) < b
  · rw [if_pos h, show ((b : Int) - a + 1 - 1).toNat = b - a by omega]
    exact List.map_congr_left fun k _ => by omega
  · rw [if_neg h, show b - a = 0 by omega]; rfl

theorem slice_nat (x : Str) (l u : Option Int) (i j : Nat) (hl : l = none ∧ i = 0 ∨ l = some (i : Int)) (hu : u = none ∧ x.length ≤ j ∨ u = some (j : Int)) :
    Txt.slice x l u = ⟨((x.cps.toList.drop i).take (j - i)).toArray⟩ := by
  have hx : x.length = x.cps.toList.length := by simp [Str.length]
  have key : Builtin.Str.strSliceIndices l u 1 x.length = (List.range (min j x.length - min i x.length)).map (fun k => min i x.length + k) := by
    have e : ∀ (p q : Int), p = ((min i x.length : Nat) : Int) → q = ((min j x.length : Nat) : Int) → sliceRange p q 1 = (List.range (min j x.length - min i x.length)).map (fun k => min i x.length + k) := by
      rintro _ _ rfl rfl; exact range_nat _ _
    rcases hl with ⟨rfl, rfl⟩ | rfl <;> rcases hu with ⟨rfl, h⟩ | rfl <;>
    · unfold Builtin.Str.strSliceIndices
      simp only [show (1 : Int) > 0 by decide, if_true]
      refine e _ _ ?_ ?_
      · first | (simp; done) | (rw [if_neg (by omega)]; omega) | omega
      · first | (rw [if_neg (by omega)]; omega) | omega
  unfold Txt.slice
  rw [key]
  have hpick := pick_range x.cps.toList (min i x.length) (min j x.length - min i x.length) (by rw [← hx]; omega)
  have hfm : (List.map (fun k => min i x.length + k) (List.range (min j x.length - min i x.length))).filterMap (x.cps[·]?) = (x.cps.toList.drop i).take (j - i) := by
    have h0 : (fun k : Nat => x.cps[k]?) = fun k : Nat => x.cps.toList[k]? := by funext k; simp
    rw [h0, hpick]
    by_cases hi : i ≤ x.length
    · rw [Nat.min_eq_left hi]
      by_cases hj : j ≤ x.length
      · rw [Nat.min_eq_left hj]
      · rw [Nat.min_eq_right (by omega)]
        rw [List.take_of_length_le (by rw [List.length_drop, ← hx]; omega), List.take_of_length_le (by rw [List.length_drop, ← hx]; omega)]
    · have h1 : min i x.length = x.length := by omega
      have h2 : min j x.length - x.length = 0 := by omega
      have h3 : x.cps.toList.drop i = [] := List.drop_of_length_le (by rw [← hx]; omega)
      rw [h1, h2, h3, List.take_zero, List.take_nil]
  split
  · rename_i h
    simp only [Bool.and_eq_true, beq_iff_eq, List.length_map, List.length_range] at h
    have h2 := h.2
    rw [← hfm]
    have h0 : (fun k : Nat => x.cps[k]?) = fun k : Nat => x.cps.toList[k]? := by funext k; simp
    rw [h0, hpick]
    rw [h2, show min i x.length = 0 by omega]
    rw [List.drop_zero, hx, List.take_length]
  · rw [hfm]
end Mine
namespace Mine
theorem join_sep (sep : List Nat) : ∀ (ys : List (List Nat)), Txt.join ⟨sep.toArray⟩ (ys.map fun r => ⟨r.toArray⟩) = ⟨(List.intercalate sep ys).toArray⟩ := by
  intro ys
  unfold Txt.join
  rw [StrLaws.glued_eq_join]
  have key : ∀ (ys : List (List Nat)), (Str.join ⟨sep.toArray⟩ (ys.map fun r => ⟨r.toArray⟩)).cps.toList = List.intercalate sep ys := by
    intro ys
    induction ys with
    | nil => rfl
    | cons y r ih =>
      cases r with
      | nil => simp [Str.join, List.intercalate, List.intersperse]
      | cons z r =>
        have e : Str.join ⟨sep.toArray⟩ ((y :: z :: r).map fun r => (⟨r.toArray⟩ : Str)) = (⟨y.toArray⟩ : Str) ++ ⟨sep.toArray⟩ ++ Str.join ⟨sep.toArray⟩ ((z :: r).map fun r => ⟨r.toArray⟩) := rfl
        rw [e]
        have h2 : ∀ a b : Str, (a ++ b).cps.toList = a.cps.toList ++ b.cps.toList := fun a b => by show (a.cps ++ b.cps).toList = _; simp
        rw [h2, h2, ih]
        simp [List.intercalate, List.intersperse]
  have := key ys
  rw [← this]
theorem intercalate_nil (ys : List (List Nat)) : List.intercalate [] ys = ys.flatten := by
  induction ys with
  | nil => rfl
  | cons y r ih =>
    cases r with
    | nil => simp [List.intercalate, List.intersperse]
    | cons z r =>
      simp only [List.intercalate, List.intersperse, List.flatten_cons, List.nil_append] at ih ⊢
      rw [ih]
theorem join_empty (ys : List (List Nat)) : Txt.join (Str.ofString "") (ys.map fun r => ⟨r.toArray⟩) = ⟨ys.flatten.toArray⟩ := by
  rw [show Str.ofString "" = (⟨([] : List Nat).toArray⟩ : Str) from by decide, join_sep, intercalate_nil]
theorem sum_le {N : Nat} : ∀ (ys : List (List Nat)), (∀ r ∈ ys, r.length ≤ N) → ((ys.map fun r => (⟨r.toArray⟩ : Str)).map (·.length)).sum ≤ ys.length * N
  | [], _ => by simp
  | y :: r, h => by
    have h1 := sum_le r fun z hz => h z (.tail _ hz)
    have h2 := h y (.head _)
    simp only [List.map_cons, List.sum_cons, List.length_cons, Nat.add_mul, Nat.one_mul]
    simp only [Str.length, List.size_toArray] at h1 ⊢
    omega
end Mine
end

section
open PySem PySem.W PySem.Calls PyProof.Rows
open Sem (wp)
set_option Elab.async false
set_option maxRecDepth 100000
set_option maxHeartbeats 8000000
namespace Mine
theorem fillC2 : (∀ P, hd.heap_39 P = hd.heap_39 P) ∧ PySem.Challenge.rw_tr0011_01.foot = 4 := by
  k_fill
  exact ⟨fun _ => rfl, rfl⟩

def stp (xs : List Nat) (a : Nat × Option Nat × List (List Nat)) (it : Nat × List Nat) : Nat × Option Nat × List (List Nat) :=
  if it.2 = [34] then (match a.2.1 with
    | none => (a.1, some it.1, a.2.2)
    | some o => (it.1 + 1, none, if a.1 = o then a.2.2 else a.2.2 ++ [(xs.drop a.1).take (o - a.1)]))
  else a
def stripL (xs : List Nat) : List Nat :=
  if xs.contains 34 then
    let r := (escs false 0 xs).foldl (stp xs) (0, none, [])
    (if r.1 < xs.length then r.2.2 ++ [xs.drop r.1] else r.2.2).flatten
  else xs

structure StripJ (x : Str) (t : Tok) (Rl : Addr) (items : List (Nat × List Nat)) (j : Nat) (m : Str → Option Value) (h : Heap) : Prop where
  addr : m (Str.ofString "addr") = some (.str x t)
  result : m (Str.ofString "result") = some (.ref Rl)
  rest : ∃ (st : Nat) (op : Option Nat) (res : List (List Nat)) (tk1 tk2 : Tok) (vs : List Value) (n : Nat), m (Str.ofString "start") = some (.int (st : Nat) tk1) ∧
    m (Str.ofString "open_pos") = some (match op with | none => .none | some o => .int (o : Nat) tk2) ∧
    h.get? Rl = some { cls := .type "list", data := .seq vs.toArray n } ∧ StrsAre vs (res.map fun r => ⟨r.toArray⟩) ∧
    (items.take j).foldl (stp x.cps.toList) (0, none, []) = (st, op, res) ∧ res.length ≤ j ∧ (∀ r ∈ res, r.length ≤ x.length) ∧ st ≤ 3000 ∧ (∀ o, op = some o → o ≤ 3000)

def stripM (xt Rl st op : Value) (rest : Str → Option Value) : Str → Option Value := fun y =>
  if y = Str.ofString "addr" then some xt else if y = Str.ofString "result" then some Rl else if y = Str.ofString "start" then some st else if y = Str.ofString "open_pos" then some op else rest y
theorem stripM_of {m : Str → Option Value} {xt Rl st op : Value} (h1 : m (Str.ofString "addr") = some xt) (h2 : m (Str.ofString "result") = some Rl) (h3 : m (Str.ofString "start") = some st) (h4 : m (Str.ofString "open_pos") = some op) : m = stripM xt Rl st op m := by
  funext y
  unfold stripM
  by_cases e1 : y = Str.ofString "addr"
  · rw [if_pos e1, e1, h1]
  by_cases e2 : y = Str.ofString "result"
  · rw [if_neg e1, if_pos e2, e2, h2]
  by_cases e3 : y = Str.ofString "start"
  · rw [if_neg e1, if_neg e2, if_pos e3, e3, h3]
  by_cases e4 : y = Str.ofString "open_pos"
  · rw [if_neg e1, if_neg e2, if_neg e3, if_pos e4, e4, h4]
  rw [if_neg e1, if_neg e2, if_neg e3, if_neg e4]
def stripDef : List Stmt × Scope := match PP.main.body with
  | _ :: _ :: _ :: .FunctionDef _ _ b _ _ _ sc _ _ _ :: _ => (b, sc)
  | _ => ([], default)
def stripLoop : List Stmt := match stripDef.1.getD 4 (.Pass default) with | .For _ _ b _ _ => b | _ => []
abbrev stripEnv (L : Addr) (cd : Value) : Env := envOf (Str.ofString "_strip_quoted_realnames") stripDef.2 L 45 cd

theorem str1_eq (c : List Nat) (k : Nat) (y : Str) (hy : y = ⟨#[k]⟩) : ((⟨c.toArray⟩ : Str) == y) = decide (c = [k]) := by
  subst hy
  rw [Bool.eq_iff_iff, decide_eq_true_eq, beq_iff_eq]
  constructor
  · intro h
    injection h with h
    simpa using congrArg Array.toList h
  · rintro rfl; rfl

theorem newsCons {base h : Heap} {L D : Addr} {o : Obj} {own : List (Addr × Obj)} (h1 : D ≠ L) (h2 : base.get? D = none) (h3 : h.get? D = some o) (N : News base L h own) : News base L h ((D, o) :: own) := fun q hq => by
  rcases List.mem_cons.mp hq with rfl | hq
  · exact ⟨h3, h1, h2⟩
  · exact N q hq
theorem newsTail {base h : Heap} {L : Addr} {q : Addr × Obj} {own : List (Addr × Obj)} (N : News base L h (q :: own)) : News base L h own := fun p hp => N p (.tail _ hp)

abbrev StripEnd (base : Heap) (L : Addr) (x : Str) (t : Tok) (Rl : Addr) (items : List (Nat × List Nat)) (j : Nat) (own : List (Addr × Obj)) (s₁ : Shared) (f : Flow) (s' : Shared) : Prop := match f with
  | .next | .cont => ∃ m', Fr base L s'.heap m' ∧ News base L s'.heap own ∧ StripJ x t Rl items (j + 1) m' s'.heap ∧ s'.gens = s₁.gens ∧ s'.os = s₁.os
  | .brk => False
  | .ret v => False ∧ (∀ b o, base.get? b = some o → s'.heap.get? b = some o) ∧ s'.gens = s₁.gens ∧ s'.os = s₁.os

theorem strip_step {w : World} {A : Around} {base : Heap} {L Rl : Addr} {x : Str} {t : Tok} {cd : Value} {items : List (Nat × List Nat)} {s₁ : Shared} {m : Str → Option Value} {own : List (Addr × Obj)}
    (K0 : (hd.heap_39 w.params).In base) {mg mb : Str → Option Value} (T0 : TopM mg mb base) (hh : A.handled = none) (hRb : base.get? Rl = none) (hRL : Rl ≠ L) (hx : x.length ≤ 2000)
    {j p : Nat} {c : List Nat} {tk tk' : Tok} (hp : p ≤ 2000) (hj : j ≤ 3000) (hit : items[j]? = some (p, c)) (J : StripJ x t Rl items j m s₁.heap)
    (F : Fr base L s₁.heap (fun y => if y = Str.ofString "ch" then some (.str ⟨c.toArray⟩ tk') else if y = Str.ofString "pos" then some (.int (p : Nat) tk) else m y))
    (hown : ∀ q ∈ own, q.1 ∉ [L, Rl]) (N : News base L s₁.heap own) :
    wpAny (model PP w) A (execs stripLoop (stripEnv L cd)) (StripEnd base L x t Rl items j own s₁) (fun _ _ => False) s₁ := by
  obtain ⟨h1, h2, st, op, res, tk1, tk2, vs, n, h3, h4, h5, h6, h7, h8, h9, h10, h11⟩ := J
  rw [stripM_of h1 h2 h3 h4] at F
  dsimp only [stripM] at F
  have hown' : ∀ q ∈ own, q.1 ≠ Rl := fun q hq e => hown q hq (by simp [e])
  have N := newsCons hRL hRb h5 N
  have hnext : (items.take (j + 1)).foldl (stp x.cps.toList) (0, none, []) = stp x.cps.toList (st, op, res) (p, c) := by
    rw [List.take_succ, hit, List.foldl_append, h7]; rfl
  refine wpAny_execs_cons ?_
  iterate 6 walk1
  rw [str1_eq c 34 _ (by decide)]
  by_cases hc : c = [34]
  · rw [if_pos (by simpa using hc)]
    subst hc
    cases op with
    | none =>
      dsimp only at F h4
      iterate 14 walk1
      dsimp only
      iterate 3 walk1
      rename Fr _ _ _ _ => F'
      rename News _ _ _ _ => N'
      refine ⟨_, F', newsTail N', ⟨by rfl, by rfl, st, some p, res, tk1, _, vs, n, by rfl, by rfl, N'.get (.head _), h6, by rw [hnext]; simp [stp], by omega, h9, h10, by intro o ho; cases ho; omega⟩, rfl, rfl⟩
    | some o =>
      dsimp only at F h4
      iterate 16 walk1
      by_cases hso : st = o
      · subst hso
        rw [if_neg (by simp)]
        iterate 15 walk1
        rename Fr _ _ _ _ => F'
        rename News _ _ _ _ => N'
        refine ⟨_, F', newsTail N', ⟨by rfl, by rfl, p + 1, none, res, _, tk, vs, n, by rfl, by rfl, N'.get (.head _), h6, by rw [hnext]; simp [stp], by omega, h9, by omega, by intro o ho; cases ho⟩, rfl, rfl⟩
      · rw [if_pos (by simp; omega)]
        iterate 17 walk1
        rename Fr _ _ _ _ => F₂
        rename News _ _ _ _ => N₂
        have hvs : vs.length = res.length := by rw [h6.len_eq, List.length_map]
        refine append_head F₂ N₂ hown' (fun h' F₃ N₃ => ?_) (by rw [List.size_toArray, sizeLine_eq]; omega)
        dsimp only
        iterate 15 walk1
        rename Fr _ _ _ _ => F'
        rename News _ _ _ _ => N'
        have hsl := slice_nat x (some (st : Int)) (some (o : Int)) st o (.inr rfl) (.inr rfl)
        refine ⟨_, F', newsTail N', ⟨by rfl, by rfl, p + 1, none, res ++ [(x.cps.toList.drop st).take (o - st)], _, tk, vs ++ [_], n + 1, by rfl, by rfl, (by
          have := N'.get (.head _)
          rw [List.push_toArray] at this
          exact this), ?_, by rw [hnext]; simp [stp, hso], by simp; omega, ?_, by omega, by intro o ho; cases ho⟩, rfl, rfl⟩
        · rw [List.map_append]
          refine StrsAre.append' h6 ?_
          rw [hsl]
          exact .cons _ _ .nil
        · intro r hr
          rcases List.mem_append.mp hr with hr | hr
          · exact h9 r hr
          · rw [List.mem_singleton.mp hr, List.length_take, List.length_drop]
            simp only [Str.length, Array.length_toList]
            omega
  · rw [if_neg (by simpa using hc)]
    iterate 2 walk1
    dsimp only
    iterate 1 walk1
    refine ⟨_, F, newsTail N, ⟨by rfl, by rfl, st, op, res, tk1, tk2, vs, n, by rfl, by rfl, h5, h6, ?_, by omega, h9, h10, h11⟩, rfl, rfl⟩
    rw [hnext]; simp [stp, hc]

theorem escs_len : ∀ (r : List Nat) (esc : Bool) (i : Nat), (escs esc i r).length ≤ r.length + (if esc then 1 else 0)
  | [], true, _ => by simp [escs]
  | [], false, _ => by simp [escs]
  | c :: r, true, i => by
    have := escs_len r false (i + 1)
    simp only [escs, List.length_cons, Bool.false_eq_true, if_false, if_true] at *
    omega
  | c :: r, false, i => by
    have h1 := escs_len r false (i + 1)
    have h2 := escs_len r true (i + 1)
    unfold escs
    split <;> simp only [List.length_cons, Bool.false_eq_true, if_false, if_true] at * <;> omega
theorem escs_pos : ∀ (r : List Nat) (esc : Bool) (i : Nat), ∀ q ∈ escs esc i r, q.1 ≤ i + r.length
  | [], true, i => by simp [escs]
  | [], false, _ => by simp [escs]
  | c :: r, true, i => by
    intro q hq
    simp only [escs, List.mem_cons] at hq
    rcases hq with rfl | hq
    · simp
    · have := escs_pos r false (i + 1) q hq
      simp only [List.length_cons]; omega
  | c :: r, false, i => by
    intro q hq
    unfold escs at hq
    split at hq
    · have := escs_pos r true (i + 1) q hq
      simp only [List.length_cons]; omega
    · rcases List.mem_cons.mp hq with rfl | hq
      · simp
      · have := escs_pos r false (i + 1) q hq
        simp only [List.length_cons]; omega

theorem strip_code {w : World} {A : Around} {n : Nat} {s : Shared} {mg mb : Str → Option Value} {x : Str} {t : Tok} {R : Result → Shared → Prop}
    (rm : Room A (n + 1)) (K0 : (hd.heap_39 w.params).In s.heap) (T0 : TopM mg mb s.heap) (hx : x.length ≤ 2000)
    (hR : ∀ s' tk, Later s s' → R (.ok (.ret (.str ⟨(stripL x.cps.toList).toArray⟩ tk))) s') : codeAny (model PP w) A (.call (.ref 45) ⟨[.str x t], []⟩) R s := by
  refine enterL rm K0 T0 (by k_is) (by k_is) (BindsTo.of_eq (binds := [(Str.ofString "addr", .str x t)]) rfl) (locs rfl) (fun h₁ A' rm' F N => ?_) (by decide) rfl rfl rfl
  iterate 8 walk1
  have hcond : (!!(Builtin.Str.occurrences x (Str.ofString "\"") 0 x.length 1).isEmpty) = !(x.cps.toList.contains 34) := by
    have := StrLaws.found_one x 34
    rw [show (Str.ofString "\"") = (⟨#[34]⟩ : Str) from by decide]
    rw [this]
    congr 1
    rw [Bool.eq_iff_iff, decide_eq_true_eq, List.contains_iff_mem]
  rw [hcond]
  cases hq : x.cps.toList.contains 34
  · rw [if_pos (by rfl)]
    iterate 4 walk1
    dsimp only
    intro htk
    have e : stripL x.cps.toList = x.cps.toList := by unfold stripL; rw [hq]; rfl
    have h2 := hR ⟨h₁, s.gens, s.drawn, _, s.os⟩ t (later_of F (fun x => x) rfl htk)
    rw [e] at h2
    exact h2
  · rw [if_neg (by decide)]
    iterate 18 walk1
    refine wpAny_For ?_ (fun _ => rfl)
    iterate 7 walk1
    rename Fr _ _ _ _ => F'
    rename News _ _ _ _ => N'
    rename_i Rl h3 l1 h4
    refine call_it rm'.lt K0 T0 F' fun a s₂ gs F₂ up₂ ha hsz hgens hbare hos htk hgen hat => ?_
    refine wpAny_pyIter_gen hgen ?_
    have hRL : Rl ≠ s.heap.objs.size := (N' _ (.head _)).2.1
    have hRb : s.heap.get? Rl = none := (N' _ (.head _)).2.2
    have hRg := (N' _ (.head _)).1
    have haR : a ≠ Rl := fun e => Nat.lt_irrefl a (Nat.lt_of_lt_of_le (e ▸ Heap.lt_size hRg) hsz)
    have haL : a ≠ s.heap.objs.size := fun e => Nat.lt_irrefl a (Nat.lt_of_lt_of_le (e ▸ F'.ns.lt) hsz)
    have hlen := escs_len x.cps.toList false 0
    have hxl : x.cps.toList.length = x.length := by simp [Str.length]
    simp only [Bool.false_eq_true, if_false, Nat.add_zero] at hlen
    refine for_gen (L := s.heap.objs.size) (cm := [s.heap.objs.size, Rl]) (m := _) (Rv := fun _ => False) rm'.hh rm'.lt T0.nolimit rfl rfl rfl rfl (by simp [haL, haR]) ha (by simp)
      (StripJ x t Rl (escs false 0 x.cps.toList)) ?_ ?_ ?_ ?_ ?_ F₂ ?_ (hat A' _ rm'.hh ?_)
    · rintro j m h h' hk ⟨h1, h2, st, op, res, tk1, tk2, vs, n, h3, h4, h5, r⟩
      exact ⟨h1, h2, st, op, res, tk1, tk2, vs, n, h3, h4, hk Rl _ (by simp) hRL h5, r⟩
    · rintro j m h ⟨h1, h2, st, op, res, tk1, tk2, vs, n, h3, h4, h5, r⟩ b hb hbL
      simp only [List.mem_cons, List.not_mem_nil, or_false] at hb
      rcases hb with rfl | rfl
      · exact absurd rfl hbL
      · rw [h5]; rfl
    · intro j p c tk tk' m s₁ own hit J F₃ hown N₃
      have hj : j < (escs false 0 x.cps.toList).length := by
        rcases Nat.lt_or_ge j (escs false 0 x.cps.toList).length with h | h
        · exact h
        · rw [List.getElem?_eq_none h] at hit; cases hit
      have hp := escs_pos _ _ _ _ (List.mem_of_getElem? hit)
      exact strip_step K0 T0 rm'.hh hRb hRL hx (by simp only at hp; omega) (by omega) hit J F₃ hown N₃
    · intro s' m' Fe J hge hose
      obtain ⟨h1, h2, st, op, res, tk1, tk2, vs, n, h3, h4, h5, h6, h7, h8, h9, h10, h11⟩ := J
      rw [stripM_of h1 h2 h3 h4] at Fe
      unfold stripM at Fe
      clear F₂ F' N' hat
      have Ne := newsCons hRL hRb h5 (News.nil : News s.heap s.heap.objs.size s'.heap [])
      rw [List.take_length] at h7
      have hvs : vs.length = res.length := by rw [h6.len_eq, List.length_map]
      iterate 13 walk1
      by_cases hst : st < x.length
      · rw [if_pos (by simpa using hst)]
        iterate 17 walk1
        rename Fr _ _ _ _ => F₂
        rename News _ _ _ _ => N₂
        refine append_head F₂ N₂ (fun q hq => nomatch hq) (fun h' F₃ N₃ => ?_) (by rw [List.size_toArray, sizeLine_eq]; omega)
        dsimp only
        have hsl := slice_nat x (some (st : Int)) none st x.length (.inr rfl) (.inl ⟨rfl, Nat.le_refl _⟩)
        rw [List.take_of_length_le (by rw [List.length_drop, hxl]; omega)] at hsl
        iterate 10 walk1
        have hN := N₃.get (.head _)
        rw [List.push_toArray] at hN
        have h6' : ∀ tq, StrsAre (vs ++ [.str (Txt.slice x (some (st : Int)) none) tq]) ((res ++ [x.cps.toList.drop st]).map fun r => (⟨r.toArray⟩ : Str)) := by
          intro tq
          rw [List.map_append, hsl]
          exact StrsAre.append' h6 (.cons _ _ .nil)
        refine join_list ⟨_, hN, rfl, _, rfl⟩ (h6' _) ?_ fun t' k => ?_
        · have h0 := sum_le (N := 2000) (res ++ [x.cps.toList.drop st]) (fun r hr => by
            rcases List.mem_append.mp hr with hr | hr
            · have := h9 r hr; omega
            · rw [List.mem_singleton.mp hr, List.length_drop, hxl]; omega)
          have hz : (Str.ofString "").length = 0 := by decide
          rw [hz]
          simp only [List.length_append, List.length_cons, List.length_nil] at h0
          omega
        · intro htk'
          rw [join_empty]
          have e : stripL x.cps.toList = (res ++ [x.cps.toList.drop st]).flatten := by
            unfold stripL
            rw [hq, if_pos rfl, h7]
            dsimp only
            rw [if_pos (by rw [hxl]; exact hst)]
          rw [← e]
          exact hR _ _ (later_of F₃ (fun q => (allBare_onlyQ hbare (hgens ▸ hge) q)) (hose.trans hos) htk')
      · rw [if_neg (by simpa using hst)]
        iterate 11 walk1
        refine join_list ⟨_, h5, rfl, _, rfl⟩ h6 ?_ fun t' k => ?_
        · have h0 := sum_le (N := 2000) res (fun r hr => by have := h9 r hr; omega)
          have hz : (Str.ofString "").length = 0 := by decide
          rw [hz]
          omega
        · intro htk'
          rw [join_empty]
          have e : stripL x.cps.toList = res.flatten := by
            unfold stripL
            rw [hq, if_pos rfl, h7]
            dsimp only
            rw [if_neg (by rw [hxl]; exact hst)]
          rw [← e]
          exact hR _ _ (later_of Fe (fun q => (allBare_onlyQ hbare (hgens ▸ hge) q)) (hose.trans hos) htk')
    · intro v s' hf; exact hf.elim
    · refine ⟨by rfl, by rfl, 0, none, [], _, 0, [], _, by rfl, by rfl, up₂ _ _ hRg, .nil, by simp, by simp, by simp, by omega, by simp⟩
    · intro b hb
      simp only [List.mem_cons, List.not_mem_nil, or_false] at hb
      rcases hb with rfl | rfl
      · obtain ⟨o, _, _, ho, _⟩ := F'.ns
        rw [ho]; rfl
      · rw [hRg]; rfl
end Mine
end

section
open PySem PySem.W PySem.Calls PyProof.Rows
open Sem (wp)
set_option Elab.async false
set_option maxRecDepth 100000
set_option maxHeartbeats 8000000
namespace Mine
theorem fillC3 : (∀ P, hd.heap_39 P = hd.heap_39 P) ∧ PySem.Challenge.rw_tr0011_01.foot = 4 := by
  k_fill
  exact ⟨fun _ => rfl, rfl⟩

def chk : List (Nat × List Nat) → Int → Bool
  | [], n => n == 0
  | q :: r, n => if q.2 = [40] then chk r (n + 1) else if q.2 = [41] then (if n - 1 < 0 then false else chk r (n - 1)) else chk r n
def checkL (xs : List Nat) : Bool := chk (escs false 0 (stripL xs)) 0

def checkM (xt op : Value) (rest : Str → Option Value) : Str → Option Value := fun y =>
  if y = Str.ofString "addr" then some xt else if y = Str.ofString "opens" then some op else rest y
theorem checkM_of {m : Str → Option Value} {xt op : Value} (h1 : m (Str.ofString "addr") = some xt) (h2 : m (Str.ofString "opens") = some op) : m = checkM xt op m := by
  funext y
  unfold checkM
  by_cases e1 : y = Str.ofString "addr"
  · rw [if_pos e1, e1, h1]
  by_cases e2 : y = Str.ofString "opens"
  · rw [if_neg e1, if_pos e2, e2, h2]
  rw [if_neg e1, if_neg e2]

structure CheckJ (x : Str) (t : Tok) (items : List (Nat × List Nat)) (j : Nat) (m : Str → Option Value) (h : Heap) : Prop where
  addr : m (Str.ofString "addr") = some (.str x t)
  opens : ∃ (n : Int) (tk : Tok), m (Str.ofString "opens") = some (.int n tk) ∧ chk items 0 = chk (items.drop j) n ∧ 0 ≤ n ∧ n ≤ j

theorem check_code {w : World} {A : Around} {n : Nat} {s : Shared} {mg mb : Str → Option Value} {x : Str} {t : Tok} {R : Result → Shared → Prop}
    (rm : Room A (n + 2)) (K0 : (hd.heap_39 w.params).In s.heap) (T0 : TopM mg mb s.heap) (hx : x.length ≤ 2000)
    (hR : ∀ s', Later s s' → R (.ok (.ret (.bool (checkL x.cps.toList)))) s') : codeAny (model PP w) A (.call (.ref 52) ⟨[.str x t], []⟩) R s := by
  refine enterL rm K0 T0 (by k_is) (by k_is) (BindsTo.of_eq (binds := [(Str.ofString "addr", .str x t)]) rfl) (locs rfl) (fun h₁ A' rm' F N => ?_) (by decide) rfl rfl rfl
  iterate 10 walk1
  refine wpAny_call (strip_code rm' (K0.keeps F.keep) (T0.keeps F.keep) hx fun s₂ tk₂ hl => ?_)
  replace F := hl.fr F
  replace N := hl.news N
  generalize hy : (⟨(stripL x.cps.toList).toArray⟩ : Str) = y
  have hyl : y.cps.toList = stripL x.cps.toList := by rw [← hy]
  dsimp only
  iterate 7 walk1
  refine wpAny_For ?_ (fun _ => rfl)
  iterate 7 walk1
  rename Fr _ _ _ _ => F'
  refine call_it rm'.lt K0 T0 F' fun a s₃ gs F₃ up₃ ha hsz hgens hbare hos htk hgen hat => ?_
  refine wpAny_pyIter_gen hgen ?_
  refine for_gen (L := s.heap.objs.size) (cm := [s.heap.objs.size]) (m := _) (Rv := fun v => v = .bool (checkL x.cps.toList)) rm'.hh rm'.lt T0.nolimit rfl rfl rfl rfl ?_ ha (by simp)
      (CheckJ y tk₂ (escs false 0 y.cps.toList)) ?_ ?_ ?_ ?_ ?_ F₃ ?_ (hat A' _ rm'.hh ?_)
  · rw [List.mem_singleton]
    exact fun e => Nat.lt_irrefl a (Nat.lt_of_lt_of_le (e ▸ F'.ns.lt) hsz)
  · rintro j m h h' hk ⟨h1, h2⟩; exact ⟨h1, h2⟩
  · rintro j m h _ b hb hbL
    exact absurd (List.mem_singleton.mp hb) hbL
  · rintro j p c tk tk' m s₁ own hit ⟨h1, o, tko, h2, h3, h4, h5⟩ F₄ hown N₄
    rw [checkM_of h1 h2] at F₄
    dsimp only [checkM] at F₄
    clear F₃ F' hat
    have hdrop : (escs false 0 y.cps.toList).drop j = (p, c) :: (escs false 0 y.cps.toList).drop (j + 1) := by
      rw [List.drop_eq_getElem?_toList_append, hit]; rfl
    rw [hdrop] at h3
    have hch : chk ((p, c) :: (escs false 0 y.cps.toList).drop (j + 1)) o = if c = [40] then chk ((escs false 0 y.cps.toList).drop (j + 1)) (o + 1) else if c = [41] then (if o - 1 < 0 then false else chk ((escs false 0 y.cps.toList).drop (j + 1)) (o - 1)) else chk ((escs false 0 y.cps.toList).drop (j + 1)) o := rfl
    rw [hch] at h3
    have hcx : checkL x.cps.toList = chk (escs false 0 y.cps.toList) 0 := by rw [hyl]; rfl
    iterate 7 walk1
    rw [str1_eq c 40 _ (by decide)]
    by_cases hc : c = [40]
    · rw [if_pos (by simpa using hc)]
      rw [if_pos hc] at h3
      iterate 7 walk1
      dsimp only
      iterate 3 walk1
      rename Fr _ _ _ _ => F'
      rename News _ _ _ _ => N'
      exact ⟨_, F', N', ⟨by rfl, o + 1, _, by rfl, h3, by omega, by omega⟩, rfl, rfl⟩
    · rw [if_neg (by simpa using hc)]
      rw [if_neg hc] at h3
      iterate 8 walk1
      rw [str1_eq c 41 _ (by decide)]
      by_cases hc1 : c = [41]
      · rw [if_pos (by simpa using hc1)]
        rw [if_pos hc1] at h3
        iterate 14 walk1
        by_cases ho : o - 1 < 0
        · rw [if_pos ho] at h3
          rw [if_pos (decide_eq_true ho)]
          iterate 4 walk1
          dsimp only
          rename Fr _ _ _ _ => F'
          refine ⟨?_, F'.keep, rfl, rfl⟩
          rw [hcx, h3]
        · rw [if_neg ho] at h3
          rw [if_neg (by rw [decide_eq_false ho]; decide)]
          iterate 2 walk1
          dsimp only
          iterate 3 walk1
          rename Fr _ _ _ _ => F'
          rename News _ _ _ _ => N'
          exact ⟨_, F', N', ⟨by rfl, o - 1, _, by rfl, h3, by omega, by omega⟩, rfl, rfl⟩
      · rw [if_neg (by simpa using hc1)]
        rw [if_neg hc1] at h3
        iterate 2 walk1
        dsimp only
        iterate 2 walk1
        rename Fr _ _ _ _ => F'
        rename News _ _ _ _ => N'
        exact ⟨_, F', N', ⟨by rfl, o, _, by rfl, h3, by omega, by omega⟩, rfl, rfl⟩
  · intro s' m' Fe J hge hose
    obtain ⟨h1, o, tko, h2, h3, h4, h5⟩ := J
    rw [checkM_of h1 h2] at Fe
    unfold checkM at Fe
    clear F₃ F' hat
    rw [List.drop_length] at h3
    have Ne := (News.nil : News s.heap s.heap.objs.size s'.heap [])
    iterate 6 walk1
    dsimp only
    intro htk'
    have e : checkL x.cps.toList = (o == 0) := by
      show chk (escs false 0 (stripL x.cps.toList)) 0 = _
      rw [← hyl, h3]; rfl
    rw [← e]
    exact hR _ ⟨Fe.keep, fun q => (allBare_onlyQ hbare (hgens ▸ hge) (hl.gens q)), hose.trans (hos.trans hl.os), htk'⟩
  · rintro v s' rfl hk hge hose
    dsimp only
    intro htk'
    exact hR _ ⟨hk, fun q => (allBare_onlyQ hbare (hgens ▸ hge) (hl.gens q)), hose.trans (hos.trans hl.os), htk'⟩
  · refine ⟨by rfl, 0, _, by rfl, by simp, by simp, by simp⟩
  · intro b hb
    rw [List.mem_singleton.mp hb]
    obtain ⟨o, _, _, ho, _⟩ := F'.ns
    rw [ho]; rfl
end Mine
end

section
open PySem PySem.W PySem.Calls PyProof.Rows
set_option Elab.async false
namespace Mine
/-- one sign's stand-in -/
def sw (c : Nat) (z : List Nat) (l : List Nat) : List Nat := l.flatMap fun k => if k = c then z else [k]
theorem sw_free (c : Nat) (z : List Nat) : ∀ l : List Nat, c ∉ l → sw c z l = l
  | [], _ => rfl
  | k :: r, h => by
    have h1 : ¬ k = c := fun e => h (e ▸ List.mem_cons_self ..)
    have ih := sw_free c z r (fun m => h (List.mem_cons_of_mem _ m))
    unfold sw at ih ⊢
    rw [List.flatMap_cons, if_neg h1, ih]; rfl
theorem sw_append (c : Nat) (z a b : List Nat) : sw c z (a ++ b) = sw c z a ++ sw c z b := List.flatMap_append ..
theorem sw_join (c : Nat) (z : Str) : ∀ parts : List Str, (∀ p ∈ parts, c ∉ p.cps.toList) → sw c z.cps.toList (Str.join ⟨#[c]⟩ parts).cps.toList = (Str.join z parts).cps.toList
  | [], _ => rfl
  | [p], h => sw_free c _ _ (h p (List.mem_singleton.mpr rfl))
  | p :: q :: r, h => by
    have ih := sw_join c z (q :: r) fun a ha => h a (List.mem_cons_of_mem _ ha)
    have e1 : Str.join ⟨#[c]⟩ (p :: q :: r) = p ++ ⟨#[c]⟩ ++ Str.join ⟨#[c]⟩ (q :: r) := rfl
    have e2 : Str.join z (p :: q :: r) = p ++ z ++ Str.join z (q :: r) := rfl
    rw [e1, e2]
    simp only [Str.cps_append, Array.toList_append]
    rw [sw_append, sw_append, ih, sw_free c _ _ (h p (List.mem_cons_self ..))]
    simp [sw]
theorem replace_sw (x z : Str) (c : Nat) : (Txt.replace x ⟨#[c]⟩ z).cps.toList = sw c z.cps.toList x.cps.toList := by
  rw [StrLaws.replace_one, ← sw_join c z _ (StrLaws.split_free x c), StrLaws.join_split]

def ampS : List Nat := [38, 97, 109, 112, 59]
def gtS : List Nat := [38, 103, 116, 59]
def quotS : List Nat := [38, 113, 117, 111, 116, 59]
def escL (l : List Nat) : List Nat := sw 34 quotS (sw 62 gtS (sw 38 ampS l))
theorem sw_len (c : Nat) (z : List Nat) (hz : 1 ≤ z.length) : ∀ l : List Nat, (sw c z l).length ≤ l.length * z.length
  | [] => Nat.zero_le _
  | k :: r => by
    have ih := sw_len c z hz r
    unfold sw at ih ⊢
    rw [List.flatMap_cons, List.length_append, List.length_cons, Nat.add_mul]
    have : (if k = c then z else [k]).length ≤ z.length := by split <;> simp <;> omega
    omega
end Mine
end

section
open PySem PySem.W PySem.Calls PyProof.Rows
open Sem (wp)
set_option Elab.async false
set_option maxRecDepth 100000
set_option maxHeartbeats 8000000
namespace Mine
theorem fillC4 : (∀ P, hd.heap_39 P = hd.heap_39 P) ∧ PySem.Challenge.rw_tr0011_01.foot = 4 := by
  k_fill
  exact ⟨fun _ => rfl, rfl⟩

def escDef : List Stmt × Scope := match PP.main.body.find? (fun st => match st with | .FunctionDef n _ _ _ _ _ _ _ _ _ => n == Str.ofString "_escape_attrib_html" | _ => false) with
  | some (.FunctionDef _ _ b _ _ _ sc _ _ _) => (b, sc)
  | _ => ([], default)
def escTry : List Stmt := match escDef.1.headD (.Pass default) with | .Try b _ _ _ _ => b | _ => []
abbrev escEnv (L : Addr) (cd : Value) : Env := envOf (Str.ofString "_escape_attrib_html") escDef.2 L 83 cd

theorem found_lit (x : Str) (c : Nat) (y : Str) (hy : y = ⟨#[c]⟩) : (!(Builtin.Str.occurrences x y 0 x.length 1).isEmpty) = x.cps.toList.contains c := by
  subst hy
  rw [StrLaws.found_one, Bool.eq_iff_iff, decide_eq_true_eq, List.contains_iff_mem]

def escPost (base : Heap) (L : Addr) (y : List Nat) (s : Shared) (f : Flow) (s' : Shared) : Prop :=
  f = .next ∧ (∃ m' t', Fr base L s'.heap m' ∧ m' (Str.ofString "text") = some (.str ⟨y.toArray⟩ t')) ∧ s'.gens = s.gens ∧ s'.os = s.os

section
variable {w : World} {A : Around} {base : Heap} {L : Addr} {cd : Value} {s : Shared} {m : Str → Option Value} {x : Str} {t : Tok} {mg mb : Str → Option Value}
theorem esc_if1 (K0 : (hd.heap_39 w.params).In base) (T0 : TopM mg mb base) (F : Fr base L s.heap m) (hm : m (Str.ofString "text") = some (.str x t)) (hx : x.length ≤ 100000) :
    wpAny (model PP w) A (exec (escTry.getD 0 (.Pass default)) (escEnv L cd)) (escPost base L (sw 38 ampS x.cps.toList) s) (fun _ _ => False) s := by
  have hF : Fr base L s.heap (fun y => if y = Str.ofString "text" then some (.str x t) else m y) := by
    have : m = (fun y => if y = Str.ofString "text" then some (.str x t) else m y) := by
      funext y
      by_cases e : y = Str.ofString "text"
      · rw [if_pos e, e, hm]
      · rw [if_neg e]
    rw [← this]; exact F
  clear F
  have N := (News.nil : News base L s.heap [])
  refine wpAny_If ?_
  iterate 3 walk1
  walk1
  refine truthy_bool ?_
  rw [found_lit x 38 _ (by decide)]
  cases hc : x.cps.toList.contains 38
  · rw [if_neg (by decide)]
    refine wpAny_execs_nil ?_
    refine ⟨rfl, ⟨_, t, hF, ?_⟩, rfl, rfl⟩
    rw [sw_free]
    · rfl
    · intro hm'; rw [List.contains_iff_mem.mpr hm'] at hc; cases hc
  · rw [if_pos rfl]
    refine wpAny_execs_cons ?_
    iterate 10 walk1
    refine SC.replaceW (Nat.succ_ne_zero _) (Nat.succ_ne_zero _) (Nat.ne_of_lt (Nat.lt_succ_self _)) (by decide) (by omega) (by decide) fun t' k => ?_
    iterate 3 walk1
    rename Fr _ _ _ _ => F'
    refine ⟨rfl, ⟨_, t', F', ?_⟩, rfl, rfl⟩
    have := replace_sw x (Str.ofString "&amp;") 38
    rw [show (Str.ofString "&amp;").cps.toList = ampS from by decide] at this
    rw [← this]
    rfl
theorem esc_if2 (K0 : (hd.heap_39 w.params).In base) (T0 : TopM mg mb base) (F : Fr base L s.heap m) (hm : m (Str.ofString "text") = some (.str x t)) (hx : x.length ≤ 100000) :
    wpAny (model PP w) A (exec (escTry.getD 1 (.Pass default)) (escEnv L cd)) (escPost base L (sw 62 gtS x.cps.toList) s) (fun _ _ => False) s := by
  have hF : Fr base L s.heap (fun y => if y = Str.ofString "text" then some (.str x t) else m y) := by
    have : m = (fun y => if y = Str.ofString "text" then some (.str x t) else m y) := by
      funext y
      by_cases e : y = Str.ofString "text"
      · rw [if_pos e, e, hm]
      · rw [if_neg e]
    rw [← this]; exact F
  clear F
  have N := (News.nil : News base L s.heap [])
  refine wpAny_If ?_
  iterate 3 walk1
  walk1
  refine truthy_bool ?_
  rw [found_lit x 62 _ (by decide)]
  cases hc : x.cps.toList.contains 62
  · rw [if_neg (by decide)]
    refine wpAny_execs_nil ?_
    refine ⟨rfl, ⟨_, t, hF, ?_⟩, rfl, rfl⟩
    rw [sw_free]
    · rfl
    · intro hm'; rw [List.contains_iff_mem.mpr hm'] at hc; cases hc
  · rw [if_pos rfl]
    refine wpAny_execs_cons ?_
    iterate 10 walk1
    refine SC.replaceW (Nat.succ_ne_zero _) (Nat.succ_ne_zero _) (Nat.ne_of_lt (Nat.lt_succ_self _)) (by decide) (by omega) (by decide) fun t' k => ?_
    iterate 3 walk1
    rename Fr _ _ _ _ => F'
    refine ⟨rfl, ⟨_, t', F', ?_⟩, rfl, rfl⟩
    have := replace_sw x (Str.ofString "&gt;") 62
    rw [show (Str.ofString "&gt;").cps.toList = gtS from by decide] at this
    rw [← this]
    rfl
theorem esc_if3 (K0 : (hd.heap_39 w.params).In base) (T0 : TopM mg mb base) (F : Fr base L s.heap m) (hm : m (Str.ofString "text") = some (.str x t)) (hx : x.length ≤ 100000) :
    wpAny (model PP w) A (exec (escTry.getD 2 (.Pass default)) (escEnv L cd)) (escPost base L (sw 34 quotS x.cps.toList) s) (fun _ _ => False) s := by
  have hF : Fr base L s.heap (fun y => if y = Str.ofString "text" then some (.str x t) else m y) := by
    have : m = (fun y => if y = Str.ofString "text" then some (.str x t) else m y) := by
      funext y
      by_cases e : y = Str.ofString "text"
      · rw [if_pos e, e, hm]
      · rw [if_neg e]
    rw [← this]; exact F
  clear F
  have N := (News.nil : News base L s.heap [])
  refine wpAny_If ?_
  iterate 3 walk1
  walk1
  refine truthy_bool ?_
  rw [found_lit x 34 _ (by decide)]
  cases hc : x.cps.toList.contains 34
  · rw [if_neg (by decide)]
    refine wpAny_execs_nil ?_
    refine ⟨rfl, ⟨_, t, hF, ?_⟩, rfl, rfl⟩
    rw [sw_free]
    · rfl
    · intro hm'; rw [List.contains_iff_mem.mpr hm'] at hc; cases hc
  · rw [if_pos rfl]
    refine wpAny_execs_cons ?_
    iterate 10 walk1
    refine SC.replaceW (Nat.succ_ne_zero _) (Nat.succ_ne_zero _) (Nat.ne_of_lt (Nat.lt_succ_self _)) (by decide) (by omega) (by decide) fun t' k => ?_
    iterate 3 walk1
    rename Fr _ _ _ _ => F'
    refine ⟨rfl, ⟨_, t', F', ?_⟩, rfl, rfl⟩
    have := replace_sw x (Str.ofString "&quot;") 34
    rw [show (Str.ofString "&quot;").cps.toList = quotS from by decide] at this
    rw [← this]
    rfl
end

theorem esc_code {w : World} {A : Around} {n : Nat} {s : Shared} {mg mb : Str → Option Value} {x : Str} {t : Tok} {R : Result → Shared → Prop}
    (rm : Room A (n + 1)) (K0 : (hd.heap_39 w.params).In s.heap) (T0 : TopM mg mb s.heap) (hx : x.length ≤ 1000)
    (hR : ∀ s' tk, Later s s' → R (.ok (.ret (.str ⟨(escL x.cps.toList).toArray⟩ tk))) s') : codeAny (model PP w) A (.call (.ref 83) ⟨[.str x t], []⟩) R s := by
  refine enterL rm K0 T0 (by k_is) (by k_is) (BindsTo.of_eq (binds := [(Str.ofString "text", .str x t)]) rfl) (locs rfl) (fun h₁ A' rm' F N => ?_) (by decide) rfl rfl rfl
  have hl : x.cps.toList.length = x.length := by simp [Str.length]
  have l1 := sw_len 38 ampS (by decide) x.cps.toList
  have l2 := sw_len 62 gtS (by decide) (sw 38 ampS x.cps.toList)
  rw [show ampS.length = 5 from rfl] at l1
  rw [show gtS.length = 4 from rfl] at l2
  refine wpAny_execs_cons (wpAny_Try_except ?_)
  refine wpAny_mono (E := fun _ _ => False) ?_ (fun _ _ h => h) (fun _ _ h => h.elim)
  refine wpAny_execs_cons (wpAny_mono (esc_if1 K0 T0 F (by rfl) (by omega)) (fun f s₁ h => ?_) fun _ _ h => h)
  obtain ⟨rfl, ⟨m₁, t₁, F₁, hm₁⟩, hg₁, ho₁⟩ := h
  refine wpAny_execs_cons (wpAny_mono (esc_if2 K0 T0 F₁ hm₁ (by simp only [Str.length, List.size_toArray]; omega)) (fun f s₂ h => ?_) fun _ _ h => h)
  obtain ⟨rfl, ⟨m₂, t₂, F₂, hm₂⟩, hg₂, ho₂⟩ := h
  refine wpAny_execs_cons (wpAny_mono (esc_if3 K0 T0 F₂ hm₂ (by simp only [Str.length, List.size_toArray]; omega)) (fun f s₃ h => ?_) fun _ _ h => h)
  obtain ⟨rfl, ⟨m₃, t₃, F₃, hm₃⟩, hg₃, ho₃⟩ := h
  refine wpAny_execs_cons (wpAny_Return_some (ld F₃ hm₃ ?_))
  dsimp only
  intro htk
  exact hR _ _ ⟨F₃.keep, fun q => by rw [hg₃, hg₂, hg₁]; exact q, ho₃.trans (ho₂.trans ho₁), htk⟩
end Mine
end

section
open PySem PySem.W PySem.Calls PyProof.Rows
set_option Elab.async false
set_option maxRecDepth 100000
set_option maxHeartbeats 4000000
namespace Mine
open Sre

theorem runFor_stop {m : Sre.M} (h : m.outcome.isSome = true) : ∀ n, M.runFor n m = m
  | 0 => rfl
  | n + 1 => by unfold M.runFor; rw [if_pos h]
theorem runFor_add : ∀ (a b : Nat) (m : Sre.M), M.runFor (a + b) m = M.runFor b (M.runFor a m)
  | 0, b, m => by rw [Nat.zero_add]; rfl
  | a + 1, b, m => by
    rw [Nat.add_right_comm]
    by_cases h : m.outcome.isSome = true
    · rw [runFor_stop h, runFor_stop h, runFor_stop h]
    · have e1 : M.runFor (a + b + 1) m = M.runFor (a + b) m.step := by conv => lhs; unfold M.runFor; rw [if_neg h]
      have e2 : M.runFor (a + 1) m = M.runFor a m.step := by conv => lhs; unfold M.runFor; rw [if_neg h]
      rw [e1, e2, runFor_add a b]
theorem runFor_le {a b : Nat} {m : Sre.M} (h : (M.runFor a m).outcome.isSome = true) (hab : a ≤ b) : M.runFor b m = M.runFor a m := by
  obtain ⟨c, rfl⟩ := Nat.le.dest hab
  rw [runFor_add, runFor_stop h]

def code1 : Array Nat := #[14, 4, 0, 1, 1, 6, 1, 16, 46, 1]
def code2 : Array Nat := #[14, 9, 4, 1, 2, 16, 10, 16, 13, 0, 7, 7, 16, 13, 16, 10, 15, 18, 5, 16, 10, 15, 13, 11, 16, 13, 5, 5, 0, 16, 10, 1, 15, 2, 0, 1]

abbrev mk (code text : Array Nat) (start pos handed pc : Nat) (outermost : Bool) (frames : List Sre.Frame) (weight : Nat) (answer : Option Bool) (seen : Sre.Seen) (outcome : Option Sre.Outcome) : Sre.M :=
  { code, text, lim := text.size, start, lastStart := text.size, pc, pos, handed, outermost, marks := #[], frames, weight, answer, seen, outcome }
abbrev fr0' (pc s : Nat) (b : Bool) : Sre.Frame := { wait := .nextStart, pc, pos := s, outermost := b }


section
variable {text : Array Nat} {s h : Nat} {b : Bool} {seen : Sre.Seen}
theorem step1_at : (mk code1 text s s h 5 b [fr0' 5 s b] 1 none seen none).step =
    if (s == 0 || text.getD (s - 1) 0 == 10) = true then mk code1 text s s h 7 b [fr0' 5 s b] 1 none ((seen.add 6).add 44) none
    else mk code1 text s s h 5 b [fr0' 5 s b] 1 (some false) ((seen.add 6).add 44) none := by
  rfl
theorem acc1 {c : Nat} : accepts code1 7 c seen = .ok (c == 46, seen) := rfl
theorem step1_over (hs : text.size ≤ s) : (mk code1 text s s h 7 b [fr0' 5 s b] 1 none seen none).step = mk code1 text s s h 7 b [fr0' 5 s b] 1 (some false) (seen.add 16) none := by
  show (if s ≥ text.size then mk code1 text s s h 7 b [fr0' 5 s b] 1 (some false) (seen.add 16) none else _) = _
  rw [if_pos hs]
theorem step1_lit {yes : Bool} (hs : s < text.size) (hc : (text.getD s 0 == 46) = yes) : (mk code1 text s s h 7 b [fr0' 5 s b] 1 none seen none).step =
    if yes = true then mk code1 text s (s + 1) h 9 b [fr0' 5 s b] 1 none (seen.add 16) none else mk code1 text s s h 7 b [fr0' 5 s b] 1 (some false) (seen.add 16) none := by
  have e : accepts code1 7 (text.getD s 0) (seen.add 16) = .ok (yes, seen.add 16) := by rw [acc1, hc]
  show (if s ≥ text.size then mk code1 text s s h 7 b [fr0' 5 s b] 1 (some false) (seen.add 16) none else
    (match accepts code1 7 (text.getD s 0) (seen.add 16) with
    | .error why => M.stick _ why
    | .ok (false, seen) => mk code1 text s s h 7 b [fr0' 5 s b] 1 (some false) seen none
    | .ok (true, seen) => mk code1 text s (s + 1) h 9 b [fr0' 5 s b] 1 none seen none)) = _
  rw [if_neg (Nat.not_le.mpr hs), e]
  cases yes <;> rfl
theorem step1_ok {p : Nat} : (mk code1 text s p h 9 b [fr0' 5 s b] 1 none seen none).step = mk code1 text s p p 9 b [fr0' 5 s b] 1 (some true) (seen.add 1) none := by
  cases b <;> rfl
theorem step1_won {p pc : Nat} : (mk code1 text s p h pc b [fr0' 5 s b] 1 (some true) seen none).step = mk code1 text s s h 5 b [] 0 (some true) seen none := by
  rfl
theorem step1_done {p pc : Nat} {yes : Bool} : (mk code1 text s p h pc b [] 0 (some yes) seen none).step = mk code1 text s p h pc b [] 0 (some yes) seen (some (if yes = true then .matched else .failed)) := by
  rfl
theorem step1_next {p pc : Nat} : (mk code1 text s p h pc b [fr0' 5 s b] 1 (some false) seen none).step =
    if s < text.size then mk code1 text (s + 1) (s + 1) (s + 1) 5 false [fr0' 5 (s + 1) false] 1 none seen none
    else mk code1 text s s h 5 b [] 0 (some false) seen none := by
  rfl
theorem start1 {p : Nat} (hp : p < text.size) : forSearch code1 text 0 p text.size false = mk code1 text p p p 5 true [fr0' 5 p true] 1 none (({} : Sre.Seen).add 14) none := by
  have e : (decide (p > text.size) || decide (text.size - p < 1)) = false := by simp; omega
  show (if (decide (p > text.size) || decide (text.size - p < 1)) = true then _ else mk code1 text p p p 5 true [fr0' 5 p true] 1 none (({} : Sre.Seen).add 14) none) = _
  rw [e]; rfl
theorem start1_end {p : Nat} (hp : text.size ≤ p) : (M.runFor 1 (forSearch code1 text 0 p text.size false)).outcome = some .failed := by
  have e : (decide (p > text.size) || decide (text.size - p < 1)) = true := by simp; omega
  have e2 : forSearch code1 text 0 p text.size false = if (decide (p > text.size) || decide (text.size - p < 1)) = true then ({ mk code1 text p p p 5 true [] 0 none (({} : Sre.Seen).add 14) none with lastStart := 0 } : Sre.M).say false else mk code1 text p p p 5 true [fr0' 5 p true] 1 none (({} : Sre.Seen).add 14) none := rfl
  rw [e2, if_pos e]
  rfl
end

/-- the first place from s on, f places at most, where P holds -/
def nextAt (P : Nat → Bool) : Nat → Nat → Option Nat
  | 0, _ => none
  | f + 1, s => if P s = true then some s else nextAt P f (s + 1)

def dotAt (text : Array Nat) (q : Nat) : Bool := (q == 0 || text.getD (q - 1) 0 == 10) && text.getD q 0 == 46

def Ends (m : Sre.M) (r : Option (Nat × Nat)) : Prop := match r with
  | some (a, e) => m.outcome = some .matched ∧ m.start = a ∧ m.handed = e
  | none => m.outcome = some .failed

theorem run_step {m m' : Sre.M} {N : Nat} (ho : m.outcome.isSome = false) (hs : m.step = m') : M.runFor (N + 1) m = M.runFor N m' := by
  conv => lhs; unfold M.runFor
  rw [if_neg (by rw [ho]; decide), hs]

theorem nextAt_no {P : Nat → Bool} {f s : Nat} (h : P s = false) : nextAt P (f + 1) s = nextAt P f (s + 1) := by
  conv => lhs; unfold nextAt
  rw [h]; rfl

theorem run1 (text : Array Nat) : ∀ (k s h : Nat) (b : Bool) (seen : Sre.Seen), text.size - s = k → s ≤ text.size →
    ∃ N, N ≤ 6 * (k + 1) ∧ Ends (M.runFor N (mk code1 text s s h 5 b [fr0' 5 s b] 1 none seen none)) ((nextAt (dotAt text) k s).map fun q => (q, q + 1)) := by
  intro k
  induction k with
  | zero =>
    intro s h b seen hk hs
    have hse : text.size ≤ s := by omega
    have fin : ∀ (pc : Nat) (seen : Sre.Seen), M.runFor 2 (mk code1 text s s h pc b [fr0' 5 s b] 1 (some false) seen none) = mk code1 text s s h 5 b [] 0 (some false) seen (some .failed) := by
      intro pc seen
      rw [run_step (by rfl) step1_next, if_neg (by omega), run_step (by rfl) step1_done]; rfl
    by_cases hat : (s == 0 || text.getD (s - 1) 0 == 10) = true
    · refine ⟨4, by omega, ?_⟩
      rw [run_step (by rfl) step1_at, if_pos hat, run_step (by rfl) (step1_over hse), fin]
      rfl
    · refine ⟨3, by omega, ?_⟩
      rw [run_step (by rfl) step1_at, if_neg hat, fin]
      rfl
  | succ k ih =>
    intro s h b seen hk hs
    have hlt : s < text.size := by omega
    have on : ∀ (pc : Nat) (seen : Sre.Seen) (c : Nat), c ≤ 3 → nextAt (dotAt text) (k + 1) s = nextAt (dotAt text) k (s + 1) →
        ∃ N, N ≤ 6 * (k + 1 + 1) - c ∧ Ends (M.runFor N (mk code1 text s s h pc b [fr0' 5 s b] 1 (some false) seen none)) ((nextAt (dotAt text) (k + 1) s).map fun q => (q, q + 1)) := by
      intro pc seen c hc hn
      obtain ⟨N, hN, hE⟩ := ih (s + 1) (s + 1) false seen (by omega) (by omega)
      refine ⟨N + 1, by omega, ?_⟩
      rw [run_step (by rfl) step1_next, if_pos hlt, hn]
      exact hE
    by_cases hat : (s == 0 || text.getD (s - 1) 0 == 10) = true
    · cases hl : (text.getD s 0 == 46) with
      | true =>
        refine ⟨5, by omega, ?_⟩
        rw [run_step (by rfl) step1_at, if_pos hat, run_step (by rfl) (step1_lit hlt hl), if_pos rfl, run_step (by rfl) step1_ok, run_step (by rfl) step1_won, run_step (by rfl) step1_done]
        have : nextAt (dotAt text) (k + 1) s = some s := by unfold nextAt; rw [if_pos (by unfold dotAt; rw [hat, hl]; rfl)]
        rw [this]
        exact ⟨rfl, rfl, rfl⟩
      | false =>
        obtain ⟨N, hN, hE⟩ := on 7 (((seen.add 6).add 44).add 16) 3 (by omega) (nextAt_no (by unfold dotAt; rw [hl]; simp))
        refine ⟨N + 2, by omega, ?_⟩
        rw [run_step (by rfl) step1_at, if_pos hat, run_step (by rfl) (step1_lit hlt hl), if_neg (by decide)]
        exact hE
    · obtain ⟨N, hN, hE⟩ := on 5 ((seen.add 6).add 44) 3 (by omega) (nextAt_no (by unfold dotAt; rw [Bool.not_eq_true] at hat; rw [hat]; simp))
      refine ⟨N + 1, by omega, ?_⟩
      rw [run_step (by rfl) step1_at, if_neg hat]
      exact hE

theorem find1 (text : Array Nat) (p : Nat) : ∃ N, N ≤ 6 * (text.size + 2) ∧ Ends (M.runFor N (forSearch code1 text 0 p text.size false)) ((nextAt (dotAt text) (text.size - p) p).map fun q => (q, q + 1)) := by
  by_cases hp : p < text.size
  · rw [start1 hp]
    obtain ⟨N, hN, hE⟩ := run1 text (text.size - p) p p true (({} : Sre.Seen).add 14) rfl (by omega)
    exact ⟨N, by omega, hE⟩
  · refine ⟨1, by omega, ?_⟩
    rw [show text.size - p = 0 by omega]
    exact start1_end (by omega)
end Mine
end

section
open PySem PySem.W PySem.Calls PyProof.Rows
set_option Elab.async false
set_option maxRecDepth 100000
set_option maxHeartbeats 4000000
namespace Mine
open Sre
abbrev nbf (pc s : Nat) (b : Bool) : Sre.Frame := { wait := .nextBranch, pc, pos := s, outermost := b }
abbrev lnf (pc s : Nat) (b : Bool) : Sre.Frame := { wait := .lookNot, pc, pos := s, outermost := b }
section
variable {text : Array Nat} {s p h wt : Nat} {b : Bool} {seen : Sre.Seen} {fs : List Sre.Frame}

theorem over12 (hs : text.size ≤ p) : (mk code2 text s p h 12 b fs wt none seen none).step = mk code2 text s p h 12 b fs wt (some false) (seen.add 16) none := by
  show (if p ≥ text.size then mk code2 text s p h 12 b fs wt (some false) (seen.add 16) none else _) = _
  rw [if_pos hs]
theorem lit12 {yes : Bool} (hs : p < text.size) (hc : (text.getD p 0 == 13) = yes) : (mk code2 text s p h 12 b fs wt none seen none).step =
    if yes = true then mk code2 text s (p + 1) h 14 b fs wt none (seen.add 16) none else mk code2 text s p h 12 b fs wt (some false) (seen.add 16) none := by
  have e : accepts code2 12 (text.getD p 0) (seen.add 16) = .ok (yes, seen.add 16) := by rw [← hc]; rfl
  show (if p ≥ text.size then mk code2 text s p h 12 b fs wt (some false) (seen.add 16) none else
    (match accepts code2 12 (text.getD p 0) (seen.add 16) with
    | .error why => M.stick _ why
    | .ok (false, seen) => mk code2 text s p h 12 b fs wt (some false) seen none
    | .ok (true, seen) => mk code2 text s (p + 1) h 14 b fs wt none seen none)) = _
  rw [if_neg (Nat.not_le.mpr hs), e]
  cases yes <;> rfl

theorem over14 (hs : text.size ≤ p) : (mk code2 text s p h 14 b fs wt none seen none).step = mk code2 text s p h 14 b fs wt (some false) (seen.add 16) none := by
  show (if p ≥ text.size then mk code2 text s p h 14 b fs wt (some false) (seen.add 16) none else _) = _
  rw [if_pos hs]
theorem lit14 {yes : Bool} (hs : p < text.size) (hc : (text.getD p 0 == 10) = yes) : (mk code2 text s p h 14 b fs wt none seen none).step =
    if yes = true then mk code2 text s (p + 1) h 16 b fs wt none (seen.add 16) none else mk code2 text s p h 14 b fs wt (some false) (seen.add 16) none := by
  have e : accepts code2 14 (text.getD p 0) (seen.add 16) = .ok (yes, seen.add 16) := by rw [← hc]; rfl
  show (if p ≥ text.size then mk code2 text s p h 14 b fs wt (some false) (seen.add 16) none else
    (match accepts code2 14 (text.getD p 0) (seen.add 16) with
    | .error why => M.stick _ why
    | .ok (false, seen) => mk code2 text s p h 14 b fs wt (some false) seen none
    | .ok (true, seen) => mk code2 text s (p + 1) h 16 b fs wt none seen none)) = _
  rw [if_neg (Nat.not_le.mpr hs), e]
  cases yes <;> rfl

theorem over19 (hs : text.size ≤ p) : (mk code2 text s p h 19 b fs wt none seen none).step = mk code2 text s p h 19 b fs wt (some false) (seen.add 16) none := by
  show (if p ≥ text.size then mk code2 text s p h 19 b fs wt (some false) (seen.add 16) none else _) = _
  rw [if_pos hs]
theorem lit19 {yes : Bool} (hs : p < text.size) (hc : (text.getD p 0 == 10) = yes) : (mk code2 text s p h 19 b fs wt none seen none).step =
    if yes = true then mk code2 text s (p + 1) h 21 b fs wt none (seen.add 16) none else mk code2 text s p h 19 b fs wt (some false) (seen.add 16) none := by
  have e : accepts code2 19 (text.getD p 0) (seen.add 16) = .ok (yes, seen.add 16) := by rw [← hc]; rfl
  show (if p ≥ text.size then mk code2 text s p h 19 b fs wt (some false) (seen.add 16) none else
    (match accepts code2 19 (text.getD p 0) (seen.add 16) with
    | .error why => M.stick _ why
    | .ok (false, seen) => mk code2 text s p h 19 b fs wt (some false) seen none
    | .ok (true, seen) => mk code2 text s (p + 1) h 21 b fs wt none seen none)) = _
  rw [if_neg (Nat.not_le.mpr hs), e]
  cases yes <;> rfl

theorem over24 (hs : text.size ≤ p) : (mk code2 text s p h 24 b fs wt none seen none).step = mk code2 text s p h 24 b fs wt (some false) (seen.add 16) none := by
  show (if p ≥ text.size then mk code2 text s p h 24 b fs wt (some false) (seen.add 16) none else _) = _
  rw [if_pos hs]
theorem lit24 {yes : Bool} (hs : p < text.size) (hc : (text.getD p 0 == 13) = yes) : (mk code2 text s p h 24 b fs wt none seen none).step =
    if yes = true then mk code2 text s (p + 1) h 26 b fs wt none (seen.add 16) none else mk code2 text s p h 24 b fs wt (some false) (seen.add 16) none := by
  have e : accepts code2 24 (text.getD p 0) (seen.add 16) = .ok (yes, seen.add 16) := by rw [← hc]; rfl
  show (if p ≥ text.size then mk code2 text s p h 24 b fs wt (some false) (seen.add 16) none else
    (match accepts code2 24 (text.getD p 0) (seen.add 16) with
    | .error why => M.stick _ why
    | .ok (false, seen) => mk code2 text s p h 24 b fs wt (some false) seen none
    | .ok (true, seen) => mk code2 text s (p + 1) h 26 b fs wt none seen none)) = _
  rw [if_neg (Nat.not_le.mpr hs), e]
  cases yes <;> rfl

theorem over29 (hs : text.size ≤ p) : (mk code2 text s p h 29 b fs wt none seen none).step = mk code2 text s p h 29 b fs wt (some false) (seen.add 16) none := by
  show (if p ≥ text.size then mk code2 text s p h 29 b fs wt (some false) (seen.add 16) none else _) = _
  rw [if_pos hs]
theorem lit29 {yes : Bool} (hs : p < text.size) (hc : (text.getD p 0 == 10) = yes) : (mk code2 text s p h 29 b fs wt none seen none).step =
    if yes = true then mk code2 text s (p + 1) h 31 b fs wt none (seen.add 16) none else mk code2 text s p h 29 b fs wt (some false) (seen.add 16) none := by
  have e : accepts code2 29 (text.getD p 0) (seen.add 16) = .ok (yes, seen.add 16) := by rw [← hc]; rfl
  show (if p ≥ text.size then mk code2 text s p h 29 b fs wt (some false) (seen.add 16) none else
    (match accepts code2 29 (text.getD p 0) (seen.add 16) with
    | .error why => M.stick _ why
    | .ok (false, seen) => mk code2 text s p h 29 b fs wt (some false) seen none
    | .ok (true, seen) => mk code2 text s (p + 1) h 31 b fs wt none seen none)) = _
  rw [if_neg (Nat.not_le.mpr hs), e]
  cases yes <;> rfl

theorem jump16 : (mk code2 text s p h 16 b fs wt none seen none).step = mk code2 text s p h 35 b fs wt none (seen.add 15) none := by rfl

theorem jump21 : (mk code2 text s p h 21 b fs wt none seen none).step = mk code2 text s p h 35 b fs wt none (seen.add 15) none := by rfl

theorem jump32 : (mk code2 text s p h 32 b fs wt none seen none).step = mk code2 text s p h 35 b fs wt none (seen.add 15) none := by rfl

theorem won35 : (mk code2 text s p h 35 b fs wt none seen none).step = mk code2 text s p p 35 b fs wt (some true) (seen.add 1) none := by cases b <;> rfl
theorem branch10 (hw : wt < 100) : (mk code2 text s p h 10 b fs wt none seen none).step = mk code2 text s p p 12 b (nbf 11 p b :: fs) (wt + 1) none (seen.add 7) none := by
  show (if wt + 1 + 0 > 16777216 then _ else mk code2 text s p p 12 b (nbf 11 p b :: fs) (wt + 1 + 0) none (seen.add 7) none) = _
  rw [if_neg (by omega)]
theorem alt11 {q pc : Nat} {b' : Bool} (hw : wt < 100) : (mk code2 text s q h pc b' (nbf 11 p b :: fs) (wt + 1) (some false) seen none).step = mk code2 text s p p 19 b (nbf 18 p b :: fs) (wt + 1) none seen none := by
  show (if wt + 1 - 1 + 1 + 0 > 16777216 then _ else mk code2 text s p p 19 b (nbf 18 p b :: fs) (wt + 1 - 1 + 1 + 0) none seen none) = _
  rw [if_neg (by omega)]
  rfl
theorem alt18 {q pc : Nat} {b' : Bool} (hw : wt < 100) : (mk code2 text s q h pc b' (nbf 18 p b :: fs) (wt + 1) (some false) seen none).step = mk code2 text s p p 24 b (nbf 23 p b :: fs) (wt + 1) none seen none := by
  show (if wt + 1 - 1 + 1 + 0 > 16777216 then _ else mk code2 text s p p 24 b (nbf 23 p b :: fs) (wt + 1 - 1 + 1 + 0) none seen none) = _
  rw [if_neg (by omega)]
  rfl
theorem look26 (hw : wt < 100) : (mk code2 text s p h 26 b fs wt none seen none).step = mk code2 text s p p 29 false (lnf 26 p b :: fs) (wt + 1) none (seen.add 5) none := by
  show (if p < 0 then mk code2 text s p h 32 b fs wt none (seen.add 5) none else (if wt + 1 + 0 > 16777216 then _ else mk code2 text s (p - 0) (p - 0) 29 false (lnf 26 p b :: fs) (wt + 1 + 0) none (seen.add 5) none)) = _
  rw [if_neg (by omega), if_neg (by omega)]
  rfl
theorem unlook {q pc : Nat} {b' : Bool} : (mk code2 text s q h pc b' (lnf 26 p b :: fs) (wt + 1) (some false) seen none).step = mk code2 text s p h 32 b fs wt none seen none := by
  rfl
theorem up {q pc pc' : Nat} {b' : Bool} : (mk code2 text s q h pc b' (nbf pc' p b :: fs) (wt + 1) (some true) seen none).step = mk code2 text s p h pc' b fs wt (some true) seen none := by
  rfl
theorem won2 {pc pc' : Nat} {b' : Bool} : (mk code2 text s p h pc b' [fr0' pc' s b] 1 (some true) seen none).step = mk code2 text s s h pc' b [] 0 (some true) seen none := by
  rfl
theorem done2 {pc : Nat} {yes : Bool} : (mk code2 text s p h pc b [] 0 (some yes) seen none).step = mk code2 text s p h pc b [] 0 (some yes) seen (some (if yes = true then .matched else .failed)) := by
  rfl
end

def brk (c : Nat) : Bool := c == 10 || c == 13
def brkAt (text : Array Nat) (q : Nat) : Bool := brk (text.getD q 0)
/-- how many signs the line end at q takes -/
def brkLen (text : Array Nat) (q : Nat) : Nat := if text.getD q 0 == 13 && text.getD (q + 1) 0 == 10 then 2 else 1

theorem inSet2 (c : Nat) (seen : Sre.Seen) : ∃ seen', inSet code2 c code2.size 5 true seen = .ok (brk c, seen') := by
  by_cases h1 : c == 10
  · refine ⟨seen.add 16, ?_⟩
    show (if (c == 10) = true then (.ok (true, seen.add 16) : Except String (Bool × Sre.Seen)) else _) = _
    rw [if_pos h1]
    unfold brk
    rw [h1]; rfl
  · by_cases h2 : c == 13
    · refine ⟨(seen.add 16).add 16, ?_⟩
      show (if (c == 10) = true then _ else if (c == 13) = true then (.ok (true, (seen.add 16).add 16) : Except String (Bool × Sre.Seen)) else _) = _
      rw [if_neg h1, if_pos h2]
      unfold brk
      rw [h2]; simp
    · refine ⟨((seen.add 16).add 16).add 0, ?_⟩
      show (if (c == 10) = true then _ else if (c == 13) = true then (.ok (true, (seen.add 16).add 16) : Except String (Bool × Sre.Seen)) else .ok (!true, ((seen.add 16).add 16).add 0)) = _
      rw [if_neg h1, if_neg h2]
      unfold brk
      rw [Bool.not_eq_true] at h1 h2
      rw [h1, h2]; rfl

theorem admitted2 (m : Sre.M) (hc : m.code = code2) : ∀ (f s : Nat) (seen : Sre.Seen), m.lim ≤ s + f → m.lim = m.text.size → ∃ seen', M.admitted m (f + 1) s seen = .ok (nextAt (brkAt m.text) (m.lim - s) s, seen') := by
  intro f
  induction f with
  | zero =>
    intro s seen hf hl
    refine ⟨seen, ?_⟩
    unfold M.admitted
    rw [if_pos (by omega), show m.lim - s = 0 by omega]; rfl
  | succ f ih =>
    intro s seen hf hl
    by_cases hs : s ≥ m.lim
    · refine ⟨seen, ?_⟩
      unfold M.admitted
      rw [if_pos hs, show m.lim - s = 0 by omega]; rfl
    · obtain ⟨seen1, h1⟩ := inSet2 (m.text.getD s 0) seen
      obtain ⟨seen2, h2⟩ := ih (s + 1) seen1 (by omega) hl
      cases hb : brk (m.text.getD s 0) with
      | true =>
        refine ⟨seen1, ?_⟩
        unfold M.admitted
        rw [if_neg hs, hc, h1, hb]
        dsimp only
        obtain ⟨k, hk⟩ : ∃ k, m.lim - s = k + 1 := ⟨m.lim - s - 1, by omega⟩
        rw [hk]
        unfold nextAt
        rw [if_pos (by unfold brkAt; exact hb)]
      | false =>
        refine ⟨seen2, ?_⟩
        unfold M.admitted
        rw [if_neg hs, hc, h1, hb]
        dsimp only
        rw [h2]
        obtain ⟨k, hk⟩ : ∃ k, m.lim - s = k + 1 := ⟨m.lim - s - 1, by omega⟩
        rw [hk, nextAt_no (by unfold brkAt; exact hb), show m.lim - (s + 1) = k by omega]

theorem run2_at (text : Array Nat) (s : Nat) (seen : Sre.Seen) (hs : s < text.size) (hb : brkAt text s = true) (b : Bool) :
    ∃ N, N ≤ 20 ∧ Ends (M.runFor N (mk code2 text s s s 10 b [fr0' 10 s b] 1 none seen none)) (some (s, s + brkLen text s)) := by
  have fin : ∀ (h pc pc' : Nat) (b' : Bool) (seen : Sre.Seen), Ends (M.runFor 3 (mk code2 text s s h pc b' (nbf pc' s b :: [fr0' 10 s b]) (1 + 1) (some true) seen none)) (some (s, h)) := by
    intro h pc pc' b' seen
    rw [run_step (by rfl) up, run_step (by rfl) won2, run_step (by rfl) done2]
    exact ⟨rfl, rfl, rfl⟩
  have finq : ∀ (q h pc pc' : Nat) (b' : Bool) (seen : Sre.Seen), Ends (M.runFor 3 (mk code2 text s q h pc b' (nbf pc' s b :: [fr0' 10 s b]) (1 + 1) (some true) seen none)) (some (s, h)) := by
    intro q h pc pc' b' seen
    rw [run_step (by rfl) up, run_step (by rfl) won2, run_step (by rfl) done2]
    exact ⟨rfl, rfl, rfl⟩
  cases h13 : (text.getD s 0 == 13) with
  | true =>
    by_cases h2 : s + 1 < text.size ∧ (text.getD (s + 1) 0 == 10) = true
    · refine ⟨8, by omega, ?_⟩
      have e : brkLen text s = 2 := by unfold brkLen; rw [h13, h2.2]; rfl
      rw [e, run_step (by rfl) (branch10 (by omega)), run_step (by rfl) (lit12 hs h13), if_pos rfl, run_step (by rfl) (lit14 h2.1 h2.2), if_pos rfl, run_step (by rfl) jump16, run_step (by rfl) won35]
      exact finq _ _ _ _ _ _
    · have h10 : (text.getD s 0 == 10) = false := by
        have : text.getD s 0 = 13 := by simpa using h13
        rw [this]; rfl
      have e : brkLen text s = 1 := by
        unfold brkLen
        rw [h13]
        by_cases hz : s + 1 < text.size
        · have hn : (text.getD (s + 1) 0 == 10) = false := by
            cases hq : (text.getD (s + 1) 0 == 10) with
            | true => exact absurd ⟨hz, hq⟩ h2
            | false => rfl
          rw [hn]; rfl
        · have : text.getD (s + 1) 0 = 0 := by simp [Array.getD, hz]
          rw [this]; rfl
      have no14 : ∀ (h : Nat) (fs : List Sre.Frame) (wt : Nat) (seen : Sre.Seen), (mk code2 text s (s + 1) h 14 b fs wt none seen none).step = mk code2 text s (s + 1) h 14 b fs wt (some false) (seen.add 16) none := by
        intro h fs wt seen
        by_cases hz : s + 1 < text.size
        · have hn : (text.getD (s + 1) 0 == 10) = false := by
            cases hq : (text.getD (s + 1) 0 == 10) with
            | true => exact absurd ⟨hz, hq⟩ h2
            | false => rfl
          rw [lit14 hz hn]; rfl
        · exact over14 (by omega)
      have no29 : ∀ (h : Nat) (fs : List Sre.Frame) (wt : Nat) (seen : Sre.Seen), (mk code2 text s (s + 1) h 29 false fs wt none seen none).step = mk code2 text s (s + 1) h 29 false fs wt (some false) (seen.add 16) none := by
        intro h fs wt seen
        by_cases hz : s + 1 < text.size
        · have hn : (text.getD (s + 1) 0 == 10) = false := by
            cases hq : (text.getD (s + 1) 0 == 10) with
            | true => exact absurd ⟨hz, hq⟩ h2
            | false => rfl
          rw [lit29 hz hn]; rfl
        · exact over29 (by omega)
      refine ⟨15, by omega, ?_⟩
      rw [e, run_step (by rfl) (branch10 (by omega)), run_step (by rfl) (lit12 hs h13), if_pos rfl, run_step (by rfl) (no14 _ _ _ _), run_step (by rfl) (alt11 (by omega)), run_step (by rfl) (lit19 hs h10), if_neg (by decide),
        run_step (by rfl) (alt18 (by omega)), run_step (by rfl) (lit24 hs h13), if_pos rfl, run_step (by rfl) (look26 (by omega)), run_step (by rfl) (no29 _ _ _ _), run_step (by rfl) unlook, run_step (by rfl) jump32, run_step (by rfl) won35]
      exact finq _ _ _ _ _ _
  | false =>
    have h10 : (text.getD s 0 == 10) = true := by
      unfold brkAt brk at hb
      rw [h13, Bool.or_false] at hb
      exact hb
    have e : brkLen text s = 1 := by unfold brkLen; rw [h13]; rfl
    refine ⟨9, by omega, ?_⟩
    rw [e, run_step (by rfl) (branch10 (by omega)), run_step (by rfl) (lit12 hs h13), if_neg (by decide), run_step (by rfl) (alt11 (by omega)), run_step (by rfl) (lit19 hs h10), if_pos rfl, run_step (by rfl) jump21, run_step (by rfl) won35]
    exact finq _ _ _ _ _ _

theorem nextAt_some {P : Nat → Bool} : ∀ {f s q : Nat}, nextAt P f s = some q → s ≤ q ∧ q < s + f ∧ P q = true
  | 0, _, _, h => by cases h
  | f + 1, s, q, h => by
    cases hp : P s with
    | true =>
      unfold nextAt at h
      rw [hp] at h
      obtain rfl := Option.some.inj h
      exact ⟨Nat.le_refl _, by omega, hp⟩
    | false =>
      rw [nextAt_no hp] at h
      obtain ⟨h1, h2, h3⟩ := nextAt_some h
      exact ⟨by omega, by omega, h3⟩

theorem find2 (text : Array Nat) (p : Nat) : ∃ N, N ≤ 20 ∧ Ends (M.runFor N (forSearch code2 text 0 p text.size false)) ((nextAt (brkAt text) (text.size - p) p).map fun q => (q, q + brkLen text q)) := by
  by_cases hp : p < text.size
  · have e : (decide (p > text.size) || decide (text.size - p < 1)) = false := by simp; omega
    have e2 : forSearch code2 text 0 p text.size false = if (decide (p > text.size) || decide (text.size - p < 1)) = true then M.say { mk code2 text p p p 10 true [] 0 none (({} : Sre.Seen).add 14) none with lastStart := 0 } false
        else M.attemptFrom (mk code2 text p p p 10 true [] 0 none (({} : Sre.Seen).add 14) none) p true := rfl
    rw [e2, e, if_neg (by decide)]
    obtain ⟨seen', hadm⟩ := admitted2 (mk code2 text p p p 10 true [] 0 none (({} : Sre.Seen).add 14) none) rfl (text.size - p) p (({} : Sre.Seen).add 14) (by show text.size ≤ _; omega) rfl
    have hadm' : M.admitted (mk code2 text p p p 10 true [] 0 none (({} : Sre.Seen).add 14) none) (text.size + 1 - p) p (({} : Sre.Seen).add 14) = .ok (nextAt (brkAt text) (text.size - p) p, seen') := by
      rw [show text.size + 1 - p = text.size - p + 1 by omega]; exact hadm
    cases hn : nextAt (brkAt text) (text.size - p) p with
    | none =>
      refine ⟨1, by omega, ?_⟩
      have e3 : M.attemptFrom (mk code2 text p p p 10 true [] 0 none (({} : Sre.Seen).add 14) none) p true = mk code2 text p p p 10 true [] 0 (some false) seen' none := by
        show (match M.admitted (mk code2 text p p p 10 true [] 0 none (({} : Sre.Seen).add 14) none) (text.size + 1 - p) p (({} : Sre.Seen).add 14) with
          | .ok (some s, seen) => M.attemptAt { mk code2 text p p p 10 true [] 0 none (({} : Sre.Seen).add 14) none with mustAdvance := false, seen } s true
          | .ok (none, seen) => M.say { mk code2 text p p p 10 true [] 0 none (({} : Sre.Seen).add 14) none with seen } false
          | .error why => M.stick _ why) = _
        rw [hadm', hn]
        rfl
      rw [e3, run_step (by rfl) done2]
      rfl
    | some q =>
      obtain ⟨h1, h2, h3⟩ := nextAt_some hn
      obtain ⟨N, hN, hE⟩ := run2_at text q seen' (by omega) h3 true
      refine ⟨N, hN, ?_⟩
      have e3 : M.attemptFrom (mk code2 text p p p 10 true [] 0 none (({} : Sre.Seen).add 14) none) p true = mk code2 text q q q 10 true [fr0' 10 q true] 1 none seen' none := by
        show (match M.admitted (mk code2 text p p p 10 true [] 0 none (({} : Sre.Seen).add 14) none) (text.size + 1 - p) p (({} : Sre.Seen).add 14) with
          | .ok (some s, seen) => M.attemptAt { mk code2 text p p p 10 true [] 0 none (({} : Sre.Seen).add 14) none with mustAdvance := false, seen } s true
          | .ok (none, seen) => M.say { mk code2 text p p p 10 true [] 0 none (({} : Sre.Seen).add 14) none with seen } false
          | .error why => M.stick _ why) = _
        rw [hadm', hn]
        rfl
      rw [e3]
      exact hE
  · refine ⟨1, by omega, ?_⟩
    rw [show text.size - p = 0 by omega]
    have e : (decide (p > text.size) || decide (text.size - p < 1)) = true := by simp; omega
    have e2 : forSearch code2 text 0 p text.size false = if (decide (p > text.size) || decide (text.size - p < 1)) = true then M.say { mk code2 text p p p 10 true [] 0 none (({} : Sre.Seen).add 14) none with lastStart := 0 } false
        else M.attemptFrom (mk code2 text p p p 10 true [] 0 none (({} : Sre.Seen).add 14) none) p true := rfl
    rw [e2, if_pos e]
    rfl
end Mine
end

section
open PySem PySem.W PySem.Calls PyProof.Rows
open PySem.Builtin.Re
set_option Elab.async false
set_option maxRecDepth 100000
set_option maxHeartbeats 4000000
namespace Mine

section
variable {M : Model} {A : Around} {E : Value → Shared → Prop} {s : Shared}

theorem wp_drive {N : Nat} {Q : Sre.M → Shared → Prop} : ∀ (turns : Nat) (m : Sre.M), (Sre.M.runFor N m).outcome.isSome = true → N ≤ 4 * turns → 1 ≤ turns → Q (Sre.M.runFor N m) s → wpAny M A (reDrive turns m) Q E s := by
  intro turns
  induction turns generalizing N with
  | zero => intro m _ _ h; omega
  | succ t ih =>
    intro m ho hN _ hQ
    show wpAny M A (if (Sre.M.runFor 4 m).outcome.isSome = true then pure (Sre.M.runFor 4 m) else do rule "sre.turn"; reDrive t (Sre.M.runFor 4 m)) Q E s
    by_cases h4 : (Sre.M.runFor 4 m).outcome.isSome = true
    · rw [if_pos h4]
      refine wpAny_pure ?_
      have e : Sre.M.runFor 4 m = Sre.M.runFor N m := by
        rcases Nat.le_total N 4 with h | h
        · exact runFor_le ho h
        · exact (runFor_le h4 h).symm
      rw [e]; exact hQ
    · rw [if_neg h4]
      have hN4 : 4 < N := by
        rcases Nat.lt_or_ge 4 N with h | h
        · exact h
        · exact absurd (by rw [runFor_le ho h]; exact ho) h4
      have e : Sre.M.runFor N m = Sre.M.runFor (N - 4) (Sre.M.runFor 4 m) := by rw [← runFor_add]; congr 1; omega
      rw [e] at ho hQ
      exact wpAny_bind (wpAny_rule (ih _ ho (by omega) (by omega) hQ))

theorem wp_tells {Q : PUnit → Shared → Prop} (f : Nat → PUnit → Sem (ForInStep PUnit)) (hf : ∀ i (Q : ForInStep PUnit → Shared → Prop), Q (.yield ⟨⟩) s → wpAny M A (f i ⟨⟩) Q E s) (h : Q ⟨⟩ s) : ∀ l : List Nat,
    wpAny M A (forIn l PUnit.unit f) Q E s := by
  intro l
  induction l with
  | nil => exact wpAny_pure h
  | cons i r ih =>
    rw [List.forIn_cons]
    exact wpAny_bind (hf i _ ih)

def Got (r : Option (Nat × Nat)) (o : Option Sre.M) : Prop := match r with
  | some (a, e) => ∃ m', o = some m' ∧ m'.start = a ∧ m'.handed = e
  | none => o = none

theorem wp_toEnd {N : Nat} {m : Sre.M} {r : Option (Nat × Nat)} {Q : Option Sre.M → Shared → Prop} (hN : N ≤ 4 * 2 ^ 64) (hE : Ends (Sre.M.runFor N m) r)
    (hQ : ∀ o : Option Sre.M, Got r o → Q o s) : wpAny M A (reRunToEnd m) Q E s := by
  unfold reRunToEnd
  have ho : (Sre.M.runFor N m).outcome.isSome = true := by
    unfold Ends at hE
    cases r with
    | none => rw [show (Sre.M.runFor N m).outcome = _ from hE]; rfl
    | some p => rw [show (Sre.M.runFor N m).outcome = _ from hE.1]; rfl
  refine wpAny_bind (wp_drive (2 ^ 64) m ho hN (by decide) ?_)
  refine wpAny_bind ?_
  clear hN ho
  generalize Sre.M.runFor N m = m' at hE
  refine wp_tells _ (fun i Q h => ?_) ?_ _
  · split
    · exact wpAny_bind (wpAny_rule (wpAny_pure h))
    · exact wpAny_pure h
  · unfold Ends at hE
    cases r with
    | none =>
      rw [show m'.outcome = _ from hE]
      exact wpAny_pure (hQ none rfl)
    | some p =>
      rw [show m'.outcome = _ from hE.1]
      exact wpAny_pure (hQ _ ⟨m', rfl, hE.2⟩)
end

/-! the two patterns -/
section
variable {w : World} {A : Around} {E : Value → Shared → Prop} {s : Shared} {x : Str} {t : Tok}

theorem wp_whole {a ca : Addr} {fs : Array Value} {cs : List Value} {Q : ReTarget → Shared → Prop} {op oc : Obj} {n : Nat}
    (hp : s.heap.get? a = some op) (hpd : op.data = .fields fs) (h5 : fs.getD 5 .none = .ref ca) (h6 : fs.getD 6 .none = .int 0 0) (h2 : fs.getD 2 .none = .int 0 0)
    (hc : s.heap.get? ca = some oc) (hcd : oc.data = .seq cs.toArray n)
    (hQ : Q { pattern := .ref a, string := .str x t, code := (cs.toArray.map reRawOf).map (·.toNat), text := x.cps, kind := 0, groups := 0, pos := 0, lim := x.cps.size } s) :
    wpAny (model PP w) A (reWholeTarget (.ref a) (.str x t)) Q E s := by
  unfold reWholeTarget
  refine wpAny_bind (wpAny_fieldsOf hp hpd ?_)
  refine wpAny_bind (m := reTextOf (.str x t)) (wpAny_of_eq (a := (x.cps, 0)) rfl ?_)
  dsimp only
  rw [h6]
  dsimp only [reRawNat]
  simp only [show (Int.toNat 0 == 0 && 0 == 1) = false from rfl, show (Int.toNat 0 == 1 && 0 == 0) = false from rfl, Bool.false_eq_true, if_false]
  refine wpAny_bind (m := reNoCollectionInside (.str x t) 0) (wpAny_of_eq (a := ()) rfl ?_)
  unfold reRawItems
  rw [h5]
  refine wpAny_bind (wpAny_bind (wpAny_seqItems hc hcd (wpAny_pure ?_)))
  rw [h2]
  exact wpAny_pure hQ
end
end Mine
end

section
open PySem PySem.W PySem.Calls PyProof.Rows
open PySem.Builtin.Re
set_option Elab.async false
set_option maxRecDepth 100000
set_option maxHeartbeats 4000000
namespace Mine

def lst (vs : List Value) (n : Nat) : Obj := { cls := .type "list", data := .seq vs.toArray n }

theorem wp_push {M : Model} {A : Around} {E : Value → Shared → Prop} {s : Shared} {Pl : Addr} {vs : List Value} {n : Nat} {v : Value} {Q : Unit → Shared → Prop}
    (ho : s.heap.get? Pl = some (lst vs n)) (hsz : vs.length ≤ 100000)
    (h : ∀ h', Heap.SameBut Pl s.heap h' → h'.get? Pl = some (lst (vs ++ [v]) (n + 1)) → Q () { s with heap := h' }) : wpAny M A (updateSeq Pl (·.push v)) Q E s := by
  refine wpAny_updateSeq ho rfl (h _ (Heap.SameBut.update ..) ?_) (by rw [List.size_toArray, sizeLine_eq]; omega) (by rw [Array.size_push, List.size_toArray, sizeLine_eq]; omega)
  have e : Obj.mapSeq (·.push v) (lst vs n) = lst (vs ++ [v]) (n + 1) := by
    unfold lst
    rw [mapSeq_push, List.push_toArray]
  rw [Heap.get?_update_self _ ho (by rw [e]; rfl), e]

def subL (xs : List Nat) (find : Nat → Option (Nat × Nat)) (repl : List Nat) : Nat → Nat → List (List Nat)
  | 0, p => if p < xs.length then [xs.drop p] else []
  | f + 1, p => match find p with
    | some (a, e) => (if p < a then [(xs.drop p).take (a - p)] else []) ++ repl :: subL xs find repl f e
    | none => if p < xs.length then [xs.drop p] else []

theorem codeAny_ent {prog : Program} {w : World} {A : Around} {R : Result → Shared → Prop} {s : Shared} {id : String} {args : Args} {b : Builtin} (hp : plainId id = true) (hb : entryFor table id = some b)
    (h : wpAny (model prog w) A.in1 (b args) (fun fin s' => match fin with | .done f => R (.ok f) s' | .again c' => c'.quiet = true ∧ codeAny (model prog w) A c' R s') (fun e s' => R (.error e) s') s) :
    codeAny (model prog w) A (.builtin id args) R s := by
  refine codeAny_of_tree ?_
  rw [Around.under_plainId hp]
  show wpAny _ _ (match entryFor table id with | some b => b args | none => unsupported ((withoutEnding? id "#data").getD id)) _ _ s
  rw [hb]; exact h

theorem entry_subloop : entryFor table "re.Pattern.sub.loop" = some Builtin.«re.Pattern.sub.loop» := entryFor_of_tree (by kernel_rfl)
theorem plain_subloop : plainId "re.Pattern.sub.loop" = true := by decide +kernel

theorem slice_ext (x : Str) (a b : Nat) : (⟨x.cps.extract a b⟩ : Str) = ⟨((x.cps.toList.drop a).take (b - a)).toArray⟩ := by
  congr 1
  apply Array.ext'
  simp [Array.toList_extract, List.extract]

section
variable {w : World} {A : Around} {x r : Str} {t tr : Tok}

structure Pat (h : Heap) (a ca : Addr) (cs : List Value) : Prop where
  p : ∃ op fs, h.get? a = some op ∧ op.data = .fields fs ∧ fs.getD 5 .none = .ref ca ∧ fs.getD 6 .none = .int 0 0 ∧ fs.getD 2 .none = .int 0 0
  c : ∃ oc n, h.get? ca = some oc ∧ oc.data = .seq cs.toArray n

theorem Pat.keeps {h h' : Heap} {a ca Pl : Addr} {cs : List Value} (P : Pat h a ca cs) (h1 : a ≠ Pl) (h2 : ca ≠ Pl) (hs : Heap.SameBut Pl h h') : Pat h' a ca cs := by
  obtain ⟨⟨op, fs, e1, e2⟩, oc, n, e3, e4⟩ := P
  exact ⟨⟨op, fs, (hs.2 a h1).trans e1, e2⟩, oc, n, (hs.2 ca h2).trans e3, e4⟩

theorem wp_wholeP {a ca : Addr} {cs : List Value} {code : Array Nat} {s : Shared} {E : Value → Shared → Prop} {Q : ReTarget → Shared → Prop} (P : Pat s.heap a ca cs) (hcode : (cs.toArray.map reRawOf).map (·.toNat) = code)
    (hQ : Q { pattern := .ref a, string := .str x t, code, text := x.cps, kind := 0, groups := 0, pos := 0, lim := x.cps.size } s) : wpAny (model PP w) A (reWholeTarget (.ref a) (.str x t)) Q E s := by
  obtain ⟨⟨op, fs, e1, e2, e3, e4, e5⟩, oc, n, e6, e7⟩ := P
  exact wp_whole e1 e2 e3 e4 e5 e6 e7 (hcode ▸ hQ)

abbrev loopCode (a Pl : Addr) (x : Str) (t : Tok) (r : Str) (tr : Tok) (n p : Nat) : Code :=
  .builtin "re.Pattern.sub.loop" ⟨[.ref a, .str x t, .str r tr, .int 0 0, .int 0 0, .int (n : Nat) 0, .int (p : Nat) 0, .int (p : Nat) 0, .bool false, .ref Pl, .bool false], []⟩

theorem sub_turn {R : Result → Shared → Prop} {a ca Pl : Addr} {cs : List Value} {code : Array Nat} {find : Nat → Option (Nat × Nat)} {h₀ : Heap}
    (hcode : (cs.toArray.map reRawOf).map (·.toNat) = code) (hx : x.length ≤ 2000)
    (hfind : ∀ p, ∃ N, N ≤ 4 * 2 ^ 64 ∧ Ends (Sre.M.runFor N (Sre.forSearch code x.cps 0 p x.cps.size false)) (find p))
    (hadv : ∀ p b e, find p = some (b, e) → p ≤ b ∧ b < e ∧ e ≤ x.length)
    {p n k : Nat} {vs : List Value} {ps : List (List Nat)} {s : Shared} (P : Pat s.heap a ca cs) (hs : Heap.SameBut Pl h₀ s.heap) (ho : s.heap.get? Pl = some (lst vs k))
    (hv : StrsAre vs (ps.map fun q => ⟨q.toArray⟩)) (hvl : vs.length ≤ 4100) (hps : ∀ q ∈ ps, q.length ≤ 2000)
    (hno : find p = none → ∀ h' tk tt, Heap.SameBut Pl h₀ h' → R (.ok (.ret (.str ⟨(ps ++ if p < x.cps.toList.length then [x.cps.toList.drop p] else []).flatten.toArray⟩ tt))) { s with heap := h', toks := tk })
    (hyes : ∀ b e, find p = some (b, e) → ∀ h' tk k' vs', Heap.SameBut Pl s.heap h' → h'.get? Pl = some (lst vs' k') →
      StrsAre vs' ((ps ++ ((if p < b then [(x.cps.toList.drop p).take (b - p)] else []) ++ [r.cps.toList])).map fun q => ⟨q.toArray⟩) → vs'.length ≤ vs.length + 2 →
      codeAny (model PP w) A (loopCode a Pl x t r tr (n + 1) e) R { s with heap := h', toks := tk }) :
    codeAny (model PP w) A (loopCode a Pl x t r tr n p) R s := by
  have hxl : x.cps.toList.length = x.length := by simp [Str.length]
  refine codeAny_ent plain_subloop entry_subloop ?_
  unfold Builtin.«re.Pattern.sub.loop»
  dsimp only [rawInt]
  refine wpAny_bind (wp_wholeP P hcode ?_)
  simp only [show ((0 : Int) == 0) = true from rfl, show ((0 : Int) != 0) = false from rfl, Bool.false_and, if_true, Bool.false_eq_true, if_false, Int.toNat_natCast]
  refine wpAny_bind (m := reLiteralCannotBeTurned (.str r tr)) (wpAny_of_eq (a := ()) rfl ?_)
  obtain ⟨N, hN, hE⟩ := hfind p
  refine wpAny_bind (m := reNextFound _ _ _) (wp_toEnd hN hE fun o hg => ?_)
  cases hf : find p with
  | none =>
    rw [hf] at hg
    obtain rfl : o = none := hg
    dsimp only
    have fin : ∀ h' tk vs' k' (ps' : List (List Nat)), Heap.SameBut Pl h₀ h' → h'.get? Pl = some (lst vs' k') → StrsAre vs' (ps'.map fun q => ⟨q.toArray⟩) → vs'.length ≤ 4200 → (∀ q ∈ ps', q.length ≤ 2000) →
        ps' = (ps ++ if p < x.cps.toList.length then [x.cps.toList.drop p] else []) →
        wpAny (model PP w) A.in1 (do
          let joiner ← reSlice x.cps 0 0 0
          let d ← seqItems? (.ref Pl)
          if (d.getD #[]).isEmpty = true then do
            let d ← pure joiner
            ret d
          else do
            let d ← call (.builtin (if (0 == 0) = true then "str.join" else "bytes.join")) [joiner, .ref Pl]
            ret d) (fun fin s' => match fin with | .done f => R (.ok f) s' | .again c' => c'.quiet = true ∧ codeAny (model PP w) A c' R s') (fun e s' => R (.error e) s') { s with heap := h', toks := tk } := by
      intro h' tk vs' k' ps' hs' ho' hv' hl' hp' hps'
      have hz : (⟨x.cps.extract 0 0⟩ : Str) = Str.ofString "" := by rw [slice_ext]; simp; decide
      refine wpAny_bind (m := reSlice x.cps 0 0 0) ?_
      show wpAny _ _ (mkStr ⟨x.cps.extract 0 0⟩) _ _ _
      refine wpAny_mkStr ?_ (by rw [hz]; decide)
      rw [hz]
      refine wpAny_bind (wpAny_seqItems ho' rfl ?_)
      cases vs' with
      | nil =>
        have : ps' = [] := by have := hv'.len_eq; simpa using this.symm
        rw [if_pos (by rfl)]
        refine wpAny_bind (wpAny_pure (wpAny_pure ?_))
        have := hno hf h' (tk + 1) tk hs'
        rw [← hps', ‹ps' = []›] at this
        exact this
      | cons v vr =>
        rw [if_neg (by simp)]
        refine wpAny_bind ?_
        show wpAny _ _ (call (.builtin "str.join") [.str (Str.ofString "") tk, .ref Pl]) _ _ _
        refine join_list ⟨_, ho', rfl, _, rfl⟩ hv' ?_ fun t' k'' => wpAny_pure ?_
        · have h0 := sum_le (N := 2000) ps' hp'
          have hz : (Str.ofString "").length = 0 := by decide
          have := hv'.len_eq
          rw [List.length_map] at this
          rw [hz]
          simp only [List.length_cons] at *
          omega
        · rw [join_empty, hps']
          exact hno hf _ _ _ hs'
    by_cases hp : p < x.cps.size
    · rw [if_pos hp]
      refine wpAny_bind (m := reSlice x.cps 0 p x.cps.size) ?_
      show wpAny _ _ (mkStr ⟨x.cps.extract p x.cps.size⟩) _ _ _
      have hsl := slice_ext x p x.cps.size
      rw [List.take_of_length_le (by rw [List.length_drop, hxl]; exact Nat.le_refl _)] at hsl
      rw [hsl]
      refine wpAny_mkStr ?_ (by rw [sizeLine_eq]; simp only [Str.length, List.size_toArray, List.length_drop]; simp only [Str.length] at hxl hx; omega)
      refine wpAny_bind (wp_push ho (by omega) fun h' hs' ho' => ?_)
      refine fin h' _ _ _ (ps ++ [x.cps.toList.drop p]) (hs.trans hs') ho' ?_ (by simp; omega) ?_ ?_
      · rw [List.map_append]; exact StrsAre.append' hv (.cons _ _ .nil)
      · intro q hq
        rcases List.mem_append.mp hq with hq | hq
        · exact hps q hq
        · rw [List.mem_singleton.mp hq, List.length_drop, hxl]; omega
      · rw [if_pos (by rw [hxl]; exact hp)]
    · rw [if_neg hp]
      exact fin s.heap s.toks vs k ps hs ho hv (by omega) hps (by rw [if_neg (by rw [hxl]; exact hp), List.append_nil])
  | some be =>
    obtain ⟨b, e⟩ := be
    rw [hf] at hg
    obtain ⟨m', rfl, rfl, rfl⟩ := hg
    dsimp only
    obtain ⟨h1, h2, h3⟩ := hadv p _ _ hf
    have hmust : (m'.handed == m'.start) = false := by simp; omega
    rw [hmust]
    have fin : ∀ h' tk vs' k', Heap.SameBut Pl s.heap h' → h'.get? Pl = some (lst vs' k') → StrsAre vs' ((ps ++ (if p < m'.start then [(x.cps.toList.drop p).take (m'.start - p)] else [])).map fun q => ⟨q.toArray⟩) → vs'.length ≤ vs.length + 1 →
        wpAny (model PP w) A.in1 (do
          let item ← pure (Value.str r tr)
          if (item != Value.none) = true then do
            updateSeq Pl fun x => x.push item
            again (loopCode a Pl x t r tr (n + 1) m'.handed)
          else again (loopCode a Pl x t r tr (n + 1) m'.handed)) (fun fin s' => match fin with | .done f => R (.ok f) s' | .again c' => c'.quiet = true ∧ codeAny (model PP w) A c' R s') (fun e s' => R (.error e) s') { s with heap := h', toks := tk } := by
      intro h' tk vs' k' hs' ho' hv' hl'
      refine wpAny_bind (wpAny_pure ?_)
      rw [if_pos (by rfl)]
      refine wpAny_bind (wp_push ho' (by omega) fun h'' hs'' ho'' => wpAny_pure ⟨plainId_quiet plain_subloop _, ?_⟩)
      refine hyes _ _ hf h'' tk _ _ (hs'.trans hs'') ho'' ?_ (by simp; omega)
      rw [← List.append_assoc, List.map_append]
      exact StrsAre.append' hv' (.cons _ _ .nil)
    by_cases hp : p < m'.start
    · rw [if_pos hp]
      refine wpAny_bind (m := reSlice x.cps 0 p m'.start) ?_
      show wpAny _ _ (mkStr ⟨x.cps.extract p m'.start⟩) _ _ _
      rw [slice_ext x p m'.start]
      refine wpAny_mkStr ?_ (by rw [sizeLine_eq]; simp only [Str.length, List.size_toArray, List.length_take, List.length_drop]; omega)
      refine wpAny_bind (wp_push ho (by omega) fun h' hs' ho' => ?_)
      refine fin h' _ _ _ hs' ho' ?_ (by simp)
      rw [if_pos hp, List.map_append]
      exact StrsAre.append' hv (.cons _ _ .nil)
    · rw [if_neg hp]
      refine fin s.heap s.toks vs k (Heap.SameBut.refl _ _) ho ?_ (by omega)
      rw [if_neg hp, List.append_nil]
      exact hv
end
end Mine
end

section
open PySem PySem.W PySem.Calls PyProof.Rows
open PySem.Builtin.Re
set_option Elab.async false
set_option maxRecDepth 100000
set_option maxHeartbeats 4000000
namespace Mine
theorem owner_pat : Manifest.owners.lookup (String.ofList ['n','r','e','t','t','a','P','.','e','r'].reverse) = some Manifest.sig_re_Pattern := by kernel_rfl
theorem slot_sub : Slot "re.Pattern" "sub" "re.Pattern.sub" :=
  .of (owner := "re.Pattern") (n := "sub") (by rw [typeLookup_type, builtinLookup_eq_fast]; kernel_rfl) (by decide +kernel) (by decide +kernel) (by decide +kernel)
    (by first | exact .inl (by decide +kernel) | exact .inr (by decide +kernel)) (by rw [isSubtype_type]; kernel_rfl)
theorem type_sub : typeOf (.builtin "re.Pattern.sub") = pure (.type "method_descriptor") := by show builtinType _ = _; rw [builtinType_eq_fast]; kernel_rfl
theorem entry_sub : entryFor table "re.Pattern.sub" = some Builtin.«re.Pattern.sub» := entryFor_of_tree (by kernel_rfl)
theorem args_sub (a b c : Value) : argsOk "re.Pattern.sub" ⟨[a, b, c], []⟩ := by
  unfold argsOk; rw [signature?_of (id := "re.Pattern.sub") (n := ['b', 'u', 's']) (o := ['n','r','e','t','t','a','P','.','e','r']) (by kernel_rfl) owner_pat]; kernel_rfl
theorem pa_pat : PlainAttrs "re.Pattern" :=
  ⟨⟨"object.__getattribute__", by rw [typeLookup_type, builtinLookup_eq_fast]; kernel_rfl, by decide +kernel⟩, by rw [typeLookup_type, builtinLookup_eq_fast]; kernel_rfl⟩
theorem str_nocall : typeLookup (.type "str") (Str.ofString "__call__") = pure none := by rw [typeLookup_type, builtinLookup_eq_fast]; kernel_rfl

section
variable {w : World} {A : Around} {x r : Str} {t tr : Tok}

theorem sub_loop {R : Result → Shared → Prop} {a ca Pl : Addr} {cs : List Value} {code : Array Nat} {find : Nat → Option (Nat × Nat)} {h₀ : Heap}
    (hcode : (cs.toArray.map reRawOf).map (·.toNat) = code) (ha : a ≠ Pl) (hca : ca ≠ Pl) (hx : x.length ≤ 2000) (hr : r.length ≤ 2000)
    (hfind : ∀ p, ∃ N, N ≤ 4 * 2 ^ 64 ∧ Ends (Sre.M.runFor N (Sre.forSearch code x.cps 0 p x.cps.size false)) (find p))
    (hadv : ∀ p b e, find p = some (b, e) → p ≤ b ∧ b < e ∧ e ≤ x.length) :
    ∀ (f p n k : Nat) (vs : List Value) (ps : List (List Nat)) (s : Shared), x.length ≤ p + f → p ≤ x.length → Pat s.heap a ca cs → Heap.SameBut Pl h₀ s.heap → s.heap.get? Pl = some (lst vs k) →
      StrsAre vs (ps.map fun q => ⟨q.toArray⟩) → vs.length ≤ 2 * p → (∀ q ∈ ps, q.length ≤ 2000) →
      (∀ h' tk tt, Heap.SameBut Pl h₀ h' → R (.ok (.ret (.str ⟨(ps ++ subL x.cps.toList find r.cps.toList f p).flatten.toArray⟩ tt))) { s with heap := h', toks := tk }) →
      codeAny (model PP w) A (loopCode a Pl x t r tr n p) R s := by
  have hxl : x.cps.toList.length = x.length := by simp [Str.length]
  intro f
  induction f with
  | zero =>
    intro p n k vs ps s hf hp P hs ho hv hvl hps hR
    refine sub_turn hcode hx hfind hadv P hs ho hv (by omega) hps (fun hn => hR) (fun b e he => ?_)
    have := hadv _ _ _ he
    omega
  | succ f ih =>
    intro p n k vs ps s hf hp P hs ho hv hvl hps hR
    refine sub_turn hcode hx hfind hadv P hs ho hv (by omega) hps (fun hn h' tk tt hs' => ?_) (fun b e he h' tk k' vs' hs' ho' hv' hl' => ?_)
    · have := hR h' tk tt hs'
      unfold subL at this
      rw [hn] at this
      exact this
    · obtain ⟨h1, h2, h3⟩ := hadv _ _ _ he
      refine ih e (n + 1) k' vs' _ _ (by omega) h3 (P.keeps ha hca hs') (hs.trans hs') ho' hv' (by omega) ?_ fun h'' tk' tt hs'' => ?_
      · intro q hq
        rcases List.mem_append.mp hq with hq | hq
        · exact hps q hq
        · rcases List.mem_append.mp hq with hq | hq
          · split at hq
            · rw [List.mem_singleton.mp hq, List.length_take, List.length_drop, hxl]; omega
            · cases hq
          · rw [List.mem_singleton.mp hq]
            simp only [Str.length] at hr
            simpa using hr
      · have := hR h'' tk' tt hs''
        unfold subL at this
        rw [he] at this
        simpa using this

theorem call_sub {a ca : Addr} {cs : List Value} {code : Array Nat} {find : Nat → Option (Nat × Nat)} {s : Shared} {Q : Value → Shared → Prop} {E : Value → Shared → Prop}
    (hT : s.TypeIs (.ref a) "re.Pattern") (P : Pat s.heap a ca cs) (hcode : (cs.toArray.map reRawOf).map (·.toNat) = code) (hx : x.length ≤ 2000) (hr : r.length ≤ 2000) (hr92 : r.cps.contains 92 = false)
    (hfind : ∀ p, ∃ N, N ≤ 4 * 2 ^ 64 ∧ Ends (Sre.M.runFor N (Sre.forSearch code x.cps 0 p x.cps.size false)) (find p))
    (hadv : ∀ p b e, find p = some (b, e) → p ≤ b ∧ b < e ∧ e ≤ x.length)
    (hQ : ∀ s' tk, Later s s' → Q (.str ⟨(subL x.cps.toList find r.cps.toList x.length 0).flatten.toArray⟩ tk) s') :
    wpAny (model PP w) A (call (.builtin "re.Pattern.sub") [.ref a, .str r tr, .str x t]) Q E s := by
  refine wpAny_with_toks (Nat.le_refl s.toks) ?_
  refine wpAny_call (codeAny_call_builtin slot_sub.plain entry_sub (slot_sub.check _ _ _ _ _ _ _ _ hT (args_sub _ _ _) ?_))
  unfold Builtin.«re.Pattern.sub» reSubstitute
  refine wpAny_bind (m := reNamed "re.Pattern.sub" "sub" ["repl", "string", "count"] 2 [.str r tr, .str x t] []) (wpAny_of_eq (a := [some (.str r tr), some (.str x t), none]) rfl ?_)
  dsimp only
  refine wpAny_bind (wpAny_pure ?_)
  refine wpAny_bind (wpAny_specialOf (typeIs_str _ _ _) str_nocall ?_)
  simp only [Option.isSome_none, Bool.false_eq_true, if_false]
  refine wpAny_bind (m := asStr? (.str r tr)) (wpAny_of_eq (a := some r) rfl ?_)
  dsimp only
  refine wpAny_bind (wpAny_pure ?_)
  rw [hr92, if_pos (by rfl)]
  refine wpAny_bind (wpAny_pure ?_)
  refine wpAny_bind (wpAny_holding (wp_wholeP P hcode ?_))
  dsimp only
  rw [if_neg (by decide)]
  refine wpAny_bind (m := newList []) (wpAny_newObj_type (wpAny_pure ⟨plainId_quiet plain_subloop _, ?_⟩) (by size_fits))
  have hP2 := P
  obtain ⟨⟨op, fs, e1, e2⟩, oc, n, e3, e4⟩ := hP2
  have ha : a ≠ s.heap.objs.size := Nat.ne_of_lt (Heap.lt_size e1)
  have hca : ca ≠ s.heap.objs.size := Nat.ne_of_lt (Heap.lt_size e3)
  refine sub_loop hcode ha hca hx hr hfind hadv x.length 0 0 0 [] [] _ (by omega) (by omega) ⟨⟨op, fs, Heap.get?_push_of_some _ e1, e2⟩, oc, n, Heap.get?_push_of_some _ e3, e4⟩ (Heap.SameBut.refl _ _) (Heap.get?_push_size _ rfl) .nil (by simp) (by simp) fun h' tk tt hs' => ?_
  dsimp only
  intro htk
  refine hQ _ _ ⟨fun b o hb => ?_, fun q => q, rfl, htk⟩
  rw [hs'.2 b (Nat.ne_of_lt (Heap.lt_size hb))]
  exact Heap.get?_push_of_some _ hb
end
end Mine
end

section
open PySem PySem.W PySem.Calls PyProof.Rows
set_option Elab.async false
set_option maxRecDepth 100000
set_option maxHeartbeats 8000000
namespace Mine
theorem fillC5 : (∀ P, hd.heap_39 P = hd.heap_39 P) ∧ PySem.Challenge.rw_tr0011_01.foot = 4 := by
  k_fill
  exact ⟨fun _ => rfl, rfl⟩

def find1f (text : Array Nat) (p : Nat) : Option (Nat × Nat) := (nextAt (dotAt text) (text.size - p) p).map fun q => (q, q + 1)
def find2f (text : Array Nat) (p : Nat) : Option (Nat × Nat) := (nextAt (brkAt text) (text.size - p) p).map fun q => (q, q + brkLen text q)
def crlfL (xs : List Nat) : List Nat := (subL xs (find2f xs.toArray) [13, 10] xs.length 0).flatten
def dotsL (xs : List Nat) : List Nat := (subL xs (find1f xs.toArray) [46, 46] xs.length 0).flatten
def quoteL (xs : List Nat) : List Nat := dotsL (crlfL xs)

theorem adv1 (text : Array Nat) (p b e : Nat) (h : find1f text p = some (b, e)) : p ≤ b ∧ b < e ∧ e ≤ text.size := by
  unfold find1f at h
  cases hn : nextAt (dotAt text) (text.size - p) p with
  | none => rw [hn] at h; cases h
  | some q =>
    rw [hn] at h
    cases h
    obtain ⟨h1, h2, _⟩ := nextAt_some hn
    omega
theorem adv2 (text : Array Nat) (p b e : Nat) (h : find2f text p = some (b, e)) : p ≤ b ∧ b < e ∧ e ≤ text.size := by
  unfold find2f at h
  cases hn : nextAt (brkAt text) (text.size - p) p with
  | none => rw [hn] at h; cases h
  | some q =>
    rw [hn] at h
    cases h
    obtain ⟨h1, h2, _⟩ := nextAt_some hn
    have : 1 ≤ brkLen text b ∧ b + brkLen text b ≤ text.size := by
      unfold brkLen
      split
      · rename_i hc
        simp only [Bool.and_eq_true, beq_iff_eq] at hc
        have : b + 1 < text.size := by
          rcases Nat.lt_or_ge (b + 1) text.size with h | h
          · exact h
          · have : text.getD (b + 1) 0 = 0 := by simp [Array.getD, Nat.not_lt.mpr h]
            rw [this] at hc
            exact absurd hc.2 (by decide)
        omega
      · omega
    omega

theorem quote_code {w : World} {A : Around} {n : Nat} {s : Shared} {mg mb : Str → Option Value} {x : Str} {t : Tok} {R : Result → Shared → Prop}
    (rm : Room A (n + 1)) (K0 : (hd.heap_39 w.params).In s.heap) (T0 : TopM mg mb s.heap) (hx : x.length ≤ 2000) (hy : (crlfL x.cps.toList).length ≤ 2000)
    (hR : ∀ s' tk, Later s s' → R (.ok (.ret (.str ⟨(quoteL x.cps.toList).toArray⟩ tk))) s') : codeAny (model PP w) A (.call (.ref 69) ⟨[.str x t], []⟩) R s := by
  refine enterL rm K0 T0 (by k_is) (by k_is) (BindsTo.of_eq (binds := [(Str.ofString "data", .str x t)]) rfl) (locs rfl) (fun h₁ A' rm' F N => ?_) (by decide) rfl rfl rfl
  iterate 5 walk1
  refine getMethod_builtin (T := "re.Pattern") ⟨_, F.keep _ _ (K0 57 _ rfl), rfl⟩ pa_pat slot_sub type_sub (fun a e => by cases e; exact ⟨_, F.keep _ _ (K0 57 _ rfl), rfl⟩) ?_
  iterate 6 walk1
  refine getMethod_builtin (T := "re.Pattern") ⟨_, F.keep _ _ (K0 62 _ rfl), rfl⟩ pa_pat slot_sub type_sub (fun a e => by cases e; exact ⟨_, F.keep _ _ (K0 62 _ rfl), rfl⟩) ?_
  iterate 6 walk1
  have hsz : ∀ l : List Nat, (⟨l.toArray⟩ : Str).length = l.length := fun l => by simp [Str.length]
  have P2 : ∀ h, (∀ b o, s.heap.get? b = some o → h.get? b = some o) → Pat h 62 61 _ := fun h hk => ⟨⟨_, _, hk _ _ (K0 62 _ rfl), rfl, rfl, rfl, rfl⟩, _, _, hk _ _ (K0 61 _ rfl), rfl⟩
  have P1 : ∀ h, (∀ b o, s.heap.get? b = some o → h.get? b = some o) → Pat h 57 56 _ := fun h hk => ⟨⟨_, _, hk _ _ (K0 57 _ rfl), rfl, rfl, rfl, rfl⟩, _, _, hk _ _ (K0 56 _ rfl), rfl⟩
  refine call_sub (code := code2) (find := find2f x.cps) ⟨_, F.keep _ _ (K0 62 _ rfl), rfl⟩ (P2 _ F.keep) (by decide +kernel) hx (by decide +kernel) (by decide +kernel) (fun p => ?_) (fun p b e h => adv2 _ _ _ _ h) fun s₂ tk₂ hl => ?_
  · obtain ⟨N, hN, hE⟩ := find2 x.cps p
    exact ⟨N, by omega, hE⟩
  have e1 : (subL x.cps.toList (find2f x.cps) (Str.ofString "\r\n").cps.toList x.length 0).flatten = crlfL x.cps.toList := by
    unfold crlfL
    rw [show (Str.ofString "\r\n").cps.toList = [13, 10] from by decide]
    simp [Str.length]
  rw [e1]
  generalize hy' : (⟨(crlfL x.cps.toList).toArray⟩ : Str) = y
  have hyl : y.cps.toList = crlfL x.cps.toList := by rw [← hy']
  have hylen : y.length ≤ 2000 := by rw [← hy', hsz]; exact hy
  iterate 1 walk1
  have hk₂ : ∀ b o, s.heap.get? b = some o → s₂.heap.get? b = some o := fun b o e => hl.keep b o (F.keep b o e)
  refine call_sub (code := code1) (find := find1f y.cps) ⟨_, hk₂ _ _ (K0 57 _ rfl), rfl⟩ (P1 _ hk₂) (by decide +kernel) hylen (by decide +kernel) (by decide +kernel) (fun p => ?_) (fun p b e h => adv1 _ _ _ _ h) fun s₃ tk₃ hl₃ => ?_
  · obtain ⟨N, hN, hE⟩ := find1 y.cps p
    refine ⟨N, ?_, hE⟩
    have : y.cps.size ≤ 2000 := hylen
    omega
  have e2 : (subL y.cps.toList (find1f y.cps) (Str.ofString "..").cps.toList y.length 0).flatten = quoteL x.cps.toList := by
    unfold quoteL dotsL
    rw [show (Str.ofString "..").cps.toList = [46, 46] from by decide, ← hyl]
    simp [Str.length]
  rw [e2]
  intro htk
  exact hR _ _ ⟨fun b o e => hl₃.keep b o (hk₂ b o e), fun q => hl₃.gens (hl.gens q), hl₃.os.trans hl.os, htk⟩
end Mine
end

section
open PySem PySem.W PySem.Calls PyProof.Rows
open Builtin Builtin.Str
set_option Elab.async false
namespace Mine
/-- the parts between the finds of y, k signs being skipped first -/
def cutS (y : List Nat) : Nat → List Nat → List (List Nat)
  | _, [] => [[]]
  | k + 1, _ :: r => cutS y k r
  | 0, c :: r => if y.isPrefixOf (c :: r) then [] :: cutS y (y.length - 1) r else match cutS y 0 r with
    | [] => [[c]]
    | p :: q => (c :: p) :: q
def rep (y z : List Nat) : Nat → List Nat → List Nat
  | _, [] => []
  | k + 1, _ :: r => rep y z k r
  | 0, c :: r => if y.isPrefixOf (c :: r) then z ++ rep y z (y.length - 1) r else c :: rep y z 0 r
theorem cutS_ne (y : List Nat) : ∀ (l : List Nat) (k : Nat), cutS y k l ≠ []
  | [], 0 => by simp [cutS]
  | [], k + 1 => by simp [cutS]
  | _ :: r, k + 1 => by rw [cutS]; exact cutS_ne y r k
  | c :: r, 0 => by
    rw [cutS]
    split
    · simp
    · split <;> simp
def onHead (p : List Nat) : List (List Nat) → List (List Nat)
  | [] => [p]
  | q :: r => (p ++ q) :: r
theorem onHead_onHead (p q : List Nat) (l : List (List Nat)) : onHead p (onHead q l) = onHead (p ++ q) l := by cases l <;> simp [onHead]
theorem cutS_skip (y : List Nat) : ∀ (k : Nat) (l : List Nat), cutS y k l = cutS y 0 (l.drop k)
  | 0, l => rfl
  | k + 1, [] => rfl
  | k + 1, _ :: r => by rw [cutS, List.drop_succ_cons]; exact cutS_skip y k r
theorem rep_skip (y z : List Nat) : ∀ (k : Nat) (l : List Nat), rep y z k l = rep y z 0 (l.drop k)
  | 0, l => rfl
  | k + 1, [] => rfl
  | k + 1, _ :: r => by rw [rep, List.drop_succ_cons]; exact rep_skip y z k r
theorem cutS_free (y : List Nat) (l : List Nat) : ∀ (m a : Nat), a + m ≤ l.length → (∀ k, a ≤ k → k < a + m → y.isPrefixOf (l.drop k) = false) → cutS y 0 (l.drop a) = onHead ((l.drop a).take m) (cutS y 0 (l.drop (a + m)))
  | 0, a, _, _ => by
    have := cutS_ne y (l.drop a) 0
    simp only [Nat.add_zero, List.take_zero]
    cases h : cutS y 0 (l.drop a) with
    | nil => exact absurd h this
    | cons p q => rfl
  | m + 1, a, h, hn => by
    have ha : a < l.length := by omega
    rw [List.drop_eq_getElem_cons ha, cutS]
    have h0 := hn a (Nat.le_refl _) (by omega)
    rw [List.drop_eq_getElem_cons ha] at h0
    rw [h0, if_neg (by decide)]
    have ih := cutS_free y l m (a + 1) (by omega) (fun k h1 h2 => hn k (by omega) (by omega))
    rw [ih, show a + 1 + m = a + (m + 1) from by omega]
    cases hc : cutS y 0 (l.drop (a + (m + 1))) with
    | nil => exact absurd hc (cutS_ne _ _ _)
    | cons p q => rfl
theorem at_iff (x y : Str) (i : Nat) (hy : 1 ≤ y.length) : StrLaws.At x y x.length i ↔ y.cps.toList.isPrefixOf (x.cps.toList.drop i) = true := by
  have hl : y.cps.toList.length = y.length := by simp [Str.length]
  have hx : x.cps.toList.length = x.length := by simp [Str.length]
  unfold StrLaws.At
  rw [StrLaws.subAt_eq, List.isPrefixOf_iff_prefix, List.prefix_iff_eq_take, hl, beq_iff_eq]
  constructor
  · rintro ⟨_, h⟩; exact h.symm
  · intro h
    refine ⟨?_, h.symm⟩
    have := congrArg List.length h
    rw [List.length_take, List.length_drop] at this
    omega
theorem cutS_parts (x y : Str) (hy : 1 ≤ y.length) : ∀ (cuts : List Nat) (a f : Nat), a ≤ x.length → StrLaws.ChainG x y x.length a cuts f → (∀ k, f ≤ k → ¬ StrLaws.At x y x.length k) →
    (StrLaws.partsFrom x y.length a cuts).map (fun p => p.cps.toList) = cutS y.cps.toList 0 (x.cps.toList.drop a)
  | [], a, f, ha, h, hn => by
    have e : f = a := h
    subst e
    have hx : x.cps.toList.length = x.length := by simp [Str.length]
    have := cutS_free y.cps.toList x.cps.toList (x.length - f) f (by omega) (fun k h1 _ => by
      cases hb : y.cps.toList.isPrefixOf (x.cps.toList.drop k)
      · rfl
      · exact absurd ((at_iff x y k hy).mpr hb) (hn k h1))
    rw [this, show f + (x.length - f) = x.length from by omega, List.drop_eq_nil_of_le (as := x.cps.toList) (i := x.length) (by omega)]
    simp only [StrLaws.partsFrom, List.map_cons, List.map_nil, StrLaws.strSub_toList, cutS, onHead, List.append_nil]
  | c :: r, a, f, ha, h, hn => by
    have hx : x.cps.toList.length = x.length := by simp [Str.length]
    obtain ⟨h1, h2, h3, h4⟩ := h
    have hc := h2.1
    have := cutS_free y.cps.toList x.cps.toList (c - a) a (by omega) (fun k q1 q2 => by
      cases hb : y.cps.toList.isPrefixOf (x.cps.toList.drop k)
      · rfl
      · exact absurd ((at_iff x y k hy).mpr hb) (h3 k q1 (by omega)))
    rw [this, show a + (c - a) = c from by omega]
    have ih := cutS_parts x y hy r (c + y.length) f (by omega) h4 hn
    have hlt : c < x.cps.toList.length := by omega
    have hA := (at_iff x y c hy).mp h2
    rw [List.drop_eq_getElem_cons hlt] at hA ⊢
    rw [cutS, if_pos hA, cutS_skip, List.drop_drop]
    have hl : y.cps.toList.length = y.length := by simp [Str.length]
    rw [hl, show c + 1 + (y.length - 1) = c + y.length from by omega, ← ih]
    simp [StrLaws.partsFrom, StrLaws.strSub_toList, onHead]
theorem cutS_occ (x y : Str) (hy : 1 ≤ y.length) : (partsBetween x (occurrences x y 0 x.length (x.length + 1)) y.length).map (fun p => p.cps.toList) = cutS y.cps.toList 0 x.cps.toList := by
  obtain ⟨f, hG, hn⟩ := StrLaws.occ_tight x y hy
  rw [StrLaws.partsBetween_eq, cutS_parts x y hy _ 0 f (Nat.zero_le _) hG hn]; rfl
theorem cutS_none (x y : Str) (hy : 1 ≤ y.length) (h : (occurrences x y 0 x.length (x.length + 1)).isEmpty = true) : cutS y.cps.toList 0 x.cps.toList = [x.cps.toList] := by
  have e := List.isEmpty_iff.mp h
  rw [← cutS_occ x y hy, e]
  have hx : x.cps.toList.length = x.length := by simp [Str.length]
  rw [StrLaws.partsBetween_eq]
  simp only [StrLaws.partsFrom, List.map_cons, List.map_nil, StrLaws.strSub_toList, List.drop_zero, Nat.sub_zero]
  rw [List.take_of_length_le (by omega)]
theorem split_cut (x y : Str) (hy : 1 ≤ y.length) (hk : ¬ strKind x < strKind y) : (Txt.split x y).map (fun p => p.cps.toList) = cutS y.cps.toList 0 x.cps.toList := by
  unfold Txt.split
  split
  · rename_i hc
    rw [Bool.or_eq_true, decide_eq_true_eq, decide_eq_true_eq] at hc
    rcases hc with hc | hc
    · refine (cutS_none x y hy ?_).symm
      cases ho : occurrences x y 0 x.length (x.length + 1) with
      | nil => rfl
      | cons c r =>
        obtain ⟨f, hG, hn⟩ := StrLaws.occ_tight x y hy
        rw [ho] at hG
        have := hG.2.1.1
        omega
    · exact absurd hc hk
  · split
    · rename_i he; exact (cutS_none x y hy he).symm
    · exact cutS_occ x y hy
theorem rep_cut (y z : List Nat) : ∀ (l : List Nat) (k : Nat), rep y z k l = List.intercalate z (cutS y k l)
  | [], 0 => rfl
  | [], k + 1 => rfl
  | _ :: r, k + 1 => by rw [rep, cutS]; exact rep_cut y z r k
  | c :: r, 0 => by
    rw [rep, cutS]
    have h1 := rep_cut y z r (y.length - 1)
    have h2 := rep_cut y z r 0
    split
    · rw [h1]
      cases hc : cutS y (y.length - 1) r with
      | nil => exact absurd hc (cutS_ne _ _ _)
      | cons p q => cases q <;> simp [List.intercalate, List.intersperse]
    · rw [h2]
      cases hc : cutS y 0 r with
      | nil => exact absurd hc (cutS_ne _ _ _)
      | cons p q => cases q <;> simp [List.intercalate, List.intersperse]
theorem replace_rep (x y z : Str) (hy : 1 ≤ y.length) : (Txt.replace x y z).cps.toList = rep y.cps.toList z.cps.toList 0 x.cps.toList := by
  rw [rep_cut]
  unfold Txt.replace
  split
  · rename_i hc
    rw [Bool.or_eq_true] at hc
    rcases hc with hc | hc
    · rw [cutS_none x y hy hc]; simp [List.intercalate, List.intersperse]
    · simp at hc; omega
  · rw [← cutS_occ x y hy]
    generalize partsBetween x (occurrences x y 0 x.length (x.length + 1)) y.length = ps
    have := join_sep z.cps.toList (ps.map fun p => p.cps.toList)
    rw [List.map_map] at this
    have e : ((fun r : List Nat => (⟨r.toArray⟩ : Str)) ∘ fun p : Str => p.cps.toList) = _root_.id := by funext p; simp
    rw [e, List.map_id] at this
    have e2 : (⟨z.cps.toList.toArray⟩ : Str) = z := by simp
    rw [e2] at this
    unfold Txt.join at this
    rw [this]

/-- the escape, sign by sign -/
def escC (k : Nat) : List Nat := if k = 38 then ampS else if k = 62 then gtS else if k = 34 then quotS else [k]
def pageC (k : Nat) : List Nat := if k = 38 then ampS else if k = 62 then gtS else if k = 34 then [39] else [k]
theorem escL_flat : ∀ l : List Nat, escL l = l.flatMap escC
  | [] => rfl
  | k :: r => by
    have ih := escL_flat r
    have e : escL (k :: r) = escL [k] ++ escL r := by
      unfold escL
      rw [show (k :: r) = [k] ++ r from rfl, sw_append, sw_append, sw_append]
    rw [e, ih, List.flatMap_cons]
    congr 1
    unfold escC
    split
    · rename_i h; subst h; rfl
    · rename_i h1
      split
      · rename_i h; subst h; rfl
      · rename_i h2
        split
        · rename_i h; subst h; rfl
        · rename_i h3; simp [escL, sw, h1, h2, h3]
theorem rep_page : ∀ l : List Nat, rep quotS [39] 0 (l.flatMap escC) = l.flatMap pageC
  | [] => rfl
  | k :: r => by
    have ih := rep_page r
    rw [List.flatMap_cons, List.flatMap_cons, ← ih]
    generalize r.flatMap escC = t
    unfold escC pageC
    split
    · simp [ampS, rep, quotS, List.isPrefixOf]
    · rename_i h1
      split
      · simp [gtS, rep, quotS, List.isPrefixOf]
      · split
        · simp [quotS, rep, List.isPrefixOf]
        · simp [rep, quotS, List.isPrefixOf]
          intro h; exact absurd h.symm h1
def pageL (l : List Nat) : List Nat := l.flatMap pageC
theorem replace_page (l : List Nat) (x y z : Str) (hx : x = ⟨(escL l).toArray⟩) (hy : y = ⟨quotS.toArray⟩) (hz : z = ⟨[39].toArray⟩) : Txt.replace x y z = ⟨(pageL l).toArray⟩ := by
  have h := replace_rep x y z (by subst hy; decide)
  subst hx hy hz
  simp only at h
  rw [escL_flat, rep_page] at h
  apply Str.ext'
  apply Array.toList_inj.mp
  rw [escL_flat, h]
  rfl
end Mine
end

section
open PySem PySem.W PySem.Calls PyProof.Rows
set_option Elab.async false
set_option maxRecDepth 100000
set_option maxHeartbeats 8000000
namespace Mine
theorem fillC6 : (∀ P, hd.heap_39 P = hd.heap_39 P) ∧ PySem.Challenge.rw_tr0011_01.foot = 4 := by
  k_fill
  exact ⟨fun _ => rfl, rfl⟩

def takenL (page : Bool) (ys : List (List Nat)) : Bool := checkL (if page then pageL ys.flatten else ys.flatten)

theorem taken_code {w : World} {A : Around} {n : Nat} {s : Shared} {mg mb : Str → Option Value} {l : Addr} {vs : List Value} {k : Nat} {ys : List (List Nat)} {page : Bool} {R : Result → Shared → Prop}
    (rm : Room A (n + 3)) (K0 : (hd.heap_39 w.params).In s.heap) (T0 : TopM mg mb s.heap) (hl : s.heap.get? l = some { cls := .type "list", data := .seq vs.toArray k })
    (hvs : StrsAre vs (ys.map fun r => ⟨r.toArray⟩)) (hys : ys.length ≤ 9) (hy : ∀ r ∈ ys, r.length ≤ 20)
    (hR : ∀ s', Later s s' → R (.ok (.ret (.bool (takenL page ys)))) s') : codeAny (model PP w) A (.call (.ref 95) ⟨[.ref l, .bool page], []⟩) R s := by
  refine enterL rm K0 T0 (by k_is) (by k_is) (BindsTo.of_eq (binds := [(Str.ofString "pieces", .ref l), (Str.ofString "page", .bool page)]) rfl) (locs rfl) (fun h₁ A' rm' F N => ?_) (by decide) rfl rfl rfl
  have hsum := sum_le (N := 20) ys hy
  iterate 9 walk1
  refine wpAny_with_toks (n := 1) (Nat.le_add_left _ _) ?_
  refine join_list ⟨_, F.keep _ _ hl, rfl, _, rfl⟩ hvs ?_ fun t' k' => ?_
  · have hz : (Str.ofString "").length = 0 := by decide
    rw [hz, List.length_map]
    omega
  intro hk'
  rw [join_empty]
  have hflat : ys.flatten.length ≤ 180 := by
    have h1 : ∀ zs : List (List Nat), (∀ r ∈ zs, r.length ≤ 20) → zs.flatten.length ≤ zs.length * 20 := by
      intro zs
      induction zs with
      | nil => intro _; simp
      | cons z r ih =>
        intro hz
        have h2 := ih fun q hq => hz q (.tail _ hq)
        have h3 := hz z (.head _)
        simp only [List.flatten_cons, List.length_append, List.length_cons]
        omega
    have := h1 ys hy
    omega
  generalize hx : (⟨ys.flatten.toArray⟩ : Str) = x
  have hxl : x.cps.toList = ys.flatten := by rw [← hx]
  have hxn : x.length ≤ 180 := by rw [← hx]; simpa [Str.length] using hflat
  walk1
  refine wpAny_execs_cons ?_
  cases page
  · iterate 15 (first | (guard_target =~ _ ∧ _; skip) | walk1)
    walk1
    rename Fr _ _ _ _ => F'
    refine wpAny_call (check_code rm' (K0.keeps F'.keep) (T0.keeps F'.keep) (by omega) fun s₂ hl₂ => ?_)
    dsimp only
    intro htk
    have e : takenL false ys = checkL x.cps.toList := by rw [hxl]; rfl
    rw [← e]
    exact hR _ ⟨fun b o q => hl₂.keep b o (F'.keep b o q), fun q => hl₂.gens q, hl₂.os, htk⟩
  · iterate 4 walk1
    refine wpAny_execs_cons ?_
    iterate 9 (first | (guard_target =~ _ ∧ _; skip) | walk1)
    walk1
    rename Fr _ _ _ _ => F'
    refine wpAny_call (esc_code (rm'.less (m := n + 1) (by omega)) (K0.keeps F'.keep) (T0.keeps F'.keep) (by omega) fun s₂ tk₂ hl₂ => ?_)
    replace F' := hl₂.fr F'
    generalize hy' : (⟨(escL x.cps.toList).toArray⟩ : Str) = y
    have hel : (escL x.cps.toList).length ≤ 6 * x.cps.toList.length := by
      rw [escL_flat]
      have : ∀ zs : List Nat, (zs.flatMap escC).length ≤ 6 * zs.length := by
        intro zs
        induction zs with
        | nil => simp
        | cons z r ih =>
          have hz : (escC z).length ≤ 6 := by
            unfold escC
            split
            · decide
            · split
              · decide
              · split
                · decide
                · simp
          rw [List.flatMap_cons, List.length_append, List.length_cons]
          omega
      exact this _
    have hyn : y.length ≤ 1100 := by
      rw [← hy']
      simp only [Str.length, List.size_toArray]
      have : x.cps.toList.length = x.length := by simp [Str.length]
      omega
    iterate 7 walk1
    have h1 : 1 ≤ s₂.toks := Nat.le_trans (Nat.le_add_left 1 k') hl₂.toks
    refine SC.replaceW (Nat.ne_of_gt h1) (Nat.succ_ne_zero _) (Nat.ne_of_lt (Nat.lt_succ_self _)) (by decide) (by omega) (by decide) fun t₃ k₃ => ?_
    rw [replace_page x.cps.toList y _ _ hy'.symm (by decide) (by decide)]
    have hpl : (pageL x.cps.toList).length ≤ 6 * x.cps.toList.length := by
      unfold pageL
      have : ∀ zs : List Nat, (zs.flatMap pageC).length ≤ 6 * zs.length := by
        intro zs
        induction zs with
        | nil => simp
        | cons z r ih =>
          have hz : (pageC z).length ≤ 6 := by
            unfold pageC
            split
            · decide
            · split
              · decide
              · split
                · decide
                · simp
          rw [List.flatMap_cons, List.length_append, List.length_cons]
          omega
      exact this _
    have e : takenL true ys = checkL (pageL x.cps.toList) := by rw [hxl]; rfl
    generalize hz' : (⟨(pageL x.cps.toList).toArray⟩ : Str) = z
    have hzl : z.cps.toList = pageL x.cps.toList := by rw [← hz']
    have hzn : z.length ≤ 1100 := by
      rw [← hz']
      simp only [Str.length, List.size_toArray]
      have : x.cps.toList.length = x.length := by simp [Str.length]
      omega
    iterate 12 (first | (guard_target =~ _ ∧ _; skip) | walk1)
    walk1
    rename Fr _ _ _ _ => F₃
    refine wpAny_call (check_code rm' (K0.keeps F₃.keep) (T0.keeps F₃.keep) (by omega) fun s₃ hl₃ => ?_)
    dsimp only
    intro htk
    rw [hzl, ← e]
    exact hR _ ⟨fun b o q => hl₃.keep b o (F₃.keep b o q), fun q => hl₃.gens (hl₂.gens q), hl₃.os.trans hl₂.os, htk⟩
end Mine
end

section
open PySem PySem.W PySem.Calls PyProof.Rows
set_option Elab.async false
set_option maxRecDepth 100000
set_option maxHeartbeats 8000000
namespace Mine
theorem fillC7 : (∀ P, hd.heap_39 P = hd.heap_39 P) ∧ PySem.Challenge.rw_tr0011_01.foot = 4 := by
  k_fill
  exact ⟨fun _ => rfl, rfl⟩

def turnDef : List Stmt × Scope := match PP.main.body.find? (fun st => match st with | .FunctionDef n _ _ _ _ _ _ _ _ _ => n == Str.ofString "_law_turn" | _ => false) with
  | some (.FunctionDef _ _ b _ _ _ sc _ _ _) => (b, sc)
  | _ => ([], default)
abbrev turnEnv (L : Addr) (cd : Value) : Env := envOf (Str.ofString "_law_turn") turnDef.2 L 100 cd
abbrev strV (r : List Nat) : Str := ⟨r.toArray⟩
def linesL (xs : List Nat) : List (List Nat) := (cutS [13, 10] 0 xs).dropLast

section
variable {w : World} {A : Around} {base : Heap} {L : Addr} {cd : Value} {s : Shared} {m : Str → Option Value} {x : Str} {t : Tok} {mg mb : Str → Option Value} {n : Nat}
theorem turn_rows (rm : Room A n) (K0 : (hd.heap_39 w.params).In base) (T0 : TopM mg mb base) (F : Fr base L s.heap m) (hm : m (Str.ofString "text") = some (.str x t)) (hx : x.length ≤ 400) (hys : (cutS [13, 10] 0 x.cps.toList).length ≤ 10) :
    wpAny (model PP w) A (exec (turnDef.1.getD 0 (.Pass default)) (turnEnv L cd))
      (fun f s' => f = .next ∧ (∃ Rl vs k, Fr base L s'.heap (fun y => if y = Str.ofString "rows" then some (.ref Rl) else if y = Str.ofString "text" then some (.str x t) else m y) ∧
        News base L s'.heap [(Rl, { cls := .type "list", data := .seq (List.toArray vs) k })] ∧ StrsAre vs ((linesL x.cps.toList).map strV)) ∧ s'.gens = s.gens ∧ s'.os = s.os) (fun _ _ => False) s := by
  have hF : Fr base L s.heap (fun y => if y = Str.ofString "text" then some (.str x t) else m y) := by
    have : m = (fun y => if y = Str.ofString "text" then some (.str x t) else m y) := by
      funext y
      by_cases e : y = Str.ofString "text"
      · rw [if_pos e, e, hm]
      · rw [if_neg e]
    rw [← this]; exact F
  clear F
  have N := (News.nil : News base L s.heap [])
  change wpAny _ _ (exec (Stmt.Assign _ _ _) _) _ _ _
  iterate 19 walk1
  rename_i l h' k e1 hsa e3 e4 F₁ N₁ h2 F₂ N₂
  have hsp : (Txt.split x (Str.ofString "\r\n")).map (fun p => p.cps.toList) = cutS [13, 10] 0 x.cps.toList := split_cut x (Str.ofString "\r\n") (by decide) (by
    rw [show Builtin.Str.strKind (Str.ofString "\r\n") = 1 from by decide +kernel]
    unfold Builtin.Str.strKind
    split
    · omega
    · split <;> omega)
  iterate 1 walk1
  rename_i F₃ N₃
  rw [show slicePick (strValues l).toArray none (some (-1)) none = ((strValues l).take ((strValues l).length - 1)).toArray from slicePick_butLast _ 1 (by decide)] at N₃
  refine ⟨trivial, ⟨_, _, 0, F₃, (fun q hq => by rw [List.mem_singleton.mp hq]; exact N₃ _ (.head _)), ?_⟩, rfl, rfl⟩
  rw [e1] at hsa
  have h3 := hsa.take' ((strValues l).length - 1)
  have h4 : (linesL x.cps.toList).map strV = (Txt.split x (Str.ofString "\r\n")).take ((strValues l).length - 1) := by
    rw [hsa.len_eq]
    unfold linesL
    rw [← hsp, List.dropLast_eq_take, List.length_map, ← List.map_take, List.map_map]
    have e : (strV ∘ fun p : Str => p.cps.toList) = _root_.id := by funext p; simp [strV]
    rw [e, List.map_id]
  rw [h4]
  exact h3
end
end Mine
end

section
open PySem PySem.W PySem.Calls PyProof.Rows
set_option Elab.async false
set_option maxRecDepth 100000
set_option maxHeartbeats 8000000
namespace Mine
theorem fillC8 : (∀ P, hd.heap_39 P = hd.heap_39 P) ∧ PySem.Challenge.rw_tr0011_01.foot = 4 := by
  k_fill
  exact ⟨fun _ => rfl, rfl⟩
theorem strV_self (x : Str) : strV x.cps.toList = x := by simp [strV]
theorem strV_len (r : List Nat) : (strV r).length = r.length := by simp [strV, Str.length]
def rowK (N : Nat) : ItemKind (List Nat) where
  is a v := a.length ≤ N ∧ ∃ t, v = .str (strV a) t
  un v := match v with | .str x _ => some x.cps.toList | _ => none
  ok a v h := by obtain ⟨_, t, rfl⟩ := h; rfl
theorem rowK_of {N : Nat} : ∀ {vs : List Value} {ys : List (List Nat)}, StrsAre vs (ys.map strV) → (∀ r ∈ ys, r.length ≤ N) → AreOf (rowK N) vs ys
  | [], [], _, _ => .nil
  | _ :: _, [], h, _ => by cases h
  | [], _ :: _, h, _ => by cases h
  | v :: vs, y :: ys, h, hy => by
    rw [List.map_cons] at h
    cases h with
    | cons _ t h => exact .cons ⟨hy y (.head _), t, rfl⟩ (rowK_of h fun r hr => hy r (.tail _ hr))
theorem lstrip_dot (x y : Str) (hy : y = ⟨#[46]⟩) : Txt.lstripChars x y = strV (x.cps.toList.dropWhile (· == 46)) := by
  subst hy
  unfold Txt.lstripChars
  rw [PyProof.Rows.stripBy_eq]
  apply Str.ext'
  apply Array.toList_inj.mp
  rw [StrLaws.strSub_toList]
  have e : (#[46] : Array Nat).contains = fun k : Nat => k == 46 := by funext k; simp [Bool.beq_eq_decide_eq]
  unfold stripHi stripLo
  rw [e]
  simp only [Bool.false_eq_true, if_false, if_true]
  rw [List.take_of_length_le (by rw [List.length_drop]; simp [Str.length])]
  show _ = (x.cps.toList.dropWhile (· == 46))
  have h := List.takeWhile_append_dropWhile (p := fun k : Nat => k == 46) (l := x.cps.toList)
  generalize List.takeWhile (fun k : Nat => k == 46) x.cps.toList = a at h ⊢
  rw [← h, List.drop_left]
  rw [h]

section
variable {w : World} {A : Around} {base : Heap} {L : Addr} {cd : Value} {s : Shared} {m : Str → Option Value} {x : Str} {t : Tok} {mg mb : Str → Option Value} {n : Nat}
theorem turn_bare (rm : Room A n) (K0 : (hd.heap_39 w.params).In base) (T0 : TopM mg mb base) {Rl : Addr} {vs : List Value} {k : Nat} {ys : List (List Nat)}
    (F : Fr base L s.heap (fun y => if y = Str.ofString "rows" then some (.ref Rl) else if y = Str.ofString "text" then some (.str x t) else m y))
    (N : News base L s.heap [(Rl, { cls := .type "list", data := .seq (List.toArray vs) k })]) (hvs : StrsAre vs (ys.map strV)) (hys : ys.length ≤ 10) (hy : ∀ r ∈ ys, r.length ≤ 20) :
    wpAny (model PP w) A (exec (turnDef.1.getD 1 (.Pass default)) (turnEnv L cd))
      (fun f s' => f = .next ∧ (∃ Bl us k', Fr base L s'.heap (fun y => if y = Str.ofString "bare" then some (.ref Bl) else if y = Str.ofString "rows" then some (.ref Rl) else if y = Str.ofString "text" then some (.str x t) else m y) ∧
        News base L s'.heap [(Bl, { cls := .type "list", data := .seq (List.toArray us) k' }), (Rl, { cls := .type "list", data := .seq (List.toArray vs) k })] ∧
        Bl ≠ Rl ∧ StrsAre us ((ys.map fun r => r.dropWhile (· == 46)).map strV)) ∧ s'.gens = s.gens ∧ s'.os = s.os) (fun _ _ => False) s := by
  change wpAny _ _ (exec (Stmt.Assign _ _ _) _) _ _ _
  iterate 2 walk1
  refine srcA_listD (K := rowK 20) (as := ys) (pz := fun _ => true) (d := fun a => .str (strV (a.dropWhile (· == 46)))) rm.hh ⟨_, N.get (.head _), rfl, _, rfl⟩ (rowK_of hvs hy) F N ?_ ?_ ?_ (by rw [sizeLine_eq]; omega)
  · intro C a v s₂ m₂ E' _ _ _ _
    exact wpAny_pure ⟨rfl, _, _, rfl, fun _ _ e => e⟩
  · rintro C a v s₂ m₂ E' ⟨ha, ta, rfl⟩ _ hns hmx htk
    iterate 7 walk1
    refine SC.lstripChars (fun t' k' => ?_) (by rw [strV_len, sizeLine_eq]; omega)
    rw [lstrip_dot _ _ (by decide)]
    exact ⟨.str _ _, _, _, rfl, fun _ _ e => e⟩
  · intro D zs h' tk F' N' hD hl hnp hc
    obtain ⟨⟨k', hk'⟩, hne⟩ := hnp
    rw [show ys.filter (fun _ => true) = ys from List.filter_eq_self.mpr fun _ _ => rfl] at hc
    refine ⟨rfl, ⟨D, zs, k', F', newsCons ?_ hD hk' N', fun e => hne _ (.head _) e.symm, ?_⟩, rfl, rfl⟩
    · exact NewPlain.ne_locals ⟨⟨k', hk'⟩, hne⟩ F'
    · rw [List.map_map]
      exact hc.strsOf
end
end Mine
end

section
open PySem PySem.W PySem.Calls PyProof.Rows
set_option Elab.async false
set_option maxRecDepth 100000
set_option maxHeartbeats 8000000
namespace Mine
/-- a list, a tuple or a cell -/
def Solid : Data → Prop | .seq _ _ => True | .cell _ => True | _ => False
structure Quiet (s s' : Shared) : Prop where
  gens : AllBare s.gens → AllBare s'.gens
  os : s'.os = s.os
theorem Quiet.refl {s : Shared} : Quiet s s := ⟨fun x => x, rfl⟩
theorem Quiet.trans {s s' s'' : Shared} (x : Quiet s s') (y : Quiet s' s'') : Quiet s s'' := ⟨fun q => y.gens (x.gens q), y.os.trans x.os⟩
theorem Quiet.same {s s' : Shared} (h : s'.gens = s.gens) (h2 : s'.os = s.os) : Quiet s s' := ⟨fun q => by rw [h]; exact q, h2⟩
theorem Later.quiet {s s' : Shared} (x : Later s s') : Quiet s s' := ⟨x.gens, x.os⟩

section
variable {w : World} {A : Around} {base : Heap} {L : Addr} {s : Shared} {env : Env} {E : Value → Shared → Prop}
theorem for_range {R : Result → Shared → Prop} {x : Str} {px : Pos} {body : List Stmt} {m : Str → Option Value} {r : Addr} {lo hi : Int} {ta tb tc : Tok} (n : Nat)
    (hh : A.handled = none) (hloc : env.locals = L) (hx : env.kindOf x = some .local)
    (hp : (env.scope.kind == .class || (env.scope.kind == .module && env.locals != env.globals)) = false)
    (hr : IsRange s.heap r lo hi 1 ta tb tc) (hlo : 0 ≤ lo) (hl2 : lo ≤ 1000) (hh0 : 0 ≤ hi) (hhi : hi ≤ 1000) (hn : (hi - lo).toNat = n)
    (J : Nat → (Str → Option Value) → Heap → Prop)
    (hJ : ∀ j m h h', (∀ b o, Solid o.data → h.get? b = some o → h'.get? b = some o) → J j m h → J j m h')
    (step : ∀ j tk m' s₁ own, j < n → J j m' s₁.heap → (∀ q ∈ own, s.heap.get? q.1 = none) → Quiet s s₁ →
      Fr base L s₁.heap (fun y => if y = x then some (.int (lo + (j : Nat)) tk) else m' y) → News base L s₁.heap own →
      wpAny (model PP w) A (execs body env) (fun f s' => match f with
        | .next | .cont => ∃ m'', Fr base L s'.heap m'' ∧ News base L s'.heap own ∧ J (j + 1) m'' s'.heap ∧ Quiet s₁ s'
        | .brk => False
        | .ret v => R (.ok (.ret v)) s') (fun _ _ => False) s₁)
    (hEnd : ∀ s' m', Fr base L s'.heap m' → J n m' s'.heap → Quiet s s' → R (.ok .next) s')
    (F : Fr base L s.heap m) (h0 : J 0 m s.heap) :
    wpAny (model PP w) A (pyIter (.ref r)) (fun it s₂ => codeAny (model PP w) A (.forLoop (.Name x px) it body [] env) R s₂) E s := by
  subst hloc
  refine wpAny_pyIter_range hr (small_one (by omega) (by omega) (by omega) (by omega)) ?_
  have hsz : Builtin.Range.rangeSize lo hi 1 = (n : Int) := by rw [rangeSize_one]; split <;> omega
  have up0 : ∀ b o, s.heap.get? b = some o → (s.heap.push { cls := .type "range_iterator", data := .fields #[rawInt lo, rawInt (Builtin.Range.rangeSize lo hi 1), rawInt 1] }).get? b = some o := fun b o e => Heap.get?_push_of_some _ e
  have hI0 : s.heap.get? s.heap.objs.size = none := by
    cases e : s.heap.get? s.heap.objs.size with
    | none => rfl
    | some o => exact absurd (Heap.lt_size e) (Nat.lt_irrefl _)
  have hIL : s.heap.objs.size ≠ env.locals := fun e => absurd F.ns.lt (e ▸ Nat.lt_irrefl _)
  have hIb : base.get? s.heap.objs.size = none := by
    cases e : base.get? s.heap.objs.size with
    | none => rfl
    | some o => rw [F.keep _ _ e] at hI0; cases hI0
  refine codeAny_forLoop
    (fun k s' => ∃ m' i, IsRangeIter s'.heap s.heap.objs.size (lo + (i : Nat) * 1) ((n : Int) - (i : Nat)) 1 ∧ Fr base env.locals s'.heap m' ∧ J i m' s'.heap ∧ i ≤ n ∧ k = n + 1 - i ∧ Quiet s s') ?_ (n + 1)
    ⟨m, 0, ?_, ?_, ?_, Nat.zero_le _, rfl, Quiet.same rfl rfl⟩
  · rintro k s₁ ⟨m', i, hit, F₁, hJ₁, hi', rfl, hq⟩
    by_cases hlt : i < n
    · refine wpAny_pyNext_range_item hit (by omega) fun h₁ hit₁ hs₁ => ?_
      have F₂ : Fr base env.locals h₁ m' := ⟨F₁.ns.sameBut hs₁ (Ne.symm hIL), fun b o e => hs₁.extBut b o (fun q => by subst q; rw [hIb] at e; cases e) (F₁.keep b o e), F₁.above⟩
      refine wpAny_assign_Name (wpAny_storeName_local hx F₂.ns (fun h₂ hn₂ hs₂ => ?_) hp)
      have F₃ := F₂.set hn₂ hs₂
      have hnsL : ∀ o, h₁.get? env.locals = some o → ¬ Solid o.data := fun o e hs => by
        obtain ⟨o', es, ep, ho', hd, _⟩ := F₂.ns
        rw [ho'] at e; cases e
        rw [hd] at hs; exact hs
      have hJ₃ : J i m' h₂ := hJ i m' s₁.heap h₂ (fun b o hs e => by
        have hbI : b ≠ s.heap.objs.size := fun q => by
          subst q
          rw [show s₁.heap.get? s.heap.objs.size = _ from hit] at e
          cases e; exact hs
        have e₁ := hs₁.extBut b o hbI e
        exact hs₂.extBut b o (fun q => by subst q; exact hnsL o e₁ hs) e₁) hJ₁
      have hitI : h₂.get? s.heap.objs.size = h₁.get? s.heap.objs.size := hs₂.2 _ hIL
      have e0 : lo + (i : Int) * 1 = lo + (i : Nat) := by omega
      rw [e0] at F₃
      refine wpAny_mono (E := fun _ _ => False) (step i _ m' _ [(s.heap.objs.size, _)] hlt hJ₃ (fun q hq' => by rw [List.mem_singleton.mp hq']; exact hI0) (hq.trans (Quiet.same rfl rfl)) F₃ (fun q hq' => by
        rw [List.mem_singleton.mp hq']
        exact ⟨hitI.trans hit₁, hIL, hIb⟩)) (fun f s₃ h₃ => ?_) fun _ _ h => h.elim
      have e1 : lo + ((i + 1 : Nat) : Int) * 1 = lo + (i : Int) * 1 + 1 := by omega
      have e2 : (n : Int) - ((i + 1 : Nat) : Int) = (n : Int) - (i : Int) - 1 := by omega
      cases f with
      | next =>
        obtain ⟨m'', F₄, N₄, hJ₄, hq₄⟩ := h₃
        refine ⟨n + 1 - (i + 1), by omega, m'', i + 1, ?_, F₄, hJ₄, hlt, rfl, hq.trans ⟨hq₄.gens, hq₄.os⟩⟩
        rw [e1, e2]
        exact (N₄ _ (.head _)).1
      | cont =>
        obtain ⟨m'', F₄, N₄, hJ₄, hq₄⟩ := h₃
        refine ⟨n + 1 - (i + 1), by omega, m'', i + 1, ?_, F₄, hJ₄, hlt, rfl, hq.trans ⟨hq₄.gens, hq₄.os⟩⟩
        rw [e1, e2]
        exact (N₄ _ (.head _)).1
      | brk => exact h₃.elim
      | ret v => exact h₃
    · have hin : i = n := by omega
      subst hin
      refine wpAny_pyNext_range_end hh hit (by omega) fun h₁ he₁ => wpAny_execs_nil ?_
      refine hEnd _ m' ⟨F₁.ns.extBut he₁ (Ne.symm hIL), fun b o e => he₁ b o (fun q => by subst q; rw [hIb] at e; cases e) (F₁.keep b o e), F₁.above⟩ (hJ i m' s₁.heap h₁ (fun b o hs e => he₁ b o (fun q => by
          subst q
          rw [show s₁.heap.get? s.heap.objs.size = _ from hit] at e
          cases e; exact hs) e) hJ₁) (hq.trans (Quiet.same rfl rfl))
  · rw [show lo + ((0 : Nat) : Int) * 1 = lo from by omega, show (n : Int) - ((0 : Nat) : Int) = Builtin.Range.rangeSize lo hi 1 from by rw [hsz]; omega]
    exact Heap.get?_push_size _ rfl
  · exact ⟨F.ns.keeps up0, fun b o e => up0 b o (F.keep b o e), F.above⟩
  · exact hJ 0 m _ _ (fun b o _ e => up0 b o e) h0
end
end Mine
end

section
open PySem PySem.W PySem.Calls PyProof.Rows
set_option Elab.async false
set_option maxRecDepth 100000
set_option maxHeartbeats 8000000
namespace Mine
theorem mapSeq_set (its : Array Value) (n j : Nat) (v : Value) :
    ∃ n', Obj.mapSeq (·.setIfInBounds j v) { cls := .type "list", data := .seq its n } = { cls := .type "list", data := .seq (its.setIfInBounds j v) n' } := by
  obtain ⟨n', h⟩ := Obj.data_mapSeq (o := { cls := .type "list", data := .seq its n }) rfl (·.setIfInBounds j v)
  refine ⟨n', ?_⟩
  simp [Obj.mapSeq] at h ⊢
  first | exact h | omega | trivial
section
variable {prog : Program} {w : World} {A : Around} {E : Value → Shared → Prop} {s : Shared} {h₀ : Heap} {L : Addr} {m : Str → Option Value} {news : List (Addr × Obj)}
theorem set_at {l : Addr} {items : Array Value} {n j : Nat} {k : Int} {t : Tok} {v : Value} {Q : Unit → Shared → Prop} (ho : s.heap.get? l = some { cls := .type "list", data := .seq items n })
    (hk : k = (j : Nat)) (hj : j < items.size) (h0 : 0 ≤ k) (hfit : k < 2 ^ 63)
    (hQ : ∀ h' n', h'.get? l = some { cls := .type "list", data := .seq (items.setIfInBounds j v) n' } → Heap.SameBut l s.heap h' → Q () { s with heap := h' }) :
    wpAny (model prog w) A (setItem (.ref l) (.int k t) v) Q E s := by
  have hl : s.heap.IsList l items := ⟨_, ho, rfl, _, rfl⟩
  unfold setItem
  try with_reducible refine wpAny_holding ?_
  first | refine wpAny_bind (wpAny_pure ?_) | skip
  refine wpAny_bind (wpAny_sequenceKey hl.typeIs (by decide) ?_)
  refine wpAny_bind (wpAny_callSpecial?_slot (name := Str.ofString "__setitem__") hl.typeIs slot_list_setitem
    (wpAny_call_entry slot_list_setitem hl.typeIs entry_list_setitem ?_ (args_list_setitem _ _ _)))
  show wpAny _ _ (Builtin.List.listSubscript? (.int k t) >>= _) _ _ s
  refine wpAny_bind (wpAny_listSubscript_int (fitsIndex_of h0 hfit) ?_)
  clear hfit
  subst hk
  have hx' : items[j]? = some items[j] := Array.getElem?_eq_getElem hj
  show wpAny _ _ ((seqItemAt l j >>= fun r => pure (r.map (j, ·))) >>= _) _ _ s
  refine wpAny_bind (wpAny_bind (wpAny_seqItemAt ho rfl (wpAny_pure ?_)))
  rw [hx']
  show wpAny _ _ (setSeqItemAt l j v >>= _) _ _ s
  obtain ⟨n', hd'⟩ := mapSeq_set items n j v
  have hfin : (s.heap.update l (Obj.mapSeq (·.setIfInBounds j v))).get? l = some { cls := .type "list", data := .seq (items.setIfInBounds j v) n' } := by
    rw [Heap.get?_update_self _ ho (by rw [hd']; rfl), hd']
  refine wpAny_bind (wpAny_setSeqItemAt ho rfl ?_)
  first
    | exact wpAny_bind (wpAny_pure (wpAny_pure ⟨.none, rfl, wpAny_pure (hQ _ _ hfin (Heap.SameBut.update ..))⟩))
    | exact wpAny_pure ⟨.none, rfl, wpAny_pure (hQ _ _ hfin (Heap.SameBut.update ..))⟩
theorem set_head {D : Addr} {its : Array Value} {n j : Nat} {t : Tok} {v : Value} {rest : List (Addr × Obj)} {Q : Unit → Shared → Prop}
    (F : Fr h₀ L s.heap m) (N : News h₀ L s.heap ((D, { cls := .type "list", data := .seq its n }) :: rest)) (hap : ∀ p ∈ rest, p.1 ≠ D) (hj : j < its.size) (hfit : (j : Int) < 2 ^ 63)
    (h : ∀ h' n', Fr h₀ L h' m → News h₀ L h' ((D, { cls := .type "list", data := .seq (its.setIfInBounds j v) n' }) :: rest) → Q () { s with heap := h' }) :
    wpAny (model prog w) A (setItem (.ref D) (.int (j : Nat) t) v) Q E s :=
  set_at (N.get (.head _)) rfl hj (Int.natCast_nonneg _) hfit fun h' n' ho' hs => h h' n' (F.change hs (N _ (.head _)).2.1 (N _ (.head _)).2.2) (N.setHead hap hs ho')
end
theorem strsAre_set : ∀ {vs : List Value} {ys : List Str} (h : StrsAre vs ys) (p : Nat) (y : Str) (t : Tok), StrsAre (vs.set p (.str y t)) (ys.set p y)
  | [], [], _, _, _, _ => .nil
  | _ :: _, _ :: _, .cons a t h, 0, y, u => .cons y u h
  | _ :: _, _ :: _, .cons a t h, p + 1, y, u => .cons a t (strsAre_set h p y u)
end Mine
end

section
open PySem PySem.W PySem.Calls PyProof.Rows
set_option Elab.async false
namespace Mine
theorem subL_skip (xs : List Nat) (find : Nat → Option (Nat × Nat)) (repl : List Nat) (p : Nat) (hp : p < xs.length) (h : find p = find (p + 1)) (ha : ∀ a e, find p = some (a, e) → p + 1 ≤ a) :
    ∀ f, (subL xs find repl f p).flatten = xs[p] :: (subL xs find repl f (p + 1)).flatten
  | 0 => by
    unfold subL
    rw [if_pos hp, List.flatten_cons, List.flatten_nil, List.append_nil, List.drop_eq_getElem_cons hp]
    split
    · simp
    · rw [List.drop_eq_nil_of_le (by omega)]; rfl
  | f + 1 => by
    unfold subL
    rw [← h]
    cases hf : find p with
    | none =>
      dsimp only
      rw [if_pos hp, List.flatten_cons, List.flatten_nil, List.append_nil, List.drop_eq_getElem_cons hp]
      split
      · simp
      · rw [List.drop_eq_nil_of_le (by omega)]; rfl
    | some q =>
      obtain ⟨a, e⟩ := q
      have := ha a e hf
      dsimp only
      rw [if_pos (by omega), List.drop_eq_getElem_cons hp, show a - p = (a - (p + 1)) + 1 from by omega, List.take_succ_cons]
      split
      · simp
      · rw [show a - (p + 1) = 0 from by omega]; simp
theorem nextAt_skip {P : Nat → Bool} {n p : Nat} (hp : p < n) (h : P p = false) : nextAt P (n - p) p = nextAt P (n - (p + 1)) (p + 1) := by
  rw [show n - p = (n - (p + 1)) + 1 from by omega, nextAt_no h]
theorem nextAt_hit {P : Nat → Bool} {n p : Nat} (hp : p < n) (h : P p = true) : nextAt P (n - p) p = some p := by
  rw [show n - p = (n - (p + 1)) + 1 from by omega]
  unfold nextAt
  rw [if_pos h]
theorem nextAt_over {P : Nat → Bool} {n p : Nat} (hp : n ≤ p) : nextAt P (n - p) p = none := by
  rw [show n - p = 0 from by omega]; rfl

def crlfS : List Nat → List Nat
  | [] => []
  | [c] => if c = 10 ∨ c = 13 then [13, 10] else [c]
  | c :: d :: r => if c = 13 ∧ d = 10 then 13 :: 10 :: crlfS r else if c = 10 ∨ c = 13 then 13 :: 10 :: crlfS (d :: r) else c :: crlfS (d :: r)
theorem crlfS_plain {c : Nat} {r : List Nat} (h1 : c ≠ 10) (h2 : c ≠ 13) : crlfS (c :: r) = c :: crlfS r := by
  cases r with
  | nil => simp [crlfS, h1, h2]
  | cons d r => simp [crlfS, h1, h2]
theorem crlf_go (xs : List Nat) : ∀ (k p f : Nat), xs.length - p = k → k ≤ f → (subL xs (find2f xs.toArray) [13, 10] f p).flatten = crlfS (xs.drop p) := by
  intro k
  induction k using Nat.strongRecOn with
  | _ k ih =>
    intro p f hk hf
    rcases Nat.lt_or_ge p xs.length with hp | hp
    · have hget : xs.toArray.getD p 0 = xs[p] := by simp [Array.getD, hp]
      obtain ⟨f, rfl⟩ : ∃ g, f = g + 1 := ⟨f - 1, by omega⟩
      cases hb : brkAt xs.toArray p with
      | true =>
        have hfd : find2f xs.toArray p = some (p, p + brkLen xs.toArray p) := by
          unfold find2f
          rw [show xs.toArray.size = xs.length from by simp, nextAt_hit hp hb]; rfl
        unfold subL
        rw [hfd]
        dsimp only
        rw [if_neg (Nat.lt_irrefl _), List.nil_append, List.flatten_cons]
        have hc : xs[p] = 10 ∨ xs[p] = 13 := by
          unfold brkAt brk at hb
          rw [hget] at hb
          simpa using hb
        by_cases h2 : p + 1 < xs.length
        · have hget2 : xs.toArray.getD (p + 1) 0 = xs[p + 1] := by simp [Array.getD, h2]
          rw [List.drop_eq_getElem_cons hp, List.drop_eq_getElem_cons h2, crlfS]
          by_cases hcr : xs[p] = 13 ∧ xs[p + 1] = 10
          · have hl : brkLen xs.toArray p = 2 := by unfold brkLen; rw [hget, hget2, hcr.1, hcr.2]; rfl
            rw [hl, if_pos hcr, ih (xs.length - (p + 2)) (by omega) (p + 2) f rfl (by omega)]; rfl
          · have hl : brkLen xs.toArray p = 1 := by
              unfold brkLen
              rw [hget, hget2]
              rw [if_neg]
              simpa using hcr
            rw [hl, if_neg hcr, if_pos hc, ih (xs.length - (p + 1)) (by omega) (p + 1) f rfl (by omega), List.drop_eq_getElem_cons h2]; rfl
        · have hget2 : xs.toArray.getD (p + 1) 0 = 0 := by simp [Array.getD, h2]
          have hl : brkLen xs.toArray p = 1 := by unfold brkLen; rw [hget2]; simp
          rw [hl, ih (xs.length - (p + 1)) (by omega) (p + 1) f rfl (by omega), List.drop_eq_getElem_cons hp, List.drop_eq_nil_of_le (by omega : xs.length ≤ p + 1)]
          simp [crlfS, hc]
      | false =>
        have hfd : find2f xs.toArray p = find2f xs.toArray (p + 1) := by
          unfold find2f
          rw [show xs.toArray.size = xs.length from by simp, nextAt_skip hp hb]
        have hc : xs[p] ≠ 10 ∧ xs[p] ≠ 13 := by
          unfold brkAt brk at hb
          rw [hget] at hb
          simpa using hb
        rw [subL_skip xs _ _ p hp hfd (fun a e h => by rw [hfd] at h; exact (adv2 _ _ _ _ h).1), ih (xs.length - (p + 1)) (by omega) (p + 1) (f + 1) rfl (by omega), List.drop_eq_getElem_cons hp, crlfS_plain hc.1 hc.2]
    · rw [List.drop_eq_nil_of_le hp]
      have hfd : find2f xs.toArray p = none := by
        unfold find2f
        rw [show xs.toArray.size = xs.length from by simp, nextAt_over hp]; rfl
      cases f with
      | zero => unfold subL; rw [if_neg (by omega)]; rfl
      | succ f =>
        unfold subL
        rw [hfd]
        dsimp only
        rw [if_neg (by omega)]; rfl
theorem crlfL_eq (xs : List Nat) : crlfL xs = crlfS xs := by
  unfold crlfL
  rw [crlf_go xs xs.length 0 xs.length (by omega) (Nat.le_refl _), List.drop_zero]
theorem crlfS_len : ∀ (n : Nat) (xs : List Nat), xs.length ≤ n → (crlfS xs).length ≤ 2 * xs.length
  | _, [], _ => by simp [crlfS]
  | _, [c], _ => by unfold crlfS; split <;> simp
  | 0, _ :: _ :: _, h => by simp at h
  | n + 1, c :: d :: r, h => by
    have h1 := crlfS_len n r (by simp at h; omega)
    have h2 := crlfS_len n (d :: r) (by simp at h ⊢; omega)
    unfold crlfS
    split
    · simp at h1 ⊢; omega
    · split <;> simp only [List.length_cons] at h2 ⊢ <;> omega

def dotsS : Bool → List Nat → List Nat
  | _, [] => []
  | b, c :: r => (if b && c == 46 then [46, 46] else [c]) ++ dotsS (c == 10) r
theorem dots_go (xs : List Nat) : ∀ (k p f : Nat), xs.length - p = k → k ≤ f → (subL xs (find1f xs.toArray) [46, 46] f p).flatten = dotsS (p == 0 || xs.toArray.getD (p - 1) 0 == 10) (xs.drop p) := by
  intro k
  induction k using Nat.strongRecOn with
  | _ k ih =>
    intro p f hk hf
    rcases Nat.lt_or_ge p xs.length with hp | hp
    · have hget : xs.toArray.getD p 0 = xs[p] := by simp [Array.getD, hp]
      obtain ⟨f, rfl⟩ : ∃ g, f = g + 1 := ⟨f - 1, by omega⟩
      have hnext : ((p + 1 == 0) || xs.toArray.getD (p + 1 - 1) 0 == 10) = (xs[p] == 10) := by
        rw [show p + 1 - 1 = p from rfl, hget]; simp
      cases hb : dotAt xs.toArray p with
      | true =>
        have hfd : find1f xs.toArray p = some (p, p + 1) := by
          unfold find1f
          rw [show xs.toArray.size = xs.length from by simp, nextAt_hit hp hb]; rfl
        unfold subL
        rw [hfd]
        dsimp only
        rw [if_neg (Nat.lt_irrefl _), List.nil_append, List.flatten_cons, ih (xs.length - (p + 1)) (by omega) (p + 1) f rfl (by omega), hnext, List.drop_eq_getElem_cons hp, dotsS]
        unfold dotAt at hb
        rw [hget] at hb
        rw [hb, if_pos rfl]
      | false =>
        have hfd : find1f xs.toArray p = find1f xs.toArray (p + 1) := by
          unfold find1f
          rw [show xs.toArray.size = xs.length from by simp, nextAt_skip hp hb]
        rw [subL_skip xs _ _ p hp hfd (fun a e h => by rw [hfd] at h; exact (adv1 _ _ _ _ h).1), ih (xs.length - (p + 1)) (by omega) (p + 1) (f + 1) rfl (by omega), hnext, List.drop_eq_getElem_cons hp, dotsS]
        unfold dotAt at hb
        rw [hget] at hb
        rw [hb, if_neg (by decide)]; rfl
    · rw [List.drop_eq_nil_of_le hp]
      have hfd : find1f xs.toArray p = none := by
        unfold find1f
        rw [show xs.toArray.size = xs.length from by simp, nextAt_over hp]; rfl
      cases f with
      | zero => unfold subL; rw [if_neg (by omega)]; rfl
      | succ f =>
        unfold subL
        rw [hfd]
        dsimp only
        rw [if_neg (by omega)]; rfl
theorem dotsL_eq (xs : List Nat) : dotsL xs = dotsS true xs := by
  unfold dotsL
  rw [dots_go xs xs.length 0 xs.length (by omega) (Nat.le_refl _), List.drop_zero]; rfl
theorem quoteL_eq (xs : List Nat) : quoteL xs = dotsS true (crlfS xs) := by
  unfold quoteL
  rw [dotsL_eq, crlfL_eq]
end Mine
end

section
open PySem PySem.W PySem.Calls PyProof.Rows
set_option Elab.async false
set_option maxRecDepth 100000
set_option maxHeartbeats 8000000
namespace Mine
theorem fillD1 : (∀ P, hd.heap_39 P = hd.heap_39 P) ∧ PySem.Challenge.rw_tr0011_01.foot = 4 := by
  k_fill
  exact ⟨fun _ => rfl, rfl⟩
def turnLoop : List Stmt := match turnDef.1.getD 2 (.Pass default) with | .For _ _ b _ _ => b | _ => []
def turnM (Bl Rl : Addr) (xt : Value) (m : Str → Option Value) : Str → Option Value := fun y =>
  if y = Str.ofString "bare" then some (.ref Bl) else if y = Str.ofString "rows" then some (.ref Rl) else if y = Str.ofString "text" then some xt else m y
theorem eq_lit (x : Str) (l : List Nat) (y : Str) (hy : y = strV l) : (x == y) = (x.cps.toList == l) := by
  subst hy
  rw [Bool.eq_iff_iff, beq_iff_eq, beq_iff_eq]
  constructor
  · rintro rfl; rfl
  · intro h; rw [← h, strV_self]
theorem slice_take (x : Str) (j : Nat) : Txt.slice x none (some (j : Int)) = strV (x.cps.toList.take j) := by
  rw [slice_nat x none (some (j : Int)) 0 j (.inl ⟨rfl, rfl⟩) (.inr rfl)]; rfl
theorem slice_drop (x : Str) (i : Nat) : Txt.slice x (some (i : Int)) none = strV (x.cps.toList.drop i) := by
  rw [slice_nat x (some (i : Int)) none i x.length (.inr rfl) (.inl ⟨rfl, Nat.le_refl _⟩), List.take_of_length_le (by rw [List.length_drop]; simp [Str.length])]
theorem turnM_of {Bl Rl : Addr} {xt : Value} {M : Str → Option Value} (h1 : M (Str.ofString "bare") = some (.ref Bl)) (h2 : M (Str.ofString "rows") = some (.ref Rl)) (h3 : M (Str.ofString "text") = some xt) : turnM Bl Rl xt M = M := by
  funext y
  unfold turnM
  by_cases e1 : y = Str.ofString "bare"
  · rw [if_pos e1, e1, h1]
  by_cases e2 : y = Str.ofString "rows"
  · rw [if_neg e1, if_pos e2, e2, h2]
  by_cases e3 : y = Str.ofString "text"
  · rw [if_neg e1, if_neg e2, if_pos e3, e3, h3]
  rw [if_neg e1, if_neg e2, if_neg e3]
theorem turnM_fr {base h : Heap} {L Bl Rl : Addr} {xt : Value} {M : Str → Option Value} (F : Fr base L h M) (h1 : M (Str.ofString "bare") = some (.ref Bl)) (h2 : M (Str.ofString "rows") = some (.ref Rl)) (h3 : M (Str.ofString "text") = some xt) : ∃ m'', Fr base L h (turnM Bl Rl xt m'') := ⟨M, by rw [turnM_of h1 h2 h3]; exact F⟩
def pageP (b : List Nat) : Bool := b.take 2 == [34, 41]
def condP (bs : List (List Nat)) (p : Nat) : Bool := (bs.getD p []).take 1 == [34] && takenL (pageP (bs.getD p [])) (bs.take (p + 1))
def pieceP (b : List Nat) : List Nat := if pageP b then [34, 41, 34] else [34, 40, 34, 41]
def newT (ys bs : List (List Nat)) (p : Nat) (pc : List Nat) : List Nat :=
  quoteL (List.intercalate [13] ((ys.set p ((ys.getD p []).take ((ys.getD p []).length - (bs.getD p []).length) ++ [40] ++ (bs.getD p []).drop pc.length)).drop 1 ++ [[46] ++ pc ++ (bs.getD 0 []).drop 1]) ++ [10])
def turnIf : List Stmt := match turnLoop.getD 1 (.Pass default) with | .If _ b _ _ => b | _ => []
def StepEnd (base : Heap) (L Bl Rl : Addr) (xt : Value) (ys bs : List (List Nat)) (p : Nat) (own : List (Addr × Obj)) (s : Shared) (f : Flow) (s' : Shared) : Prop := match f with
  | .next => condP bs p = false ∧ (∃ m'', Fr base L s'.heap (turnM Bl Rl xt m'')) ∧ News base L s'.heap own ∧ Quiet s s'
  | .ret v => condP bs p = true ∧ (∃ tk, v = .str (strV (newT ys bs p (pieceP (bs.getD p [])))) tk) ∧ (∀ b o, base.get? b = some o → s'.heap.get? b = some o) ∧ Quiet s s'
  | _ => False
section
variable {w : World} {A : Around} {base : Heap} {L : Addr} {cd : Value} {s : Shared} {m : Str → Option Value} {x : Str} {t : Tok} {mg mb : Str → Option Value} {n : Nat}
def lastT (zs bs : List (List Nat)) (pc : List Nat) : List Nat := quoteL (List.intercalate [13] (zs.drop 1 ++ [[46] ++ pc ++ (bs.getD 0 []).drop 1]) ++ [10])
theorem turn_last (rm : Room A (n + 1)) (K0 : (hd.heap_39 w.params).In base) (T0 : TopM mg mb base) {Rl Bl : Addr} {vs us : List Value} {k k' : Nat} {zs bs : List (List Nat)} {own : List (Addr × Obj)} {tk tp : Tok} {pg : Bool} {pc : List Nat} {vd vp : Value}
    (F : Fr base L s.heap (fun y => if y = Str.ofString "dots" then some vd else if y = Str.ofString "piece" then some (.str (strV pc) tp) else if y = Str.ofString "page" then some (.bool pg) else if y = Str.ofString "place" then some vp else if y = Str.ofString "bare" then some (.ref Bl) else if y = Str.ofString "rows" then some (.ref Rl) else if y = Str.ofString "text" then some (.str x t) else m y))
    (N : News base L s.heap ((Rl, { cls := .type "list", data := .seq (List.toArray vs) k }) :: (Bl, { cls := .type "list", data := .seq (List.toArray us) k' }) :: own))
    (hvs : StrsAre vs (zs.map strV)) (hus : StrsAre us (bs.map strV)) (hzs : zs.length ≤ 9) (hbs : bs.length = zs.length) (h0 : 0 < bs.length) (hz : ∀ r ∈ zs, r.length ≤ 50) (hb : ∀ r ∈ bs, r.length ≤ 20) (hpc : pc.length ≤ 4) :
    wpAny (model PP w) A (exec (turnIf.getD 3 (.Pass default)) (turnEnv L cd))
      (fun f s' => match f with
        | .ret v => (∃ tk, v = .str (strV (lastT zs bs pc)) tk) ∧ (∀ b o, base.get? b = some o → s'.heap.get? b = some o) ∧ Quiet s s'
        | _ => False) (fun _ _ => False) s := by
  have hbp : (List.map strV bs).getD (0 : Int).toNat Str.empty = strV (bs.getD 0 []) := by
    simp [List.getD_eq_getElem?_getD, List.getElem?_map, List.getElem?_eq_getElem h0]
  have hbl : (bs.getD 0 []).length ≤ 20 := by
    rw [List.getD_eq_getElem?_getD, List.getElem?_eq_getElem h0]
    exact hb _ (List.getElem_mem _)
  unfold lastT
  generalize hbb : bs.getD 0 [] = b at hbp hbl
  generalize hzz : strV b = z at hbp
  have hzl : z.length ≤ 20 := by rw [← hzz, strV_len]; exact hbl
  generalize hpp : strV pc = zp at F
  have hzpl : zp.length ≤ 4 := by rw [← hpp, strV_len]; exact hpc
  change wpAny _ _ (exec (Stmt.Return _ _) _) _ _ _
  iterate 32 walk1
  rw [hbp]
  iterate 7 walk1
  dsimp only
  have hsl : Txt.slice z (some 1) none = strV (b.drop 1) := by
    rw [← hzz]
    exact slice_drop (strV b) 1
  rw [hsl]
  generalize hss : strV (b.drop 1) = zs₁
  have hsl : zs₁.length ≤ 20 := by rw [← hss, strV_len, List.length_drop]; omega
  iterate 3 walk1
  rename Fr _ _ _ _ => F
  rename News _ _ _ _ => N
  rw [show slicePick vs.toArray (some 1) none none = (vs.drop 1).toArray from slicePick_from' vs.toArray 1] at N
  have hvl : vs.length = zs.length := by rw [hvs.len_eq, List.length_map]
  refine add_lists (vs := vs.drop 1) (ws := [_]) F N ⟨_, N.get (.tail _ (.head _)), rfl, _, rfl⟩ ⟨_, N.get (.head _), rfl, _, rfl⟩ (fun h' F N => ?_) (by rw [List.length_drop, sizeLine_eq]; simp only [List.length_cons, List.length_nil]; omega)
  have hadd : Str.ofString "." ++ zp ++ zs₁ = strV ([46] ++ pc ++ b.drop 1) := by
    rw [← hpp, ← hss]
    apply Str.ext'
    apply Array.toList_inj.mp
    simp only [Str.cps_append, Array.toList_append]
    rfl
  have hst : ∀ tq, StrsAre (vs.drop 1 ++ [Value.str (Str.ofString "." ++ zp ++ zs₁) tq]) ((zs.drop 1 ++ [[46] ++ pc ++ b.drop 1]).map strV) := by
    intro tq
    rw [List.map_append, List.map_drop, hadd]
    exact StrsAre.append' (hvs.drop' 1) (.cons _ _ .nil)
  have hrows : ∀ r ∈ zs.drop 1 ++ [[46] ++ pc ++ b.drop 1], r.length ≤ 50 := by
    intro r hr
    rcases List.mem_append.mp hr with hr | hr
    · exact hz r (List.mem_of_mem_drop hr)
    · rw [List.mem_singleton.mp hr]
      simp only [List.length_append, List.length_cons, List.length_nil, List.length_drop]
      omega
  have hrl : (zs.drop 1 ++ [[46] ++ pc ++ b.drop 1]).length ≤ 10 := by
    simp only [List.length_append, List.length_drop, List.length_cons, List.length_nil]; omega
  dsimp only
  iterate 1 walk1
  generalize hjj : zs.drop 1 ++ [[46] ++ pc ++ b.drop 1] = js at hst hrows hrl
  have hsum := sum_le (N := 50) js hrows
  refine join_list ⟨_, N.get (.head _), rfl, _, rfl⟩ (hst _) ?_ fun t' k' => ?_
  · have hone : (Str.ofString "\r").length = 1 := by decide
    rw [hone, List.length_map]
    show ((js.map fun r => (⟨r.toArray⟩ : Str)).map (·.length)).sum + _ ≤ _
    omega
  rw [show Txt.join (Str.ofString "\r") (js.map strV) = strV (List.intercalate [13] js) from by
    rw [show Str.ofString "\r" = (⟨([13] : List Nat).toArray⟩ : Str) from by decide]; exact join_sep [13] js]
  have hjl : (List.intercalate [13] js).length ≤ 600 := by
    have : ∀ l : List (List Nat), (∀ r ∈ l, r.length ≤ 50) → (List.intercalate [13] l).length ≤ l.length * 51 := by
      intro l
      induction l with
      | nil => intro _; simp [List.intercalate]
      | cons a l ih =>
        intro hl
        have h1 := ih fun r hr => hl r (.tail _ hr)
        have h2 := hl a (.head _)
        cases l with
        | nil => simp [List.intercalate]; omega
        | cons b l =>
          simp only [List.intercalate, List.intersperse, List.flatten_cons, List.length_append, List.length_cons, List.length_nil] at h1 ⊢
          omega
    have := this js hrows
    omega
  have hgoal : quoteL (List.intercalate [13] js ++ [10]) = quoteL (strV (List.intercalate [13] js) ++ Str.ofString "\n").cps.toList := by
    congr 1
    simp only [Str.cps_append, Array.toList_append]
    rfl
  rw [show zs.drop 1 ++ [46 :: (pc ++ b.drop 1)] = js from hjj, hgoal]
  generalize hj2 : strV (List.intercalate [13] js) = zj
  have hzj : zj.length ≤ 600 := by rw [← hj2, strV_len]; exact hjl
  iterate 12 (first | (guard_target =~ _ ∧ _; skip) | walk1)
  rename_i hadd2
  have hq : (zj ++ Str.ofString "\n").length ≤ 700 := by
    have h1 : (Str.ofString "\n").length = 1 := by decide
    omega
  generalize hww : zj ++ Str.ofString "\n" = zw at hq
  have hcl : (crlfL zw.cps.toList).length ≤ 2000 := by
    rw [crlfL_eq]
    have := crlfS_len _ zw.cps.toList (Nat.le_refl _)
    have h2 : zw.cps.toList.length = zw.length := by simp [Str.length]
    omega
  walk1
  refine wpAny_call (quote_code rm (K0.keeps F.keep) (T0.keeps F.keep) (by omega) hcl fun s₂ tk₂ hl => ?_)
  exact ⟨⟨_, rfl⟩, fun b o e => hl.keep b o (F.keep b o e), ⟨fun q => hl.gens q, hl.os⟩⟩
end
end Mine
end

section
open PySem PySem.W PySem.Calls PyProof.Rows
set_option Elab.async false
set_option maxRecDepth 100000
set_option maxHeartbeats 8000000
namespace Mine
theorem fillC9 : (∀ P, hd.heap_39 P = hd.heap_39 P) ∧ PySem.Challenge.rw_tr0011_01.foot = 4 := by
  k_fill
  exact ⟨fun _ => rfl, rfl⟩
section
variable {w : World} {A : Around} {base : Heap} {L : Addr} {cd : Value} {s : Shared} {m : Str → Option Value} {x : Str} {t : Tok} {mg mb : Str → Option Value} {n : Nat}
theorem turn_rest (rm : Room A (n + 3)) (K0 : (hd.heap_39 w.params).In base) (T0 : TopM mg mb base) {Rl Bl : Addr} {vs us : List Value} {k k' : Nat} {ys bs : List (List Nat)} {own : List (Addr × Obj)} {tk tp : Tok} {p : Nat} {pg : Bool} {pc : List Nat}
    (F : Fr base L s.heap (fun y => if y = Str.ofString "piece" then some (.str (strV pc) tp) else if y = Str.ofString "page" then some (.bool pg) else if y = Str.ofString "place" then some (.int (p : Nat) tk) else turnM Bl Rl (.str x t) m y)) (hne : Bl ≠ Rl)
    (N : News base L s.heap ((Bl, { cls := .type "list", data := .seq (List.toArray us) k' }) :: (Rl, { cls := .type "list", data := .seq (List.toArray vs) k }) :: own))
    (hown : ∀ q ∈ own, q.1 ≠ Rl)
    (hvs : StrsAre vs (ys.map strV)) (hus : StrsAre us (bs.map strV)) (hys : ys.length ≤ 9) (hbs : bs.length = ys.length) (hy : ∀ r ∈ ys, r.length ≤ 20) (hb : ∀ r ∈ bs, r.length ≤ 20) (hp : p < ys.length) (hpc : pc.length ≤ 4) (hle : (bs.getD p []).length ≤ (ys.getD p []).length) :
    wpAny (model PP w) A (execs (turnIf.drop 1) (turnEnv L cd))
      (fun f s' => match f with
        | .ret v => (∃ tk, v = .str (strV (newT ys bs p pc)) tk) ∧ (∀ b o, base.get? b = some o → s'.heap.get? b = some o) ∧ Quiet s s'
        | _ => False) (fun _ _ => False) s := by
  unfold turnM at F
  have hbp : (List.map strV bs).getD ((p : Nat) : Int).toNat Str.empty = strV (bs.getD p []) := by
    simp [List.getD_eq_getElem?_getD, List.getElem?_map, List.getElem?_eq_getElem (show p < bs.length from by omega)]
  have hbl : (bs.getD p []).length ≤ 20 := by
    rw [List.getD_eq_getElem?_getD, List.getElem?_eq_getElem (show p < bs.length from by omega)]
    exact hb _ (List.getElem_mem _)
  have hyp : (List.map strV ys).getD ((p : Nat) : Int).toNat Str.empty = strV (ys.getD p []) := by
    simp [List.getD_eq_getElem?_getD, List.getElem?_map, List.getElem?_eq_getElem hp]
  have hyl : (ys.getD p []).length ≤ 20 := by
    rw [List.getD_eq_getElem?_getD, List.getElem?_eq_getElem hp]
    exact hy _ (List.getElem_mem _)
  unfold newT
  generalize hbb : bs.getD p [] = b at hbp hbl hle
  generalize hyy : ys.getD p [] = yr at hyp hyl hle
  generalize hzz : strV b = z at hbp
  have hzl : z.length ≤ 20 := by rw [← hzz, strV_len]; exact hbl
  have hzc : z.cps.toList = b := by rw [← hzz]
  generalize hzz2 : strV yr = zy at hyp
  have hzyl : zy.length ≤ 20 := by rw [← hzz2, strV_len]; exact hyl
  have hzyc : zy.cps.toList = yr := by rw [← hzz2]
  generalize hpp : strV pc = zp at F
  have hzpl : zp.length ≤ 4 := by rw [← hpp, strV_len]; exact hpc
  refine wpAny_execs_cons ?_
  have hvs₂ := hvs
  iterate 6 walk1
  rw [hyp]
  iterate 12 walk1
  rw [hyp]
  iterate 2 walk1
  have hus₂ := hus
  iterate 8 walk1
  rw [hbp]
  iterate 6 walk1
  dsimp only
  have hsl : Txt.slice zy none (some ((zy.length : Int) - (z.length : Int))) = strV (yr.take (yr.length - b.length)) := by
    rw [← hzz2, ← hzz, strV_len, strV_len, show ((yr.length : Int) - (b.length : Int)) = ((yr.length - b.length : Nat) : Int) from by omega]
    exact slice_take (strV yr) _
  rw [hsl]
  generalize hdd : strV (yr.take (yr.length - b.length)) = zd
  have hdl : zd.length ≤ 20 := by rw [← hdd, strV_len, List.length_take]; omega
  iterate 1 walk1
  rename Fr _ _ _ _ => F
  rename News _ _ _ _ => N
  refine wpAny_execs_cons ?_
  iterate 11 walk1
  rw [hbp]
  iterate 13 walk1
  dsimp only
  have hsl2 : Txt.slice z (some (zp.length : Int)) none = strV (b.drop pc.length) := by
    rw [← hzz, ← hpp, strV_len]
    exact slice_drop (strV b) _
  rw [hsl2]
  generalize hss : strV (b.drop pc.length) = zs
  have hsl : zs.length ≤ 20 := by rw [← hss, strV_len, List.length_drop]; omega
  iterate 3 walk1
  rename Fr _ _ _ _ => F
  rename News _ _ _ _ => N
  have N₂ : News base L _ ((Rl, { cls := .type "list", data := .seq (List.toArray vs) k }) :: (Bl, { cls := .type "list", data := .seq (List.toArray us) k' }) :: own) := fun q hq => N q (by
    rcases List.mem_cons.mp hq with rfl | hq
    · exact .tail _ (.head _)
    · rcases List.mem_cons.mp hq with rfl | hq
      · exact .head _
      · exact .tail _ (.tail _ hq))
  have hvl : vs.length = ys.length := by rw [hvs.len_eq, List.length_map]
  have hp63 : (p : Int) < 2 ^ 63 := Int.lt_of_lt_of_le (show (p : Int) < 10 by omega) (by decide)
  refine set_head (j := p) F N₂ (fun q hq => by
    rcases List.mem_cons.mp hq with rfl | hq
    · exact hne
    · exact hown q hq) (by rw [List.size_toArray]; omega) hp63 fun h' n' F N => ?_
  have hnew : zd ++ Str.ofString "(" ++ zs = strV (yr.take (yr.length - b.length) ++ [40] ++ b.drop pc.length) := by
    rw [← hdd, ← hss]
    apply Str.ext'
    apply Array.toList_inj.mp
    simp only [Str.cps_append, Array.toList_append]
    rfl
  rw [List.setIfInBounds_toArray] at N
  refine wpAny_execs_cons (wpAny_mono (turn_last (zs := ys.set p (yr.take (yr.length - b.length) ++ [40] ++ b.drop pc.length)) (bs := bs) (pc := pc) (n := n) (tk := 0) (rm.less (by omega)) K0 T0 (by rw [hpp]; exact F) N ?_ hus (by rw [List.length_set]; exact hys) (by rw [List.length_set]; exact hbs) (by omega) ?_ hb hpc) ?_ (fun _ _ h => h))
  · rw [List.map_set, ← hnew]
    exact strsAre_set hvs p _ _
  · intro r hr
    rcases List.mem_or_eq_of_mem_set hr with hr | rfl
    · have := hy r hr; omega
    · simp only [List.length_append, List.length_take, List.length_drop, List.length_cons, List.length_nil]; omega
  · intro f s' hf
    cases f with
    | ret v =>
      obtain ⟨h1, h2, h3⟩ := hf
      exact ⟨h1, h2, ⟨fun q => h3.gens q, h3.os⟩⟩
    | next => exact hf.elim
    | brk => exact hf.elim
    | cont => exact hf.elim
end
end Mine
end

section
open PySem PySem.W PySem.Calls PyProof.Rows
set_option Elab.async false
set_option maxRecDepth 100000
set_option maxHeartbeats 8000000
namespace Mine
theorem fillC10 : (∀ P, hd.heap_39 P = hd.heap_39 P) ∧ PySem.Challenge.rw_tr0011_01.foot = 4 := by
  k_fill
  exact ⟨fun _ => rfl, rfl⟩
section
variable {w : World} {A : Around} {base : Heap} {L : Addr} {cd : Value} {s : Shared} {m : Str → Option Value} {x : Str} {t : Tok} {mg mb : Str → Option Value} {n : Nat}
theorem turn_step (rm : Room A (n + 3)) (K0 : (hd.heap_39 w.params).In base) (T0 : TopM mg mb base) {Rl Bl : Addr} {vs us : List Value} {k k' : Nat} {ys bs : List (List Nat)} {own : List (Addr × Obj)} {tk : Tok} {p : Nat}
    (F : Fr base L s.heap (fun y => if y = Str.ofString "place" then some (.int (p : Nat) tk) else turnM Bl Rl (.str x t) m y)) (hne : Bl ≠ Rl)
    (N : News base L s.heap ((Bl, { cls := .type "list", data := .seq (List.toArray us) k' }) :: (Rl, { cls := .type "list", data := .seq (List.toArray vs) k }) :: own))
    (hown : ∀ q ∈ own, q.1 ≠ Rl)
    (hvs : StrsAre vs (ys.map strV)) (hus : StrsAre us (bs.map strV)) (hys : ys.length ≤ 9) (hbs : bs.length = ys.length) (hy : ∀ r ∈ ys, r.length ≤ 20) (hb : ∀ r ∈ bs, r.length ≤ 20) (hp : p < ys.length) (hle : (bs.getD p []).length ≤ (ys.getD p []).length) :
    wpAny (model PP w) A (execs turnLoop (turnEnv L cd)) 
      (StepEnd base L Bl Rl (.str x t) ys bs p ((Bl, { cls := .type "list", data := .seq (List.toArray us) k' }) :: (Rl, { cls := .type "list", data := .seq (List.toArray vs) k }) :: own) s) (fun _ _ => False) s := by
  unfold turnM at F
  have hbp : (List.map strV bs).getD ((p : Nat) : Int).toNat Str.empty = strV (bs.getD p []) := by
    simp [List.getD_eq_getElem?_getD, List.getElem?_map, List.getElem?_eq_getElem (show p < bs.length from by omega)]
  have hbl : (bs.getD p []).length ≤ 20 := by
    rw [List.getD_eq_getElem?_getD, List.getElem?_eq_getElem (show p < bs.length from by omega)]
    exact hb _ (List.getElem_mem _)
  generalize hbb : bs.getD p [] = b at hbp hbl
  generalize hzz : strV b = z at hbp
  have hzl : z.length ≤ 20 := by rw [← hzz, strV_len]; exact hbl
  have hzc : z.cps.toList = b := by rw [← hzz]
  refine wpAny_execs_cons ?_
  iterate 7 walk1
  rw [hbp]
  iterate 9 walk1
  rw [show Txt.slice z none (some 2) = strV (z.cps.toList.take 2) from slice_take z 2, eq_lit _ [34, 41] _ (by decide)]
  rw [show ((strV (z.cps.toList.take 2)).cps.toList == [34, 41]) = pageP b from by rw [hzc]; rfl]
  iterate 1 walk1
  rename Fr _ _ _ _ => F
  rename News _ _ _ _ => N
  refine wpAny_execs_cons ?_
  iterate 8 walk1
  rw [hbp]
  iterate 7 walk1
  dsimp only
  iterate 2 walk1
  rw [show Txt.slice z none (some 1) = strV (z.cps.toList.take 1) from slice_take z 1, eq_lit _ [34] _ (by decide)]
  rw [show ((strV (z.cps.toList.take 1)).cps.toList == [34]) = (b.take 1 == [34]) from by rw [hzc]]
  refine truthy_bool ?_
  cases hc1 : (b.take 1 == [34])
  · rw [if_neg (by decide)]
    iterate 4 walk1
    rename Fr _ _ _ _ => F
    rename News _ _ _ _ => N
    refine ⟨?_, turnM_fr F (by rfl) (by rfl) (by rfl), N, Quiet.same rfl rfl⟩
    unfold condP; rw [hbb, hc1]; rfl
  · rw [if_pos rfl]
    iterate 11 walk1
    iterate 16 (first | (guard_target =~ _ ∧ _; skip) | walk1)
    walk1
    rename Fr _ _ _ _ => F
    rename News _ _ _ _ => N
    have hN := N.get (.head _)
    dsimp only at hN
    rw [show slicePick us.toArray none (some ((p : Int) + 1)) none = (us.take (p + 1)).toArray from slicePick_upto' us.toArray (p + 1)] at hN
    have hus' := hus.take' (p + 1)
    rw [← List.map_take] at hus'
    refine wpAny_call (taken_code rm (K0.keeps F.keep) (T0.keeps F.keep) hN hus' (by rw [List.length_take]; omega) (fun r hr => hb r (List.mem_of_mem_take hr)) fun s₂ hl => ?_)
    replace F := hl.fr F
    replace N := newsTail (hl.news N)
    refine truthy_bool ?_
    cases hc2 : takenL (pageP b) (bs.take (p + 1))
    · rw [if_neg (by decide)]
      iterate 3 walk1
      refine ⟨?_, turnM_fr F (by rfl) (by rfl) (by rfl), N, ⟨hl.gens, hl.os⟩⟩
      unfold condP; rw [hbb, hc2, Bool.and_false]
    · rw [if_pos rfl]
      iterate 3 walk1
      have hcond : condP bs p = true := by unfold condP; rw [hbb, hc1, hc2]; rfl
      iterate 5 walk1
      have hpl : (pieceP b).length ≤ 4 := by unfold pieceP; split <;> decide
      cases hpg : pageP b
      · rw [if_neg (by decide)]
        iterate 2 walk1
        rename Fr _ _ _ _ => F
        rename News _ _ _ _ => N
        refine wpAny_mono (turn_rest (pc := pieceP (bs.getD p [])) (ys := ys) (bs := bs) (p := p) rm K0 T0 (by
          rw [show strV (pieceP (bs.getD p [])) = Str.ofString "\"(\")" from by rw [hbb]; unfold pieceP; rw [hpg]; decide]
          exact F) hne N hown hvs hus hys hbs hy hb hp (by rw [hbb]; exact hpl) hle) ?_ (fun _ _ h => h)
        intro f s' hf
        cases f with
        | ret v => exact ⟨hcond, hf.1, hf.2.1, ⟨fun q => hf.2.2.gens (hl.gens q), hf.2.2.os.trans hl.os⟩⟩
        | next => exact hf.elim
        | brk => exact hf.elim
        | cont => exact hf.elim
      · rw [if_pos rfl]
        iterate 2 walk1
        rename Fr _ _ _ _ => F
        rename News _ _ _ _ => N
        refine wpAny_mono (turn_rest (pc := pieceP (bs.getD p [])) (ys := ys) (bs := bs) (p := p) rm K0 T0 (by
          rw [show strV (pieceP (bs.getD p [])) = Str.ofString "\")\"" from by rw [hbb]; unfold pieceP; rw [hpg]; decide]
          exact F) hne N hown hvs hus hys hbs hy hb hp (by rw [hbb]; exact hpl) hle) ?_ (fun _ _ h => h)
        intro f s' hf
        cases f with
        | ret v => exact ⟨hcond, hf.1, hf.2.1, ⟨fun q => hf.2.2.gens (hl.gens q), hf.2.2.os.trans hl.os⟩⟩
        | next => exact hf.elim
        | brk => exact hf.elim
        | cont => exact hf.elim
end
end Mine
end

section
open PySem PySem.W PySem.Calls PyProof.Rows
set_option Elab.async false
set_option maxRecDepth 100000
set_option maxHeartbeats 8000000
namespace Mine
theorem fillC11 : (∀ P, hd.heap_39 P = hd.heap_39 P) ∧ PySem.Challenge.rw_tr0011_01.foot = 4 := by
  k_fill
  exact ⟨fun _ => rfl, rfl⟩
def bareL (ys : List (List Nat)) : List (List Nat) := ys.map fun r => r.dropWhile (· == 46)
def turnS (xs : List Nat) : List Nat := match (List.range' 1 ((linesL xs).length - 1)).find? (condP (bareL (linesL xs))) with
  | none => xs
  | some p => newT (linesL xs) (bareL (linesL xs)) p (pieceP ((bareL (linesL xs)).getD p []))
theorem find_none {P : Nat → Bool} : ∀ (k a : Nat), (∀ q, q < k → P (a + q) = false) → (List.range' a k).find? P = none
  | 0, _, _ => rfl
  | k + 1, a, h => by
    rw [List.range'_succ, List.find?_cons, show P a = false from h 0 (by omega)]
    exact find_none k (a + 1) fun q hq => by rw [show a + 1 + q = a + (q + 1) from by omega]; exact h (q + 1) (by omega)
theorem find_at {P : Nat → Bool} : ∀ (k a j : Nat), j < k → (∀ q, q < j → P (a + q) = false) → P (a + j) = true → (List.range' a k).find? P = some (a + j)
  | 0, _, _, hj, _, _ => absurd hj (Nat.not_lt_zero _)
  | k + 1, a, 0, _, _, h => by
    rw [List.range'_succ, List.find?_cons, show P a = true from h]; rfl
  | k + 1, a, j + 1, hj, h, hp => by
    rw [List.range'_succ, List.find?_cons, show P a = false from h 0 (by omega)]
    have := find_at k (a + 1) j (by omega) (fun q hq => by rw [show a + 1 + q = a + (q + 1) from by omega]; exact h (q + 1) (by omega)) (by rw [show a + 1 + j = a + (j + 1) from by omega]; exact hp)
    rw [show a + 1 + j = a + (j + 1) from by omega] at this
    exact this
theorem bare_len (ys : List (List Nat)) : (bareL ys).length = ys.length := by simp [bareL]
theorem bare_getD (ys : List (List Nat)) (p : Nat) : (bareL ys).getD p [] = (ys.getD p []).dropWhile (· == 46) := by
  unfold bareL
  rw [List.getD_eq_getElem?_getD, List.getElem?_map, List.getD_eq_getElem?_getD]
  cases ys[p]? <;> rfl
theorem bare_le (ys : List (List Nat)) (p : Nat) : ((bareL ys).getD p []).length ≤ (ys.getD p []).length := by
  rw [bare_getD]; exact (List.dropWhile_sublist _).length_le

theorem turn_code {w : World} {A : Around} {n : Nat} {s : Shared} {mg mb : Str → Option Value} {x : Str} {t : Tok} {R : Result → Shared → Prop}
    (rm : Room A (n + 4)) (K0 : (hd.heap_39 w.params).In s.heap) (T0 : TopM mg mb s.heap) (hx : x.length ≤ 400)
    (hys : (cutS [13, 10] 0 x.cps.toList).length ≤ 10) (hy : ∀ r ∈ linesL x.cps.toList, r.length ≤ 20)
    (hR : ∀ s' tk, Later s s' → R (.ok (.ret (.str (strV (turnS x.cps.toList)) tk))) s') : codeAny (model PP w) A (.call (.ref 100) ⟨[.str x t], []⟩) R s := by
  refine enterL rm K0 T0 (by k_is) (by k_is) (BindsTo.of_eq (binds := [(Str.ofString "text", .str x t)]) rfl) (locs rfl) (fun h₁ A' rm' F N => ?_) (by decide) rfl rfl rfl
  have hll : (linesL x.cps.toList).length ≤ 9 := by unfold linesL; rw [List.length_dropLast]; omega
  refine wpAny_execs_cons (wpAny_mono (turn_rows rm' K0 T0 F (by rfl) hx hys) (fun f s₁ h => ?_) fun _ _ h => h)
  obtain ⟨rfl, ⟨Rl, vs, k, F₁, N₁, hvs⟩, hg₁, ho₁⟩ := h
  dsimp only
  refine wpAny_execs_cons (wpAny_mono (turn_bare rm' K0 T0 F₁ N₁ hvs (by omega) hy) (fun f s₂ h => ?_) fun _ _ h => h)
  obtain ⟨rfl, ⟨Bl, us, k', F₂, N₂, hne, hus⟩, hg₂, ho₂⟩ := h
  dsimp only
  refine wpAny_execs_cons (wpAny_For ?_ (fun _ => rfl))
  iterate 12 walk1
  have hvl : vs.length = (linesL x.cps.toList).length := by rw [hvs.len_eq, List.length_map]
  refine call_len_list ⟨_, N₂.get (.tail _ (.head _)), rfl, _, rfl⟩ (Int.lt_of_le_of_lt (show ((vs.toArray.size : Nat) : Int) ≤ 9 by rw [List.size_toArray]; omega) (by decide)) ?_
  have hsz : vs.toArray.size = (linesL x.cps.toList).length := by rw [List.size_toArray, hvl]
  generalize vs.toArray.size = nn at hsz
  iterate 2 walk1
  rename Fr _ _ _ _ => F
  rename News _ _ _ _ => N
  rename IsRange _ _ _ _ _ _ _ _ => hir
  have hbs : (bareL (linesL x.cps.toList)).length = (linesL x.cps.toList).length := bare_len _
  have hBL := (N _ (.head _)).2.1
  have hRL := (N _ (.tail _ (.head _))).2.1
  have hBb := (N _ (.head _)).2.2
  have hRb := (N _ (.tail _ (.head _))).2.2
  refine for_range (base := s.heap) (L := s.heap.objs.size) (nn - 1) rm'.hh rfl rfl rfl hir (by decide) (by decide) (by omega) (by omega) (by omega)
    (fun j m h => (∃ m0, m = turnM Bl Rl (.str x t) m0) ∧ h.get? Bl = some { cls := .type "list", data := .seq us.toArray k' } ∧ h.get? Rl = some { cls := .type "list", data := .seq vs.toArray k } ∧ ∀ q, q < j → condP (bareL (linesL x.cps.toList)) (1 + q) = false)
    ?_ ?_ ?_ F ?_
  · rintro j m h h' hk ⟨h1, h2, h3, h4⟩
    exact ⟨h1, hk _ _ trivial h2, hk _ _ trivial h3, h4⟩
  · rintro j tk m' s₃ own hj ⟨⟨m0, rfl⟩, hB, hR', hq⟩ hown hqs F₃ N₃
    rw [show (1 : Int) + ((j : Nat) : Int) = ((1 + j : Nat) : Int) from by omega] at F₃
    have N₄ := newsCons hBL hBb hB (newsCons hRL hRb hR' N₃)
    refine wpAny_mono (turn_step (p := 1 + j) (ys := linesL x.cps.toList) (bs := bareL (linesL x.cps.toList)) rm' K0 T0 F₃ hne N₄ (fun q hq => ?_) hvs hus hll hbs hy (fun r hr => ?_) (by omega) (bare_le _ _)) ?_ (fun _ _ h => h)
    · intro e
      have := hown q hq
      rw [e, N.get (.tail _ (.head _))] at this
      cases this
    · obtain ⟨r', hr', rfl⟩ := List.mem_map.mp hr
      exact Nat.le_trans (List.dropWhile_sublist _).length_le (hy r' hr')
    · intro f s₄ hf
      cases f with
      | next =>
        obtain ⟨hc, ⟨m'', F₅⟩, N₅, hq₅⟩ := hf
        refine ⟨_, F₅, newsTail (newsTail N₅), ⟨⟨m'', rfl⟩, N₅.get (.head _), N₅.get (.tail _ (.head _)), fun q hq' => ?_⟩, hq₅⟩
        rcases Nat.lt_or_ge q j with h | h
        · exact hq q h
        · rw [show q = j from by omega]; exact hc
      | ret v =>
        obtain ⟨hc, ⟨tk', rfl⟩, hk₅, hq₅⟩ := hf
        dsimp only
        intro htk
        have e : turnS x.cps.toList = newT (linesL x.cps.toList) (bareL (linesL x.cps.toList)) (1 + j) (pieceP ((bareL (linesL x.cps.toList)).getD (1 + j) [])) := by
          unfold turnS
          rw [find_at ((linesL x.cps.toList).length - 1) 1 j (by omega) hq hc]
        rw [← e]
        refine hR _ _ ⟨hk₅, fun q => hq₅.gens (hqs.gens ?_), ?_, htk⟩
        · show AllBare s₂.gens
          rw [hg₂, hg₁]; exact q
        · exact hq₅.os.trans (hqs.os.trans (ho₂.trans ho₁))
      | brk => exact hf.elim
      | cont => exact hf.elim
  · rintro s₃ m' F₃ ⟨⟨m0, rfl⟩, hB, hR', hq⟩ hqs
    unfold turnM at F₃
    dsimp only
    have N₃ := (News.nil : News s.heap s.heap.objs.size s₃.heap [])
    clear F
    iterate 3 walk1
    dsimp only
    intro htk
    have e : turnS x.cps.toList = x.cps.toList := by
      unfold turnS
      rw [find_none _ 1 (fun q hq' => hq q (by omega))]
    have h2 := hR s₃ t
    rw [e, strV_self] at h2
    refine h2 ⟨F₃.keep, fun q => hqs.gens ?_, ?_, htk⟩
    · show AllBare s₂.gens
      rw [hg₂, hg₁]; exact q
    · exact hqs.os.trans (ho₂.trans ho₁)
  · exact ⟨⟨_, rfl⟩, N.get (.head _), N.get (.tail _ (.head _)), fun q hq => absurd hq (Nat.not_lt_zero _)⟩
end Mine
end

section
open PySem PySem.W PySem.Calls PyProof.Rows
open Sem (wp)
set_option Elab.async false
set_option maxRecDepth 100000
set_option maxHeartbeats 8000000
namespace Mine
theorem fillE1 : (∀ P, hd.heap_39 P = hd.heap_39 P) ∧ PySem.Challenge.rw_tr0011_01.foot = 4 := by
  k_fill
  exact ⟨fun _ => rfl, rfl⟩
/-- enter a def with cells -/
theorem enterC {w : World} {A : Around} {n : Nat} {s : Shared} {mg mb : Str → Option Value} {K : Frag} {R : Result → Shared → Prop} {name qual : Str} {params : Arguments} {body : List Stmt} {scope : Scope} {dV kV doc pm cdv ct oc : Value} {an od : Option Addr} {osl : Array (Option Value)} {f : Addr} {args : Args} {binds : List (Str × Value)}
    (rm : Room A (n + 1)) (X : K.In s.heap) (T : TopM mg mb s.heap)
    (ho : K.lookup f = some ⟨oc, od, .func (fnOf name qual params body scope dV kV doc pm an cdv ct), osl⟩) (hcd : codeIn K cdv qual = true)
    (hbind : BindsTo s (fnOf name qual params body scope dV kV doc pm an cdv ct) args binds) (hkind : (binds.all fun y => scope.names.lookup y.1 == some .local || scope.names.lookup y.1 == some .cell) = true)
    (hnd : ((cellsFrom 0 scope.names []).map (·.1)).Nodup)
    (h : ∀ h₁ A' tk cells, Room A' n → Fr s.heap s.heap.objs.size h₁ (bindL (envOfC qual scope s.heap.objs.size f cdv).kindOf binds fun _ => none) → News s.heap s.heap.objs.size h₁ cells →
      CellsAre (bindC (envOfC qual scope s.heap.objs.size f cdv).kindOf binds fun _ => none) (cellsFrom (s.heap.objs.size + 1) scope.names []) cells →
      wpAny (model PP w) A' (execs body (envOfC qual scope s.heap.objs.size f cdv))
        (fun fl s' => s.toks ≤ s'.toks → R (.ok (.ret (match fl with | .ret v => v | _ => .none))) s') (fun _ _ => False)
        { s with heap := h₁, toks := tk })
    (hco : scope.isCoroutine = false) (hgen : scope.isGenerator = false) (hk : scope.kind = .function) : codeAny (model PP w) A (.call (.ref f) args) R s := by
  refine codeAny_with_toks (Nat.le_refl s.toks) ?_
  refine codeAny_call_function rm.lt (X _ _ ho) rfl hco hgen rfl (codeRec_of X hcd) (hbind _ _ _ _ ?_)
  refine wpAny_newFunctionEnv_cells hk (kindsX hkind _) fun env' he s' x => ?_
  subst he
  refine ⟨T.nolimit.keeps x.toInCall.keep, codeAny_func ?_⟩
  obtain ⟨h₁, tk, rfl, _⟩ := x.done
  have hk₁ := x.toInCall.keep
  obtain ⟨cells, NC, Y⟩ := Cl.news (h₀ := s.heap) (Nat.le_refl _) fun n c hm => ⟨x.cell n c (lookup_of_mem_nodup (cellsFrom_names scope.names 0 (s.heap.objs.size + 1) [] [] rfl ▸ hnd) hm), x.above n c hm⟩
  exact wpAny_mono (h h₁ _ tk cells (rm.deeper _) ⟨x.toInCall.ns, hk₁, Nat.le_refl _⟩ NC Y) (fun _ _ y => y) (fun _ _ y => y.elim)

end Mine
end

section
open PySem PySem.W PySem.Calls PyProof.Rows
open Sem (wp)
set_option Elab.async false
set_option maxRecDepth 100000
set_option maxHeartbeats 8000000
namespace Mine
theorem fillE2 : (∀ P, hd.heap_39 P = hd.heap_39 P) ∧ PySem.Challenge.rw_tr0011_01.foot = 4 := by
  k_fill
  exact ⟨fun _ => rfl, rfl⟩
def rowsDef : List Stmt × Scope := match PP.main.body.find? (fun st => match st with | .FunctionDef n _ _ _ _ _ _ _ _ _ => n == Str.ofString "_law_rows" | _ => false) with
  | some (.FunctionDef _ _ b _ _ _ sc _ _ _) => (b, sc)
  | _ => ([], default)
def rowsLoop : List Stmt := match rowsDef.1.getD 5 (.Pass default) with | .For _ _ b _ _ => b | _ => []
abbrev rowsEnv (L : Addr) (cd : Value) : Env := envOfC (Str.ofString "_law_rows") rowsDef.2 L 88 cd
def dressesP : List (List Nat) := [[], [97], [38], [62], [92, 40], [92, 41], [92, 34], [92, 92]]
def ownP : List Int := [24, 63, 132, 19, 78, 138, 10, 57, 99]
def xOf (script : List Int) (i : Nat) : Nat := if i < script.length then (script.getD i 0 % 1000000).toNat else (ownP.getD i 0).toNat
def rowsM (l Ow Dr Rs : Addr) (sz : Nat) (tz : Tok) (m : Str → Option Value) : Str → Option Value := fun y =>
  if y = Str.ofString "rows" then some (.ref Rs) else if y = Str.ofString "size" then some (.int (sz : Nat) tz) else if y = Str.ofString "dresses" then some (.ref Dr) else if y = Str.ofString "own" then some (.ref Ow) else if y = Str.ofString "script" then some (.ref l) else m y
abbrev lsO (vs : List Value) (k : Nat) : Obj := { cls := .type "list", data := .seq vs.toArray k }

section
variable {w : World} {A : Around} {base : Heap} {L : Addr} {cd : Value} {s : Shared} {m : Str → Option Value} {mg mb : Str → Option Value} {n : Nat}
theorem rows_x (rm : Room A n) (K0 : (hd.heap_39 w.params).In base) (T0 : TopM mg mb base) {l Ow Dr Rs : Addr} {sz : Nat} {tz tk : Tok} {j : Nat} {vs ov : List Value} {k k2 : Nat} {xs : List Int} {own : List (Addr × Obj)}
    (F : Fr base L s.heap (fun y => if y = Str.ofString "i" then some (.int (j : Nat) tk) else rowsM l Ow Dr Rs sz tz m y))
    (N : News base L s.heap ((Ow, lsO ov k2) :: own)) (hl : base.get? l = some (lsO vs k)) (hvs : IntsAre vs xs) (hov : IntsAre ov ownP) (hlen : xs.length ≤ 63) (hj : j < 9) :
    wpAny (model PP w) A (exec (rowsLoop.getD 0 (.Pass default)) (rowsEnv L cd))
      (fun f s' => f = .next ∧ (∃ t, Fr base L s'.heap (fun y => if y = Str.ofString "x" then some (.int (xOf xs j : Nat) t) else if y = Str.ofString "i" then some (.int (j : Nat) tk) else rowsM l Ow Dr Rs sz tz m y)) ∧
        News base L s'.heap ((Ow, lsO ov k2) :: own) ∧ s'.gens = s.gens ∧ s'.os = s.os) (fun _ _ => False) s := by
  unfold rowsM at F ⊢
  change wpAny _ _ (exec (Stmt.Assign _ _ _) _) _ _ _
  have hL : base.IsList l vs.toArray := ⟨_, hl, rfl, _, rfl⟩
  have hvl : vs.length = xs.length := hvs.length
  iterate 10 walk1
  refine call_len_list ⟨_, F.keep _ _ hl, rfl, _, rfl⟩ (Int.lt_of_le_of_lt (show ((vs.toArray.size : Nat) : Int) ≤ 63 by rw [List.size_toArray]; omega) (by decide)) ?_
  have hsz : vs.toArray.size = xs.length := by rw [List.size_toArray, hvl]
  generalize vs.toArray.size = nn at hsz
  iterate 2 walk1
  by_cases hjl : (j : Int) < (nn : Int)
  · rw [if_pos (decide_eq_true hjl)]
    have hvs₂ := hvs
    iterate 8 walk1
    dsimp only
    rename Fr _ _ _ _ => F
    rename News _ _ _ _ => N
    have e : (xs.getD ((j : Int)).toNat 0).fmod 1000000 = (xOf xs j : Nat) := by
      unfold xOf
      rw [if_pos (by omega), Int.toNat_of_nonneg (Int.emod_nonneg _ (by decide)), Int.fmod_eq_emod_of_nonneg _ (by decide)]; rfl
    rw [e] at F
    exact ⟨trivial, ⟨_, F⟩, N, rfl, rfl⟩
  · rw [if_neg (by rw [decide_eq_false hjl]; decide)]
    have hol : ownP.length = 9 := rfl
    have hov₂ := hov
    iterate 5 walk1
    dsimp only
    rename Fr _ _ _ _ => F
    rename News _ _ _ _ => N
    have e : ownP.getD ((j : Int)).toNat 0 = (xOf xs j : Nat) := by
      unfold xOf
      rw [if_neg (by omega), Int.toNat_of_nonneg]
      · rfl
      · have : ∀ i : Nat, i < 9 → 0 ≤ ownP.getD i 0 := by decide
        exact this j hj
    rw [e] at F
    exact ⟨trivial, ⟨_, F⟩, N, rfl, rfl⟩

def cntV (c : Nat × Nat × Nat) (t1 t2 t3 : Tok) : List Value := [.int (c.1 : Nat) t1, .int (c.2.1 : Nat) t2, .int (c.2.2 : Nat) t3]
def freeL (q : Nat) (c : Nat × Nat × Nat) : List Nat := (if c.1 < q then [0] else []) ++ ((if c.2.1 < c.1 then [1] else []) ++ (if c.2.2 < c.1 then [2] else []))
end
end Mine
end

section
open PySem PySem.W PySem.Calls PyProof.Rows
open Sem (wp)
set_option Elab.async false
set_option maxRecDepth 100000
set_option maxHeartbeats 8000000
namespace Mine
theorem fillE3 : (∀ P, hd.heap_39 P = hd.heap_39 P) ∧ PySem.Challenge.rw_tr0011_01.foot = 4 := by
  k_fill
  exact ⟨fun _ => rfl, rfl⟩
theorem paired_ints {l zs : List Value} (h : Paired (fun v y => ∃ k t, v = Value.int k t ∧ y = Value.int k t) l zs) : ∀ {ns : List Int}, IntsAre l ns → IntsAre zs ns := by
  induction h with
  | nil => intro ns hi; cases hi; exact .nil
  | cons h r ih =>
    intro ns hi
    obtain ⟨k, t, rfl, rfl⟩ := h
    cases hi with
    | cons _ _ hi => exact .cons _ _ (ih hi)
theorem fr_dup {base h : Heap} {L : Addr} {x : Str} {a b : Option Value} {r : Str → Option Value} (F : Fr base L h (fun y => if y = x then a else if y = x then b else r y)) : Fr base L h (fun y => if y = x then a else r y) := by
  have e : (fun y => if y = x then a else if y = x then b else r y) = fun y => if y = x then a else r y := by
    funext y
    by_cases h : y = x
    · rw [if_pos h, if_pos h]
    · rw [if_neg h, if_neg h, if_neg h]
  rw [e] at F; exact F
theorem ldCellK {M : Model} {A : Around} {E : Value → Shared → Prop} {s : Shared} {env : Env} {scope : Scope} {cl : List (Str × Addr)} {C : Addr} {x : Str} {pos : Pos} {c : Addr} {v : Value} {Q : Value → Shared → Prop} (hc : cl.lookup x = some c) (hv : s.heap.IsCell c (some v)) (h : Q v s)
    (hk : (compEnvC scope cl C env).scope.kind = .function := by rfl) (hl : (compEnvC scope cl C env).kindOf x = some .cell := by rfl) (hd : (x == ("__debug__" : Str)) = false := by decide) :
    wpAny M A (eval (.Name x pos) (compEnvC scope cl C env)) Q E s := wpAny_Name (wpAny_loadName_cell hk hl hc hv h) hd
section
variable {w : World} {A : Around} {base : Heap} {L : Addr} {cd : Value} {s : Shared} {m : Str → Option Value} {mg mb : Str → Option Value} {n : Nat}
theorem rows_comp (rm : Room A n) (K0 : (hd.heap_39 w.params).In base) (T0 : TopM mg mb base) {l Ow Dr Rs Cs Fl : Addr} {sz : Nat} {tz tk tx : Tok} {xv j : Nat} {kc kf : Nat} {c : Nat × Nat × Nat} {t1 t2 t3 : Tok} {oc : Obj} {vf : List Value} {fs : List Int} {own : List (Addr × Obj)}
    (F : Fr base L s.heap (fun y => if y = Str.ofString "free" then some (.ref Fl) else if y = Str.ofString "x" then some (.int (xv : Nat) tx) else if y = Str.ofString "i" then some (.int (j : Nat) tk) else rowsM l Ow Dr Rs sz tz m y))
    (N : News base L s.heap ((Fl, lsO vf kf) :: (Cs, lsO (cntV c t1 t2 t3) kc) :: (L + 1, oc) :: own)) (hoc : oc.data = .cell (some (.ref Cs))) (hvf : IntsAre vf fs) (hfs : fs.length ≤ 1) (hc : c.1 ≤ 9 ∧ c.2.1 ≤ 9 ∧ c.2.2 ≤ 9) :
    wpAny (model PP w) A (exec (rowsLoop.getD 2 (.Pass default)) (rowsEnv L cd))
      (fun f s' => f = .next ∧ (∃ Fl vf' kf' own', Fr base L s'.heap (fun y => if y = Str.ofString "free" then some (.ref Fl) else if y = Str.ofString "x" then some (.int (xv : Nat) tx) else if y = Str.ofString "i" then some (.int (j : Nat) tk) else rowsM l Ow Dr Rs sz tz m y) ∧
        News base L s'.heap ((Fl, lsO vf' kf') :: (own' ++ (Cs, lsO (cntV c t1 t2 t3) kc) :: (L + 1, oc) :: own)) ∧ IntsAre vf' (fs ++ ([1, 2].filter fun k : Nat => decide ((if k = 1 then c.2.1 else c.2.2) < c.1)).map fun k => ((k : Nat) : Int))) ∧ s'.gens = s.gens ∧ s'.os = s.os) (fun _ _ => False) s := by
  unfold rowsM at F ⊢
  change wpAny _ _ (exec (Stmt.Assign _ _ _) _) _ _ _
  iterate 3 walk1
  refine wpAny_ListComp_free (cl := [(Str.ofString "counts", L + 1)]) (fun v => match v with | .int k _ => decide ((if k = 1 then c.2.1 else c.2.2) < c.1) | _ => false) (fun v y => ∃ k t, v = .int k t ∧ y = .int k t) (by rfl) (by decide) rfl (by decide) (by decide) ?_
  iterate 7 walk1
  dsimp only
  rename Fr _ _ _ _ => F
  rename News _ _ _ _ => N
  rename_i Dt ht hord
  have htup : ht.IsTuple Dt #[Value.int 1 s.toks, Value.int 2 (s.toks + 1)] := ⟨_, N.get (.head _), rfl, _, rfl⟩
  have hDt := Heap.lt_size (N.get (.head _))
  refine wpAny_pyIter_tuple htup ?_
  have up : ∀ b o, ht.get? b = some o → (ht.push { cls := .type "tuple_iterator", data := .fields #[.ref Dt, .int 0 0] }).get? b = some o := fun b o e => Heap.get?_push_of_some _ e
  refine ⟨ht.objs.size, [ht.objs.size, Dt], [ht.objs.size], 2, _, _, rfl, Walks.tuple rm.hh _ Dt (Nat.ne_of_lt hDt) #[Value.int 1 s.toks, Value.int 2 (s.toks + 1)], (by rw [sizeLine_eq]; omega),
    ⟨⟨_, Heap.get?_push_size _ rfl, rfl, rfl⟩, htup.at fun o e => up _ _ e⟩, ?_, ⟨?_, ?_⟩, ?_⟩
  · intro b hb
    show b < (ht.push _).objs.size
    rw [Heap.size_push]
    rcases List.mem_cons.mp hb with rfl | hb
    · exact Nat.lt_succ_self _
    · rw [List.mem_singleton.mp hb]; exact Nat.lt_succ_of_lt hDt
  · intro C i v s₃ m₃ E' hC hP hns hmx hk htk
    have hkeep : ∀ b o, ht.get? b = some o → s₃.heap.get? b = some o := fun b o e => hk b o (fun q => by rw [List.mem_singleton.mp q] at e; exact absurd (Heap.lt_size e) (Nat.lt_irrefl _)) (up b o e)
    have hcell : s₃.heap.IsCell (L + 1) (some (.ref Cs)) := ⟨oc, hkeep _ _ (N.get (.tail _ (.tail _ (.tail _ (.head _))))), hoc⟩
    have hcs : s₃.heap.IsList Cs (cntV c t1 t2 t3).toArray := ⟨_, hkeep _ _ (N.get (.tail _ (.tail _ (.head _)))), rfl, _, rfl⟩
    have hv : (∃ t, v = .int 1 t) ∨ ∃ t, v = .int 2 t := by
      rcases i with _ | _ | i
      · left; exact ⟨_, (Option.some.inj hP).symm⟩
      · right; exact ⟨_, (Option.some.inj hP).symm⟩
      · simp at hP
    rw [List.forIn_cons]
    refine wpAny_bind ?_
    rw [if_pos rfl]
    refine wpAny_bind ?_
    iterate 3 walk1
    refine ldCellK (by rfl) hcell ?_
    refine ldVarK hns hmx ?_
    rcases hv with ⟨t, rfl⟩ | ⟨t, rfl⟩
    · refine item_listL (x := .int (c.2.1 : Nat) t2) hcs (by decide) (by decide) (by rfl) ?_
      walk1
      refine ldCellK (by rfl) hcell ?_
      walk1
      refine item_listL (x := .int (c.1 : Nat) t1) hcs (by decide) (by decide) (by rfl) ?_
      iterate 2 walk1
      refine wpAny_pure ?_
      refine wpAny_pure ⟨?_, _, _, rfl, fun _ _ e => e⟩
      simp
    · refine item_listL (x := .int (c.2.2 : Nat) t3) hcs (by decide) (by decide) (by rfl) ?_
      walk1
      refine ldCellK (by rfl) hcell ?_
      walk1
      refine item_listL (x := .int (c.1 : Nat) t1) hcs (by decide) (by decide) (by rfl) ?_
      iterate 2 walk1
      refine wpAny_pure ?_
      refine wpAny_pure ⟨?_, _, _, rfl, fun _ _ e => e⟩
      simp
  · intro C i v s₃ m₃ E' hC hP hpv hns hmx hk htk
    have hv : (∃ t, v = .int 1 t) ∨ ∃ t, v = .int 2 t := by
      rcases i with _ | _ | i
      · left; exact ⟨_, (Option.some.inj hP).symm⟩
      · right; exact ⟨_, (Option.some.inj hP).symm⟩
      · simp at hP
    refine ldVarK hns hmx ?_
    rcases hv with ⟨t, rfl⟩ | ⟨t, rfl⟩
    · exact ⟨⟨_, _, rfl, rfl⟩, _, _, rfl, fun _ _ e => e⟩
    · exact ⟨⟨_, _, rfl, rfl⟩, _, _, rfl, fun _ _ e => e⟩
  · intro D h' tk' zs vs' hD hl hpl hlen hPv hpair hk
    have hkeep : ∀ b o, ht.get? b = some o → h'.get? b = some o := fun b o e => hk b o (fun q => by rw [List.mem_singleton.mp q] at e; exact absurd (Heap.lt_size e) (Nat.lt_irrefl _)) (up b o e)
    obtain ⟨kd, hkd⟩ := hpl
    have hDht : ht.get? D = none := by
      cases e : ht.get? D with
      | none => rfl
      | some o => rw [show (ht.push _).get? D = some o from up D o e] at hD; cases hD
    have hDb : base.get? D = none := by
      cases e : base.get? D with
      | none => rfl
      | some o => rw [F.keep _ _ e] at hDht; cases hDht
    have hDL : D ≠ L := by
      rintro rfl
      obtain ⟨o, _, _, ho, _⟩ := F.ns
      rw [ho] at hDht; cases hDht
    have F₂ : Fr base L h' _ := ⟨F.ns.keeps hkeep, fun b o e => hkeep b o (F.keep b o e), F.above⟩
    have N₂ : News base L h' ((D, lsO zs.toList kd) :: _) := newsCons hDL hDb (by rw [hkd]) (fun q hq => ⟨hkeep _ _ (N q hq).1, (N q hq).2⟩)
    clear F N
    have hvs' : vs' = [Value.int 1 s.toks, Value.int 2 (s.toks + 1)] := by
      rcases vs' with _ | ⟨a, _ | ⟨b, _ | ⟨d, r⟩⟩⟩
      · simp at hlen
      · simp at hlen
      · have h0 := hPv 0 a rfl
        have h1 := hPv 1 b rfl
        cases h0; cases h1; rfl
      · simp at hlen
    subst hvs'
    have hz : IntsAre zs.toList (([1, 2].filter fun k : Nat => decide ((if k = 1 then c.2.1 else c.2.2) < c.1)).map fun k => ((k : Nat) : Int)) := by
      refine paired_ints hpair ?_
      simp only [List.filter_cons, List.filter_nil]
      by_cases h1 : c.2.1 < c.1 <;> by_cases h2 : c.2.2 < c.1 <;> simp [h1, h2]
      · exact .cons _ _ (.cons _ _ .nil)
      · exact .cons _ _ .nil
      · exact .cons _ _ .nil
      · exact .nil
    have hzl : zs.toList.length ≤ 2 := by
      rw [hz.length, List.length_map]
      exact List.length_filter_le _ _
    have hfl : vf.length ≤ 1 := by rw [hvf.length]; exact hfs
    refine add_lists (vs := vf) (ws := zs.toList) F₂ N₂ ⟨_, N₂.get (.tail _ (.tail _ (.head _))), rfl, _, rfl⟩ ⟨_, N₂.get (.head _), rfl, _, rfl⟩ (fun h₄ F₄ N₄ => ?_) (by rw [sizeLine_eq]; omega)
    walk1
    rename Fr _ _ _ _ => F₅
    rename News _ _ _ _ => N₅
    exact ⟨trivial, ⟨_, _, _, [_, _, _], fr_dup F₅, N₅, hvf.append hz⟩, rfl, rfl⟩
end
end Mine
end

section
open PySem PySem.W PySem.Calls PyProof.Rows
open Sem (wp)
set_option Elab.async false
set_option maxRecDepth 100000
set_option maxHeartbeats 8000000
namespace Mine
theorem fillE4 : (∀ P, hd.heap_39 P = hd.heap_39 P) ∧ PySem.Challenge.rw_tr0011_01.foot = 4 := by
  k_fill
  exact ⟨fun _ => rfl, rfl⟩
section
variable {w : World} {A : Around} {base : Heap} {L : Addr} {cd : Value} {s : Shared} {m : Str → Option Value} {mg mb : Str → Option Value} {n : Nat}
theorem rows_free0 (rm : Room A n) (K0 : (hd.heap_39 w.params).In base) (T0 : TopM mg mb base) {l Ow Dr Rs Cs : Addr} {sz q : Nat} {tz tk tx : Tok} {xv j : Nat} {kc : Nat} {c : Nat × Nat × Nat} {t1 t2 t3 : Tok} {oc : Obj} {own : List (Addr × Obj)}
    (F : Fr base L s.heap (fun y => if y = Str.ofString "x" then some (.int (xv : Nat) tx) else if y = Str.ofString "i" then some (.int (j : Nat) tk) else rowsM l Ow Dr Rs sz tz m y))
    (N : News base L s.heap ((Cs, lsO (cntV c t1 t2 t3) kc) :: (L + 1, oc) :: own)) (hoc : oc.data = .cell (some (.ref Cs))) (hsz : sz = 3 * q) (hq : q ≤ 3) (hc : c.1 ≤ 9 ∧ c.2.1 ≤ 9 ∧ c.2.2 ≤ 9) :
    wpAny (model PP w) A (exec (rowsLoop.getD 1 (.Pass default)) (rowsEnv L cd))
      (fun f s' => f = .next ∧ (∃ Fl vf kf, Fr base L s'.heap (fun y => if y = Str.ofString "free" then some (.ref Fl) else if y = Str.ofString "x" then some (.int (xv : Nat) tx) else if y = Str.ofString "i" then some (.int (j : Nat) tk) else rowsM l Ow Dr Rs sz tz m y) ∧
        News base L s'.heap ((Fl, lsO vf kf) :: (Cs, lsO (cntV c t1 t2 t3) kc) :: (L + 1, oc) :: own) ∧ IntsAre vf (if c.1 < q then [0] else [])) ∧ s'.gens = s.gens ∧ s'.os = s.os) (fun _ _ => False) s := by
  unfold rowsM at F ⊢
  change wpAny _ _ (exec (Stmt.Assign _ _ _) _) _ _ _
  iterate 13 walk1
  have hfd : ((sz : Nat) : Int).fdiv 3 = (q : Nat) := by
    rw [Int.fdiv_eq_ediv_of_nonneg _ (by decide), hsz]; omega
  rw [hfd]
  by_cases h1 : (c.1 : Int) < (q : Int)
  · rw [if_pos (decide_eq_true h1)]
    iterate 6 walk1
    rename Fr _ _ _ _ => F₂
    rename News _ _ _ _ => N₂
    refine ⟨trivial, ⟨_, [.int 0 _], 0, F₂, N₂, ?_⟩, rfl, rfl⟩
    rw [if_pos (by omega)]
    exact .cons 0 _ .nil
  · rw [if_neg (by rw [decide_eq_false h1]; decide)]
    iterate 4 walk1
    rename Fr _ _ _ _ => F₂
    rename News _ _ _ _ => N₂
    refine ⟨trivial, ⟨_, [], 0, F₂, N₂, ?_⟩, rfl, rfl⟩
    rw [if_neg (by omega)]
    exact .nil
theorem free_eq (q : Nat) (c : Nat × Nat × Nat) : (if c.1 < q then [(0 : Int)] else []) ++ ([1, 2].filter fun k : Nat => decide ((if k = 1 then c.2.1 else c.2.2) < c.1)).map (fun k => ((k : Nat) : Int)) = (freeL q c).map fun k => ((k : Nat) : Int) := by
  unfold freeL
  simp only [List.filter_cons, List.filter_nil]
  by_cases h1 : c.1 < q <;> by_cases h2 : c.2.1 < c.1 <;> by_cases h3 : c.2.2 < c.1 <;> simp [h1, h2, h3]
end
end Mine
end

section
open PySem PySem.W PySem.Calls PyProof.Rows
open Sem (wp)
set_option Elab.async false
set_option maxRecDepth 100000
set_option maxHeartbeats 8000000
namespace Mine
theorem fillE5 : (∀ P, hd.heap_39 P = hd.heap_39 P) ∧ PySem.Challenge.rw_tr0011_01.foot = 4 := by
  k_fill
  exact ⟨fun _ => rfl, rfl⟩
def kindOf (q : Nat) (c : Nat × Nat × Nat) (x : Nat) : Nat := (freeL q c).getD (x % (freeL q c).length) 0
def bump (c : Nat × Nat × Nat) (k : Nat) : Nat × Nat × Nat := (c.1 + (if k = 0 then 1 else 0), c.2.1 + (if k = 1 then 1 else 0), c.2.2 + (if k = 2 then 1 else 0))
def rowOf (k x : Nat) : Nat × List Nat × Nat := (k, dressesP.getD (x / 6 % 8) [], x / 48 % 3)
def tupO (k x : Nat) (a b d : Tok) : Obj := { cls := .type "tuple", data := .seq #[.int (k : Nat) a, .str (strV (dressesP.getD (x / 6 % 8) [])) b, .int ((x / 48 % 3 : Nat) : Nat) d] }
theorem put_same {M : Str → Option Value} {x : Str} {v : Option Value} (h : M x = v) : (fun y => if y = x then v else M y) = M := by
  funext y
  by_cases e : y = x
  · rw [if_pos e, e, h]
  · rw [if_neg e]
theorem rowsM_of {l Ow Dr Rs : Addr} {sz : Nat} {tz : Tok} {M : Str → Option Value} (h1 : M (Str.ofString "rows") = some (.ref Rs)) (h2 : M (Str.ofString "size") = some (.int (sz : Nat) tz)) (h3 : M (Str.ofString "dresses") = some (.ref Dr)) (h4 : M (Str.ofString "own") = some (.ref Ow)) (h5 : M (Str.ofString "script") = some (.ref l)) : rowsM l Ow Dr Rs sz tz M = M := by
  funext y
  unfold rowsM
  by_cases e1 : y = Str.ofString "rows"
  · rw [if_pos e1, e1, h1]
  by_cases e2 : y = Str.ofString "size"
  · rw [if_neg e1, if_pos e2, e2, h2]
  by_cases e3 : y = Str.ofString "dresses"
  · rw [if_neg e1, if_neg e2, if_pos e3, e3, h3]
  by_cases e4 : y = Str.ofString "own"
  · rw [if_neg e1, if_neg e2, if_neg e3, if_pos e4, e4, h4]
  by_cases e5 : y = Str.ofString "script"
  · rw [if_neg e1, if_neg e2, if_neg e3, if_neg e4, if_pos e5, e5, h5]
  rw [if_neg e1, if_neg e2, if_neg e3, if_neg e4, if_neg e5]
theorem rows_fr {base h : Heap} {L l Ow Dr Rs : Addr} {sz : Nat} {tz : Tok} {kv xv : Value} {M : Str → Option Value} (F : Fr base L h M) (hk : M (Str.ofString "kind") = some kv) (hx : M (Str.ofString "x") = some xv)
    (h1 : M (Str.ofString "rows") = some (.ref Rs)) (h2 : M (Str.ofString "size") = some (.int (sz : Nat) tz)) (h3 : M (Str.ofString "dresses") = some (.ref Dr)) (h4 : M (Str.ofString "own") = some (.ref Ow)) (h5 : M (Str.ofString "script") = some (.ref l)) :
    ∃ m', Fr base L h (fun y => if y = Str.ofString "kind" then some kv else if y = Str.ofString "x" then some xv else rowsM l Ow Dr Rs sz tz m' y) := ⟨M, by
  have e : (fun y => if y = Str.ofString "kind" then some kv else if y = Str.ofString "x" then some xv else rowsM l Ow Dr Rs sz tz M y) = M := by
    rw [rowsM_of h1 h2 h3 h4 h5]
    funext y
    by_cases e1 : y = Str.ofString "kind"
    · rw [if_pos e1, e1, hk]
    by_cases e2 : y = Str.ofString "x"
    · rw [if_neg e1, if_pos e2, e2, hx]
    rw [if_neg e1, if_neg e2]
  rw [e]; exact F⟩
section
variable {w : World} {A : Around} {base : Heap} {L : Addr} {cd : Value} {s : Shared} {m : Str → Option Value} {mg mb : Str → Option Value} {n : Nat}
theorem rows_kind (rm : Room A n) (K0 : (hd.heap_39 w.params).In base) (T0 : TopM mg mb base) {l Ow Dr Rs Fl : Addr} {sz : Nat} {tz tk tx : Tok} {xv j : Nat} {kf : Nat} {vf : List Value} {fs : List Nat} {own : List (Addr × Obj)}
    (F : Fr base L s.heap (fun y => if y = Str.ofString "free" then some (.ref Fl) else if y = Str.ofString "x" then some (.int (xv : Nat) tx) else if y = Str.ofString "i" then some (.int (j : Nat) tk) else rowsM l Ow Dr Rs sz tz m y))
    (N : News base L s.heap ((Fl, lsO vf kf) :: own)) (hvf : IntsAre vf (fs.map fun k => ((k : Nat) : Int))) (hfs : fs.length ≤ 3) (hpos : 0 < fs.length) :
    wpAny (model PP w) A (exec (rowsLoop.getD 3 (.Pass default)) (rowsEnv L cd))
      (fun f s' => f = .next ∧ (∃ t m', Fr base L s'.heap (fun y => if y = Str.ofString "kind" then some (.int (fs.getD (xv % fs.length) 0 : Nat) t) else if y = Str.ofString "x" then some (.int (xv : Nat) tx) else rowsM l Ow Dr Rs sz tz m' y)) ∧
        News base L s'.heap own ∧ s'.gens = s.gens ∧ s'.os = s.os) (fun _ _ => False) s := by
  unfold rowsM at F
  change wpAny _ _ (exec (Stmt.Assign _ _ _) _) _ _ _
  have hvl : vf.length = fs.length := by rw [hvf.length, List.length_map]
  iterate 11 walk1
  refine call_len_list ⟨_, N.get (.head _), rfl, _, rfl⟩ (Int.lt_of_le_of_lt (show ((vf.toArray.size : Nat) : Int) ≤ 3 by rw [List.size_toArray]; omega) (by decide)) ?_
  have hsz : vf.toArray.size = fs.length := by rw [List.size_toArray, hvl]
  generalize vf.toArray.size = nn at hsz
  subst hsz
  iterate 2 walk1
  have e : (List.map (fun k : Nat => ((k : Nat) : Int)) fs).getD (((xv : Nat) : Int).fmod ((fs.length : Nat) : Int)).toNat 0 = ((fs.getD (xv % fs.length) 0 : Nat) : Int) := by
    have h1 : (((xv : Nat) : Int).fmod ((fs.length : Nat) : Int)).toNat = xv % fs.length := by
      rw [Int.fmod_eq_emod_of_nonneg _ (by omega)]; omega
    rw [h1, List.getD_eq_getElem?_getD, List.getElem?_map, List.getD_eq_getElem?_getD]
    cases fs[xv % fs.length]? <;> rfl
  rw [e]
  iterate 1 walk1
  rename Fr _ _ _ _ => F₂
  rename News _ _ _ _ => N₂
  exact ⟨trivial, ⟨_, rows_fr F₂ (by rfl) (by rfl) (by rfl) (by rfl) (by rfl) (by rfl) (by rfl)⟩, newsTail N₂, rfl, rfl⟩
theorem rows_bump (rm : Room A n) (K0 : (hd.heap_39 w.params).In base) (T0 : TopM mg mb base) {l Ow Dr Rs Cs : Addr} {sz : Nat} {tz tk tx : Tok} {xv kd : Nat} {kc : Nat} {c : Nat × Nat × Nat} {t1 t2 t3 : Tok} {oc : Obj} {own : List (Addr × Obj)}
    (F : Fr base L s.heap (fun y => if y = Str.ofString "kind" then some (.int (kd : Nat) tk) else if y = Str.ofString "x" then some (.int (xv : Nat) tx) else rowsM l Ow Dr Rs sz tz m y))
    (N : News base L s.heap ((Cs, lsO (cntV c t1 t2 t3) kc) :: (L + 1, oc) :: own)) (hoc : oc.data = .cell (some (.ref Cs))) (hkd : kd ≤ 2) (hcl : L + 1 ≠ Cs) (hown : ∀ q ∈ own, q.1 ≠ Cs) (hc : c.1 ≤ 9 ∧ c.2.1 ≤ 9 ∧ c.2.2 ≤ 9) :
    wpAny (model PP w) A (exec (rowsLoop.getD 4 (.Pass default)) (rowsEnv L cd))
      (fun f s' => f = .next ∧ (Fr base L s'.heap (fun y => if y = Str.ofString "kind" then some (.int (kd : Nat) tk) else if y = Str.ofString "x" then some (.int (xv : Nat) tx) else rowsM l Ow Dr Rs sz tz m y)) ∧
        (∃ u1 u2 u3 kc', News base L s'.heap ((Cs, lsO (cntV (bump c kd) u1 u2 u3) kc') :: (L + 1, oc) :: own)) ∧ s'.gens = s.gens ∧ s'.os = s.os) (fun _ _ => False) s := by
  unfold rowsM at F ⊢
  change wpAny _ _ (exec (Stmt.AugAssign _ _ _ _) _) _ _ _
  have hown' : ∀ q ∈ (L + 1, oc) :: own, q.1 ≠ Cs := fun q hq => by
    rcases List.mem_cons.mp hq with rfl | hq
    · exact hcl
    · exact hown q hq
  iterate 3 walk1
  rcases (show kd = 0 ∨ kd = 1 ∨ kd = 2 from by omega) with rfl | rfl | rfl
  · refine wpAny_getItem_list (x := Value.int (c.1 : Nat) t1) ⟨_, N.get (.head _), rfl, _, rfl⟩ (by decide) (by decide) (by rfl) ?_
    iterate 2 walk1
    refine set_head (j := 0) F N hown' (by simp [cntV]) (by decide) fun h' n' F' N' => ?_
    refine ⟨rfl, F', ?_, rfl, rfl⟩
    exact ⟨_, t2, t3, n', N'⟩
  · refine wpAny_getItem_list (x := Value.int (c.2.1 : Nat) t2) ⟨_, N.get (.head _), rfl, _, rfl⟩ (by decide) (by decide) (by rfl) ?_
    iterate 2 walk1
    refine set_head (j := 1) F N hown' (by simp [cntV]) (by decide) fun h' n' F' N' => ?_
    refine ⟨rfl, F', ?_, rfl, rfl⟩
    exact ⟨t1, _, t3, n', N'⟩
  · refine wpAny_getItem_list (x := Value.int (c.2.2 : Nat) t3) ⟨_, N.get (.head _), rfl, _, rfl⟩ (by decide) (by decide) (by rfl) ?_
    iterate 2 walk1
    refine set_head (j := 2) F N hown' (by simp [cntV]) (by decide) fun h' n' F' N' => ?_
    refine ⟨rfl, F', ?_, rfl, rfl⟩
    exact ⟨t1, t2, _, n', N'⟩
end
end Mine
end

section
open PySem PySem.W PySem.Calls PyProof.Rows
open Sem (wp)
set_option Elab.async false
set_option maxRecDepth 100000
set_option maxHeartbeats 8000000
namespace Mine
theorem fillE6 : (∀ P, hd.heap_39 P = hd.heap_39 P) ∧ PySem.Challenge.rw_tr0011_01.foot = 4 := by
  k_fill
  exact ⟨fun _ => rfl, rfl⟩
theorem strsAre_get : ∀ {vs : List Value} {ys : List (List Nat)}, StrsAre vs (ys.map strV) → ∀ i, i < ys.length → ∃ t, vs[i]? = some (.str (strV (ys.getD i [])) t)
  | _, [], _, i, h => absurd h (Nat.not_lt_zero _)
  | _, y :: ys, hv, i, h => by
    rw [List.map_cons] at hv
    cases hv with
    | cons _ t hv =>
      cases i with
      | zero => exact ⟨t, rfl⟩
      | succ i => exact strsAre_get hv i (by simpa using h)
theorem rowsM_fr {base h : Heap} {L l Ow Dr Rs : Addr} {sz : Nat} {tz : Tok} {M : Str → Option Value} (F : Fr base L h M)
    (h1 : M (Str.ofString "rows") = some (.ref Rs)) (h2 : M (Str.ofString "size") = some (.int (sz : Nat) tz)) (h3 : M (Str.ofString "dresses") = some (.ref Dr)) (h4 : M (Str.ofString "own") = some (.ref Ow)) (h5 : M (Str.ofString "script") = some (.ref l)) :
    ∃ m', Fr base L h (rowsM l Ow Dr Rs sz tz m') := ⟨M, by rw [rowsM_of h1 h2 h3 h4 h5]; exact F⟩
section
variable {w : World} {A : Around} {base : Heap} {L : Addr} {cd : Value} {s : Shared} {m : Str → Option Value} {mg mb : Str → Option Value} {n : Nat}
theorem rows_app (rm : Room A n) (K0 : (hd.heap_39 w.params).In base) (T0 : TopM mg mb base) {l Ow Dr Rs : Addr} {sz : Nat} {tz tk tx : Tok} {xv kd : Nat} {kr kdr : Nat} {rv dv : List Value} {own : List (Addr × Obj)}
    (F : Fr base L s.heap (fun y => if y = Str.ofString "kind" then some (.int (kd : Nat) tk) else if y = Str.ofString "x" then some (.int (xv : Nat) tx) else rowsM l Ow Dr Rs sz tz m y))
    (N : News base L s.heap ((Rs, lsO rv kr) :: (Dr, lsO dv kdr) :: own)) (hdv : StrsAre dv (dressesP.map strV)) (hdr : Dr ≠ Rs) (hown : ∀ q ∈ own, q.1 ≠ Rs) (hrv : rv.length ≤ 9) :
    wpAny (model PP w) A (exec (rowsLoop.getD 5 (.Pass default)) (rowsEnv L cd))
      (fun f s' => f = .next ∧ (∃ m', Fr base L s'.heap (rowsM l Ow Dr Rs sz tz m')) ∧
        (∃ T a b d kr', News base L s'.heap ((Rs, lsO (rv ++ [.ref T]) kr') :: (T, tupO kd xv a b d) :: (Dr, lsO dv kdr) :: own)) ∧ s'.gens = s.gens ∧ s'.os = s.os) (fun _ _ => False) s := by
  unfold rowsM at F
  change wpAny _ _ (exec (Stmt.Expr _ _) _) _ _ _
  have hdl : (dressesP.map strV).length = 8 := rfl
  iterate 19 walk1
  have e1 : (((xv : Nat) : Int).fdiv 6).fmod 8 = ((xv / 6 % 8 : Nat) : Int) := by
    rw [Int.fdiv_eq_ediv_of_nonneg _ (by decide), Int.fmod_eq_emod_of_nonneg _ (by decide)]; rfl
  have e2 : (((xv : Nat) : Int).fdiv 48).fmod 3 = ((xv / 48 % 3 : Nat) : Int) := by
    rw [Int.fdiv_eq_ediv_of_nonneg _ (by decide), Int.fmod_eq_emod_of_nonneg _ (by decide)]; rfl
  rw [e1]
  have hlt8 : xv / 6 % 8 < 8 := Nat.mod_lt _ (by decide)
  obtain ⟨td, htd⟩ := strsAre_get hdv (xv / 6 % 8) hlt8
  refine item_listL (x := .str (strV (dressesP.getD (xv / 6 % 8) [])) td) ⟨_, N.get (.tail _ (.head _)), rfl, _, rfl⟩ (Int.natCast_nonneg _) (Int.lt_of_lt_of_le (Int.ofNat_lt.mpr hlt8) (by decide)) (by rw [Int.toNat_natCast]; exact htd) ?_
  dsimp only
  iterate 8 walk1
  dsimp only
  rw [e2]
  iterate 3 walk1
  rename Fr _ _ _ _ => F₂
  rename News _ _ _ _ => N₂
  rename_i hord
  have N₃ : News base L _ ((Rs, lsO rv kr) :: (_, tupO kd xv _ _ _) :: (Dr, lsO dv kdr) :: own) := fun q hq => N₂ q (by
    rcases List.mem_cons.mp hq with rfl | hq
    · exact .tail _ (.head _)
    · rcases List.mem_cons.mp hq with rfl | hq
      · exact .head _
      · exact .tail _ (.tail _ hq))
  refine append_head F₂ N₃ (fun q hq => ?_) (fun h' F₄ N₄ => ?_) (by rw [List.size_toArray, sizeLine_eq]; omega)
  · rcases List.mem_cons.mp hq with rfl | hq
    · exact Nat.ne_of_gt hord.1
    · rcases List.mem_cons.mp hq with rfl | hq
      · exact hdr
      · exact hown q hq
  · rw [List.push_toArray] at N₄
    exact ⟨trivial, rowsM_fr F₄ (by rfl) (by rfl) (by rfl) (by rfl) (by rfl), ⟨_, _, _, _, _, N₄⟩, rfl, rfl⟩
end
end Mine
end

section
open PySem PySem.W PySem.Calls PyProof.Rows
open Sem (wp)
set_option Elab.async false
set_option maxRecDepth 100000
set_option maxHeartbeats 8000000
namespace Mine
theorem fillE7 : (∀ P, hd.heap_39 P = hd.heap_39 P) ∧ PySem.Challenge.rw_tr0011_01.foot = 4 := by
  k_fill
  exact ⟨fun _ => rfl, rfl⟩
abbrev Row := Nat × List Nat × Nat
def stepR (q : Nat) (st : (Nat × Nat × Nat) × List Row) (x : Nat) : (Nat × Nat × Nat) × List Row := (bump st.1 (kindOf q st.1 x), st.2 ++ [rowOf (kindOf q st.1 x) x])
def rowsUp (q : Nat) (xs : List Int) : Nat → (Nat × Nat × Nat) × List Row
  | 0 => ((0, 0, 0), [])
  | j + 1 => stepR q (rowsUp q xs j) (xOf xs j)
def Fair (q : Nat) (c : Nat × Nat × Nat) (j : Nat) : Prop := c.1 ≤ q ∧ c.2.1 ≤ c.1 ∧ c.2.2 ≤ c.1 ∧ c.1 + c.2.1 + c.2.2 = j
theorem free_pos {q j : Nat} {c : Nat × Nat × Nat} (h : Fair q c j) (hj : j < 3 * q) : 0 < (freeL q c).length := by
  obtain ⟨h1, h2, h3, h4⟩ := h
  unfold freeL
  by_cases a : c.1 < q
  · simp [a]
  · have : c.2.1 < c.1 ∨ c.2.2 < c.1 := by omega
    rcases this with h | h <;> simp only [List.length_append, if_pos h, List.length_cons, List.length_nil] <;> omega
theorem free_len (q : Nat) (c : Nat × Nat × Nat) : (freeL q c).length ≤ 3 := by
  unfold freeL
  by_cases a : c.1 < q <;> by_cases b : c.2.1 < c.1 <;> by_cases d : c.2.2 < c.1 <;> simp [a, b, d]
theorem free_mem {q : Nat} {c : Nat × Nat × Nat} {k : Nat} (h : k ∈ freeL q c) : (k = 0 ∧ c.1 < q) ∨ (k = 1 ∧ c.2.1 < c.1) ∨ (k = 2 ∧ c.2.2 < c.1) := by
  unfold freeL at h
  by_cases a : c.1 < q <;> by_cases b : c.2.1 < c.1 <;> by_cases d : c.2.2 < c.1 <;> simp [a, b, d] at h <;> omega
theorem kind_mem {q j : Nat} {c : Nat × Nat × Nat} (h : Fair q c j) (hj : j < 3 * q) (x : Nat) : kindOf q c x ∈ freeL q c := by
  unfold kindOf
  have hp := free_pos h hj
  have hlt := Nat.mod_lt x hp
  rw [List.getD_eq_getElem?_getD, List.getElem?_eq_getElem hlt]
  exact List.getElem_mem _
theorem fair_step {q j : Nat} {c : Nat × Nat × Nat} (h : Fair q c j) (hj : j < 3 * q) (x : Nat) : Fair q (bump c (kindOf q c x)) (j + 1) ∧ kindOf q c x ≤ 2 := by
  have hm := free_mem (kind_mem h hj x)
  obtain ⟨h1, h2, h3, h4⟩ := h
  unfold bump Fair
  rcases hm with ⟨e, a⟩ | ⟨e, a⟩ | ⟨e, a⟩ <;> rw [e] <;> simp <;> omega
theorem fair_up (q : Nat) (xs : List Int) : ∀ j, j ≤ 3 * q → Fair q (rowsUp q xs j).1 j
  | 0, _ => by simp [rowsUp, Fair]
  | j + 1, h => (fair_step (fair_up q xs j (by omega)) (by omega) (xOf xs j)).1
theorem rowsUp_len (q : Nat) (xs : List Int) : ∀ j, (rowsUp q xs j).2.length = j
  | 0 => rfl
  | j + 1 => by simp [rowsUp, stepR, rowsUp_len q xs j]

def rowO (r : Row) (a b d : Tok) : Obj := { cls := .type "tuple", data := .seq #[.int (r.1 : Nat) a, .str (strV r.2.1) b, .int ((r.2.2 : Nat) : Nat) d] }
inductive TupsAre : List (Addr × Obj) → List Row → Prop
  | nil : TupsAre [] []
  | cons {T : Addr} {r : Row} {a b d : Tok} {ps rs} : TupsAre ps rs → TupsAre ((T, rowO r a b d) :: ps) (r :: rs)
theorem TupsAre.snoc : ∀ {ps : List (Addr × Obj)} {rs : List Row}, TupsAre ps rs → ∀ (T : Addr) (r : Row) (a b d : Tok), TupsAre (ps ++ [(T, rowO r a b d)]) (rs ++ [r])
  | _, _, .nil, T, r, a, b, d => .cons .nil
  | _, _, .cons h, T, r, a, b, d => .cons (h.snoc T r a b d)
theorem TupsAre.len : ∀ {ps : List (Addr × Obj)} {rs : List Row}, TupsAre ps rs → ps.length = rs.length
  | _, _, .nil => rfl
  | _, _, .cons h => by simp [h.len]
theorem TupsAre.tup : ∀ {ps : List (Addr × Obj)} {rs : List Row}, TupsAre ps rs → ∀ p ∈ ps, p.2.cls = .type "tuple" ∧ Solid p.2.data
  | _, _, .nil, p, h => nomatch h
  | _, _, .cons h, p, hp => by
    rcases List.mem_cons.mp hp with rfl | hp
    · exact ⟨rfl, trivial⟩
    · exact h.tup p hp

section
variable {w : World} {A : Around} {base : Heap} {L : Addr} {cd : Value} {s : Shared} {m : Str → Option Value} {mg mb : Str → Option Value} {n : Nat}
theorem rows_body (rm : Room A n) (K0 : (hd.heap_39 w.params).In base) (T0 : TopM mg mb base) {l Ow Dr Rs Cs : Addr} {q : Nat} {tz tk : Tok} {j : Nat} {vs ov dv rv : List Value} {k ko kd kr kc : Nat} {xs : List Int} {t1 t2 t3 : Tok} {oc : Obj} {tups own : List (Addr × Obj)}
    (F : Fr base L s.heap (fun y => if y = Str.ofString "i" then some (.int (j : Nat) tk) else rowsM l Ow Dr Rs (3 * q) tz m y))
    (N : News base L s.heap ((Cs, lsO (cntV (rowsUp q xs j).1 t1 t2 t3) kc) :: (L + 1, oc) :: (Rs, lsO rv kr) :: (Dr, lsO dv kd) :: (Ow, lsO ov ko) :: (tups ++ own)))
    (hl : base.get? l = some (lsO vs k)) (hvs : IntsAre vs xs) (hov : IntsAre ov ownP) (hdv : StrsAre dv (dressesP.map strV)) (hoc : oc.data = .cell (some (.ref Cs))) (hlen : xs.length ≤ 63) (hq : q ≤ 3) (hj : j < 3 * q)
    (hrv : rv = tups.map fun p => Value.ref p.1) (ht : TupsAre tups (rowsUp q xs j).2)
    (d1 : L + 1 ≠ Cs) (d2 : Rs ≠ Cs) (d3 : Dr ≠ Cs) (d4 : Ow ≠ Cs) (d5 : Dr ≠ Rs) (d6 : Ow ≠ Rs) (d7 : L + 1 ≠ Rs) (hoC : ∀ p ∈ own, p.1 ≠ Cs) (hoR : ∀ p ∈ own, p.1 ≠ Rs) :
    wpAny (model PP w) A (execs rowsLoop (rowsEnv L cd))
      (fun f s' => f = .next ∧ (∃ m', Fr base L s'.heap (rowsM l Ow Dr Rs (3 * q) tz m')) ∧
        (∃ u1 u2 u3 kc' kr' tups', News base L s'.heap ((Cs, lsO (cntV (rowsUp q xs (j + 1)).1 u1 u2 u3) kc') :: (L + 1, oc) :: (Rs, lsO (tups'.map fun p => Value.ref p.1) kr') :: (Dr, lsO dv kd) :: (Ow, lsO ov ko) :: (tups' ++ own)) ∧ TupsAre tups' (rowsUp q xs (j + 1)).2) ∧
        s'.gens = s.gens ∧ s'.os = s.os) (fun _ _ => False) s := by
  have hfair := fair_up q xs j (by omega)
  have hstep := fair_step hfair hj (xOf xs j)
  have hc9 : (rowsUp q xs j).1.1 ≤ 9 ∧ (rowsUp q xs j).1.2.1 ≤ 9 ∧ (rowsUp q xs j).1.2.2 ≤ 9 := by
    obtain ⟨a, b, c, d⟩ := hfair; omega
  have htC : ∀ p ∈ tups, p.1 ≠ Cs ∧ p.1 ≠ Rs := fun p hp => by
    have e1 : s.heap.get? p.1 = some p.2 := (N p (by simp [hp])).1
    have e2 : s.heap.get? Cs = some (lsO _ _) := (N _ (.head _)).1
    have e3 : s.heap.get? Rs = some (lsO rv kr) := (N (Rs, lsO rv kr) (by simp)).1
    have e4 := (ht.tup p hp).1
    refine ⟨fun e => ?_, fun e => ?_⟩
    · rw [e, e2] at e1
      rw [← Option.some.inj e1] at e4
      have e5 : Value.type "list" = Value.type "tuple" := e4
      injection e5 with e5
      exact absurd e5 (by decide)
    · rw [e, e3] at e1
      rw [← Option.some.inj e1] at e4
      have e5 : Value.type "list" = Value.type "tuple" := e4
      injection e5 with e5
      exact absurd e5 (by decide)
  show wpAny _ _ (execs (rowsLoop.getD 0 (.Pass default) :: rowsLoop.drop 1) _) _ _ _
  have N0 : News base L s.heap ((Ow, lsO ov ko) :: ((Cs, lsO (cntV (rowsUp q xs j).1 t1 t2 t3) kc) :: (L + 1, oc) :: (Rs, lsO rv kr) :: (Dr, lsO dv kd) :: (Ow, lsO ov ko) :: (tups ++ own))) := fun p hp => by
    rcases List.mem_cons.mp hp with rfl | hp
    · exact N (Ow, lsO ov ko) (by simp)
    · exact N p hp
  refine wpAny_execs_cons (wpAny_mono (rows_x (n := n) rm K0 T0 F N0 hl hvs hov hlen (by omega)) ?_ (fun _ _ h => h))
  rintro f s₁ ⟨rfl, ⟨tx, F₁⟩, N₁, hg₁, ho₁⟩
  dsimp only
  show wpAny _ _ (execs (rowsLoop.getD 1 (.Pass default) :: rowsLoop.drop 2) _) _ _ _
  refine wpAny_execs_cons (wpAny_mono (rows_free0 (q := q) (n := n) rm K0 T0 F₁ (newsTail N₁) hoc rfl hq hc9) ?_ (fun _ _ h => h))
  rintro f s₂ ⟨rfl, ⟨Fl, vf, kf, F₂, N₂, hvf⟩, hg₂, ho₂⟩
  dsimp only
  show wpAny _ _ (execs (rowsLoop.getD 2 (.Pass default) :: rowsLoop.drop 3) _) _ _ _
  refine wpAny_execs_cons (wpAny_mono (rows_comp (n := n) rm K0 T0 F₂ N₂ hoc hvf (by split <;> decide) hc9) ?_ (fun _ _ h => h))
  rintro f s₃ ⟨rfl, ⟨Fl₃, vf₃, kf₃, own₃, F₃, N₃, hvf₃⟩, hg₃, ho₃⟩
  dsimp only
  rw [free_eq] at hvf₃
  show wpAny _ _ (execs (rowsLoop.getD 3 (.Pass default) :: rowsLoop.drop 4) _) _ _ _
  refine wpAny_execs_cons (wpAny_mono (rows_kind (n := n) rm K0 T0 F₃ N₃ hvf₃ (free_len _ _) (free_pos hfair hj)) ?_ (fun _ _ h => h))
  rintro f s₄ ⟨rfl, ⟨tk₄, m₄, F₄⟩, N₄, hg₄, ho₄⟩
  dsimp only
  have N₄' : News base L s₄.heap ((Cs, lsO (cntV (rowsUp q xs j).1 t1 t2 t3) kc) :: (L + 1, oc) :: (Rs, lsO rv kr) :: (Dr, lsO dv kd) :: (Ow, lsO ov ko) :: (tups ++ own)) := fun p hp => N₄ p (List.mem_append_right _ hp)
  change Fr base L s₄.heap (fun y => if y = Str.ofString "kind" then some (.int (kindOf q (rowsUp q xs j).1 (xOf xs j) : Nat) tk₄) else if y = Str.ofString "x" then some (.int (xOf xs j : Nat) tx) else rowsM l Ow Dr Rs (3 * q) tz m₄ y) at F₄
  show wpAny _ _ (execs (rowsLoop.getD 4 (.Pass default) :: rowsLoop.drop 5) _) _ _ _
  refine wpAny_execs_cons (wpAny_mono (rows_bump (n := n) rm K0 T0 F₄ N₄' hoc hstep.2 d1 (fun p hp => ?_) hc9) ?_ (fun _ _ h => h))
  · simp only [List.mem_cons, List.mem_append] at hp
    rcases hp with rfl | rfl | rfl | hp | hp
    · exact d2
    · exact d3
    · exact d4
    · exact (htC p hp).1
    · exact hoC p hp
  rintro f s₅ ⟨rfl, F₅, ⟨u1, u2, u3, kc₅, N₅⟩, hg₅, ho₅⟩
  dsimp only
  have N₅' : News base L s₅.heap ((Rs, lsO rv kr) :: (Dr, lsO dv kd) :: ((Cs, lsO (cntV (bump (rowsUp q xs j).1 (kindOf q (rowsUp q xs j).1 (xOf xs j))) u1 u2 u3) kc₅) :: (L + 1, oc) :: (Ow, lsO ov ko) :: (tups ++ own))) := fun p hp => N₅ p (by
    simp only [List.mem_cons, List.mem_append] at hp ⊢
    rcases hp with h | h | h | h | h | h | h <;> simp [h])
  have htl : tups.length = j := by rw [ht.len, rowsUp_len]
  have hrvl : rv.length ≤ 9 := by rw [hrv, List.length_map]; omega
  show wpAny _ _ (execs (rowsLoop.getD 5 (.Pass default) :: []) _) _ _ _
  refine wpAny_execs_cons (wpAny_mono (rows_app (n := n) rm K0 T0 F₅ N₅' hdv d5 (fun p hp => ?_) hrvl) ?_ (fun _ _ h => h))
  · simp only [List.mem_cons, List.mem_append] at hp
    rcases hp with rfl | rfl | rfl | hp | hp
    · exact d2.symm
    · exact d7
    · exact d6
    · exact (htC p hp).2
    · exact hoR p hp
  rintro f s₆ ⟨rfl, ⟨m₆, F₆⟩, ⟨T, a, b, d, kr₆, N₆⟩, hg₆, ho₆⟩
  refine wpAny_execs_nil ⟨rfl, ⟨m₆, F₆⟩, ⟨u1, u2, u3, kc₅, kr₆, tups ++ [(T, rowO (rowOf (kindOf q (rowsUp q xs j).1 (xOf xs j)) (xOf xs j)) a b d)], ?_, ht.snoc T _ a b d⟩, ?_, ?_⟩
  · intro p hp
    refine N₆ p ?_
    rw [hrv]
    rw [List.map_append] at hp
    simp only [List.mem_cons, List.mem_append, List.map_cons, List.map_nil, List.not_mem_nil, or_false] at hp ⊢
    rcases hp with h | h | h | h | h | (h | h) | h
    · exact .inr (.inr (.inr (.inl h)))
    · exact .inr (.inr (.inr (.inr (.inl h))))
    · exact .inl h
    · exact .inr (.inr (.inl h))
    · exact .inr (.inr (.inr (.inr (.inr (.inl h)))))
    · exact .inr (.inr (.inr (.inr (.inr (.inr (.inl h))))))
    · exact .inr (.inl h)
    · exact .inr (.inr (.inr (.inr (.inr (.inr (.inr h))))))
  · rw [hg₆, hg₅, hg₄, hg₃, hg₂, hg₁]
  · rw [ho₆, ho₅, ho₄, ho₃, ho₂, ho₁]
end
end Mine
end

section
open PySem PySem.W PySem.Calls PyProof.Rows
open Sem (wp)
set_option Elab.async false
set_option maxRecDepth 100000
set_option maxHeartbeats 8000000
namespace Mine
theorem fillE8 : (∀ P, hd.heap_39 P = hd.heap_39 P) ∧ PySem.Challenge.rw_tr0011_01.foot = 4 := by
  k_fill
  exact ⟨fun _ => rfl, rfl⟩
theorem ne_of_obj {h : Heap} {a b : Addr} {o p : Obj} (h1 : h.get? a = some o) (h2 : h.get? b = some p) (hne : o.data ≠ p.data) : a ≠ b := by
  rintro rfl
  rw [h1] at h2
  exact hne (by rw [Option.some.inj h2])
def rowsP (q : Nat) (xs : List Int) : List Row := (rowsUp q xs (3 * q)).2
section
variable {w : World} {A : Around} {base : Heap} {L : Addr} {cd : Value} {s : Shared} {m : Str → Option Value} {mg mb : Str → Option Value} {n : Nat}
theorem rows_loop (rm : Room A n) (K0 : (hd.heap_39 w.params).In base) (T0 : TopM mg mb base) {l Ow Dr Rs Cs : Addr} {q : Nat} {tz : Tok} {vs ov dv : List Value} {k ko kd kr kc : Nat} {xs : List Int} {t1 t2 t3 : Tok} {oc : Obj}
    (F : Fr base L s.heap (rowsM l Ow Dr Rs (3 * q) tz m))
    (N : News base L s.heap [(Rs, lsO [] kr), (Cs, lsO (cntV (0, 0, 0) t1 t2 t3) kc), (Dr, lsO dv kd), (Ow, lsO ov ko), (L + 1, oc)])
    (hl : base.get? l = some (lsO vs k)) (hvs : IntsAre vs xs) (hov : IntsAre ov ownP) (hdv : StrsAre dv (dressesP.map strV)) (hoc : oc.data = .cell (some (.ref Cs))) (hlen : xs.length ≤ 63) (hq : q ≤ 3) :
    wpAny (model PP w) A (execs (rowsDef.1.drop 5) (rowsEnv L cd))
      (fun f s' => ∃ kr' tups, f = .ret (.ref Rs) ∧ (∀ b o, base.get? b = some o → s'.heap.get? b = some o) ∧ News base L s'.heap ((Rs, lsO (tups.map fun p => Value.ref p.1) kr') :: tups) ∧ TupsAre tups (rowsP q xs) ∧ Quiet s s') (fun _ _ => False) s := by
  have gR := N.get (.head _)
  have gC := N.get (.tail _ (.head _))
  have gD := N.get (.tail _ (.tail _ (.head _)))
  have gO := N.get (.tail _ (.tail _ (.tail _ (.head _))))
  have gc := N.get (.tail _ (.tail _ (.tail _ (.tail _ (.head _)))))
  have hdl : dv.length = 8 := by rw [hdv.len_eq]; rfl
  have hol : ov.length = 9 := by rw [hov.length]; rfl
  have sq : ∀ (a b : List Value) (i j : Nat), a.length ≠ b.length → Data.seq a.toArray i ≠ Data.seq b.toArray j := fun a b i j h e => by
    injection e with e _
    exact h (by simpa using congrArg Array.size e)
  have d1 : L + 1 ≠ Cs := ne_of_obj gc gC (by rw [hoc]; exact fun e => by cases e)
  have d7 : L + 1 ≠ Rs := ne_of_obj gc gR (by rw [hoc]; exact fun e => by cases e)
  have d2 : Rs ≠ Cs := ne_of_obj gR gC (sq _ _ _ _ (by simp [cntV]))
  have d3 : Dr ≠ Cs := ne_of_obj gD gC (sq _ _ _ _ (by simp [cntV, hdl]))
  have d4 : Ow ≠ Cs := ne_of_obj gO gC (sq _ _ _ _ (by simp [cntV, hol]))
  have d5 : Dr ≠ Rs := ne_of_obj gD gR (sq _ _ _ _ (by simp [hdl]))
  have d6 : Ow ≠ Rs := ne_of_obj gO gR (sq _ _ _ _ (by simp [hol]))

  unfold rowsM at F
  refine wpAny_execs_cons (wpAny_For ?_ (fun _ => rfl))
  iterate 7 walk1
  rename Fr _ _ _ _ => F₁
  rename News _ _ _ _ => N₁
  rename IsRange _ _ _ _ _ _ _ _ => hir
  have gR₁ := N₁.get (.head _)
  have gC₁ := N₁.get (.tail _ (.head _))
  have gD₁ := N₁.get (.tail _ (.tail _ (.head _)))
  have gO₁ := N₁.get (.tail _ (.tail _ (.tail _ (.head _))))
  have gc₁ := N₁.get (.tail _ (.tail _ (.tail _ (.tail _ (.head _)))))
  refine for_range (base := base) (L := L) (3 * q) rm.hh rfl rfl rfl hir (by decide) (by decide) (by omega) (by omega) (by omega)
    (fun j m' h => (∃ m0, m' = rowsM l Ow Dr Rs (3 * q) tz m0) ∧ ∃ u1 u2 u3 kc' kr' tups, News base L h ((Cs, lsO (cntV (rowsUp q xs j).1 u1 u2 u3) kc') :: (L + 1, oc) :: (Rs, lsO (tups.map fun p => Value.ref p.1) kr') :: (Dr, lsO dv kd) :: (Ow, lsO ov ko) :: tups) ∧ TupsAre tups (rowsUp q xs j).2)
    ?_ ?_ ?_ F₁ ?_
  · rintro j m' h h' hk ⟨h1, u1, u2, u3, kc', kr', tups, N₂, ht⟩
    refine ⟨h1, u1, u2, u3, kc', kr', tups, fun p hp => ⟨hk _ _ ?_ (N₂ p hp).1, (N₂ p hp).2⟩, ht⟩
    simp only [List.mem_cons] at hp
    rcases hp with rfl | rfl | rfl | rfl | rfl | hp
    · trivial
    · show Solid oc.data
      rw [hoc]; trivial
    · trivial
    · trivial
    · trivial
    · exact (ht.tup p hp).2
  · rintro j tk m' s₃ own hj ⟨⟨m0, rfl⟩, u1, u2, u3, kc', kr', tups, N₂, ht⟩ hown hqs F₃ N₃
    rw [show (0 : Int) + ((j : Nat) : Int) = ((j : Nat) : Int) from by omega] at F₃
    have N₄ : News base L s₃.heap ((Cs, lsO (cntV (rowsUp q xs j).1 u1 u2 u3) kc') :: (L + 1, oc) :: (Rs, lsO (tups.map fun p => Value.ref p.1) kr') :: (Dr, lsO dv kd) :: (Ow, lsO ov ko) :: (tups ++ own)) := fun p hp => by
      simp only [List.mem_cons, List.mem_append] at hp
      rcases hp with h | h | h | h | h | h | h
      · exact N₂ p (by simp [h])
      · exact N₂ p (by simp [h])
      · exact N₂ p (by simp [h])
      · exact N₂ p (by simp [h])
      · exact N₂ p (by simp [h])
      · exact N₂ p (by simp [h])
      · exact N₃ p h
    refine wpAny_mono (rows_body (n := n) rm K0 T0 F₃ N₄ hl hvs hov hdv hoc hlen hq hj rfl ht d1 d2 d3 d4 d5 d6 d7 (fun p hp e => ?_) (fun p hp e => ?_)) ?_ (fun _ _ h => h)
    · have := hown p hp
      rw [e, gC₁] at this; cases this
    · have := hown p hp
      rw [e, gR₁] at this; cases this
    · rintro f s₄ ⟨rfl, ⟨m₅, F₅⟩, ⟨v1, v2, v3, kc₅, kr₅, tups₅, N₅, ht₅⟩, hg₅, ho₅⟩
      refine ⟨_, F₅, fun p hp => N₅ p (by simp [hp]), ⟨⟨m₅, rfl⟩, v1, v2, v3, kc₅, kr₅, tups₅, fun p hp => N₅ p ?_, ht₅⟩, Quiet.same hg₅ ho₅⟩
      simp only [List.mem_cons, List.mem_append] at hp ⊢
      rcases hp with h | h | h | h | h | h <;> simp [h]
  · rintro s₃ m' F₃ ⟨⟨m0, rfl⟩, u1, u2, u3, kc', kr', tups, N₂, ht⟩ hqs
    unfold rowsM at F₃
    dsimp only
    refine wpAny_execs_cons ?_
    have N₃ := (News.nil : News base L s₃.heap [])
    iterate 2 walk1
    refine ⟨kr', tups, rfl, F₃.keep, fun p hp => N₂ p ?_, ht, ⟨fun z => hqs.gens z, hqs.os⟩⟩
    simp only [List.mem_cons] at hp ⊢
    rcases hp with h | h <;> simp [h]
  · refine ⟨⟨_, rfl⟩, t1, t2, t3, kc, kr, [], fun p hp => N₁ p ?_, .nil⟩
    simp only [List.mem_cons, List.not_mem_nil, or_false, List.map_nil] at hp ⊢
    rcases hp with h | h | h | h | h <;> simp [h, rowsUp]
end
end Mine
end

section
open PySem PySem.W PySem.Calls PyProof.Rows
open Sem (wp)
set_option Elab.async false
set_option maxRecDepth 100000
set_option maxHeartbeats 8000000
namespace Mine
theorem fillE9 : (∀ P, hd.heap_39 P = hd.heap_39 P) ∧ PySem.Challenge.rw_tr0011_01.foot = 4 := by
  k_fill
  exact ⟨fun _ => rfl, rfl⟩
theorem hdd : dressesP.map strV = [Str.ofString "", Str.ofString "a", Str.ofString "&", Str.ofString ">", Str.ofString "\\(", Str.ofString "\\)", Str.ofString "\\\"", Str.ofString "\\\\"] := by decide
theorem rows_code {w : World} {A : Around} {n : Nat} {s : Shared} {mg mb : Str → Option Value} {l : Addr} {vs : List Value} {k : Nat} {xs : List Int} {R : Result → Shared → Prop}
    (rm : Room A (n + 1)) (K0 : (hd.heap_39 w.params).In s.heap) (T0 : TopM mg mb s.heap) (hl : s.heap.get? l = some { cls := .type "list", data := .seq vs.toArray k })
    (hvs : IntsAre vs xs) (hlen : xs.length ≤ 63)
    (hR : ∀ s' Rs kr tups, Later s s' → s.heap.get? Rs = none → (∀ p ∈ tups, s.heap.get? p.1 = none ∧ s'.heap.get? p.1 = some p.2) → s'.heap.get? Rs = some (lsO (tups.map fun p => Value.ref p.1) kr) → TupsAre tups (rowsP (if 3 < xs.length then 3 else 2) xs) → R (.ok (.ret (.ref Rs))) s') : codeAny (model PP w) A (.call (.ref 88) ⟨[.ref l], []⟩) R s := by
  refine enterC rm K0 T0 (by k_is) (by k_is) (BindsTo.of_eq (binds := [(Str.ofString "script", .ref l)]) rfl) (by rfl) (by decide +kernel) (fun h₁ A' tk cells rm' F N Y => ?_) rfl rfl rfl
  have Y1 : CellsAre _ [(Str.ofString "counts", s.heap.objs.size + 1)] cells := Y
  obtain ⟨oc, rfl, hoc⟩ := Y1.one
  replace hoc : oc.data = .cell none := hoc
  clear Y Y1
  iterate 58 walk1
  rename Fr _ _ _ _ => F'
  have hvl : vs.length = xs.length := hvs.length
  refine call_len_list ⟨_, F'.keep _ _ hl, rfl, _, rfl⟩ (Int.lt_of_le_of_lt (show ((vs.toArray.size : Nat) : Int) ≤ 63 by rw [List.size_toArray]; omega) (by decide)) ?_
  have hsz : vs.toArray.size = xs.length := by rw [List.size_toArray, hvl]
  generalize vs.toArray.size = nn at hsz
  iterate 3 walk1
  by_cases h3 : (3 : Int) < (nn : Int)
  · rw [if_pos (decide_eq_true h3)]
    iterate 23 walk1
    rename Fr _ _ _ _ => F₂
    rename News _ _ _ _ => N₂
    rename (_ = Data.cell (some _)) => hoc₂
    obtain ⟨m₃, F₃⟩ := rowsM_fr (sz := 3 * 3) F₂ (by rfl) (by rfl) (by rfl) (by rfl) (by rfl)
    show wpAny _ _ (execs (rowsDef.1.drop 5) (rowsEnv s.heap.objs.size (.ref 87))) _ _ _
    refine wpAny_mono (rows_loop (q := 3) (n := n) (xs := xs) rm' K0 T0 F₃ N₂ hl hvs (by repeat' constructor) (by rw [hdd]; repeat' constructor) hoc₂ hlen (by decide)) ?_ (fun _ _ h => h)
    rintro f s' ⟨kr, tups, rfl, hkeep, N₃, ht, hqs⟩
    dsimp only
    intro htk
    refine hR s' _ kr tups ⟨hkeep, fun z => hqs.gens z, hqs.os, htk⟩ (N₃ _ (.head _)).2.2 (fun p hp => ⟨(N₃ p (.tail _ hp)).2.2, (N₃ p (.tail _ hp)).1⟩) (N₃.get (.head _)) ?_
    rw [if_pos (by omega)]; exact ht
  · rw [if_neg (by rw [decide_eq_false h3]; decide)]
    iterate 23 walk1
    rename Fr _ _ _ _ => F₂
    rename News _ _ _ _ => N₂
    rename (_ = Data.cell (some _)) => hoc₂
    obtain ⟨m₃, F₃⟩ := rowsM_fr (sz := 3 * 2) F₂ (by rfl) (by rfl) (by rfl) (by rfl) (by rfl)
    show wpAny _ _ (execs (rowsDef.1.drop 5) (rowsEnv s.heap.objs.size (.ref 87))) _ _ _
    refine wpAny_mono (rows_loop (q := 2) (n := n) (xs := xs) rm' K0 T0 F₃ N₂ hl hvs (by repeat' constructor) (by rw [hdd]; repeat' constructor) hoc₂ hlen (by decide)) ?_ (fun _ _ h => h)
    rintro f s' ⟨kr, tups, rfl, hkeep, N₃, ht, hqs⟩
    dsimp only
    intro htk
    refine hR s' _ kr tups ⟨hkeep, fun z => hqs.gens z, hqs.os, htk⟩ (N₃ _ (.head _)).2.2 (fun p hp => ⟨(N₃ p (.tail _ hp)).2.2, (N₃ p (.tail _ hp)).1⟩) (N₃.get (.head _)) ?_
    rw [if_neg (by omega)]; exact ht
end Mine
end

section
open PySem PySem.W PySem.Calls PyProof.Rows
open Sem (wp)
set_option Elab.async false
set_option maxRecDepth 100000
set_option maxHeartbeats 8000000
namespace Mine
theorem fillL1 : (∀ P, hd.heap_39 P = hd.heap_39 P) ∧ PySem.Challenge.rw_tr0011_01.foot = 4 := by
  k_fill
  exact ⟨fun _ => rfl, rfl⟩
def lawDef : List Stmt × Scope := match PP.main.body.find? (fun st => match st with | .FunctionDef n _ _ _ _ _ _ _ _ _ => n == Str.ofString "law" | _ => false) with
  | some (.FunctionDef _ _ b _ _ _ sc _ _ _) => (b, sc)
  | _ => ([], default)
abbrev lawEnv (L : Addr) (cd : Value) : Env := envOfC (Str.ofString "law") lawDef.2 L 105 cd
theorem cells5 {cm : Str → Option Value} {a b c d e : Str} {x1 x2 x3 x4 x5 : Addr} {cells : List (Addr × Obj)} (Y : CellsAre cm [(a, x1), (b, x2), (c, x3), (d, x4), (e, x5)] cells) :
    ∃ o1 o2 o3 o4 o5, cells = [(x1, o1), (x2, o2), (x3, o3), (x4, o4), (x5, o5)] ∧ o1.data = .cell (cm a) ∧ o2.data = .cell (cm b) ∧ o3.data = .cell (cm c) ∧ o4.data = .cell (cm d) ∧ o5.data = .cell (cm e) := by
  cases Y with | cons h1 Y => cases Y with | cons h2 Y => cases Y with | cons h3 Y => cases Y with | cons h4 Y => cases Y with | cons h5 Y => cases Y; exact ⟨_, _, _, _, _, rfl, h1, h2, h3, h4, h5⟩
end Mine
end

section
open PySem PySem.W PySem.Calls PyProof.Rows
open Sem (wp)
set_option Elab.async false
set_option maxRecDepth 100000
set_option maxHeartbeats 8000000
namespace Mine
theorem fillL2 : (∀ P, hd.heap_39 P = hd.heap_39 P) ∧ PySem.Challenge.rw_tr0011_01.foot = 4 := by
  k_fill
  exact ⟨fun _ => rfl, rfl⟩
def piecesP : List (List Nat) := [[40], [34, 40, 34, 41], [34, 41, 34]]
def turnedP : List (List Nat) := [[40], [34, 41, 34], [34, 40, 34, 41]]
def endsP : List (List Nat) := [[10], [13], [13, 10]]
section
variable {w : World} {A : Around} {base : Heap} {L : Addr} {cd : Value} {s : Shared} {m : Str → Option Value} {mg mb : Str → Option Value} {n : Nat}
theorem newsSwap {base h : Heap} {L : Addr} {a b : Addr × Obj} {r : List (Addr × Obj)} (N : News base L h (a :: b :: r)) : News base L h (b :: a :: r) := fun p hp => N p (by
  rcases List.mem_cons.mp hp with rfl | hp
  · exact .tail _ (.head _)
  · rcases List.mem_cons.mp hp with rfl | hp
    · exact .head _
    · exact .tail _ (.tail _ hp))
theorem endsP_str : endsP.map strV = [Str.ofString "\n", Str.ofString "\r", Str.ofString "\r\n"] := by decide
theorem piecesP_str : piecesP.map strV = [Str.ofString "(", Str.ofString "\"(\")", Str.ofString "\")\""] := by decide
theorem turnedP_str : turnedP.map strV = [Str.ofString "(", Str.ofString "\")\"", Str.ofString "\"(\")"] := by decide
theorem law_ends (rm : Room A n) (K0 : (hd.heap_39 w.params).In base) (T0 : TopM mg mb base) {o2 : Obj} {own : List (Addr × Obj)}
    (F : Fr base L s.heap m) (N : News base L s.heap ((L + 2, o2) :: own)) (y2 : o2.data = .cell none) (hown : ∀ p ∈ own, p.1 ≠ L + 2) :
    wpAny (model PP w) A (exec (lawDef.1.getD 1 (.Pass default)) (lawEnv L cd))
      (fun f s' => f = .next ∧ Fr base L s'.heap m ∧ (∃ En ev ke o, News base L s'.heap ((L + 2, o) :: (En, lsO ev ke) :: own) ∧ StrsAre ev (endsP.map strV) ∧ o.data = .cell (some (.ref En))) ∧ s'.gens = s.gens ∧ s'.os = s.os) (fun _ _ => False) s := by
  change wpAny _ _ (exec (Stmt.Assign _ _ _) _) _ _ _
  iterate 10 walk1
  rename Fr _ _ _ _ => F
  rename News _ _ _ _ => N
  rename_i hord
  refine storeX_C (c := L + 2) F N (by rfl) (UpdF.tail (Nat.ne_of_gt hord.1) (UpdF.head hown)) y2 (fun h' o' F' N' d' => ?_)
  refine ⟨trivial, F', ⟨_, [_, _, _], 0, o', newsSwap N', ?_, d'⟩, rfl, rfl⟩
  · rw [endsP_str]
    repeat' constructor
theorem law_pieces (rm : Room A n) (K0 : (hd.heap_39 w.params).In base) (T0 : TopM mg mb base) {o2 : Obj} {own : List (Addr × Obj)}
    (F : Fr base L s.heap m) (N : News base L s.heap ((L + 3, o2) :: own)) (y2 : o2.data = .cell none) (hown : ∀ p ∈ own, p.1 ≠ L + 3) :
    wpAny (model PP w) A (exec (lawDef.1.getD 2 (.Pass default)) (lawEnv L cd))
      (fun f s' => f = .next ∧ Fr base L s'.heap m ∧ (∃ En ev ke o, News base L s'.heap ((L + 3, o) :: (En, lsO ev ke) :: own) ∧ StrsAre ev (piecesP.map strV) ∧ o.data = .cell (some (.ref En))) ∧ s'.gens = s.gens ∧ s'.os = s.os) (fun _ _ => False) s := by
  change wpAny _ _ (exec (Stmt.Assign _ _ _) _) _ _ _
  iterate 10 walk1
  rename Fr _ _ _ _ => F
  rename News _ _ _ _ => N
  rename_i hord
  refine storeX_C (c := L + 3) F N (by rfl) (UpdF.tail (Nat.ne_of_gt hord.1) (UpdF.head hown)) y2 (fun h' o' F' N' d' => ?_)
  refine ⟨trivial, F', ⟨_, [_, _, _], 0, o', newsSwap N', ?_, d'⟩, rfl, rfl⟩
  · rw [piecesP_str]
    repeat' constructor
theorem law_turned (rm : Room A n) (K0 : (hd.heap_39 w.params).In base) (T0 : TopM mg mb base) {own : List (Addr × Obj)}
    (F : Fr base L s.heap m) (N : News base L s.heap own) :
    wpAny (model PP w) A (exec (lawDef.1.getD 3 (.Pass default)) (lawEnv L cd))
      (fun f s' => f = .next ∧ (∃ Tu tv kt, Fr base L s'.heap (fun y => if y = Str.ofString "turned" then some (.ref Tu) else m y) ∧ News base L s'.heap ((Tu, lsO tv kt) :: own) ∧ StrsAre tv (turnedP.map strV)) ∧ s'.gens = s.gens ∧ s'.os = s.os) (fun _ _ => False) s := by
  change wpAny _ _ (exec (Stmt.Assign _ _ _) _) _ _ _
  iterate 11 walk1
  rename Fr _ _ _ _ => F'
  rename News _ _ _ _ => N'
  refine ⟨trivial, ⟨_, [_, _, _], 0, F', N', ?_⟩, rfl, rfl⟩
  rw [turnedP_str]
  repeat' constructor
end
end Mine
end

section
open PySem PySem.W PySem.Calls PyProof.Rows
open Sem (wp)
set_option Elab.async false
set_option maxRecDepth 100000
set_option maxHeartbeats 8000000
namespace Mine
section
variable {prog : Program} {w : World} {A : Around} {R : Result → Shared → Prop} {s : Shared}
theorem compLoop_any {elt target iter : Expr} {scope : Scope} {pos : Pos} {it acc : Value} {env : Env} (I : Nat → Shared → Prop)
    (turn : ∀ n s, I n s → wpAny (model prog w) A (pyNext it) (fun r s₁ => match r with
      | none => R (.ok .next) s₁
      | some v => wpAny (model prog w) A (letOwnedTupleGo target it v) (fun _ s₁' => wpAny (model prog w) A (assign target env v) (fun _ s₂ => wpAny (model prog w) A (eval elt env) (fun x s₃ =>
          wpAny (model prog w) A (call (.builtin "list.append") [acc, x]) (fun _ s₄ => ∃ m, m < n ∧ I m s₄) (notedBy (model prog w) A env fun e s' => R (.error e) s') s₃)
          (notedBy (model prog w) A env fun e s' => R (.error e) s') s₂) (notedBy (model prog w) A env fun e s' => R (.error e) s') s₁') (notedBy (model prog w) A env fun e s' => R (.error e) s') s₁) (notedBy (model prog w) A env fun e s' => R (.error e) s') s)
    (n : Nat) (h : I n s) :
    codeAny (model prog w) A (.compLoop (.ListComp elt [⟨target, iter, [], 0⟩] scope pos) 0 it acc env) R s := by
  refine codeAny_loop rfl I (fun n s hI => ?_) n h
  show wpAny _ _ ((compTurn (.ListComp elt [⟨target, iter, [], 0⟩] scope pos) 0 it acc env).onRaise (fun x => do noteFrame x env; theTreesLotGoes x)) _ _ s
  refine wpAny_noted ?_
  rw [compTurn_list1]
  refine wpAny_bind (wpAny_standAt (wpAny_bind (wpAny_mono (turn n s hI) (fun r s₁ h₁ => ?_) fun _ _ h' => h')))
  cases r with
  | none => exact wpAny_pure h₁
  | some v =>
    refine wpAny_bind (wpAny_mono h₁ (fun _ s₁' h₁' => ?_) fun _ _ h' => h')
    exact wpAny_bind (wpAny_mono h₁' (fun _ s₂ h₂ => wpAny_bind (wpAny_bind (wpAny_mono h₂ (fun x s₃ h₃ => wpAny_bind (wpAny_mono h₃
      (fun _ s₄ h₄ => wpAny_pure (wpAny_pure ⟨rfl, h₄⟩)) fun _ _ h' => h')) fun _ _ h' => h'))) fun _ _ h' => h')

theorem tups_get : ∀ {tups : List (Addr × Obj)} {rows : List Row}, TupsAre tups rows → ∀ i (h : i < rows.length), ∃ T a b d, tups[i]? = some (T, rowO rows[i] a b d)
  | _, _, .nil, i, h => absurd h (Nat.not_lt_zero _)
  | _, _, .cons ht, 0, _ => ⟨_, _, _, _, rfl⟩
  | _, _, .cons ht, i + 1, h => by
    obtain ⟨T, a, b, d, e⟩ := tups_get ht i (by simpa using h)
    exact ⟨T, a, b, d, by simpa using e⟩

theorem listComp_tup3 {E : Value → Shared → Prop} {env : Env} {elt iter : Expr} {scope : Scope} {pos p1 p2 p3 tpos : Pos} {tx : Nat} {cl : List (Str × Addr)} {x1 x2 x3 : Str} {Q : Value → Shared → Prop} {Rs : Addr} {kr : Nat} {tups : List (Addr × Obj)} {rows : List Row} (g : Row → List Nat)
    (hh : A.handled = none) (hclos : closureFor scope env = pure cl) (hcell : ∀ y ∈ scope.names, y.2 ≠ .cell) (hkind : scope.kind = .function)
    (hnames : ∀ y ∈ scope.names, y.2 = .local → scope.names.lookup y.1 = some .local) (h1 : scope.names.lookup x1 = some .local) (h2 : scope.names.lookup x2 = some .local) (h3 : scope.names.lookup x3 = some .local)
    (hx12 : x1 ≠ x2) (hx13 : x1 ≠ x3) (hx23 : x2 ≠ x3)
    (hs : ∀ x, foldedSetIterable iter env x = pure x)
    (hiter : ∀ Q' : Value → Shared → Prop, Q' (.ref Rs) s → wpAny (model prog w) A (eval iter env) Q' E s)
    (hRs : s.heap.get? Rs = some (lsO (tups.map fun p => Value.ref p.1) kr)) (htups : ∀ p ∈ tups, s.heap.get? p.1 = some p.2) (ht : TupsAre tups rows) (hlen : rows.length ≤ 9)
    (helt : ∀ C (r : Row) s₂ m₂ E' t1 t2 t3, r ∈ rows → s₂.heap.Ns C m₂ → m₂ x1 = some (.int (r.1 : Nat) t1) → m₂ x2 = some (.str (strV r.2.1) t2) → m₂ x3 = some (.int (r.2.2 : Nat) t3) → (∀ b o, s.heap.get? b = some o → s₂.heap.get? b = some o) →
      wpAny (model prog w) A (eval elt (compEnvC scope cl C env)) (fun y s₃ => (∃ t, y = .str (strV (g r)) t) ∧ Keeps s₂ s₃) E' s₂)
    (hQ : ∀ D h' tk zs kz, s.heap.get? D = none → h'.get? D = some (lsO zs kz) → StrsAre zs ((rows.map g).map strV) → (∀ b o, s.heap.get? b = some o → h'.get? b = some o) → Q (.ref D) { s with heap := h', toks := tk }) :
    wpAny (model prog w) A (eval (.ListComp elt [⟨.Tuple [.Name x1 p1, .Name x2 p2, .Name x3 p3] tx tpos, iter, [], 0⟩] scope pos) env) Q E s := by
  rw [eval_ListComp]
  refine wpAny_comprehension_free (use := none) rfl hs hclos hkind hnames (hiter _ (wpAny_pyIter_list ⟨_, hRs, rfl, _, rfl⟩ ?_))
  refine wpAny_newObj_type (wpAny_newFunctionEnv hcell (by intro y hy; simp at hy) (fun h₁ hns₁ hsb₁ => ?_) hkind)
  dsimp only at hns₁ hsb₁ ⊢
  have hRlt : Rs < s.heap.objs.size := Heap.lt_size hRs
  generalize hH1 : s.heap.push { cls := .type "list_iterator", data := .fields #[.ref Rs, .int 0 0] } = H1 at hns₁ hsb₁ ⊢
  have hD : H1.objs.size = s.heap.objs.size + 1 := by rw [← hH1, Heap.size_push]
  generalize hH2 : H1.push { cls := .type "list", dict := none, data := .seq ([] : List Value).toArray } = H2 at hns₁ hsb₁ ⊢
  have hC : H2.objs.size = s.heap.objs.size + 2 := by rw [← hH2, Heap.size_push, hD]
  have below : ∀ b o, s.heap.get? b = some o → b ≠ H2.objs.size ∧ b ≠ s.heap.objs.size ∧ b ≠ H1.objs.size := fun b o e => by
    have hlt := Heap.lt_size e
    exact ⟨by rw [hC]; exact Nat.ne_of_lt (Nat.lt_succ_of_lt (Nat.lt_succ_of_lt hlt)), Nat.ne_of_lt hlt, by rw [hD]; exact Nat.ne_of_lt (Nat.lt_succ_of_lt hlt)⟩
  have hIC : s.heap.objs.size ≠ H2.objs.size := by rw [hC]; omega
  have hDC : H1.objs.size ≠ H2.objs.size := by rw [hC, hD]; omega
  have hDI : H1.objs.size ≠ s.heap.objs.size := by rw [hD]; omega
  have old : ∀ b o, s.heap.get? b = some o → h₁.get? b = some o := fun b o e =>
    hsb₁.extBut b o (below b o e).1 (Heap.get?_push_of_some _ (hH2 ▸ Heap.get?_push_of_some _ (hH1 ▸ Heap.get?_push_of_some _ e)))
  have hit : h₁.IsListIter s.heap.objs.size Rs 0 :=
    ⟨_, hsb₁.extBut _ _ hIC (Heap.get?_push_of_some _ (hH2 ▸ Heap.get?_push_of_some _ (hH1 ▸ Heap.get?_push_size _ rfl))), rfl, rfl⟩
  have hacc : h₁.get? H1.objs.size = some (lsO [] 0) := hsb₁.extBut _ _ hDC (Heap.get?_push_of_some _ (hH2 ▸ Heap.get?_push_size _ rfl))
  have hnew : s.heap.get? H1.objs.size = none := by
    cases e : s.heap.get? H1.objs.size with
    | none => rfl
    | some o' => have := Heap.lt_size e; rw [hD] at this; exact absurd this (Nat.not_lt.mpr (Nat.le_succ _))
  have htl : tups.length = rows.length := ht.len
  have hk1 : (compEnvC scope cl H2.objs.size env).kindOf x1 = some .local := lookup_relabel_local h1
  have hk2 : (compEnvC scope cl H2.objs.size env).kindOf x2 = some .local := lookup_relabel_local h2
  have hk3 : (compEnvC scope cl H2.objs.size env).kindOf x3 = some .local := lookup_relabel_local h3
  have hp : ((compEnvC scope cl H2.objs.size env).scope.kind == .class || ((compEnvC scope cl H2.objs.size env).scope.kind == .module && (compEnvC scope cl H2.objs.size env).locals != (compEnvC scope cl H2.objs.size env).globals)) = false := by
    show (scope.kind == .class || (scope.kind == .module && _)) = false
    rw [hkind]; rfl
  have loop : ∀ s₃ : Shared, s₃ = { s with heap := h₁, toks := s.toks + ([] : List (Str × Value)).length } →
      codeAny (model prog w) A (.compLoop (.ListComp elt [⟨.Tuple [.Name x1 p1, .Name x2 p2, .Name x3 p3] tx tpos, iter, [], 0⟩] scope pos) 0 (.ref s.heap.objs.size) (.ref H1.objs.size) (compEnvC scope cl H2.objs.size env))
        (compPost (model prog w) A E none Q (.ref H1.objs.size) H2.objs.size) s₃ := by
    rintro s₃ rfl
    refine compLoop_any (fun k s' => ∃ h' tk m' zs kz i, s' = { s with heap := h', toks := tk } ∧ h'.IsListIter s.heap.objs.size Rs i ∧ h'.get? H1.objs.size = some (lsO zs kz) ∧ h'.Ns H2.objs.size m' ∧
      StrsAre zs (((rows.take i).map g).map strV) ∧ i ≤ rows.length ∧ k = rows.length + 1 - i ∧ ∀ b o, s.heap.get? b = some o → h'.get? b = some o) ?_ (rows.length + 1)
      ⟨h₁, _, _, [], 0, 0, rfl, hit, hacc, hns₁, .nil, Nat.zero_le _, rfl, old⟩
    rintro k s' ⟨h', tk, m', zs, kz, i, rfl, hit', hacc', hn', hz, hi, rfl, hk⟩
    have hl' : h'.IsList Rs (tups.map fun p => Value.ref p.1).toArray := ⟨_, hk _ _ hRs, rfl, _, rfl⟩
    by_cases hlt : i < rows.length
    · obtain ⟨T, a, b, d, eT⟩ := tups_get ht i hlt
      have hTs : s.heap.get? T = some (rowO rows[i] a b d) := htups _ (List.mem_of_getElem? eT)
      refine wpAny_pyNext_list_item hit' hl' (x := .ref T) (by simp [eT]) fun h₂ hit₂ hs₂ => ?_
      refine wpAny_letOwnedTupleGo_listiter hit₂ ?_
      have htup : h₂.IsTuple T #[.int (rows[i].1 : Nat) a, .str (strV rows[i].2.1) b, .int ((rows[i].2.2 : Nat) : Nat) d] := ⟨_, hs₂.extBut _ _ (below _ _ hTs).2.1 (hk _ _ hTs), rfl, _, rfl⟩
      refine wpAny_assign_Tuple hh htup rfl rfl fun h₃ hx₃ => ?_
      replace hx₃ : Heap.ExtBut h₂.objs.size h₂ h₃ := hx₃
      have up₂ : ∀ b o, b ≠ s.heap.objs.size → h'.get? b = some o → h₂.get? b = some o := fun b o hb e => hs₂.extBut b o hb e
      have up₃ : ∀ b o, h₂.get? b = some o → h₃.get? b = some o := fun b o e => hx₃ b o (Nat.ne_of_lt (Heap.lt_size e)) e
      have n₂ : h₂.Ns H2.objs.size m' := hn'.sameBut hs₂ (Ne.symm hIC)
      have n₃ : h₃.Ns (compEnvC scope cl H2.objs.size env).locals m' := n₂.keeps up₃
      show wpAny _ A (do holding [_, _] (assign (.Name x1 p1) _ (.int (rows[i].1 : Nat) a)); do holding [_] (assign (.Name x2 p2) _ (.str (strV rows[i].2.1) b)); do holding [] (assign (.Name x3 p3) _ (.int ((rows[i].2.2 : Nat) : Nat) d)); pure ()) _ _ _
      refine wpAny_bind (wpAny_holding (wpAny_assign_Name (wpAny_storeName_local hk1 n₃ (fun h₄ n₄ s₄ => ?_) hp)))
      refine wpAny_bind (wpAny_holding (wpAny_assign_Name (wpAny_storeName_local hk2 n₄ (fun h₅ n₅ s₅ => ?_) hp)))
      refine wpAny_bind (wpAny_holding (wpAny_assign_Name (wpAny_storeName_local hk3 n₅ (fun h₆ n₆ s₆ => wpAny_pure ?_) hp)))
      replace s₄ : Heap.SameBut H2.objs.size h₃ h₄ := s₄
      replace s₅ : Heap.SameBut H2.objs.size h₄ h₅ := s₅
      replace s₆ : Heap.SameBut H2.objs.size h₅ h₆ := s₆
      have up₆ : ∀ b o, b ≠ s.heap.objs.size → b ≠ H2.objs.size → h'.get? b = some o → h₆.get? b = some o := fun b o hb hbC e => s₆.extBut b o hbC (s₅.extBut b o hbC (s₄.extBut b o hbC (up₃ b o (up₂ b o hb e))))
      have keep₆ : ∀ b o, s.heap.get? b = some o → h₆.get? b = some o := fun b o e => up₆ b o (below b o e).2.1 (below b o e).1 (hk b o e)
      refine wpAny_mono (helt H2.objs.size rows[i] _ _ _ a b d (List.getElem_mem _) n₆ (by simp [hx12, hx13]) (by simp [hx23]) (by simp) keep₆) (fun y s₇ h₇ => ?_) fun _ _ e => e
      obtain ⟨⟨t, rfl⟩, h₇, tk₇, rfl, hk₇⟩ := h₇
      have hzl : zs.length ≤ 9 := by
        rw [hz.len_eq, List.length_map, List.length_map, List.length_take]; omega
      have acc₇ : h₇.get? H1.objs.size = some (lsO zs kz) := hk₇ _ _ (up₆ _ _ hDI hDC hacc')
      refine append_at acc₇ (fun h₈ s₈ o₈ => ?_) (by rw [List.size_toArray, sizeLine_eq]; omega)
      rw [List.push_toArray] at o₈
      refine ⟨rows.length + 1 - (i + 1), by omega, h₈, _, _, zs ++ [.str (strV (g rows[i])) t], kz + 1, i + 1, rfl, ?_, o₈, (n₆.keeps hk₇).sameBut s₈ (Ne.symm hDC), ?_, hlt, rfl, fun b o e => s₈.extBut b o (below b o e).2.2 (hk₇ b o (keep₆ b o e))⟩
      · obtain ⟨oi, hoi, r⟩ := hit₂
        exact ⟨oi, s₈.extBut _ _ (Ne.symm hDI) (hk₇ _ _ (s₆.extBut _ _ hIC (s₅.extBut _ _ hIC (s₄.extBut _ _ hIC (up₃ _ _ hoi))))), r⟩
      · rw [List.take_succ_eq_append_getElem hlt, List.map_append, List.map_append]
        exact StrsAre.append' hz (.cons _ _ .nil)
    · have hin : i = rows.length := by omega
      subst hin
      refine wpAny_pyNext_list_end hh hit' hl' (by simp [htl]) fun h₂ he₂ => ?_
      rw [List.take_length] at hz
      refine ⟨m', hn'.extBut he₂ (Ne.symm hIC), fun h₃ s₃ => ?_⟩
      exact hQ _ _ _ zs kz hnew (s₃.extBut _ _ hDC (he₂ _ _ hDI hacc')) hz fun b o e => s₃.extBut b o (below b o e).1 (he₂ b o (below b o e).2.1 (hk b o e))
  exact codeAny_compStart_list (loop _ rfl) (wpAny_pyIter_listiter hit (loop _ rfl))
end
end Mine
end

section
open PySem PySem.W PySem.Calls PyProof.Rows
open Sem (wp)
set_option Elab.async false
set_option maxRecDepth 100000
set_option maxHeartbeats 400000
namespace Mine
theorem fillL4 : (∀ P, hd.heap_39 P = hd.heap_39 P) ∧ PySem.Challenge.rw_tr0011_01.foot = 4 := by
  k_fill
  exact ⟨fun _ => rfl, rfl⟩
def firstG (r : Row) : List Nat := piecesP.getD r.1 [] ++ r.2.1
theorem strV_append (a b : List Nat) : strV (a ++ b) = strV a ++ strV b := by
  apply Str.ext'
  apply Array.toList_inj.mp
  simp only [Str.cps_append, Array.toList_append]
section
variable {w : World} {A : Around} {base : Heap} {L : Addr} {cd : Value} {s : Shared} {m : Str → Option Value} {mg mb : Str → Option Value} {n : Nat}
theorem law_first (rm : Room A n) (K0 : (hd.heap_39 w.params).In base) (T0 : TopM mg mb base) {o1 o3 o4 : Obj} {Rs Pi : Addr} {kr kp : Nat} {pv : List Value} {tups own : List (Addr × Obj)} {rows : List Row}
    (F : Fr base L s.heap m) (N : News base L s.heap ((L + 4, o4) :: (L + 1, o1) :: (L + 3, o3) :: (Pi, lsO pv kp) :: (Rs, lsO (tups.map fun p => Value.ref p.1) kr) :: (tups ++ own)))
    (y1 : o1.data = .cell (some (.ref Rs))) (y3 : o3.data = .cell (some (.ref Pi))) (y4 : o4.data = .cell none) (hpv : StrsAre pv (piecesP.map strV)) (ht : TupsAre tups rows) (hlen : rows.length ≤ 9)
    (hr : ∀ r ∈ rows, r.1 ≤ 2 ∧ r.2.1.length ≤ 2) (hown : ∀ p ∈ (L + 1, o1) :: (L + 3, o3) :: (Pi, lsO pv kp) :: (Rs, lsO (tups.map fun p => Value.ref p.1) kr) :: (tups ++ own), p.1 ≠ L + 4) :
    wpAny (model PP w) A (exec (lawDef.1.getD 4 (.Pass default)) (lawEnv L cd))
      (fun f s' => f = .next ∧ Fr base L s'.heap m ∧ (∃ Fi fv kf o, News base L s'.heap ((L + 4, o) :: (Fi, lsO fv kf) :: (L + 1, o1) :: (L + 3, o3) :: (Pi, lsO pv kp) :: (Rs, lsO (tups.map fun p => Value.ref p.1) kr) :: (tups ++ own)) ∧
        StrsAre fv ((rows.map firstG).map strV) ∧ o.data = .cell (some (.ref Fi))) ∧ s'.gens = s.gens ∧ s'.os = s.os) (fun _ _ => False) s := by
  change wpAny _ _ (exec (Stmt.Assign _ _ _) _) _ _ _
  refine wpAny_Assign_Name (hs := by rfl) ?_
  refine listComp_tup3 (cl := [(Str.ofString "pieces", L + 3)]) (rows := rows) (tups := tups) (kr := kr) firstG rm.hh (by rfl) (by decide) rfl (by decide) (by decide) (by decide) (by decide) (by decide) (by decide) (by decide) (fun _ => rfl) (fun Q' h => nameX_C N (c := L + 1) (by rfl) (.tail _ (.head _)) y1 h) (N.get (by simp)) (fun p hp => N.get (by simp [hp])) ht hlen ?_ ?_
  · intro C r s₂ m₂ E' t1 t2 t3 hr' hns h1 h2 h3 hk
    have hcell : s₂.heap.IsCell (L + 3) (some (.ref Pi)) := ⟨o3, hk _ _ (N.get (.tail _ (.tail _ (.head _)))), y3⟩
    have hpi : s₂.heap.IsList Pi pv.toArray := ⟨_, hk _ _ (N.get (.tail _ (.tail _ (.tail _ (.head _))))), rfl, _, rfl⟩
    obtain ⟨tp, htp⟩ := strsAre_get hpv r.1 (by have := (hr r hr').1; show r.1 < 3; omega)
    have hpl : (piecesP.getD r.1 []).length ≤ 4 := by
      have : ∀ i : Nat, i ≤ 2 → (piecesP.getD i []).length ≤ 4 := by decide
      exact this _ (hr r hr').1
    have hdl := (hr r hr').2
    generalize hz1 : piecesP.getD r.1 [] = pc at htp hpl
    refine wpAny_BinOp ?_
    walk1
    refine ldCellK (by rfl) hcell ?_
    refine ldVarK hns h1 ?_
    refine item_listL (x := .str (strV pc) tp) hpi (Int.natCast_nonneg _) (Int.lt_of_le_of_lt (show ((r.1 : Nat) : Int) ≤ 2 by have := (hr r hr').1; omega) (by decide)) (by rw [Int.toNat_natCast]; exact htp) ?_
    refine ldVarK hns h2 ?_
    rw [show strV (firstG r) = strV pc ++ strV r.2.1 from by unfold firstG; rw [hz1, strV_append]]
    have l1 : (strV pc).length ≤ 4 := by rw [strV_len]; exact hpl
    have l2 : (strV r.2.1).length ≤ 2 := by rw [strV_len]; exact hdl
    generalize strV pc = z1 at l1
    generalize strV r.2.1 = z2 at l2
    iterate 1 walk1
    exact ⟨⟨_, rfl⟩, _, _, rfl, fun _ _ e => e⟩
  · intro D h' tk zs kz hD hD' hz hk
    have F₂ : Fr base L h' m := ⟨F.ns.keeps hk, fun b o e => hk b o (F.keep b o e), F.above⟩
    have hDb : base.get? D = none := by
      cases e : base.get? D with
      | none => rfl
      | some o => rw [F.keep _ _ e] at hD; cases hD
    have hDL : D ≠ L := by
      rintro rfl
      obtain ⟨o, _, _, ho, _⟩ := F.ns
      rw [ho] at hD; cases hD
    have hD4 : D ≠ L + 4 := by
      rintro rfl
      rw [N.get (.head _)] at hD; cases hD
    have N₂ : News base L h' ((D, lsO zs kz) :: _) := newsCons hDL hDb hD' (fun q hq => ⟨hk _ _ (N q hq).1, (N q hq).2⟩)
    refine storeX_C (c := L + 4) F₂ N₂ (by rfl) (UpdF.tail hD4 (UpdF.head hown)) y4 (fun h'' o' F' N' d' => ?_)
    exact ⟨rfl, F', ⟨_, zs, kz, o', newsSwap N', hz, d'⟩, rfl, rfl⟩
end
end Mine
end

section
open PySem PySem.W PySem.Calls PyProof.Rows
open Sem (wp)
set_option Elab.async false
set_option maxRecDepth 100000
set_option maxHeartbeats 1000000
namespace Mine
theorem fillL5 : (∀ P, hd.heap_39 P = hd.heap_39 P) ∧ PySem.Challenge.rw_tr0011_01.foot = 4 := by
  k_fill
  exact ⟨fun _ => rfl, rfl⟩
theorem newsDrop2 {base h : Heap} {L : Addr} {a b c : Addr × Obj} {r : List (Addr × Obj)} (N : News base L h (a :: b :: c :: r)) : News base L h (a :: r) := fun p hp => N p (by
  rcases List.mem_cons.mp hp with rfl | hp
  · exact .head _
  · exact .tail _ (.tail _ (.tail _ hp)))
section
variable {w : World} {A : Around} {base : Heap} {L : Addr} {cd : Value} {s : Shared} {m : Str → Option Value} {mg mb : Str → Option Value} {n : Nat}
theorem law_behind (rm : Room A n) (K0 : (hd.heap_39 w.params).In base) (T0 : TopM mg mb base) {o4 : Obj} {Fi : Addr} {kf : Nat} {fv : List Value} {own : List (Addr × Obj)} {fs : List (List Nat)}
    (F : Fr base L s.heap m) (N : News base L s.heap ((L + 4, o4) :: (Fi, lsO fv kf) :: own))
    (y4 : o4.data = .cell (some (.ref Fi))) (hfv : StrsAre fv (fs.map strV)) (hlen : fs.length ≤ 9) :
    wpAny (model PP w) A (exec (lawDef.1.getD 5 (.Pass default)) (lawEnv L cd))
      (fun f s' => f = .next ∧ (∃ Be bv kb, Fr base L s'.heap (fun y => if y = Str.ofString "behind" then some (.ref Be) else m y) ∧ News base L s'.heap ((Be, lsO bv kb) :: (L + 4, o4) :: (Fi, lsO fv kf) :: own) ∧
        StrsAre bv ((fs.drop 1 ++ fs.take 1).map strV)) ∧ s'.gens = s.gens ∧ s'.os = s.os) (fun _ _ => False) s := by
  change wpAny _ _ (exec (Stmt.Assign _ _ _) _) _ _ _
  have hvl : fv.length = fs.length := by rw [hfv.len_eq, List.length_map]
  iterate 18 walk1
  rename Fr _ _ _ _ => F₂
  rename News _ _ _ _ => N₂
  rw [show slicePick fv.toArray (some 1) none none = (fv.drop 1).toArray from slicePick_from' fv.toArray 1, show slicePick fv.toArray none (some 1) none = (fv.take 1).toArray from slicePick_upto' fv.toArray 1] at N₂
  refine add_lists (vs := fv.drop 1) (ws := fv.take 1) F₂ N₂ ⟨_, N₂.get (.tail _ (.head _)), rfl, _, rfl⟩ ⟨_, N₂.get (.head _), rfl, _, rfl⟩ (fun h₄ F₄ N₄ => ?_) (by rw [sizeLine_eq, List.length_drop, List.length_take]; omega)
  iterate 1 walk1
  rename Fr _ _ _ _ => F₅
  rename News _ _ _ _ => N₅
  have hbv : StrsAre (fv.drop 1 ++ fv.take 1) ((fs.drop 1 ++ fs.take 1).map strV) := by
    rw [List.map_append, List.map_drop, List.map_take]
    exact StrsAre.append' (hfv.drop' 1) (hfv.take' 1)
  exact ⟨rfl, ⟨_, fv.drop 1 ++ fv.take 1, 0, F₅, newsDrop2 N₅, hbv⟩, rfl, rfl⟩
end
end Mine
end

section
open PySem PySem.W PySem.Calls PyProof.Rows
open Sem (wp)
set_option Elab.async false
set_option maxRecDepth 100000
set_option maxHeartbeats 1000000
namespace Mine
theorem fillL6 : (∀ P, hd.heap_39 P = hd.heap_39 P) ∧ PySem.Challenge.rw_tr0011_01.foot = 4 := by
  k_fill
  exact ⟨fun _ => rfl, rfl⟩
section
variable {w : World} {A : Around} {base : Heap} {L : Addr} {cd : Value} {s : Shared} {m : Str → Option Value} {mg mb : Str → Option Value} {n : Nat}
theorem law_if1 (rm : Room A (n + 3)) (K0 : (hd.heap_39 w.params).In base) (T0 : TopM mg mb base) {o4 : Obj} {Fi : Addr} {kf : Nat} {fv : List Value} {own : List (Addr × Obj)} {fs : List (List Nat)}
    (F : Fr base L s.heap m) (N : News base L s.heap ((L + 4, o4) :: (Fi, lsO fv kf) :: own))
    (y4 : o4.data = .cell (some (.ref Fi))) (hfv : StrsAre fv (fs.map strV)) (hlen : fs.length ≤ 9) (hf : ∀ r ∈ fs, r.length ≤ 20)
    (h1 : takenL false fs = true) (h2 : takenL true fs = true) :
    wpAny (model PP w) A (exec (lawDef.1.getD 6 (.Pass default)) (lawEnv L cd))
      (fun f s' => f = .next ∧ Fr base L s'.heap m ∧ News base L s'.heap ((L + 4, o4) :: (Fi, lsO fv kf) :: own) ∧ Quiet s s') (fun _ _ => False) s := by
  change wpAny _ _ (exec (Stmt.If _ _ _ _) _) _ _ _
  iterate 12 (first | (guard_target =~ _ ∧ _; skip) | walk1)
  walk1
  refine wpAny_call (taken_code rm (K0.keeps F.keep) (T0.keeps F.keep) (N.get (.tail _ (.head _))) hfv hlen hf fun s₂ hl => ?_)
  replace F := hl.fr F
  replace N := hl.news N
  rw [h1]
  iterate 3 walk1
  rw [if_neg (by decide)]
  iterate 12 (first | (guard_target =~ _ ∧ _; skip) | walk1)
  walk1
  refine wpAny_call (taken_code rm (K0.keeps F.keep) (T0.keeps F.keep) (N.get (.tail _ (.head _))) hfv hlen hf fun s₃ hl₃ => ?_)
  replace F := hl₃.fr F
  replace N := hl₃.news N
  rw [h2]
  iterate 3 walk1
  rw [if_neg (by decide)]
  iterate 3 walk1
  exact ⟨rfl, F, N, ⟨fun z => hl₃.gens (hl.gens z), hl₃.os.trans hl.os⟩⟩
end
end Mine
end

section
open PySem PySem.W PySem.Calls PyProof.Rows
open Sem (wp)
set_option Elab.async false
set_option maxRecDepth 100000
set_option maxHeartbeats 1000000
namespace Mine
theorem fillL7 : (∀ P, hd.heap_39 P = hd.heap_39 P) ∧ PySem.Challenge.rw_tr0011_01.foot = 4 := by
  k_fill
  exact ⟨fun _ => rfl, rfl⟩
section
variable {w : World} {A : Around} {base : Heap} {L : Addr} {cd : Value} {s : Shared} {m : Str → Option Value} {mg mb : Str → Option Value} {n : Nat}
theorem law_if2 (rm : Room A (n + 3)) (K0 : (hd.heap_39 w.params).In base) (T0 : TopM mg mb base) {Fi : Addr} {kf : Nat} {fv : List Value} {own : List (Addr × Obj)} {fs : List (List Nat)}
    (F : Fr base L s.heap (fun y => if y = Str.ofString "behind" then some (.ref Fi) else m y)) (N : News base L s.heap ((Fi, lsO fv kf) :: own))
    (hfv : StrsAre fv (fs.map strV)) (hlen : fs.length ≤ 9) (hf : ∀ r ∈ fs, r.length ≤ 20)
    (h1 : takenL false fs = false) (h2 : takenL true fs = false) :
    wpAny (model PP w) A (exec (lawDef.1.getD 7 (.Pass default)) (lawEnv L cd))
      (fun f s' => f = .next ∧ Fr base L s'.heap (fun y => if y = Str.ofString "behind" then some (.ref Fi) else m y) ∧ News base L s'.heap ((Fi, lsO fv kf) :: own) ∧ Quiet s s') (fun _ _ => False) s := by
  change wpAny _ _ (exec (Stmt.If _ _ _ _) _) _ _ _
  iterate 12 (first | (guard_target =~ _ ∧ _; skip) | walk1)
  walk1
  refine wpAny_call (taken_code rm (K0.keeps F.keep) (T0.keeps F.keep) (N.get (.head _)) hfv hlen hf fun s₂ hl => ?_)
  replace F := hl.fr F
  replace N := hl.news N
  rw [h1]
  iterate 3 walk1
  rw [if_neg (by decide)]
  iterate 12 (first | (guard_target =~ _ ∧ _; skip) | walk1)
  walk1
  refine wpAny_call (taken_code rm (K0.keeps F.keep) (T0.keeps F.keep) (N.get (.head _)) hfv hlen hf fun s₃ hl₃ => ?_)
  replace F := hl₃.fr F
  replace N := hl₃.news N
  rw [h2]
  iterate 3 walk1
  rw [if_neg (by decide)]
  iterate 3 walk1
  exact ⟨rfl, F, N, ⟨fun z => hl₃.gens (hl.gens z), hl₃.os.trans hl.os⟩⟩
end
end Mine
end

section
open PySem PySem.W PySem.Calls PyProof.Rows
open Sem (wp)
set_option Elab.async false
set_option maxRecDepth 100000
set_option maxHeartbeats 1000000
namespace Mine
theorem fillL8 : (∀ P, hd.heap_39 P = hd.heap_39 P) ∧ PySem.Challenge.rw_tr0011_01.foot = 4 := by
  k_fill
  exact ⟨fun _ => rfl, rfl⟩
theorem base_low {w : World} {base : Heap} (K0 : (hd.heap_39 w.params).In base) : sysModules < base.objs.size := by
  have h : ∃ o, (hd.heap_39 w.params).lookup 105 = some o := ⟨_, by k_is⟩
  obtain ⟨o, h⟩ := h
  exact Nat.lt_trans (by decide) (Heap.lt_size (K0 _ _ h))
section
variable {w : World} {A : Around} {base : Heap} {L : Addr} {cd : Value} {s : Shared} {m : Str → Option Value} {mg mb : Str → Option Value} {n : Nat}
theorem law_names (rm : Room A n) (K0 : (hd.heap_39 w.params).In base) (T0 : TopM mg mb base) {o5 : Obj} {own : List (Addr × Obj)}
    (F : Fr base L s.heap m) (N : News base L s.heap ((L + 5, o5) :: own)) (y5 : o5.data = .cell none) (hown : ∀ p ∈ own, p.1 ≠ L + 5) {st : Stmt} (hst : lawDef.1.getD 8 (.Pass default) = st) :
    wpAny (model PP w) A (exec st (lawEnv L cd))
      (fun f s' => f = .next ∧ Fr base L s'.heap m ∧ (∃ Na no o t1 t2 t3, News base L s'.heap ((L + 5, o) :: (Na, no) :: own) ∧ no.IsDictOf (PySem.strKind PP w) [(Str.ofString "&", .str (Str.ofString "&amp;") t1), (Str.ofString ">", .str (Str.ofString "&gt;") t2), (Str.ofString "\"", .str (Str.ofString "&quot;") t3)] ∧ o.data = .cell (some (.ref Na)) ∧ (Na == sysModules) = false) ∧ s'.gens = s.gens ∧ s'.os = s.os) (fun _ _ => False) s := by
  subst hst
  have hlow : sysModules < base.objs.size := base_low K0
  change wpAny _ _ (exec (Stmt.Assign _ _ _) _) _ _ _
  iterate 11 walk1
  dsimp only
  iterate 1 walk1
  refine ⟨[(Str.ofString "&", .str (Str.ofString "&amp;") _), (Str.ofString ">", .str (Str.ofString "&gt;") _), (Str.ofString "\"", .str (Str.ofString "&quot;") _)], ⟨?_, rfl, ?_, rfl, ?_, rfl, trivial⟩, Heap.DictOf.new _, fun h' hd hs => ?_⟩
  · exact strKind_is _ _ _ _
  · exact strKind_is _ _ _ _
  · exact strKind_is _ _ _ _
  obtain ⟨no, hno, hno2⟩ := Heap.dictOf_iff.mp hd
  have up : ∀ b o, s.heap.get? b = some o → h'.get? b = some o := fun b o e => (hs.2 b (Nat.ne_of_lt (Heap.lt_size e))).trans (Heap.get?_push_of_some _ e)
  have F₂ : Fr base L h' m := ⟨F.ns.keeps up, fun b o e => up b o (F.keep b o e), F.above⟩
  have hnew : s.heap.get? s.heap.objs.size = none := by
    cases e : s.heap.get? s.heap.objs.size with
    | none => rfl
    | some o => exact absurd (Heap.lt_size e) (Nat.lt_irrefl _)
  have hDb : base.get? s.heap.objs.size = none := by
    cases e : base.get? s.heap.objs.size with
    | none => rfl
    | some o => rw [F.keep _ _ e] at hnew; cases hnew
  have hDL : s.heap.objs.size ≠ L := fun e => absurd F.ns.lt (e ▸ Nat.lt_irrefl _)
  have hD5 : s.heap.objs.size ≠ L + 5 := fun e => by
    have := Heap.lt_size (N.get (.head _))
    rw [← e] at this
    exact Nat.lt_irrefl _ this
  have N₂ : News base L h' ((s.heap.objs.size, no) :: _) := newsCons hDL hDb hno (fun q hq => ⟨up _ _ (N q hq).1, (N q hq).2⟩)
  refine storeX_C (c := L + 5) F₂ N₂ (by rfl) (UpdF.tail hD5 (UpdF.head hown)) y5 (fun h'' o' F' N' d' => ?_)
  exact ⟨rfl, F', ⟨_, no, o', _, _, _, newsSwap N', hno2, d', Fr.notModules F hlow⟩, rfl, rfl⟩
end
end Mine
end

section
open PySem PySem.W PySem.Calls PyProof.Rows
open Sem (wp)
set_option Elab.async false
set_option maxRecDepth 100000
set_option maxHeartbeats 1000000
namespace Mine
theorem fillL9 : (∀ P, hd.heap_39 P = hd.heap_39 P) ∧ PySem.Challenge.rw_tr0011_01.foot = 4 := by
  k_fill
  exact ⟨fun _ => rfl, rfl⟩
theorem flat_len {ys : List (List Nat)} (hys : ys.length ≤ 9) (hy : ∀ r ∈ ys, r.length ≤ 20) : ys.flatten.length ≤ 180 := by
  have h1 : ∀ zs : List (List Nat), (∀ r ∈ zs, r.length ≤ 20) → zs.flatten.length ≤ zs.length * 20 := by
    intro zs
    induction zs with
    | nil => intro _; simp
    | cons z r ih =>
      intro hz
      have h2 := ih fun q hq => hz q (.tail _ hq)
      have h3 := hz z (.head _)
      simp only [List.flatten_cons, List.length_append, List.length_cons]
      omega
  have := h1 ys hy
  omega
theorem escC_len (c : Nat) : (escC c).length ≤ 6 := by
  unfold escC
  split
  · decide
  · split
    · decide
    · split
      · decide
      · exact Nat.le_add_left 1 5
theorem strs_of_pair (x : Str) : ∀ (vs zs : List Value) (k : Nat), Paired (fun v y => ∃ c u u', v = Value.str (strV [c]) u ∧ y = Value.str (strV (escC c)) u') vs zs → (∀ (j : Nat) (v : Value), vs[j]? = some v → SignAt x (k + j) v) → vs.length + k = x.cps.size → StrsAre zs (((x.cps.toList.drop k).map escC).map strV)
  | _, _, k, .nil, _, hl => by
    rw [List.drop_of_length_le (by simp at hl ⊢; omega)]; exact .nil
  | _, _, k, .cons (a := v) (b := y) (l₁ := vs) (l₂ := zs) h r, hv, hl => by
    obtain ⟨c, u, u', rfl, rfl⟩ := h
    obtain ⟨c', u'', h1, h2⟩ := hv 0 _ rfl
    have hc : c' = c := by
      have := (Value.str.inj h2).1
      have := congrArg (fun s : Str => s.cps.toList) this
      simp at this
      exact this.symm
    subst hc
    have hk : k < x.cps.toList.length := by simp at hl ⊢; omega
    have hd : x.cps.toList.drop k = c' :: x.cps.toList.drop (k + 1) := by
      rw [List.drop_eq_getElem_cons hk]
      congr 1
      have h1 : x.cps[k]? = some c' := h1
      rw [Array.getElem?_eq_getElem (by simpa using hk)] at h1
      simpa using h1
    rw [hd]
    exact .cons _ _ (strs_of_pair x vs zs (k + 1) r (fun j v hj => by rw [show k + 1 + j = k + (j + 1) from by omega]; exact hv (j + 1) v hj) (by simp at hl; omega))
theorem get_esc (c : Nat) (u t1 t2 t3 : Tok) : ∃ u', (valueAt [(Str.ofString "&", Value.str (Str.ofString "&amp;") t1), (Str.ofString ">", .str (Str.ofString "&gt;") t2), (Str.ofString "\"", .str (Str.ofString "&quot;") t3)] (⟨#[c]⟩ : Str)).getD (.str ⟨#[c]⟩ u) = .str (strV (escC c)) u' := by
  rw [show Str.ofString "&" = ⟨#[38]⟩ from by decide, show Str.ofString ">" = ⟨#[62]⟩ from by decide, show Str.ofString "\"" = ⟨#[34]⟩ from by decide,
    show Str.ofString "&amp;" = strV ampS from by decide, show Str.ofString "&gt;" = strV gtS from by decide, show Str.ofString "&quot;" = strV quotS from by decide]
  unfold valueAt escC
  by_cases h1 : c = 38
  · subst h1; exact ⟨t1, by simp⟩
  by_cases h2 : c = 62
  · subst h2; exact ⟨t2, by simp⟩
  by_cases h3 : c = 34
  · subst h3; exact ⟨t3, by simp⟩
  refine ⟨u, ?_⟩
  rw [if_neg h1, if_neg h2, if_neg h3, List.find?_cons_of_neg (by simp; exact fun e => h1 e.symm), List.find?_cons_of_neg (by simp; exact fun e => h2 e.symm), List.find?_cons_of_neg (by simp; exact fun e => h3 e.symm)]
  rfl
section
variable {w : World} {A : Around} {base : Heap} {L : Addr} {cd : Value} {s : Shared} {m : Str → Option Value} {mg mb : Str → Option Value} {n : Nat}
theorem law_esc (rm : Room A (n + 3)) (K0 : (hd.heap_39 w.params).In base) (T0 : TopM mg mb base) {o4 o5 no : Obj} {Fi Na : Addr} {kf : Nat} {fv : List Value} {own : List (Addr × Obj)} {fs : List (List Nat)} {t1 t2 t3 : Tok}
    (F : Fr base L s.heap m) (N : News base L s.heap ((L + 5, o5) :: (Na, no) :: (L + 4, o4) :: (Fi, lsO fv kf) :: own))
    (y4 : o4.data = .cell (some (.ref Fi))) (y5 : o5.data = .cell (some (.ref Na))) (hno : no.IsDictOf (PySem.strKind PP w) [(Str.ofString "&", .str (Str.ofString "&amp;") t1), (Str.ofString ">", .str (Str.ofString "&gt;") t2), (Str.ofString "\"", .str (Str.ofString "&quot;") t3)])
    (hsys : (Na == sysModules) = false) (hfv : StrsAre fv (fs.map strV)) (hlen : fs.length ≤ 9) (hf : ∀ r ∈ fs, r.length ≤ 20) :
    wpAny (model PP w) A (exec (lawDef.1.getD 9 (.Pass default)) (lawEnv L cd))
      (fun f s' => f = .next ∧ Fr base L s'.heap m ∧ News base L s'.heap ((L + 5, o5) :: (Na, no) :: (L + 4, o4) :: (Fi, lsO fv kf) :: own) ∧ Quiet s s') (fun _ _ => False) s := by
  change wpAny _ _ (exec (Stmt.If _ _ _ _) _) _ _ _
  have hsum := sum_le (N := 20) fs hf
  have hflat : fs.flatten.length ≤ 180 := flat_len hlen hf
  have hjl : ((fs.map strV).map (·.length)).sum + (fs.map strV).length * (Str.ofString "").length ≤ 16777216 := by
    have hz : (Str.ofString "").length = 0 := by decide
    rw [hz, List.length_map]
    show ((fs.map fun r => (⟨r.toArray⟩ : Str)).map (·.length)).sum + _ ≤ _
    omega
  iterate 13 walk1
  refine join_list ⟨_, N.get (.tail _ (.tail _ (.tail _ (.head _)))), rfl, _, rfl⟩ hfv hjl fun t' k' => ?_
  rw [show Txt.join (Str.ofString "") (fs.map strV) = strV fs.flatten from join_empty fs]
  generalize hxx : strV fs.flatten = x
  have hxl : x.length ≤ 180 := by rw [← hxx, strV_len]; exact hflat
  have hxc : x.cps.toList = fs.flatten := by rw [← hxx]
  iterate 4 (first | (guard_target =~ _ ∧ _; skip) | walk1)
  walk1
  refine wpAny_call (esc_code (rm.less (m := n + 1) (by omega)) (K0.keeps F.keep) (T0.keeps F.keep) (by omega) fun s₂ tk₂ hl => ?_)
  replace F := hl.fr F
  replace N := hl.news N
  iterate 5 walk1
  refine wpAny_ListComp_free (cl := [(Str.ofString "names", L + 5)]) (fun _ => true) (fun v y => ∃ c u u', v = .str (strV [c]) u ∧ y = .str (strV (escC c)) u') (by rfl) (by decide) rfl (by decide) (by decide) ?_
  iterate 7 walk1
  refine join_list ⟨_, N.get (.tail _ (.tail _ (.tail _ (.head _)))), rfl, _, rfl⟩ hfv hjl fun t₃ k₃ => ?_
  rw [show Txt.join (Str.ofString "") (fs.map strV) = strV fs.flatten from join_empty fs, hxx]
  refine wpAny_pyIter_str fun oi St hW hSt => ?_
  dsimp only at hSt ⊢
  have up : ∀ b o, s₂.heap.get? b = some o → (s₂.heap.push oi).get? b = some o := fun b o e => Heap.get?_push_of_some _ e
  refine ⟨s₂.heap.objs.size, [s₂.heap.objs.size], [s₂.heap.objs.size], x.cps.size, _, St, rfl, hW A rm.hh, (by rw [sizeLine_eq]; have : x.cps.size = x.length := rfl; omega), hSt, ?_, ⟨?_, ?_⟩, ?_⟩
  · intro b hb
    rw [List.mem_singleton.mp hb]
    show _ < (s₂.heap.push _).objs.size
    rw [Heap.size_push]; exact Nat.lt_succ_self _
  · intro C i v s₃ m₃ E' hC hP hns hmx hk htk
    exact wpAny_pure ⟨rfl, _, _, rfl, fun _ _ e => e⟩
  · intro C i v s₃ m₃ E' hC hP hpv hns hmx hk htk
    obtain ⟨c, u, hc, rfl⟩ := hP
    have hkeep : ∀ b o, s₂.heap.get? b = some o → s₃.heap.get? b = some o := fun b o e => hk b o (fun q => by rw [List.mem_singleton.mp q] at e; exact absurd (Heap.lt_size e) (Nat.lt_irrefl _)) (up b o e)
    have hcell : s₃.heap.IsCell (L + 5) (some (.ref Na)) := ⟨o5, hkeep _ _ (N.get (.head _)), y5⟩
    have hdo : s₃.heap.DictOf (PySem.strKind PP w) Na _ := Heap.dictOf_iff.mpr ⟨no, hkeep _ _ (N.get (.tail _ (.head _))), hno⟩
    refine MethodCall_ (ldCellK (by rfl) hcell ?_)
    refine getMethod_builtin hdo.typeIs PySem.F.plainAttrs_dict PySem.F.slot_dict_get PySem.F.type_dict_get hdo.mapOf.noDict ?_
    dsimp only
    refine wpAny_dict_get2 (knd := PySem.strKind PP w) hsys ?_
    refine ldVarK hns hmx ?_
    refine ldVarK hns hmx ?_
    refine ⟨⟨#[c]⟩, _, strKind_is _ _ _ _, hdo.mapOf, ?_⟩
    obtain ⟨u', hu'⟩ := get_esc c u t1 t2 t3
    exact ⟨⟨c, u, u', rfl, hu'⟩, s₃.heap, s₃.toks + 1, rfl, fun _ _ e => e⟩
  · intro D h' tk' zs vs' hD hl' hpl hlen' hPv hpair hk
    have hkeep : ∀ b o, s₂.heap.get? b = some o → h'.get? b = some o := fun b o e => hk b o (fun q => by rw [List.mem_singleton.mp q] at e; exact absurd (Heap.lt_size e) (Nat.lt_irrefl _)) (up b o e)
    have F₃ : Fr base L h' m := ⟨F.ns.keeps hkeep, fun b o e => hkeep b o (F.keep b o e), F.above⟩
    have N₃ : News base L h' ((L + 5, o5) :: (Na, no) :: (L + 4, o4) :: (Fi, lsO fv kf) :: own) := fun q hq => ⟨hkeep _ _ (N q hq).1, (N q hq).2⟩
    clear F N
    rw [List.filter_eq_self.mpr (fun _ _ => rfl)] at hpair
    have hzs := strs_of_pair x vs' zs.toList 0 hpair (fun j v hj => by rw [Nat.zero_add]; exact hPv j v hj) (by omega)
    rw [List.drop_zero] at hzs
    have hs6 := sum_le (N := 6) (x.cps.toList.map escC) (fun r hr => by
      obtain ⟨c, _, rfl⟩ := List.mem_map.mp hr
      exact escC_len c)
    walk1
    refine join_list hl' hzs ?_ fun t₅ k₅ => ?_
    · have hz : (Str.ofString "").length = 0 := by decide
      have hx2 : x.cps.toList.length = x.length := rfl
      rw [hz]
      rw [List.length_map, hx2] at hs6
      show (((x.cps.toList.map escC).map fun r => (⟨r.toArray⟩ : Str)).map (·.length)).sum + _ ≤ _
      omega
    rw [show Txt.join (Str.ofString "") ((x.cps.toList.map escC).map strV) = strV (x.cps.toList.map escC).flatten from join_empty _]
    refine ne_str ?_
    rw [show (⟨(escL x.cps.toList).toArray⟩ : Str) = strV (x.cps.toList.map escC).flatten from by rw [escL_flat, List.flatMap_def], bne_self_eq_false]
    iterate 1 walk1
    rw [if_neg (by decide)]
    exact wpAny_execs_nil ⟨rfl, F₃, N₃, ⟨fun z => hl.gens z, hl.os⟩⟩
end
end Mine
end

section
set_option Elab.async false
namespace Mine
/-- the strings the generator yields, without the places -/
def its : Bool → List Nat → List (List Nat)
  | true, [] => [[92]]
  | false, [] => []
  | true, c :: r => [92, c] :: its false r
  | false, c :: r => if c = 92 then its true r else [c] :: its false r
theorem escs_snd : ∀ (xs : List Nat) (b : Bool) (i : Nat), (escs b i xs).map (·.2) = its b xs
  | [], true, i => rfl
  | [], false, i => rfl
  | c :: r, true, i => by simp only [escs, its, List.map_cons, escs_snd r]
  | c :: r, false, i => by
    simp only [escs, its]
    split
    · exact escs_snd r _ _
    · simp only [List.map_cons, escs_snd r]
/-- items that tell the text from place i on -/
inductive Told (xs : List Nat) : Nat → List (Nat × List Nat) → Prop
  | nil : Told xs xs.length []
  | cons {i p : Nat} {it : List Nat} {r : List (Nat × List Nat)} : Told xs (i + it.length) r → xs.drop i = it ++ xs.drop (i + it.length) → (it = [34] → p = i) → Told xs i ((p, it) :: r)
theorem drop_step {xs : List Nat} {i c : Nat} {r : List Nat} (h : xs.drop i = c :: r) : xs.drop (i + 1) = r := by
  rw [← List.drop_drop, h]; rfl
theorem told_escs (xs : List Nat) : ∀ (r : List Nat) (i : Nat), i ≤ xs.length →
    (xs.drop i = r → Told xs i (escs false i r)) ∧ (xs.drop i = 92 :: r → i < xs.length → Told xs i (escs true (i + 1) r))
  | [], i, hi => by
    constructor
    · intro h
      have : i = xs.length := by
        have := congrArg List.length h
        rw [List.length_drop] at this
        simp at this
        omega
      subst this
      exact .nil
    · intro h hlt
      have h2 := drop_step h
      have : i + 1 = xs.length := by
        have := congrArg List.length h
        rw [List.length_drop] at this
        simp at this
        omega
      refine .cons (it := [92]) ?_ ?_ (fun e => by simp at e)
      · show Told xs (i + 1) []
        rw [this]; exact .nil
      · show _ = [92] ++ xs.drop (i + 1)
        rw [h2, h]; rfl
  | c :: r, i, hi => by
    constructor
    · intro h
      have h2 := drop_step h
      have hlt : i < xs.length := by
        have := congrArg List.length h
        rw [List.length_drop, List.length_cons] at this
        omega
      unfold escs
      split
      · rename_i hc
        exact (told_escs xs r i hi).2 (by rw [h, hc]) hlt
      · refine .cons (it := [c]) ((told_escs xs r (i + 1) (by omega)).1 h2) ?_ (fun _ => rfl)
        show _ = [c] ++ xs.drop (i + 1)
        rw [h2, h]; rfl
    · intro h hlt
      have h2 := drop_step h
      have h3 := drop_step h2
      have hlt2 : i + 2 ≤ xs.length := by
        have := congrArg List.length h
        rw [List.length_drop, List.length_cons, List.length_cons] at this
        omega
      unfold escs
      refine .cons (it := [92, c]) ((told_escs xs r (i + 2) (by omega)).1 h3) ?_ (fun e => by simp at e)
      show _ = [92, c] ++ xs.drop (i + 2)
      rw [h3, h]; rfl
/-- what the strip keeps -/
def keep : Option (List Nat) → List (List Nat) → List Nat
  | none, [] => []
  | some acc, [] => 34 :: acc
  | none, it :: r => if it = [34] then keep (some []) r else it ++ keep none r
  | some acc, it :: r => if it = [34] then keep none r else keep (some (acc ++ it)) r
def fin (xs : List Nat) (a : Nat × Option Nat × List (List Nat)) : List Nat := a.2.2.flatten ++ xs.drop a.1
theorem take_drop_add {xs : List Nat} {i k : Nat} {it : List Nat} (hk : k = it.length) (h : xs.drop i = it ++ xs.drop (i + k)) (hi : i ≤ xs.length) : xs.take (i + k) = xs.take i ++ it := by
  rw [List.take_add, h, hk, List.take_append_of_le_length (Nat.le_refl _), List.take_length]
theorem told_le {xs : List Nat} : ∀ {its : List (Nat × List Nat)} {i : Nat}, Told xs i its → i ≤ xs.length
  | _, _, .nil => Nat.le_refl _
  | _, _, .cons h _ _ => by have := told_le h; omega
theorem strip_fold (xs : List Nat) : ∀ (l : List (Nat × List Nat)) (i : Nat), Told xs i l →
    (∀ st res, st ≤ i → fin xs (l.foldl (stp xs) (st, none, res)) = res.flatten ++ (xs.take i).drop st ++ keep none (l.map (·.2))) ∧
    (∀ st o res, st ≤ o → o < i → xs.drop o = 34 :: xs.drop (o + 1) → fin xs (l.foldl (stp xs) (st, some o, res)) = res.flatten ++ (xs.take o).drop st ++ keep (some ((xs.take i).drop (o + 1))) (l.map (·.2))) := by
  intro l
  induction l with
  | nil =>
    intro i h
    cases h
    constructor
    · intro st res hst
      show res.flatten ++ xs.drop st = _
      rw [List.take_length]; simp [keep]
    · intro st o res h1 h2 h3
      show res.flatten ++ xs.drop st = _
      rw [List.take_length, List.append_assoc]
      congr 1
      simp only [List.map_nil, keep]
      rw [← h3]
      have : xs.drop st = (xs.take o ++ xs.drop o).drop st := by rw [List.take_append_drop]
      rw [this, List.drop_append_of_le_length]
      rw [List.length_take]; omega
  | cons a l ih =>
    obtain ⟨p, it⟩ := a
    intro i h
    have hle := told_le h
    cases h with
    | cons h1 h2 h3 =>
    obtain ⟨ih1, ih2⟩ := ih _ h1
    have htk := take_drop_add rfl h2 hle
    have hle2 := told_le h1
    constructor
    · intro st res hst
      simp only [List.foldl_cons, List.map_cons, keep]
      by_cases e : it = [34]
      · have hp := h3 e
        subst e hp
        rw [if_pos rfl]
        show fin xs (l.foldl (stp xs) (st, some p, res)) = _
        rw [ih2 st p res hst (by simp) h2]
        congr 3
        rw [htk]
        rw [List.drop_of_length_le]
        rw [List.length_append, List.length_take]; simp; omega
      · rw [if_neg e]
        have : stp xs (st, none, res) (p, it) = (st, none, res) := by unfold stp; rw [if_neg e]
        rw [this, ih1 st res (by omega), htk, List.drop_append_of_le_length (by rw [List.length_take]; omega)]
        simp
    · intro st o res g1 g2 g3
      simp only [List.foldl_cons, List.map_cons, keep]
      by_cases e : it = [34]
      · have hp := h3 e
        subst e hp
        rw [if_pos rfl]
        have : stp xs (st, some o, res) (p, [34]) = (p + 1, none, if st = o then res else res ++ [(xs.drop st).take (o - st)]) := by unfold stp; rw [if_pos rfl]
        rw [this, ih1 (p + 1) _ (by simp)]
        have z : (xs.take (p + [34].length)).drop (p + 1) = [] := by
          rw [List.drop_of_length_le]
          rw [List.length_take]; simp; omega
        rw [z, List.append_nil]
        congr 1
        by_cases q : st = o
        · rw [if_pos q, q, List.drop_of_length_le (by rw [List.length_take]; omega), List.append_nil]
        · rw [if_neg q, List.flatten_append, List.drop_take]; simp
      · rw [if_neg e]
        have : stp xs (st, some o, res) (p, it) = (st, some o, res) := by unfold stp; rw [if_neg e]
        rw [this, ih2 st o res g1 (by omega) g3, htk, List.drop_append_of_le_length (by rw [List.length_take]; omega)]
theorem its_concat : ∀ (xs : List Nat), (its false xs).flatten = xs ∧ (its true xs).flatten = 92 :: xs
  | [] => ⟨rfl, rfl⟩
  | c :: r => by
    obtain ⟨h1, h2⟩ := its_concat r
    constructor
    · unfold its
      split
      · rename_i h; rw [h2, h]
      · rw [List.flatten_cons, h1]; rfl
    · unfold its
      rw [List.flatten_cons, h1]; rfl
theorem keep_none : ∀ (l : List (List Nat)), [34] ∉ l → keep none l = l.flatten
  | [], _ => rfl
  | a :: l, h => by
    unfold keep
    have e : a ≠ [34] := fun e => h (by rw [e]; exact .head _)
    rw [if_neg e, keep_none l (fun m => h (.tail _ m))]; rfl
theorem its_mem : ∀ (xs : List Nat) (b : Bool), [34] ∈ its b xs → 34 ∈ xs
  | [], true, h => by simp [its] at h
  | [], false, h => by simp [its] at h
  | c :: r, true, h => by
    simp only [its, List.mem_cons] at h
    rcases h with h | h
    · simp at h
    · exact .tail _ (its_mem r _ h)
  | c :: r, false, h => by
    simp only [its] at h
    split at h
    · exact .tail _ (its_mem r _ h)
    · rcases List.mem_cons.mp h with h | h
      · simp at h; rw [h]; exact .head _
      · exact .tail _ (its_mem r _ h)
theorem stripL_keep (xs : List Nat) : stripL xs = keep none (its false xs) := by
  unfold stripL
  split
  · have := (strip_fold xs _ 0 ((told_escs xs xs 0 (Nat.zero_le _)).1 rfl)).1 0 [] (Nat.le_refl _)
    rw [escs_snd] at this
    simp only [List.flatten_nil, List.take_zero, List.drop_zero, List.nil_append] at this
    rw [← this]
    unfold fin
    generalize (escs false 0 xs).foldl (stp xs) (0, none, []) = r
    dsimp only
    split
    · rw [List.flatten_append]; simp
    · rw [List.drop_of_length_le (by omega), List.append_nil]
  · rename_i h
    have : (34 : Nat) ∉ xs := by simpa using h
    rw [keep_none _ (fun m => this (its_mem xs _ m)), (its_concat xs).1]
/-- the count of the reader -/
def run : List (List Nat) → Nat → Option Nat
  | [], n => some n
  | it :: r, n => if it = [40] then run r (n + 1) else if it = [41] then (match n with | 0 => none | m + 1 => run r m) else run r n
theorem chk_run : ∀ (l : List (Nat × List Nat)) (n : Nat), chk l n = (run (l.map (·.2)) n == some 0)
  | [], n => by
    simp only [chk, List.map_nil, run]
    cases n with
    | zero => rfl
    | succ m =>
      rw [Bool.eq_iff_iff]
      simp only [beq_iff_eq, Option.some.injEq]
      omega
  | q :: l, n => by
    simp only [chk, List.map_cons, run]
    split
    · exact chk_run l (n + 1)
    · split
      · cases n with
        | zero => rfl
        | succ m =>
          rw [if_neg (by omega), show ((m + 1 : Nat) : Int) - 1 = (m : Nat) from by omega]
          exact chk_run l m
      · exact chk_run l n
theorem run_append : ∀ (a b : List (List Nat)) (n : Nat), run (a ++ b) n = (run a n).bind (run b)
  | [], b, n => rfl
  | it :: a, b, n => by
    simp only [List.cons_append, run]
    split
    · exact run_append a b _
    · split
      · cases n with
        | zero => rfl
        | succ m => exact run_append a b m
      · exact run_append a b n
theorem checkL_run (xs : List Nat) : checkL xs = (run (its false (keep none (its false xs))) 0 == some 0) := by
  unfold checkL
  rw [show (0 : Int) = ((0 : Nat) : Int) from rfl, chk_run, escs_snd, stripL_keep]
def shut : Bool → List Nat → Bool
  | b, [] => !b
  | true, _ :: r => shut false r
  | false, c :: r => shut (c == 92) r
theorem its_append : ∀ (a b : List Nat) (e : Bool), shut e a = true → its e (a ++ b) = its e a ++ its false b
  | [], b, true, h => by simp [shut] at h
  | [], b, false, h => rfl
  | c :: a, b, true, h => by
    simp only [List.cons_append, its]
    rw [its_append a b false h]
  | c :: a, b, false, h => by
    simp only [List.cons_append, its]
    unfold shut at h
    split
    · rename_i hc; subst hc; exact its_append a b true h
    · rename_i hc
      rw [show (c == 92) = false from by simp [hc]] at h
      rw [its_append a b false h]; rfl
/-- quotation marks in pairs -/
def even : Bool → List (List Nat) → Bool
  | b, [] => b
  | b, it :: r => if it = [34] then even (!b) r else even b r
theorem keep_append : ∀ (a b : List (List Nat)) (o : Option (List Nat)), even o.isNone a = true → keep o (a ++ b) = keep o a ++ keep none b
  | [], b, none, h => rfl
  | [], b, some acc, h => by simp [even] at h
  | it :: a, b, none, h => by
    simp only [List.cons_append, keep]
    unfold even at h
    split
    · rename_i e; rw [if_pos e] at h; exact keep_append a b (some []) h
    · rename_i e; rw [if_neg e] at h; rw [keep_append a b none h, List.append_assoc]
  | it :: a, b, some acc, h => by
    simp only [List.cons_append, keep]
    unfold even at h
    split
    · rename_i e; rw [if_pos e] at h; exact keep_append a b none h
    · rename_i e; rw [if_neg e] at h; exact keep_append a b (some (acc ++ it)) h
/-- a row that the reader reads alone -/
structure Neat (y : List Nat) : Prop where
  one : shut false y = true
  two : even true (its false y) = true
  tri : shut false (keep none (its false y)) = true
def bit (y : List Nat) : List (List Nat) := its false (keep none (its false y))
theorem flat_its : ∀ (ys : List (List Nat)), (∀ y ∈ ys, Neat y) → its false ys.flatten = (ys.map (its false)).flatten
  | [], _ => rfl
  | y :: r, h => by
    rw [List.flatten_cons, its_append _ _ _ (h y (.head _)).one, flat_its r fun z hz => h z (.tail _ hz)]; rfl
theorem flat_keep : ∀ (ys : List (List Nat)), (∀ y ∈ ys, Neat y) → keep none (ys.map (its false)).flatten = (ys.map fun y => keep none (its false y)).flatten
  | [], _ => rfl
  | y :: r, h => by
    rw [List.map_cons, List.flatten_cons, keep_append _ _ none (h y (.head _)).two, flat_keep r fun z hz => h z (.tail _ hz)]; rfl
theorem flat_bit : ∀ (ys : List (List Nat)), (∀ y ∈ ys, Neat y) → its false (ys.map fun y => keep none (its false y)).flatten = (ys.map bit).flatten
  | [], _ => rfl
  | y :: r, h => by
    rw [List.map_cons, List.flatten_cons, its_append _ _ _ (h y (.head _)).tri, flat_bit r fun z hz => h z (.tail _ hz)]; rfl
theorem checkL_rows (ys : List (List Nat)) (h : ∀ y ∈ ys, Neat y) : checkL ys.flatten = (run (ys.map bit).flatten 0 == some 0) := by
  rw [checkL_run, flat_its ys h, flat_keep ys h, flat_bit ys h]
/-- the count by kinds -/
def runK (pg : Bool) : List Nat → Nat → Option Nat
  | [], n => some n
  | k :: r, n => if k = 0 then runK pg r (n + 1) else if k = (if pg then 2 else 1) then (match n with | 0 => none | m + 1 => runK pg r m) else runK pg r n
def view (pg : Bool) (y : List Nat) : List Nat := if pg then pageL y else y
theorem view_flatten (pg : Bool) (ys : List (List Nat)) : (if pg then pageL ys.flatten else ys.flatten) = (ys.map (view pg)).flatten := by
  cases pg
  · show ys.flatten = (ys.map fun y => y).flatten
    rw [List.map_id']
  · show pageL ys.flatten = (ys.map pageL).flatten
    induction ys with
    | nil => rfl
    | cons y r ih => 
      rw [List.flatten_cons, List.map_cons, List.flatten_cons, ← ih]
      exact List.flatMap_append ..
def Sane (k : Nat) (d : List Nat) : Prop := k < 3 ∧ d ∈ dressesP
def rowS (k : Nat) (d : List Nat) : List Nat := piecesP.getD k [] ++ d
theorem sane_cases {P : Nat → List Nat → Prop} (h : ∀ k, k ∈ [0, 1, 2] → ∀ d ∈ dressesP, P k d) {k : Nat} {d : List Nat} (hs : Sane k d) : P k d := by
  refine h k ?_ d hs.2
  have := hs.1
  have : k = 0 ∨ k = 1 ∨ k = 2 := by omega
  rcases this with h | h | h <;> simp [h]
theorem neat_dec : ∀ pg, ∀ k ∈ [0, 1, 2], ∀ d ∈ dressesP, shut false (view pg (rowS k d)) = true ∧ even true (its false (view pg (rowS k d))) = true ∧ shut false (keep none (its false (view pg (rowS k d)))) = true := by
  decide +kernel
theorem neat_row (pg : Bool) {k : Nat} {d : List Nat} (h : Sane k d) : Neat (view pg (rowS k d)) := by
  have := sane_cases (P := fun k d => shut false (view pg (rowS k d)) = true ∧ even true (its false (view pg (rowS k d))) = true ∧ shut false (keep none (its false (view pg (rowS k d)))) = true) (neat_dec pg) h
  exact ⟨this.1, this.2.1, this.2.2⟩
/-- a list of items by its brackets -/
def net : List (List Nat) → List Bool
  | [] => []
  | it :: r => if it = [40] then true :: net r else if it = [41] then false :: net r else net r
def runB : List Bool → Nat → Option Nat
  | [], n => some n
  | true :: r, n => runB r (n + 1)
  | false :: r, n => match n with | 0 => none | m + 1 => runB r m
theorem run_net : ∀ (l : List (List Nat)) (n : Nat), run l n = runB (net l) n
  | [], n => rfl
  | it :: r, n => by
    simp only [run, net]
    split
    · exact run_net r _
    · split
      · cases n with
        | zero => rfl
        | succ m => exact run_net r m
      · exact run_net r n
def netK (pg : Bool) (k : Nat) : List Bool := if k = 0 then [true] else if k = (if pg then 2 else 1) then [false] else if pg then [true, false] else []
theorem net_dec : ∀ pg, ∀ k ∈ [0, 1, 2], ∀ d ∈ dressesP, net (bit (view pg (rowS k d))) = netK pg k := by
  decide +kernel
theorem run_rows (pg : Bool) : ∀ (l : List (Nat × List Nat)) (n : Nat), (∀ r ∈ l, Sane r.1 r.2) → run ((l.map fun r => bit (view pg (rowS r.1 r.2))).flatten) n = runK pg (l.map (·.1)) n
  | [], n, _ => rfl
  | r :: l, n, h => by
    have ih := fun n => run_rows pg l n fun q hq => h q (.tail _ hq)
    have hn := sane_cases (net_dec pg) (h r (.head _))
    rw [List.map_cons, List.flatten_cons, run_append, run_net, hn, List.map_cons]
    have hk : r.1 = 0 ∨ r.1 = 1 ∨ r.1 = 2 := by
      have := (h r (.head _)).1
      omega
    rcases hk with hk | hk | hk <;> rw [hk] <;> cases pg
    · exact ih (n + 1)
    · exact ih (n + 1)
    · cases n with
      | zero => rfl
      | succ m => exact ih m
    · exact ih n
    · exact ih n
    · cases n with
      | zero => rfl
      | succ m => exact ih m
theorem taken_rows (pg : Bool) (l : List (Nat × List Nat)) (h : ∀ r ∈ l, Sane r.1 r.2) : takenL pg (l.map fun r => rowS r.1 r.2) = (runK pg (l.map (·.1)) 0 == some 0) := by
  unfold takenL
  rw [view_flatten, checkL_rows, ← run_rows pg l 0 h]
  · simp only [List.map_map]; rfl
  · intro y hy
    obtain ⟨z, hz, rfl⟩ := List.mem_map.mp hy
    obtain ⟨r, hr, rfl⟩ := List.mem_map.mp hz
    exact neat_row pg (h r hr)
end Mine
end

section
set_option Elab.async false
namespace Mine
/-- a line of the text: dots, kind, dress -/
abbrev Line := Nat × Nat × List Nat
def lineL (r : Line) : List Nat := List.replicate r.1 46 ++ rowS r.2.1 r.2.2
def textL (st : List Line) : List Nat := (st.map fun r => lineL r ++ [13, 10]).flatten
def SaneL (r : Line) : Prop := Sane r.2.1 r.2.2
theorem row_dec : ∀ k ∈ [0, 1, 2], ∀ d ∈ dressesP, (∀ c ∈ rowS k d, c ≠ 10 ∧ c ≠ 13) ∧ (rowS k d).dropWhile (· == 46) = rowS k d ∧ ((rowS k d).take 1 == [34]) = (k != 0) ∧ pageP (rowS k d) = (k == 2) ∧ (rowS k d).length ≤ 6 ∧ (rowS k d).drop 1 = (piecesP.getD k []).drop 1 ++ d := by
  decide +kernel
theorem row_at {k : Nat} {d : List Nat} (h : Sane k d) : (∀ c ∈ rowS k d, c ≠ 10 ∧ c ≠ 13) ∧ (rowS k d).dropWhile (· == 46) = rowS k d ∧ ((rowS k d).take 1 == [34]) = (k != 0) ∧ pageP (rowS k d) = (k == 2) ∧ (rowS k d).length ≤ 6 ∧ (rowS k d).drop 1 = (piecesP.getD k []).drop 1 ++ d :=
  sane_cases (P := fun k d => (∀ c ∈ rowS k d, c ≠ 10 ∧ c ≠ 13) ∧ (rowS k d).dropWhile (· == 46) = rowS k d ∧ ((rowS k d).take 1 == [34]) = (k != 0) ∧ pageP (rowS k d) = (k == 2) ∧ (rowS k d).length ≤ 6 ∧ (rowS k d).drop 1 = (piecesP.getD k []).drop 1 ++ d) row_dec h
def Plain (l : List Nat) : Prop := ∀ c ∈ l, c ≠ 10 ∧ c ≠ 13
theorem plain_line {r : Line} (h : SaneL r) : Plain (lineL r) := by
  intro c hc
  rcases List.mem_append.mp hc with hc | hc
  · rw [List.eq_of_mem_replicate hc]; decide
  · exact (row_at h).1 c hc
theorem cut_line : ∀ (l : List Nat) (t : List Nat), Plain l → cutS [13, 10] 0 (l ++ [13, 10] ++ t) = l :: cutS [13, 10] 0 t
  | [], t, _ => by
    show cutS [13, 10] 0 (13 :: 10 :: t) = _
    rw [cutS]
    simp [List.isPrefixOf, cutS]
  | c :: l, t, h => by
    show cutS [13, 10] 0 (c :: (l ++ [13, 10] ++ t)) = _
    have hc := (h c (.head _)).2
    rw [cutS, if_neg (by simp [List.isPrefixOf]; intro e; exact absurd e.symm hc), cut_line l t fun z hz => h z (.tail _ hz)]
theorem cut_text : ∀ (st : List Line), (∀ r ∈ st, SaneL r) → cutS [13, 10] 0 (textL st) = st.map lineL ++ [[]]
  | [], _ => rfl
  | r :: st, h => by
    show cutS [13, 10] 0 ((lineL r ++ [13, 10]) ++ textL st) = _
    rw [cut_line _ _ (plain_line (h r (.head _))), cut_text st fun q hq => h q (.tail _ hq)]; rfl
theorem lines_text (st : List Line) (h : ∀ r ∈ st, SaneL r) : linesL (textL st) = st.map lineL := by
  unfold linesL
  rw [cut_text st h, List.dropLast_concat]
theorem drop_dots (n : Nat) (l : List Nat) : (List.replicate n 46 ++ l).dropWhile (· == 46) = l.dropWhile (· == 46) := by
  induction n with
  | zero => rfl
  | succ n ih => rw [List.replicate_succ, List.cons_append, List.dropWhile_cons, if_pos (by decide), ih]
def bareK (r : Line) : Nat × List Nat := r.2
theorem bare_text (st : List Line) (h : ∀ r ∈ st, SaneL r) : bareL (st.map lineL) = (st.map bareK).map fun r => rowS r.1 r.2 := by
  unfold bareL
  rw [List.map_map, List.map_map]
  apply List.map_congr_left
  intro r hr
  show (lineL r).dropWhile _ = _
  unfold lineL
  rw [drop_dots, (row_at (h r hr)).2.1]; rfl
/-- the place of the turn, by kinds -/
def condK (ks : List Nat) (p : Nat) : Bool := ks.getD p 0 != 0 && runK (ks.getD p 0 == 2) (ks.take (p + 1)) 0 == some 0
theorem getD_map {α β : Type} (f : α → β) (l : List α) (p : Nat) (a : α) (b : β) (hp : p < l.length) : (l.map f).getD p b = f (l.getD p a) := by
  rw [List.getD_eq_getElem?_getD, List.getD_eq_getElem?_getD, List.getElem?_map, List.getElem?_eq_getElem hp]; rfl
theorem getD_mem {α : Type} (l : List α) (p : Nat) (a : α) (hp : p < l.length) : l.getD p a ∈ l := by
  rw [List.getD_eq_getElem?_getD, List.getElem?_eq_getElem hp]; exact List.getElem_mem _
theorem cond_text (st : List Line) (h : ∀ r ∈ st, SaneL r) (p : Nat) (hp : p < st.length) : condP (bareL (st.map lineL)) p = condK (st.map (·.2.1)) p := by
  have hm := h _ (getD_mem st p (0, 0, []) hp)
  have h2 : ((st.map bareK).map fun r => rowS r.1 r.2).getD p [] = rowS (st.getD p (0, 0, [])).2.1 (st.getD p (0, 0, [])).2.2 := by
    rw [List.map_map]; exact getD_map _ _ _ _ _ hp
  have h3 : (st.map (·.2.1)).getD p 0 = (st.getD p (0, 0, [])).2.1 := getD_map _ _ _ _ _ hp
  unfold condP condK
  rw [bare_text st h, h2, h3, (row_at hm).2.2.1, (row_at hm).2.2.2.1, ← List.map_take, taken_rows]
  · rw [← List.map_take, ← List.map_take, List.map_map]; rfl
  · intro r hr
    have := List.mem_of_mem_take hr
    obtain ⟨q, hq, rfl⟩ := List.mem_map.mp this
    exact h q hq
theorem crlf_plain : ∀ (l t : List Nat), Plain l → crlfS (l ++ t) = l ++ crlfS t
  | [], t, _ => rfl
  | c :: l, t, h => by
    have := h c (.head _)
    rw [List.cons_append, crlfS_plain this.1 this.2, crlf_plain l t fun z hz => h z (.tail _ hz)]; rfl
/-- a line end that the next text does not lengthen -/
theorem crlf_end (e t : List Nat) (he : e ∈ endsP) (ht : t.head? ≠ some 10) : crlfS (e ++ t) = [13, 10] ++ crlfS t := by
  simp only [endsP, List.mem_cons, List.not_mem_nil, or_false] at he
  rcases he with rfl | rfl | rfl
  · cases t with
    | nil => rfl
    | cons c t => simp [crlfS]
  · cases t with
    | nil => rfl
    | cons c t =>
      have : c ≠ 10 := fun e => ht (by rw [e]; rfl)
      simp [crlfS, this]
  · simp [crlfS]
theorem dots_line : ∀ (l t : List Nat) (b : Bool), Plain l → dotsS b (l ++ [13, 10] ++ t) = (if b && l.head? == some 46 then [46] else []) ++ l ++ [13, 10] ++ dotsS true t
  | [], t, b, _ => by simp [dotsS]
  | c :: l, t, b, h => by
    have hc := h c (.head _)
    show dotsS b (c :: (l ++ [13, 10] ++ t)) = _
    rw [dotsS, show (c == 10) = false from by simp [hc.1], dots_line l t false fun z hz => h z (.tail _ hz)]
    cases b
    · simp
    · by_cases e : c = 46
      · subst e; simp
      · simp [e]
def moreDots (st : List Line) : List Line := st.map fun r => (r.1 + 1, r.2)
theorem dots_text : ∀ (st : List Line), (∀ r ∈ st, SaneL r ∧ 0 < r.1) → dotsS true (textL st) = textL (moreDots st)
  | [], _ => rfl
  | r :: st, h => by
    obtain ⟨hs, hp⟩ := h r (.head _)
    show dotsS true ((lineL r ++ [13, 10]) ++ textL st) = _
    rw [dots_line _ _ _ (plain_line hs), dots_text st fun q hq => h q (.tail _ hq)]
    have h1 : (lineL r).head? = some 46 := by
      unfold lineL
      obtain ⟨m, hm⟩ : ∃ m, r.1 = m + 1 := ⟨r.1 - 1, by omega⟩
      rw [hm, List.replicate_succ]; rfl
    rw [h1]
    have h2 : lineL (r.1 + 1, r.2) = 46 :: lineL r := by
      unfold lineL
      rw [List.replicate_succ]; rfl
    show _ = (lineL (r.1 + 1, r.2) ++ [13, 10]) ++ textL (moreDots st)
    rw [h2]; simp
theorem head_line {r : Line} (hp : 0 < r.1) (t : List Nat) : (lineL r ++ t).head? = some 46 := by
  unfold lineL
  obtain ⟨m, hm⟩ : ∃ m, r.1 = m + 1 := ⟨r.1 - 1, by omega⟩
  rw [hm, List.replicate_succ]; rfl
/-- rows with ends of any kind -/
theorem crlf_text : ∀ (st : List (Line × List Nat)), (∀ r ∈ st, SaneL r.1 ∧ 0 < r.1.1 ∧ r.2 ∈ endsP) → crlfS ((st.map fun r => lineL r.1 ++ r.2).flatten) = textL (st.map (·.1))
  | [], _ => rfl
  | r :: st, h => by
    obtain ⟨hs, hp, he⟩ := h r (.head _)
    rw [List.map_cons, List.flatten_cons, List.append_assoc, crlf_plain _ _ (plain_line hs), crlf_end _ _ he, crlf_text st fun q hq => h q (.tail _ hq)]
    · rw [List.map_cons]
      show _ = (lineL r.1 ++ [13, 10]) ++ textL (st.map (·.1))
      rw [List.append_assoc]
    · cases st with
      | nil => exact fun e => nomatch e
      | cons q st =>
        have hq := h q (.tail _ (.head _))
        rw [List.map_cons, List.flatten_cons, List.append_assoc, head_line hq.2.1]
        decide
theorem quote_ends (st : List (Line × List Nat)) (h : ∀ r ∈ st, SaneL r.1 ∧ 0 < r.1.1 ∧ r.2 ∈ endsP) : quoteL ((st.map fun r => lineL r.1 ++ r.2).flatten) = textL (moreDots (st.map (·.1))) := by
  rw [quoteL_eq, crlf_text st h, dots_text]
  intro r hr
  obtain ⟨q, hq, rfl⟩ := List.mem_map.mp hr
  exact ⟨(h q hq).1, (h q hq).2.1⟩
theorem inter_ends : ∀ (ls : List (List Nat)) (z : List Nat), List.intercalate [13] (ls ++ [z]) ++ [10] = (ls.map (· ++ [13])).flatten ++ (z ++ [10])
  | [], z => by simp [List.intercalate, List.intersperse]
  | l :: ls, z => by
    have ih := inter_ends ls z
    have : List.intercalate [13] (l :: (ls ++ [z])) = l ++ [13] ++ List.intercalate [13] (ls ++ [z]) := by
      cases ls <;> simp [List.intercalate, List.intersperse]
    rw [List.cons_append, this, List.append_assoc, ih, List.map_cons, List.flatten_cons]; simp
theorem quote_turn (st : List Line) (z : Line) (h : ∀ r ∈ st ++ [z], SaneL r ∧ 0 < r.1) : quoteL (List.intercalate [13] (st.map lineL ++ [lineL z]) ++ [10]) = textL (moreDots (st ++ [z])) := by
  have := quote_ends (st.map (fun r => (r, [13])) ++ [(z, [10])]) (by
    intro r hr
    rcases List.mem_append.mp hr with hr | hr
    · obtain ⟨q, hq, rfl⟩ := List.mem_map.mp hr
      have := h q (List.mem_append_left _ hq)
      exact ⟨this.1, this.2, by simp [endsP]⟩
    · rw [List.mem_singleton.mp hr]
      have := h z (List.mem_append_right _ (List.mem_singleton.mpr rfl))
      exact ⟨this.1, this.2, by simp [endsP]⟩)
  rw [inter_ends]
  have e : List.map (fun q : Line × List Nat => q.1) (List.map (fun r => (r, [13])) st ++ [(z, [10])]) = st ++ [z] := by simp [List.map_map, Function.comp_def]
  rw [e] at this
  rw [← this]
  congr 1
  simp [List.map_map, Function.comp_def]
/-- the turn of the lines -/
def turnK (st : List Line) : List Line := match (List.range' 1 (st.length - 1)).find? (condK (st.map (·.2.1))) with
  | none => st
  | some p => moreDots ((st.set p ((st.getD p (0, 0, [])).1, 0, (st.getD p (0, 0, [])).2.2)).drop 1 ++ [(1, (st.getD p (0, 0, [])).2.1, (st.getD 0 (0, 0, [])).2.2)])
theorem find_congr {P Q : Nat → Bool} : ∀ (l : List Nat), (∀ p ∈ l, P p = Q p) → l.find? P = l.find? Q
  | [], _ => rfl
  | a :: l, h => by
    rw [List.find?_cons, List.find?_cons, h a (.head _), find_congr l fun p hp => h p (.tail _ hp)]
theorem turn_text (st : List Line) (h : ∀ r ∈ st, SaneL r ∧ 0 < r.1) (h0 : (st.getD 0 (0, 0, [])).2.1 = 0) : turnS (textL st) = textL (turnK st) := by
  have hs : ∀ r ∈ st, SaneL r := fun r hr => (h r hr).1
  have hlen : (linesL (textL st)).length = st.length := by rw [lines_text st hs, List.length_map]
  unfold turnS turnK
  rw [hlen, lines_text st hs, find_congr (Q := condK (st.map (·.2.1)))]
  · cases hf : (List.range' 1 (st.length - 1)).find? (condK (st.map (·.2.1))) with
    | none => rfl
    | some p =>
      dsimp only
      have hc := List.find?_some hf
      have hr := List.mem_range'_1.mp (List.mem_of_find?_eq_some hf)
      have hp : p < st.length := by omega
      generalize hR : st.getD p (0, 0, []) = R
      have hm := getD_mem st p (0, 0, []) hp
      rw [hR] at hm
      obtain ⟨hsR, hdR⟩ := h R hm
      have hk : R.2.1 ≠ 0 := by
        unfold condK at hc
        rw [getD_map (fun r : Line => r.2.1) st p (0, 0, []) 0 hp, hR] at hc
        rw [Bool.and_eq_true] at hc
        simpa using hc.1
      have hbp : (bareL (st.map lineL)).getD p [] = rowS R.2.1 R.2.2 := by
        rw [bare_text st hs, List.map_map, getD_map _ _ _ (0, 0, []) _ hp, hR]; rfl
      have hb0 : (bareL (st.map lineL)).getD 0 [] = rowS 0 (st.getD 0 (0, 0, [])).2.2 := by
        rw [bare_text st hs, List.map_map, getD_map _ _ _ (0, 0, []) _ (by omega)]
        show rowS (st.getD 0 (0, 0, [])).2.1 (st.getD 0 (0, 0, [])).2.2 = _
        rw [h0]
      have hyp : (st.map lineL).getD p [] = lineL R := by rw [getD_map _ _ _ (0, 0, []) _ hp, hR]
      have hk3 : R.2.1 = 1 ∨ R.2.1 = 2 := by have := hsR.1; omega
      have hpc : pieceP (rowS R.2.1 R.2.2) = piecesP.getD R.2.1 [] := by
        unfold pieceP
        rw [(row_at hsR).2.2.2.1]
        rcases hk3 with e | e <;> rw [e] <;> rfl
      unfold newT
      rw [hbp, hb0, hyp, hpc]
      have e1 : (lineL R).take ((lineL R).length - (rowS R.2.1 R.2.2).length) ++ [40] ++ (rowS R.2.1 R.2.2).drop (piecesP.getD R.2.1 []).length = lineL (R.1, 0, R.2.2) := by
        unfold lineL
        rw [List.length_append, Nat.add_sub_cancel, List.take_append_of_le_length (Nat.le_refl _), List.take_length, List.append_assoc]
        congr 1
        unfold rowS
        rw [List.drop_append_of_le_length (Nat.le_refl _), List.drop_length]; rfl
      have e2 : [46] ++ piecesP.getD R.2.1 [] ++ (rowS 0 (st.getD 0 (0, 0, [])).2.2).drop 1 = lineL (1, R.2.1, (st.getD 0 (0, 0, [])).2.2) := rfl
      rw [e1, e2, ← List.map_set, ← List.map_drop]
      have hm0 := h _ (getD_mem st 0 (0, 0, []) (by omega))
      refine quote_turn _ _ ?_
      intro r hr
      rcases List.mem_append.mp hr with hr | hr
      · have hr := List.mem_of_mem_drop hr
        rcases List.mem_or_eq_of_mem_set hr with hr | rfl
        · exact h r hr
        · exact ⟨⟨Nat.zero_lt_succ _, hsR.2⟩, hdR⟩
      · rw [List.mem_singleton.mp hr]
        exact ⟨⟨hsR.1, hm0.1.2⟩, Nat.one_pos⟩
  · intro p hp
    have := List.mem_range'_1.mp hp
    exact cond_text st hs p (by omega)
end Mine
end

section
set_option Elab.async false
namespace Mine
theorem line_ext : ∀ (a b : List Line), a.map (·.1) = b.map (·.1) → a.map (·.2.1) = b.map (·.2.1) → a.map (·.2.2) = b.map (·.2.2) → a = b
  | [], [], _, _, _ => rfl
  | [], _ :: _, h, _, _ => by simp at h
  | _ :: _, [], h, _, _ => by simp at h
  | x :: a, y :: b, h1, h2, h3 => by
    simp only [List.map_cons, List.cons.injEq] at h1 h2 h3
    rw [line_ext a b h1.2 h2.2 h3.2, show x = y from Prod.ext h1.1 (Prod.ext h2.1 h3.1)]
theorem set_getD {α : Type} (l : List α) (p : Nat) (a : α) : l.set p (l.getD p a) = l := by
  rcases Nat.lt_or_ge p l.length with h | h
  · rw [List.getD_eq_getElem?_getD, List.getElem?_eq_getElem h]
    exact List.set_getElem_self h
  · exact List.set_eq_of_length_le h
def promoK (ks : List Nat) (p : Nat) : List Nat := (ks.set p 0).drop 1 ++ [ks.getD p 0]
theorem turn_proj (st : List Line) (p : Nat) (hf : (List.range' 1 (st.length - 1)).find? (condK (st.map (·.2.1))) = some p) :
    (turnK st).map (·.1) = ((st.map fun r : Line => r.1).drop 1 ++ [1]).map (· + 1) ∧ (turnK st).map (·.2.1) = promoK (st.map (·.2.1)) p ∧ (turnK st).map (·.2.2) = (st.map (·.2.2)).drop 1 ++ [(st.map (·.2.2)).getD 0 []] := by
  have hr := List.mem_range'_1.mp (List.mem_of_find?_eq_some hf)
  have hp : p < st.length := by omega
  unfold turnK
  rw [hf]
  unfold moreDots promoK
  refine ⟨?_, ?_, ?_⟩
  · dsimp only
    rw [List.map_map, List.map_append, List.map_drop, List.map_set, List.map_append, List.map_drop]
    have h2 := set_getD ((st.map fun r : Line => r.1).map (· + 1)) p (0 + 1)
    rw [List.map_map, getD_map _ st p (0, 0, []) _ hp] at h2
    rw [List.map_map]
    exact congrArg (fun z => z.drop 1 ++ [2]) h2
  · dsimp only
    rw [List.map_map, List.map_append, List.map_drop, List.map_set]
    rw [getD_map (fun r : Line => r.2.1) st p (0, 0, []) 0 hp]
    rfl
  · dsimp only
    rw [List.map_map, List.map_append, List.map_drop, List.map_set]
    rw [getD_map (fun r : Line => r.2.2) st 0 (0, 0, []) [] (by omega)]
    have h2 := set_getD (st.map (fun r : Line => r.2.2)) p []
    rw [getD_map (fun r : Line => r.2.2) st p (0, 0, []) [] hp] at h2
    exact congrArg (fun z => z.drop 1 ++ [(st.getD 0 (0, 0, [])).2.2]) h2
/-- so many promotions -/
def steps : Nat → List Nat → Option (List Nat)
  | 0, ks => some ks
  | j + 1, ks => match ks with
    | 0 :: _ => (match (List.range' 1 (ks.length - 1)).find? (condK ks) with
      | none => none
      | some p => steps j (promoK ks p))
    | _ => none
def turnsK : Nat → List Line → List Line
  | 0, st => st
  | j + 1, st => turnsK j (turnK st)
theorem turnsK_add : ∀ (j : Nat) (st : List Line), turnsK (j + 1) st = turnK (turnsK j st)
  | 0, _ => rfl
  | j + 1, st => turnsK_add j (turnK st)
def dotsN : Nat → List Nat → List Nat
  | 0, l => l
  | j + 1, l => dotsN j ((l.drop 1 ++ [1]).map (· + 1))
def rotN : Nat → List (List Nat) → List (List Nat)
  | 0, l => l
  | j + 1, l => rotN j (l.drop 1 ++ [l.getD 0 []])
/-- the lines of a text on its way -/
structure Way (B n : Nat) (st : List Line) : Prop where
  len : st.length = n
  sane : ∀ r ∈ st, SaneL r ∧ 0 < r.1
  dots : ∀ r ∈ st, r.1 ≤ B
theorem way_step {B n : Nat} {st : List Line} (W : Way B n st) (hB : 1 ≤ B) {p : Nat} (hf : (List.range' 1 (st.length - 1)).find? (condK (st.map (·.2.1))) = some p) : Way (B + 1) n (turnK st) := by
  have hr := List.mem_range'_1.mp (List.mem_of_find?_eq_some hf)
  have hp : p < st.length := by omega
  have hmp := getD_mem st p (0, 0, []) hp
  have hm0 := getD_mem st 0 (0, 0, []) (by omega)
  have key : ∀ r ∈ turnK st, ∃ q : Line, r = (q.1 + 1, q.2) ∧ SaneL q ∧ q.1 ≤ B := by
    intro r hr
    unfold turnK at hr
    rw [hf] at hr
    obtain ⟨q, hq, rfl⟩ := List.mem_map.mp hr
    refine ⟨q, rfl, ?_⟩
    rcases List.mem_append.mp hq with hq | hq
    · rcases List.mem_or_eq_of_mem_set (List.mem_of_mem_drop hq) with hq | rfl
      · exact ⟨(W.sane q hq).1, W.dots q hq⟩
      · exact ⟨⟨Nat.zero_lt_succ _, (W.sane _ hmp).1.2⟩, by have := W.dots _ hmp; exact this⟩
    · rw [List.mem_singleton.mp hq]
      exact ⟨⟨(W.sane _ hmp).1.1, (W.sane _ hm0).1.2⟩, hB⟩
  refine ⟨?_, ?_, ?_⟩
  · unfold turnK
    rw [hf]
    unfold moreDots
    rw [List.length_map, List.length_append, List.length_drop, List.length_set, List.length_singleton, ← W.len]
    omega
  · intro r hr
    obtain ⟨q, rfl, h1, h2⟩ := key r hr
    exact ⟨h1, Nat.succ_pos _⟩
  · intro r hr
    obtain ⟨q, rfl, h1, h2⟩ := key r hr
    exact Nat.succ_le_succ h2
theorem way_steps : ∀ (m : Nat) {B n : Nat} {st : List Line} {ks : List Nat}, Way B n st → 1 ≤ B → steps m (st.map (·.2.1)) = some ks →
    (∀ j, j ≤ m → Way (B + j) n (turnsK j st)) ∧ (∀ j, j < m → turnS (textL (turnsK j st)) = textL (turnsK (j + 1) st)) ∧
    (turnsK m st).map (·.2.1) = ks ∧ (turnsK m st).map (·.1) = dotsN m (st.map (·.1)) ∧ (turnsK m st).map (·.2.2) = rotN m (st.map (·.2.2))
  | 0, B, n, st, ks, W, hB, h => by
    refine ⟨fun j hj => ?_, fun j hj => absurd hj (Nat.not_lt_zero _), Option.some.inj h, rfl, rfl⟩
    obtain rfl : j = 0 := by omega
    exact W
  | m + 1, B, n, st, ks, W, hB, h => by
    cases hst : st.map (·.2.1) with
    | nil => rw [hst] at h; cases h
    | cons a t =>
    cases a with
    | succ a => rw [hst] at h; cases h
    | zero =>
    rw [hst] at h
    unfold steps at h
    have hl : (0 :: t).length = st.length := by rw [← hst, List.length_map]
    replace h : (match (List.range' 1 (st.length - 1)).find? (condK (st.map (·.2.1))) with | none => none | some p => steps m (promoK (st.map (·.2.1)) p)) = some ks := by
      rw [hst, ← hl]; exact h
    cases hf : (List.range' 1 (st.length - 1)).find? (condK (st.map (·.2.1))) with
    | none => rw [hf] at h; cases h
    | some p =>
    rw [hf] at h
    dsimp only at h
    obtain ⟨p1, p2, p3⟩ := turn_proj st p hf
    rw [← p2] at h
    obtain ⟨i1, i2, i3, i4, i5⟩ := way_steps m (way_step W hB hf) (by omega) h
    have h0 : (st.getD 0 (0, 0, [])).2.1 = 0 := by
      cases st with
      | nil => cases hst
      | cons r st => simp at hst; exact hst.1
    refine ⟨fun j hj => ?_, fun j hj => ?_, i3, by rw [p1] at i4; exact i4, by rw [p3] at i5; exact i5⟩
    · cases j with
      | zero => exact W
      | succ j =>
        have := i1 j (by omega)
        rw [show B + (j + 1) = B + 1 + j from by omega]
        exact this
    · cases j with
      | zero => exact turn_text st W.sane h0
      | succ j => exact i2 j (by omega)
def swapK (k : Nat) : Nat := if k = 1 then 2 else if k = 2 then 1 else k
def readK (ks : List Nat) : Bool := runK false ks 0 == some 0 && (runK true ks 0 == some 0 && (!(runK false (ks.drop 1 ++ ks.take 1) 0 == some 0) && (!(runK true (ks.drop 1 ++ ks.take 1) 0 == some 0))))
/-- one promotion, in one pass -/
def prom : List Nat → Nat → Nat → Option (List Nat)
  | [], _, _ => none
  | k :: t, x, y => match k with
    | 0 => (prom t (x + 1) (y + 1)).map (List.cons 0)
    | 1 => (match x with
      | 0 => some (0 :: (t ++ [1]))
      | x' + 1 => (prom t x' y).map (List.cons 1))
    | 2 => (match y with
      | 0 => some (0 :: (t ++ [2]))
      | y' + 1 => (prom t x y').map (List.cons 2))
    | _ => none
def promN : Nat → List Nat → Option (List Nat)
  | 0, ks => some ks
  | j + 1, ks => match ks with
    | 0 :: t => (match prom t 0 0 with
      | none => none
      | some l => promN j l)
    | _ => none
theorem runK_append (pg : Bool) : ∀ (a b : List Nat) (n : Nat), runK pg (a ++ b) n = (runK pg a n).bind (runK pg b)
  | [], b, n => rfl
  | k :: a, b, n => by
    simp only [List.cons_append, runK]
    by_cases h0 : k = 0
    · rw [if_pos h0, if_pos h0]; exact runK_append pg a b _
    rw [if_neg h0, if_neg h0]
    by_cases h1 : k = (if pg then 2 else 1)
    · rw [if_pos h1, if_pos h1]
      cases n with
      | zero => rfl
      | succ m => exact runK_append pg a b m
    · rw [if_neg h1, if_neg h1]; exact runK_append pg a b n
theorem take_snoc (pre : List Nat) (k : Nat) (t : List Nat) : (pre ++ k :: t).take (pre.length + 1) = pre ++ [k] := by
  rw [show pre ++ k :: t = (pre ++ [k]) ++ t from by simp, List.take_append_of_le_length (by simp), List.take_of_length_le (by simp)]
theorem getD_mid (pre : List Nat) (k : Nat) (t : List Nat) : (pre ++ k :: t).getD pre.length 0 = k := by
  simp [List.getD_eq_getElem?_getD]
theorem prom_find : ∀ (t pre : List Nat) (x y : Nat) (l : List Nat), runK false pre 0 = some (x + 1) → runK true pre 0 = some (y + 1) → prom t x y = some l →
    ∃ p, (List.range' pre.length t.length).find? (condK (pre ++ t)) = some p ∧ pre.length ≤ p ∧ l = t.set (p - pre.length) 0 ++ [(pre ++ t).getD p 0]
  | [], pre, x, y, l, h1, h2, h => by cases h
  | k :: t, pre, x, y, l, h1, h2, h => by
    rw [List.length_cons, List.range'_succ, List.find?_cons]
    have go : ∀ x' y' l', runK false (pre ++ [k]) 0 = some (x' + 1) → runK true (pre ++ [k]) 0 = some (y' + 1) → prom t x' y' = some l' → l = k :: l' → condK (pre ++ k :: t) pre.length = false →
        ∃ p, (match condK (pre ++ k :: t) pre.length with | true => some pre.length | false => (List.range' (pre.length + 1) t.length).find? (condK (pre ++ k :: t))) = some p ∧ pre.length ≤ p ∧ l = (k :: t).set (p - pre.length) 0 ++ [(pre ++ k :: t).getD p 0] := by
      intro x' y' l' g1 g2 g3 g4 g5
      obtain ⟨p, q1, q2, q3⟩ := prom_find t (pre ++ [k]) x' y' l' g1 g2 g3
      have e : pre ++ [k] ++ t = pre ++ k :: t := by simp
      rw [e, List.length_append, List.length_singleton] at q1 q3
      rw [List.length_append, List.length_singleton] at q2
      rw [g5]
      refine ⟨p, q1, by omega, ?_⟩
      rw [g4, q3, show p - pre.length = (p - (pre.length + 1)) + 1 from by omega, List.set_cons_succ]; rfl
    have hit : l = 0 :: (t ++ [k]) → condK (pre ++ k :: t) pre.length = true →
        ∃ p, (match condK (pre ++ k :: t) pre.length with | true => some pre.length | false => (List.range' (pre.length + 1) t.length).find? (condK (pre ++ k :: t))) = some p ∧ pre.length ≤ p ∧ l = (k :: t).set (p - pre.length) 0 ++ [(pre ++ k :: t).getD p 0] := by
      intro g1 g2
      rw [g2]
      refine ⟨pre.length, rfl, Nat.le_refl _, ?_⟩
      rw [g1, getD_mid, Nat.sub_self]; rfl
    have hc : condK (pre ++ k :: t) pre.length = (k != 0 && runK (k == 2) (pre ++ [k]) 0 == some 0) := by
      unfold condK
      rw [getD_mid, take_snoc]
    unfold prom at h
    split at h
    · cases hp : prom t (x + 1) (y + 1) with
      | none => rw [hp] at h; cases h
      | some l' =>
        rw [hp] at h
        refine go (x + 1) (y + 1) l' ?_ ?_ hp (Option.some.inj h).symm (by rw [hc]; rfl)
        · rw [runK_append, h1]; rfl
        · rw [runK_append, h2]; rfl
    · cases x with
      | zero =>
        refine hit (Option.some.inj h).symm ?_
        rw [hc]
        show (runK false (pre ++ [1]) 0 == some 0) = true
        rw [runK_append, h1]; rfl
      | succ x =>
        dsimp only at h
        cases hp : prom t x y with
        | none => rw [hp] at h; cases h
        | some l' =>
          rw [hp] at h
          refine go x y l' ?_ ?_ hp (Option.some.inj h).symm ?_
          · rw [runK_append, h1]; rfl
          · rw [runK_append, h2]; rfl
          · rw [hc]
            show (runK false (pre ++ [1]) 0 == some 0) = false
            rw [runK_append, h1]; rfl
    · cases y with
      | zero =>
        refine hit (Option.some.inj h).symm ?_
        rw [hc]
        show (runK true (pre ++ [2]) 0 == some 0) = true
        rw [runK_append, h2]; rfl
      | succ y =>
        dsimp only at h
        cases hp : prom t x y with
        | none => rw [hp] at h; cases h
        | some l' =>
          rw [hp] at h
          refine go x y l' ?_ ?_ hp (Option.some.inj h).symm ?_
          · rw [runK_append, h1]; rfl
          · rw [runK_append, h2]; rfl
          · rw [hc]
            show (runK true (pre ++ [2]) 0 == some 0) = false
            rw [runK_append, h2]; rfl
    · cases h
theorem promN_steps : ∀ (n : Nat) (ks l : List Nat), promN n ks = some l → steps n ks = some l
  | 0, _, _, h => h
  | n + 1, [], l, h => by cases h
  | n + 1, (k + 1) :: t, l, h => by cases h
  | n + 1, 0 :: t, l, h => by
    replace h : (match prom t 0 0 with | none => none | some l => promN n l) = some l := h
    cases hp : prom t 0 0 with
    | none => rw [hp] at h; cases h
    | some q =>
      rw [hp] at h
      obtain ⟨p, h1, h2, h3⟩ := prom_find t [0] 0 0 q rfl rfl hp
      unfold steps
      have e : (List.range' 1 ((0 :: t).length - 1)).find? (condK (0 :: t)) = some p := h1
      rw [e]
      dsimp only
      have e2 : promoK (0 :: t) p = q := by
        rw [h3]
        unfold promoK
        obtain ⟨m, hm⟩ : ∃ m, p = m + 1 := ⟨p - 1, by simp at h2; omega⟩
        subst hm
        rfl
      rw [e2]
      exact promN_steps n q l h
def words (q : Nat) : Nat → List ((Nat × Nat × Nat) × List Nat)
  | 0 => [((0, 0, 0), [])]
  | j + 1 => (words q j).flatMap fun st => (freeL q st.1).map fun k => (bump st.1 k, st.2 ++ [k])
theorem words_up (q : Nat) (xs : List Int) : ∀ j, j ≤ 3 * q → ((rowsUp q xs j).1, (rowsUp q xs j).2.map (·.1)) ∈ words q j
  | 0, _ => List.mem_singleton.mpr rfl
  | j + 1, h => by
    refine List.mem_flatMap.mpr ⟨_, words_up q xs j (by omega), List.mem_map.mpr ⟨kindOf q (rowsUp q xs j).1 (xOf xs j), kind_mem (fair_up q xs j (by omega)) (by omega) _, ?_⟩⟩
    show _ = ((stepR q (rowsUp q xs j) (xOf xs j)).1, (stepR q (rowsUp q xs j) (xOf xs j)).2.map (·.1))
    simp [stepR, rowOf]
theorem read2 : (words 2 6).all (fun st => readK st.2) = true := by decide +kernel
theorem read3 : (words 3 9).all (fun st => readK st.2) = true := by decide +kernel
theorem prom2 : (words 2 6).all (fun st => promN 6 st.2 == some (st.2.map swapK)) = true := by decide +kernel
theorem prom3 : (words 3 9).all (fun st => promN 9 st.2 == some (st.2.map swapK)) = true := by decide +kernel
end Mine
end

section
set_option Elab.async false
namespace Mine
theorem rotN_eq : ∀ (j : Nat) (l : List (List Nat)), j ≤ l.length → rotN j l = l.drop j ++ l.take j
  | 0, l, _ => by simp [rotN]
  | j + 1, [], h => by simp at h
  | j + 1, a :: t, h => by
    have hj : j ≤ t.length := by simpa using h
    show rotN j (t ++ [a]) = _
    rw [rotN_eq j (t ++ [a]) (by simp; omega), List.drop_append_of_le_length hj, List.take_append_of_le_length hj]
    simp
theorem rotN_all (l : List (List Nat)) : rotN l.length l = l := by
  rw [rotN_eq _ _ (Nat.le_refl _)]; simp
theorem range_map {α β : Type} (l : List α) (d : α) (f : α → β) : ((List.range l.length).map fun i => f (l.getD i d)) = l.map f := by
  apply List.ext_getElem
  · simp
  · intro i h1 h2
    simp at h1 h2
    simp [List.getD_eq_getElem?_getD, h1]
def dueUp (rows : List Row) : Nat → List Nat
  | 0 => []
  | i + 1 => dueUp rows i ++ (List.replicate (rows.length + 1 - i) 46 ++ turnedP.getD (rows.getD i (0, [], 0)).1 [] ++ (rows.getD i (0, [], 0)).2.1 ++ [13, 10])
def finK (rows : List Row) (i : Nat) : Line := (rows.length + 1 - i, swapK (rows.getD i (0, [], 0)).1, (rows.getD i (0, [], 0)).2.1)
theorem due_text (rows : List Row) (h : ∀ r ∈ rows, r.1 ≤ 2) : ∀ j, j ≤ rows.length → dueUp rows j = textL ((List.range j).map (finK rows))
  | 0, _ => rfl
  | j + 1, hj => by
    have h2 := h _ (getD_mem rows j (0, [], 0) (by omega))
    have h3 : turnedP.getD (rows.getD j (0, [], 0)).1 [] = piecesP.getD (swapK (rows.getD j (0, [], 0)).1) [] := by
      generalize (rows.getD j (0, [], 0)).1 = k at h2
      have : k = 0 ∨ k = 1 ∨ k = 2 := by omega
      rcases this with e | e | e <;> subst e <;> rfl
    unfold dueUp
    rw [due_text rows h j (by omega), List.range_succ, List.map_append, h3]
    unfold textL
    rw [List.map_append, List.flatten_append]
    simp [lineL, rowS, finK]
/-- what the walk of the law asks of the rows -/
structure LawOk (rows : List Row) (T : Nat → List Nat) : Prop where
  len : rows.length ≤ 9
  pos : 0 < rows.length
  row : ∀ r ∈ rows, r.1 ≤ 2 ∧ r.2.1.length ≤ 2 ∧ r.2.2 ≤ 2
  one : takenL false (rows.map firstG) = true
  two : takenL true (rows.map firstG) = true
  tri : takenL false ((rows.map firstG).drop 1 ++ (rows.map firstG).take 1) = false
  qua : takenL true ((rows.map firstG).drop 1 ++ (rows.map firstG).take 1) = false
  start : quoteL ((rows.map fun r => [46] ++ firstG r ++ endsP.getD r.2.2 []).flatten) = T 0
  size : ∀ j, j ≤ rows.length → (T j).length ≤ 400
  cut : ∀ j, j ≤ rows.length → (cutS [13, 10] 0 (T j)).length ≤ 10
  lines : ∀ j, j ≤ rows.length → ∀ r ∈ linesL (T j), r.length ≤ 20
  turn : ∀ j, j < rows.length → turnS (T j) = T (j + 1)
  stop : T rows.length = dueUp rows rows.length
theorem dress_dec : ∀ k < 8, dressesP.getD k [] ∈ dressesP ∧ (dressesP.getD k []).length ≤ 2 := by decide +kernel
theorem rows_sane (q : Nat) (xs : List Int) : ∀ j, j ≤ 3 * q → ∀ r ∈ (rowsUp q xs j).2, r.1 ≤ 2 ∧ (r.2.1 ∈ dressesP ∧ r.2.1.length ≤ 2) ∧ r.2.2 ≤ 2
  | 0, _, r, h => nomatch h
  | j + 1, hj, r, h => by
    have h : r ∈ (stepR q (rowsUp q xs j) (xOf xs j)).2 := h
    unfold stepR at h
    rcases List.mem_append.mp h with h | h
    · exact rows_sane q xs j (by omega) r h
    · rw [List.mem_singleton.mp h]
      exact ⟨(fair_step (fair_up q xs j (by omega)) (by omega) _).2, dress_dec _ (Nat.mod_lt _ (by decide)), Nat.le_of_lt_succ (Nat.mod_lt _ (by decide))⟩
def startK (rows : List Row) : List Line := rows.map fun r => (2, r.1, r.2.1)
theorem text_len (B : Nat) : ∀ (st : List Line), (∀ r ∈ st, (lineL r).length ≤ B) → (textL st).length ≤ st.length * (B + 2)
  | [], _ => Nat.zero_le _
  | r :: st, h => by
    have h1 := h r (.head _)
    have h2 := text_len B st fun q hq => h q (.tail _ hq)
    show ((lineL r ++ [13, 10]) ++ textL st).length ≤ _
    have e : (r :: st).length * (B + 2) = st.length * (B + 2) + (B + 2) := by rw [List.length_cons, Nat.succ_mul]
    rw [e]
    simp only [List.length_append, List.length_cons, List.length_nil]
    omega
theorem law_good (rows : List Row) (hn : rows.length ≤ 9) (hpos : 0 < rows.length) (hrow : ∀ r ∈ rows, r.1 ≤ 2 ∧ (r.2.1 ∈ dressesP ∧ r.2.1.length ≤ 2) ∧ r.2.2 ≤ 2)
    (hread : readK (rows.map (·.1)) = true) (hprom : promN rows.length (rows.map (·.1)) = some ((rows.map (·.1)).map swapK))
    (hdots : dotsN rows.length (List.replicate rows.length 2) = (List.range rows.length).map fun i => rows.length + 1 - i) :
    LawOk rows fun j => textL (turnsK j (startK rows)) := by
  have hsane : ∀ r ∈ rows, Sane r.1 r.2.1 := fun r hr => ⟨Nat.lt_succ_of_le (hrow r hr).1, (hrow r hr).2.1.1⟩
  have hkinds : (startK rows).map (·.2.1) = rows.map (·.1) := by unfold startK; rw [List.map_map]; rfl
  have hdress : (startK rows).map (·.2.2) = rows.map (·.2.1) := by unfold startK; rw [List.map_map]; rfl
  have hdot : (startK rows).map (·.1) = List.replicate rows.length 2 := by
    unfold startK
    rw [List.map_map, List.eq_replicate_iff]
    refine ⟨by simp, fun b hb => ?_⟩
    obtain ⟨r, _, rfl⟩ := List.mem_map.mp hb
    rfl
  have W : Way 2 rows.length (startK rows) := by
    refine ⟨by simp [startK], ?_, ?_⟩
    · intro r hr
      obtain ⟨z, hz, rfl⟩ := List.mem_map.mp hr
      exact ⟨hsane z hz, Nat.zero_lt_succ 1⟩
    · intro r hr
      obtain ⟨z, hz, rfl⟩ := List.mem_map.mp hr
      exact Nat.le_refl _
  have hst := promN_steps _ _ _ hprom
  rw [← hkinds] at hst
  obtain ⟨w1, w2, w3, w4, w5⟩ := way_steps rows.length W (by decide) hst
  have hpairs : ∀ (l : List Row), l.map firstG = (l.map fun r => (r.1, r.2.1)).map fun r => rowS r.1 r.2 := fun l => by rw [List.map_map]; rfl
  have htk : ∀ (pg : Bool) (l : List Row), (∀ r ∈ l, r ∈ rows) → takenL pg (l.map firstG) = (runK pg (l.map (·.1)) 0 == some 0) := by
    intro pg l hl
    rw [hpairs, taken_rows, List.map_map]
    · rfl
    · intro r hr
      obtain ⟨z, hz, rfl⟩ := List.mem_map.mp hr
      exact hsane z (hl z hz)
  have hbh : (rows.map firstG).drop 1 ++ (rows.map firstG).take 1 = (rows.drop 1 ++ rows.take 1).map firstG := by rw [List.map_append, List.map_drop, List.map_take]
  have hbm : ∀ r ∈ rows.drop 1 ++ rows.take 1, r ∈ rows := by
    intro r hr
    rcases List.mem_append.mp hr with h | h
    · exact List.mem_of_mem_drop h
    · exact List.mem_of_mem_take h
  have hbk : (rows.drop 1 ++ rows.take 1).map (·.1) = (rows.map (·.1)).drop 1 ++ (rows.map (·.1)).take 1 := by rw [List.map_append, List.map_drop, List.map_take]
  unfold readK at hread
  simp only [Bool.and_eq_true, Bool.not_eq_true'] at hread
  obtain ⟨g1, g2, g3, g4⟩ := hread
  have hline : ∀ j, j ≤ rows.length → ∀ r ∈ turnsK j (startK rows), (lineL r).length ≤ 20 := by
    intro j hj r hr
    have hW := w1 j hj
    have h1 := (row_at (hW.sane r hr).1).2.2.2.2.1
    have h2 := hW.dots r hr
    unfold lineL
    rw [List.length_append, List.length_replicate]
    omega
  refine ⟨hn, hpos, fun r hr => ⟨(hrow r hr).1, (hrow r hr).2.1.2, (hrow r hr).2.2⟩, ?_, ?_, ?_, ?_, ?_, ?_, ?_, ?_, w2, ?_⟩
  · rw [htk _ rows fun _ h => h]; exact g1
  · rw [htk _ rows fun _ h => h]; exact g2
  · rw [hbh, htk _ _ hbm, hbk]; exact g3
  · rw [hbh, htk _ _ hbm, hbk]; exact g4
  · have := quote_ends (rows.map fun r => ((1, r.1, r.2.1), endsP.getD r.2.2 [])) (by
      intro r hr
      obtain ⟨z, hz, rfl⟩ := List.mem_map.mp hr
      refine ⟨hsane z hz, Nat.one_pos, ?_⟩
      have h3 := (hrow z hz).2.2
      show endsP.getD z.2.2 [] ∈ endsP
      generalize z.2.2 = e at h3
      have : e = 0 ∨ e = 1 ∨ e = 2 := by omega
      rcases this with e | e | e <;> subst e <;> decide)
    rw [List.map_map, List.map_map] at this
    have e1 : (rows.map fun r => [46] ++ firstG r ++ endsP.getD r.2.2 []) = rows.map ((fun r : Line × List Nat => lineL r.1 ++ r.2) ∘ fun r : Row => ((1, r.1, r.2.1), endsP.getD r.2.2 [])) := rfl
    rw [e1, this]
    show _ = textL (startK rows)
    unfold moreDots startK
    rw [List.map_map]; rfl
  · intro j hj
    have := text_len 20 _ (hline j hj)
    have h2 := (w1 j hj).len
    show (textL (turnsK j (startK rows))).length ≤ 400
    rw [h2] at this
    omega
  · intro j hj
    show (cutS [13, 10] 0 (textL (turnsK j (startK rows)))).length ≤ 10
    rw [cut_text _ fun r hr => ((w1 j hj).sane r hr).1, List.length_append, List.length_map, (w1 j hj).len]
    simp; omega
  · intro j hj r hr
    rw [show linesL ((fun j => textL (turnsK j (startK rows))) j) = (turnsK j (startK rows)).map lineL from lines_text _ fun r hr => ((w1 j hj).sane r hr).1] at hr
    obtain ⟨z, hz, rfl⟩ := List.mem_map.mp hr
    exact hline j hj z hz
  · show textL (turnsK rows.length (startK rows)) = _
    rw [due_text rows (fun r hr => (hrow r hr).1) _ (Nat.le_refl _)]
    congr 1
    apply line_ext
    · rw [w4, hdot, hdots, List.map_map]; rfl
    · rw [w3, hkinds, List.map_map, List.map_map]
      exact (range_map rows (0, [], 0) fun r => swapK r.1).symm
    · rw [w5, hdress, List.map_map]
      have : rotN rows.length (rows.map (·.2.1)) = rows.map (·.2.1) := by
        have := rotN_all (rows.map (·.2.1))
        rw [List.length_map] at this
        exact this
      rw [this]
      exact (range_map rows (0, [], 0) (·.2.1)).symm
theorem law_ok (q : Nat) (hq : q = 2 ∨ q = 3) (xs : List Int) : ∃ T, LawOk (rowsP q xs) T := by
  have hlen : (rowsP q xs).length = 3 * q := rowsUp_len q xs _
  obtain ⟨c, hw⟩ : ∃ c, (c, (rowsP q xs).map (·.1)) ∈ words q (3 * q) := ⟨_, words_up q xs (3 * q) (Nat.le_refl _)⟩
  have key : readK ((rowsP q xs).map (·.1)) = true ∧ (promN (3 * q) ((rowsP q xs).map (·.1)) == some (((rowsP q xs).map (·.1)).map swapK)) = true := by
    generalize (rowsP q xs).map (·.1) = ks at hw
    rcases hq with rfl | rfl
    · rw [show 3 * 2 = 6 from rfl] at hw ⊢
      exact ⟨List.all_eq_true.mp read2 _ hw, List.all_eq_true.mp prom2 _ hw⟩
    · rw [show 3 * 3 = 9 from rfl] at hw ⊢
      exact ⟨List.all_eq_true.mp read3 _ hw, List.all_eq_true.mp prom3 _ hw⟩
  refine ⟨_, law_good (rowsP q xs) (by rw [hlen]; omega) (by rw [hlen]; omega) (rows_sane q xs _ (Nat.le_refl _)) key.1 ?_ ?_⟩
  · rw [hlen]
    exact eq_of_beq key.2
  · rw [hlen]
    rcases hq with rfl | rfl <;> decide +kernel
end Mine
end

section
open PySem PySem.W PySem.Calls PyProof.Rows
open Sem (wp)
set_option Elab.async false
set_option maxRecDepth 100000
set_option maxHeartbeats 1000000
namespace Mine
theorem fillL10 : (∀ P, hd.heap_39 P = hd.heap_39 P) ∧ PySem.Challenge.rw_tr0011_01.foot = 4 := by
  k_fill
  exact ⟨fun _ => rfl, rfl⟩
def joinedG (rows : List Row) : List Nat := (rows.map fun r => [46] ++ firstG r ++ endsP.getD r.2.2 []).flatten
theorem walks_lt {prog : Program} {w : World} {A : Around} {I : Addr} {fp wr : List Addr} {n : Nat} {P : Nat → Value → Prop} {St : Nat → Heap → Prop} (W : Walks prog w A I fp wr n P St) : Walks prog w A I fp wr n (fun i v => i < n ∧ P i v) St where
  sub := W.sub
  frame := W.frame
  item := fun i s Q E hi st hQ => W.item i s Q E hi st fun v h' tk hp => hQ v h' tk ⟨hi, hp⟩
  done := W.done
  self := W.self
theorem strs_of_range (g : Nat → List Nat) : ∀ (vs zs : List Value) (k : Nat), Paired (fun v y => ∃ (i : Nat) (u u' : Tok), v = .int (i : Nat) u ∧ y = .str (strV (g i)) u') vs zs → (∀ (j : Nat) (v : Value), vs[j]? = some v → ∃ t, v = .int ((k + j : Nat) : Int) t) →
    StrsAre zs (((List.range' k vs.length).map g).map strV)
  | _, _, k, .nil, _ => .nil
  | _, _, k, .cons (l₁ := vs) (l₂ := zs) h r, hv => by
    obtain ⟨i, u, u', rfl, rfl⟩ := h
    obtain ⟨t, h2⟩ := hv 0 _ rfl
    have hi : i = k := by
      have := (Value.int.inj h2).1
      omega
    subst hi
    rw [List.length_cons, List.range'_succ]
    exact .cons _ _ (strs_of_range g vs zs (i + 1) r fun j v hj => by rw [show i + 1 + j = i + (j + 1) from by omega]; exact hv (j + 1) v hj)
section
variable {w : World} {A : Around} {base : Heap} {L : Addr} {cd : Value} {s : Shared} {m : Str → Option Value} {mg mb : Str → Option Value} {n : Nat}
theorem law_text (rm : Room A (n + 6)) (K0 : (hd.heap_39 w.params).In base) (T0 : TopM mg mb base) {o1 o2 o4 : Obj} {Rs Fi Ei : Addr} {kr kf ke : Nat} {fv ev : List Value} {tups own : List (Addr × Obj)} {rows : List Row}
    (F : Fr base L s.heap m) (N : News base L s.heap ((L + 1, o1) :: (L + 4, o4) :: (L + 2, o2) :: (Rs, lsO (tups.map fun p => Value.ref p.1) kr) :: (Fi, lsO fv kf) :: (Ei, lsO ev ke) :: (tups ++ own)))
    (y1 : o1.data = .cell (some (.ref Rs))) (y4 : o4.data = .cell (some (.ref Fi))) (y2 : o2.data = .cell (some (.ref Ei))) (hfv : StrsAre fv ((rows.map firstG).map strV)) (hev : StrsAre ev (endsP.map strV)) (ht : TupsAre tups rows) (hlen : rows.length ≤ 9)
    (hr : ∀ r ∈ rows, r.1 ≤ 2 ∧ r.2.1.length ≤ 2 ∧ r.2.2 ≤ 2) :
    wpAny (model PP w) A (exec (lawDef.1.getD 10 (.Pass default)) (lawEnv L cd))
      (fun f s' => f = .next ∧ (∃ tk, Fr base L s'.heap (fun y => if y = Str.ofString "text" then some (.str (strV (quoteL (joinedG rows))) tk) else m y)) ∧
        News base L s'.heap ((L + 1, o1) :: (L + 4, o4) :: (L + 2, o2) :: (Rs, lsO (tups.map fun p => Value.ref p.1) kr) :: (Fi, lsO fv kf) :: (Ei, lsO ev ke) :: (tups ++ own)) ∧ Quiet s s') (fun _ _ => False) s := by
  change wpAny _ _ (exec (Stmt.Assign _ _ _) _) _ _ _
  have htl := ht.len
  iterate 10 walk1
  refine wpAny_ListComp_free (cl := [(Str.ofString "rows", L + 1), (Str.ofString "first", L + 4), (Str.ofString "ends", L + 2)]) (fun _ => true) (fun v y => ∃ (i : Nat) (u u' : Tok), v = .int (i : Nat) u ∧ y = .str (strV ([46] ++ firstG (rows.getD i (0, [], 0)) ++ endsP.getD (rows.getD i (0, [], 0)).2.2 [])) u') (by rfl) (by decide) rfl (by decide) (by decide) ?_
  iterate 9 walk1
  iterate 1 walk1
  refine call_len_list ⟨_, N.get (.tail _ (.tail _ (.tail _ (.head _)))), rfl, _, rfl⟩ (Int.lt_of_le_of_lt (show (((tups.map fun p => Value.ref p.1).toArray.size : Nat) : Int) ≤ 9 by rw [List.size_toArray, List.length_map]; omega) (by decide)) ?_
  have hsz : (tups.map fun p => Value.ref p.1).toArray.size = rows.length := by rw [List.size_toArray, List.length_map, htl]
  rw [hsz]
  iterate 2 walk1
  rename Fr _ _ _ _ => F
  rename News _ _ _ _ => N
  rename IsRange _ _ _ _ _ _ _ _ => hir
  rename_i hp tkp _ _ _ hkp
  refine wpAny_pyIter_range hir (small_one (by omega) (by omega) (by omega) (by omega)) ?_
  dsimp only
  have hrs : Builtin.Range.rangeSize 0 (rows.length : Nat) 1 = ((rows.length : Nat) : Int) := by rw [rangeSize_one]; split <;> omega
  have up : ∀ b o, hp.get? b = some o → (hp.push { cls := .type "range_iterator", data := .fields #[rawInt 0, rawInt (Builtin.Range.rangeSize 0 (rows.length : Nat) 1), rawInt 1] }).get? b = some o := fun b o e => Heap.get?_push_of_some _ e
  refine ⟨hp.objs.size, [hp.objs.size], [hp.objs.size], rows.length, _, _, rfl, walks_lt (Walks.range rm.hh hp.objs.size 0 1 rows.length), (by rw [sizeLine_eq]; omega), ?_, ?_, ⟨?_, ?_⟩, ?_⟩
  · show IsRangeIter _ _ (0 + ((0 : Nat) : Int) * 1) ((rows.length : Nat) - ((0 : Nat) : Int)) 1
    rw [show (0 : Int) + ((0 : Nat) : Int) * 1 = 0 from by omega, show ((rows.length : Nat) : Int) - ((0 : Nat) : Int) = Builtin.Range.rangeSize 0 (rows.length : Nat) 1 from by rw [hrs]; omega]
    exact Heap.get?_push_size _ rfl
  · intro b hb
    rw [List.mem_singleton.mp hb]
    show _ < (hp.push _).objs.size
    rw [Heap.size_push]; exact Nat.lt_succ_self _
  · intro C i v s₃ m₃ E' hC hP hns hmx hk htk
    exact wpAny_pure ⟨rfl, _, _, rfl, fun _ _ e => e⟩
  · intro C i v s₃ m₃ E' hC hP hpv hns hmx hk htk
    obtain ⟨hi, u, hv⟩ := hP
    rw [show (0 : Int) + ((i : Nat) : Int) * 1 = ((i : Nat) : Int) from by omega] at hv
    subst hv
    have hkeep : ∀ b o, hp.get? b = some o → s₃.heap.get? b = some o := fun b o e => hk b o (fun q => by rw [List.mem_singleton.mp q] at e; exact absurd (Heap.lt_size e) (Nat.lt_irrefl _)) (up b o e)
    have hc1 : s₃.heap.IsCell (L + 1) (some (.ref Rs)) := ⟨o1, hkeep _ _ (N.get (.head _)), y1⟩
    have hc4 : s₃.heap.IsCell (L + 4) (some (.ref Fi)) := ⟨o4, hkeep _ _ (N.get (.tail _ (.head _))), y4⟩
    have hc2 : s₃.heap.IsCell (L + 2) (some (.ref Ei)) := ⟨o2, hkeep _ _ (N.get (.tail _ (.tail _ (.head _)))), y2⟩
    have hl1 : s₃.heap.IsList Rs (tups.map fun p => Value.ref p.1).toArray := ⟨_, hkeep _ _ (N.get (.tail _ (.tail _ (.tail _ (.head _))))), rfl, _, rfl⟩
    have hl4 : s₃.heap.IsList Fi fv.toArray := ⟨_, hkeep _ _ (N.get (.tail _ (.tail _ (.tail _ (.tail _ (.head _)))))), rfl, _, rfl⟩
    have hl2 : s₃.heap.IsList Ei ev.toArray := ⟨_, hkeep _ _ (N.get (.tail _ (.tail _ (.tail _ (.tail _ (.tail _ (.head _))))))), rfl, _, rfl⟩
    obtain ⟨T, ta, tb, td, hT⟩ := tups_get ht i hi
    have hTm : (T, rowO rows[i] ta tb td) ∈ tups := List.mem_of_getElem? hT
    have hTt : IsTup s₃.heap T #[.int (rows[i].1 : Nat) ta, .str (strV rows[i].2.1) tb, .int ((rows[i].2.2 : Nat) : Nat) td] := ⟨_, hkeep _ _ (N.get (.tail _ (.tail _ (.tail _ (.tail _ (.tail _ (.tail _ (List.mem_append_left _ hTm)))))))), rfl, _, rfl⟩
    have hrow := hr rows[i] (List.getElem_mem _)
    have hget : rows.getD i (0, [], 0) = rows[i] := by rw [List.getD_eq_getElem?_getD, List.getElem?_eq_getElem hi]; rfl
    obtain ⟨tf, htf⟩ := strsAre_get hfv i (by simpa using hi)
    obtain ⟨te, hte⟩ := strsAre_get hev rows[i].2.2 (by show _ < 3; omega)
    have hbi : ((i : Nat) : Int) < 2 ^ 63 := Int.lt_of_le_of_lt (show ((i : Nat) : Int) ≤ 9 by omega) (by decide)
    rw [getD_map firstG rows i (0, [], 0) [] hi, hget] at htf
    have hfin : strV ([46] ++ firstG rows[i] ++ endsP.getD rows[i].2.2 []) = Str.ofString "." ++ strV (firstG rows[i]) ++ strV (endsP.getD rows[i].2.2 []) := by rw [strV_append, strV_append]; rfl
    have l1 : (strV (firstG rows[i])).length ≤ 6 := by
      rw [strV_len]
      unfold firstG
      have : ∀ i : Nat, i ≤ 2 → (piecesP.getD i []).length ≤ 4 := by decide
      have := this _ hrow.1
      rw [List.length_append]
      omega
    have l2 : (strV (endsP.getD rows[i].2.2 [])).length ≤ 2 := by
      rw [strV_len]
      have : ∀ i : Nat, i ≤ 2 → (endsP.getD i []).length ≤ 2 := by decide
      exact this _ hrow.2.2
    have hb2 : ((rows[i].2.2 : Nat) : Int) < 2 ^ 63 := Int.lt_of_le_of_lt (show ((rows[i].2.2 : Nat) : Int) ≤ 9 by omega) (by decide)
    have hwant : ∀ (Z : Str) (uz : Tok), Z = Str.ofString "." ++ strV (firstG rows[i]) ++ strV (endsP.getD rows[i].2.2 []) → ∃ (i_1 : Nat) (u_1 u' : Tok), Value.int ((i : Nat) : Int) u = Value.int ((i_1 : Nat) : Int) u_1 ∧ Value.str Z uz = Value.str (strV ([46] ++ firstG (rows.getD i_1 (0, [], 0)) ++ endsP.getD (rows.getD i_1 (0, [], 0)).2.2 [])) u' := by
      intro Z uz hZ
      refine ⟨i, u, uz, rfl, ?_⟩
      rw [hget, hfin, hZ]
    generalize strV (firstG rows[i]) = z1 at l1 htf hwant
    generalize strV (endsP.getD rows[i].2.2 []) = z2 at l2 hte hwant
    clear hfin
    refine wpAny_BinOp ?_
    refine wpAny_BinOp ?_
    iterate 2 walk1
    refine ldCellK (by rfl) hc4 ?_
    refine ldVarK hns hmx ?_
    refine item_listL (x := .str z1 tf) hl4 (Int.natCast_nonneg _) hbi (by rw [Int.toNat_natCast]; exact htf) ?_
    iterate 2 walk1
    refine ldCellK (by rfl) hc2 ?_
    iterate 2 walk1
    refine ldCellK (by rfl) hc1 ?_
    refine ldVarK hns hmx ?_
    refine item_listL (x := .ref T) hl1 (Int.natCast_nonneg _) hbi (by rw [Int.toNat_natCast, List.getElem?_map, hT]; rfl) ?_
    walk1
    refine item_tupleT (l := [.int (rows[i].1 : Nat) ta, .str (strV rows[i].2.1) tb, .int ((rows[i].2.2 : Nat) : Nat) td]) hTt (by decide) (by decide) (j := 2) (by rfl) (by rfl) ?_
    refine item_listL (x := .str z2 te) hl2 (Int.natCast_nonneg _) hb2 (by rw [Int.toNat_natCast]; exact hte) ?_
    iterate 1 walk1
    exact ⟨hwant _ _ rfl, _, _, rfl, fun _ _ e => e⟩
  · intro D h' tk' zs vs' hD hl' hpl hlen' hPv hpair hk
    have hkeep : ∀ b o, hp.get? b = some o → h'.get? b = some o := fun b o e => hk b o (fun q => by rw [List.mem_singleton.mp q] at e; exact absurd (Heap.lt_size e) (Nat.lt_irrefl _)) (up b o e)
    have F₃ : Fr base L h' m := ⟨F.ns.keeps hkeep, fun b o e => hkeep b o (F.keep b o e), F.above⟩
    have N₃ : News base L h' ((L + 1, o1) :: (L + 4, o4) :: (L + 2, o2) :: (Rs, lsO (tups.map fun p => Value.ref p.1) kr) :: (Fi, lsO fv kf) :: (Ei, lsO ev ke) :: (tups ++ own)) := fun q hq => ⟨hkeep _ _ (N q hq).1, (N q hq).2⟩
    clear F N
    rw [List.filter_eq_self.mpr (fun _ _ => rfl)] at hpair
    have hzs := strs_of_range (fun i => [46] ++ firstG (rows.getD i (0, [], 0)) ++ endsP.getD (rows.getD i (0, [], 0)).2.2 []) vs' zs.toList 0 hpair (fun j v hj => by
      obtain ⟨_, u, hv⟩ := hPv j v hj
      exact ⟨u, by rw [hv]; congr 1; omega⟩)
    rw [hlen', ← List.range_eq_range', range_map rows (0, [], 0) fun r => [46] ++ firstG r ++ endsP.getD r.2.2 []] at hzs
    have hG : ∀ r ∈ rows.map (fun r => [46] ++ firstG r ++ endsP.getD r.2.2 []), r.length ≤ 9 := by
      intro r hr'
      obtain ⟨q, hq, rfl⟩ := List.mem_map.mp hr'
      have hrow := hr q hq
      have h1 : ∀ i : Nat, i ≤ 2 → (piecesP.getD i []).length ≤ 4 := by decide
      have h2 : ∀ i : Nat, i ≤ 2 → (endsP.getD i []).length ≤ 2 := by decide
      have h1 := h1 _ hrow.1
      have h2 := h2 _ hrow.2.2
      unfold firstG
      simp only [List.length_append, List.length_cons, List.length_nil]
      omega
    have hs9 := sum_le (N := 9) _ hG
    have hjl : (joinedG rows).length ≤ 180 := flat_len (by simpa using hlen) fun r hr' => Nat.le_trans (hG r hr') (by decide)
    walk1
    refine join_list hl' hzs ?_ fun t₅ k₅ => ?_
    · have hz : (Str.ofString "").length = 0 := by decide
      rw [hz]
      rw [List.length_map] at hs9
      show (((rows.map fun r => [46] ++ firstG r ++ endsP.getD r.2.2 []).map fun r => (⟨r.toArray⟩ : Str)).map (·.length)).sum + _ ≤ _
      omega
    rw [show Txt.join (Str.ofString "") ((rows.map fun r => [46] ++ firstG r ++ endsP.getD r.2.2 []).map strV) = strV (joinedG rows) from join_empty _]
    generalize hxx : strV (joinedG rows) = x
    have hxc : x.cps.toList = joinedG rows := by rw [← hxx]
    have hxl : x.length ≤ 180 := by rw [← hxx, strV_len]; exact hjl
    iterate 1 walk1
    walk1
    refine wpAny_call (quote_code (rm.less (m := n + 1) (by omega)) (K0.keeps F₃.keep) (T0.keeps F₃.keep) (by omega) (by
      rw [crlfL_eq]
      have h1 := crlfS_len _ x.cps.toList (Nat.le_refl _)
      have h2 : x.cps.toList.length = x.length := rfl
      omega) fun s₄ tk₄ hl₄ => ?_)
    replace F₃ := hl₄.fr F₃
    replace N₃ := hl₄.news N₃
    rw [hxc]
    iterate 1 walk1
    exact ⟨trivial, ⟨_, by assumption⟩, by assumption, ⟨fun z => hl₄.gens z, hl₄.os⟩⟩
end
end Mine
end

section
open PySem PySem.W PySem.Calls PyProof.Rows
open Sem (wp)
set_option Elab.async false
set_option maxRecDepth 100000
set_option maxHeartbeats 1000000
namespace Mine
theorem fillL11 : (∀ P, hd.heap_39 P = hd.heap_39 P) ∧ PySem.Challenge.rw_tr0011_01.foot = 4 := by
  k_fill
  exact ⟨fun _ => rfl, rfl⟩
def textM (tv : Value) (Tu : Addr) (m : Str → Option Value) : Str → Option Value := fun y =>
  if y = Str.ofString "text" then some tv else if y = Str.ofString "turned" then some (.ref Tu) else m y
theorem textM_of {tv : Value} {Tu : Addr} {M : Str → Option Value} (h1 : M (Str.ofString "text") = some tv) (h2 : M (Str.ofString "turned") = some (.ref Tu)) : textM tv Tu M = M := by
  funext y
  unfold textM
  by_cases e1 : y = Str.ofString "text"
  · rw [if_pos e1, e1, h1]
  by_cases e2 : y = Str.ofString "turned"
  · rw [if_neg e1, if_pos e2, e2, h2]
  rw [if_neg e1, if_neg e2]
theorem textM_fr {base h : Heap} {L Tu : Addr} {tv : Value} {M : Str → Option Value} (F : Fr base L h M) (h1 : M (Str.ofString "text") = some tv) (h2 : M (Str.ofString "turned") = some (.ref Tu)) : ∃ m0, Fr base L h (textM tv Tu m0) := ⟨M, by rw [textM_of h1 h2]; exact F⟩
section
variable {w : World} {A : Around} {base : Heap} {L : Addr} {cd : Value} {s : Shared} {m : Str → Option Value} {mg mb : Str → Option Value} {n : Nat}
theorem law_turns (rm : Room A (n + 6)) (K0 : (hd.heap_39 w.params).In base) (T0 : TopM mg mb base) {o1 : Obj} {Rs Tu : Addr} {kr : Nat} {tups own : List (Addr × Obj)} {rows : List Row} {T : Nat → List Nat} {tk : Tok}
    (F : Fr base L s.heap (textM (.str (strV (T 0)) tk) Tu m)) (N : News base L s.heap ((L + 1, o1) :: (Rs, lsO (tups.map fun p => Value.ref p.1) kr) :: own))
    (y1 : o1.data = .cell (some (.ref Rs))) (htl : tups.length = rows.length) (hsol : ∀ p ∈ own, Solid p.2.data) (H : LawOk rows T) :
    wpAny (model PP w) A (exec (lawDef.1.getD 11 (.Pass default)) (lawEnv L cd))
      (fun f s' => f = .next ∧ (∃ m0 tk, Fr base L s'.heap (textM (.str (strV (T rows.length)) tk) Tu m0)) ∧
        News base L s'.heap ((L + 1, o1) :: (Rs, lsO (tups.map fun p => Value.ref p.1) kr) :: own) ∧ Quiet s s') (fun _ _ => False) s := by
  have hlen := H.len
  unfold textM at F
  refine wpAny_For ?_ (fun _ => rfl)
  iterate 10 walk1
  refine call_len_list ⟨_, N.get (.tail _ (.head _)), rfl, _, rfl⟩ (Int.lt_of_le_of_lt (show (((tups.map fun p => Value.ref p.1).toArray.size : Nat) : Int) ≤ 9 by rw [List.size_toArray, List.length_map]; omega) (by decide)) ?_
  have hsz : (tups.map fun p => Value.ref p.1).toArray.size = rows.length := by rw [List.size_toArray, List.length_map, htl]
  rw [hsz]
  iterate 2 walk1
  rename Fr _ _ _ _ => F₁
  rename News _ _ _ _ => N₁
  rename IsRange _ _ _ _ _ _ _ _ => hir
  refine for_range (base := base) (L := L) rows.length rm.hh rfl rfl rfl hir (by decide) (by decide) (by omega) (by omega) (by omega)
    (fun j m' h => (∃ m0 tk, m' = textM (.str (strV (T j)) tk) Tu m0) ∧ News base L h ((L + 1, o1) :: (Rs, lsO (tups.map fun p => Value.ref p.1) kr) :: own))
    ?_ ?_ ?_ F₁ ?_
  · rintro j m' h h' hk ⟨h1, N₂⟩
    refine ⟨h1, fun p hp => ⟨hk _ _ ?_ (N₂ p hp).1, (N₂ p hp).2⟩⟩
    rcases List.mem_cons.mp hp with rfl | hp
    · show Solid o1.data
      rw [y1]; trivial
    · rcases List.mem_cons.mp hp with rfl | hp
      · trivial
      · exact hsol p hp
  · rintro j tkj m' s₃ own' hj ⟨⟨m0, tk₀, rfl⟩, N₂⟩ hown hqs F₃ N₃
    unfold textM at F₃
    generalize hx : strV (T j) = x at F₃
    have hxc : x.cps.toList = T j := by rw [← hx]
    have hxl : x.length ≤ 400 := by rw [← hx, strV_len]; exact H.size j (by omega)
    iterate 8 (first | (guard_target =~ _ ∧ _; skip) | walk1)
    walk1
    have N₄ : News base L s₃.heap ((L + 1, o1) :: (Rs, lsO (tups.map fun p => Value.ref p.1) kr) :: (own ++ own')) := fun p hp => by
      simp only [List.mem_cons, List.mem_append] at hp
      rcases hp with h | h | h | h
      · exact N₂ p (by simp [h])
      · exact N₂ p (by simp [h])
      · exact N₂ p (by simp [h])
      · exact N₃ p h
    clear N₂ N₃
    refine wpAny_call (turn_code (rm.less (m := n + 4) (by omega)) (K0.keeps F₃.keep) (T0.keeps F₃.keep) hxl (by rw [hxc]; exact H.cut j (by omega)) (by rw [hxc]; exact H.lines j (by omega)) fun s₄ tk₄ hl₄ => ?_)
    replace F₃ := hl₄.fr F₃
    replace N₄ := hl₄.news N₄
    rw [hxc, H.turn j hj]
    iterate 2 walk1
    rename Fr _ _ _ _ => F₅
    rename News _ _ _ _ => N₅
    obtain ⟨m₅, F₆⟩ := textM_fr (tv := .str (strV (T (j + 1))) tk₄) (Tu := Tu) F₅ (by rfl) (by rfl)
    refine wpAny_execs_nil ⟨_, F₆, fun p hp => N₅ p (by simp [hp]), ⟨⟨m₅, tk₄, rfl⟩, fun p hp => N₅ p ?_⟩, ⟨fun z => hl₄.gens z, hl₄.os⟩⟩
    simp only [List.mem_cons, List.mem_append] at hp ⊢
    rcases hp with h | h | h <;> simp [h]
  · rintro s₃ m' F₃ ⟨h1, N₂⟩ hqs
    obtain ⟨m0, tk₀, rfl⟩ := h1
    exact ⟨rfl, ⟨m0, tk₀, F₃⟩, N₂, ⟨fun z => hqs.gens z, hqs.os⟩⟩
  · exact ⟨⟨m, tk, rfl⟩, N₁⟩
end
end Mine
end

section
open PySem PySem.W PySem.Calls PyProof.Rows
open Sem (wp)
set_option Elab.async false
set_option maxRecDepth 100000
set_option maxHeartbeats 1000000
namespace Mine
theorem fillL12 : (∀ P, hd.heap_39 P = hd.heap_39 P) ∧ PySem.Challenge.rw_tr0011_01.foot = 4 := by
  k_fill
  exact ⟨fun _ => rfl, rfl⟩
theorem rep_dots (k : Nat) : ∀ a : Array Nat, (List.replicate k (#[46] : Array Nat)).foldl (· ++ ·) a = a ++ (List.replicate k 46).toArray := by
  induction k with
  | zero => intro a; simp
  | succ k ih =>
    intro a
    rw [List.replicate_succ, List.foldl_cons, ih, List.replicate_succ]
    apply Array.toList_inj.mp
    simp
theorem mul_dots {w : World} {A : Around} {s : Shared} {E : Value → Shared → Prop} {t u : Tok} {Q : Value → Shared → Prop} (k : Nat) (h1 : 2 ≤ k) (h2 : k ≤ 10)
    (h : Q (.str (strV (List.replicate k 46)) s.toks) { s with toks := s.toks + 1 }) : wpAny (model PP w) A (binaryOp .Mult (.str (Str.ofString ".") t) (.int (k : Nat) u)) Q E s := by
  have hd : Str.ofString "." = (⟨#[46]⟩ : Str) := by decide
  rw [hd]
  have hlen : (⟨#[46]⟩ : Str).length = 1 := rfl
  have ha : (k : Int) ≤ 10 := by omega
  have hb : (2 : Int) ≤ k := by omega
  refine P.mul_str ?_ ?_ ?_ ?_
  · rw [decide_eq_false (by omega), decide_eq_false (by omega)]; rfl
  · intro _ _
    rw [hlen]
    have : (k : Int) = 2 ∨ (k : Int) = 3 ∨ (k : Int) = 4 ∨ (k : Int) = 5 ∨ (k : Int) = 6 ∨ (k : Int) = 7 ∨ (k : Int) = 8 ∨ (k : Int) = 9 ∨ (k : Int) = 10 := by omega
    rcases this with e | e | e | e | e | e | e | e | e <;> rw [e] <;> decide
  · intro _ _
    rw [hlen, Int.toNat_natCast, Nat.one_mul]
    have : k = 2 ∨ k = 3 ∨ k = 4 ∨ k = 5 ∨ k = 6 ∨ k = 7 ∨ k = 8 ∨ k = 9 ∨ k = 10 := by omega
    rcases this with e | e | e | e | e | e | e | e | e <;> rw [e] <;> decide
  · rw [if_neg (by omega), if_neg (by simp [hlen]; omega), Int.toNat_natCast]
    have e : (⟨(List.replicate k (#[46] : Array Nat)).foldl (· ++ ·) #[]⟩ : Str) = strV (List.replicate k 46) := by
      rw [rep_dots]; apply Str.ext'; apply Array.toList_inj.mp; simp
    show Made.post (.str ⟨(List.replicate k (#[46] : Array Nat)).foldl (· ++ ·) #[]⟩) Q s
    rw [e]
    refine ⟨?_, h⟩
    rw [strV_len, List.length_replicate, sizeLine_eq]
    omega
def dueM (dv tv : Value) (Tu : Addr) (m : Str → Option Value) : Str → Option Value := fun y =>
  if y = Str.ofString "due" then some dv else if y = Str.ofString "text" then some tv else if y = Str.ofString "turned" then some (.ref Tu) else m y
theorem dueM_of {dv tv : Value} {Tu : Addr} {M : Str → Option Value} (h0 : M (Str.ofString "due") = some dv) (h1 : M (Str.ofString "text") = some tv) (h2 : M (Str.ofString "turned") = some (.ref Tu)) : dueM dv tv Tu M = M := by
  funext y
  unfold dueM
  by_cases e0 : y = Str.ofString "due"
  · rw [if_pos e0, e0, h0]
  by_cases e1 : y = Str.ofString "text"
  · rw [if_neg e0, if_pos e1, e1, h1]
  by_cases e2 : y = Str.ofString "turned"
  · rw [if_neg e0, if_neg e1, if_pos e2, e2, h2]
  rw [if_neg e0, if_neg e1, if_neg e2]
theorem dueM_fr {base h : Heap} {L Tu : Addr} {dv tv : Value} {M : Str → Option Value} (F : Fr base L h M) (h0 : M (Str.ofString "due") = some dv) (h1 : M (Str.ofString "text") = some tv) (h2 : M (Str.ofString "turned") = some (.ref Tu)) : ∃ m0, Fr base L h (dueM dv tv Tu m0) := ⟨M, by rw [dueM_of h0 h1 h2]; exact F⟩
theorem due_len (rows : List Row) (hlen : rows.length ≤ 9) (hr : ∀ r ∈ rows, r.1 ≤ 2 ∧ r.2.1.length ≤ 2 ∧ r.2.2 ≤ 2) : ∀ j, j ≤ rows.length → (dueUp rows j).length ≤ 18 * j
  | 0, _ => Nat.le_refl _
  | j + 1, h => by
    have ih := due_len rows hlen hr j (by omega)
    have hrow := hr _ (getD_mem rows j (0, [], 0) (by omega))
    have h1 : ∀ i : Nat, i ≤ 2 → (turnedP.getD i []).length ≤ 4 := by decide
    have h1 := h1 _ hrow.1
    have h2 := hrow.2.1
    unfold dueUp
    simp only [List.length_append, List.length_replicate, List.length_cons, List.length_nil]
    omega
section
variable {w : World} {A : Around} {base : Heap} {L : Addr} {cd : Value} {s : Shared} {m : Str → Option Value} {mg mb : Str → Option Value} {n : Nat}
theorem law_due (rm : Room A (n + 6)) (K0 : (hd.heap_39 w.params).In base) (T0 : TopM mg mb base) {o1 : Obj} {Rs Tu : Addr} {kr kt : Nat} {tv : List Value} {tups own : List (Addr × Obj)} {rows : List Row} {T : Nat → List Nat} {td : Tok} {tx : Value}
    (F : Fr base L s.heap (dueM (.str (Str.ofString "") td) tx Tu m)) (N : News base L s.heap ((L + 1, o1) :: (Rs, lsO (tups.map fun p => Value.ref p.1) kr) :: (Tu, lsO tv kt) :: (tups ++ own)))
    (y1 : o1.data = .cell (some (.ref Rs))) (ht : TupsAre tups rows) (htv : StrsAre tv (turnedP.map strV)) (hsol : ∀ p ∈ own, Solid p.2.data) (H : LawOk rows T) :
    wpAny (model PP w) A (exec (lawDef.1.getD 13 (.Pass default)) (lawEnv L cd))
      (fun f s' => f = .next ∧ (∃ m0 tk, Fr base L s'.heap (dueM (.str (strV (dueUp rows rows.length)) tk) tx Tu m0)) ∧
        News base L s'.heap ((L + 1, o1) :: (Rs, lsO (tups.map fun p => Value.ref p.1) kr) :: (Tu, lsO tv kt) :: (tups ++ own)) ∧ Quiet s s') (fun _ _ => False) s := by
  have hlen := H.len
  have htl := ht.len
  unfold dueM at F
  refine wpAny_For ?_ (fun _ => rfl)
  iterate 10 walk1
  refine call_len_list ⟨_, N.get (.tail _ (.head _)), rfl, _, rfl⟩ (Int.lt_of_le_of_lt (show (((tups.map fun p => Value.ref p.1).toArray.size : Nat) : Int) ≤ 9 by rw [List.size_toArray, List.length_map]; omega) (by decide)) ?_
  have hsz : (tups.map fun p => Value.ref p.1).toArray.size = rows.length := by rw [List.size_toArray, List.length_map, htl]
  rw [hsz]
  iterate 2 walk1
  rename Fr _ _ _ _ => F₁
  rename News _ _ _ _ => N₁
  rename IsRange _ _ _ _ _ _ _ _ => hir
  refine for_range (base := base) (L := L) rows.length rm.hh rfl rfl rfl hir (by decide) (by decide) (by omega) (by omega) (by omega)
    (fun j m' h => (∃ m0 tk, m' = dueM (.str (strV (dueUp rows j)) tk) tx Tu m0) ∧ News base L h ((L + 1, o1) :: (Rs, lsO (tups.map fun p => Value.ref p.1) kr) :: (Tu, lsO tv kt) :: (tups ++ own)))
    ?_ ?_ ?_ F₁ ?_
  · rintro j m' h h' hk ⟨h1, N₂⟩
    refine ⟨h1, fun p hp => ⟨hk _ _ ?_ (N₂ p hp).1, (N₂ p hp).2⟩⟩
    rcases List.mem_cons.mp hp with rfl | hp
    · show Solid o1.data
      rw [y1]; trivial
    · rcases List.mem_cons.mp hp with rfl | hp
      · trivial
      · rcases List.mem_cons.mp hp with rfl | hp
        · trivial
        · rcases List.mem_append.mp hp with hp | hp
          · exact (ht.tup p hp).2
          · exact hsol p hp
  · rintro j tkj m' s₃ own' hj ⟨⟨m0, tk₀, rfl⟩, N₂⟩ hown hqs F₃ N₃
    unfold dueM at F₃
    rw [show (0 : Int) + ((j : Nat) : Int) = ((j : Nat) : Int) from by omega] at F₃
    have N₄ : News base L s₃.heap ((L + 1, o1) :: (Rs, lsO (tups.map fun p => Value.ref p.1) kr) :: (Tu, lsO tv kt) :: (tups ++ own ++ own')) := fun p hp => by
      simp only [List.mem_cons, List.mem_append] at hp
      rcases hp with h | h | h | (h | h) | h
      · exact N₂ p (by simp [h])
      · exact N₂ p (by simp [h])
      · exact N₂ p (by simp [h])
      · exact N₂ p (by simp [h])
      · exact N₂ p (by simp [h])
      · exact N₃ p h
    clear N₂ N₃
    have hdl := due_len rows hlen H.row j (by omega)
    generalize hx : strV (dueUp rows j) = x at F₃
    have hxl : x.length ≤ 200 := by rw [← hx, strV_len]; omega
    iterate 11 walk1
    iterate 5 walk1
    refine call_len_list ⟨_, N₄.get (.tail _ (.head _)), rfl, _, rfl⟩ (Int.lt_of_le_of_lt (show (((tups.map fun p => Value.ref p.1).toArray.size : Nat) : Int) ≤ 9 by rw [List.size_toArray, List.length_map]; omega) (by decide)) ?_
    rw [hsz]
    iterate 4 walk1
    rw [show ((rows.length : Nat) : Int) + 1 - ((j : Nat) : Int) = ((rows.length + 1 - j : Nat) : Int) from by omega]
    refine mul_dots (rows.length + 1 - j) (by omega) (by omega) ?_
    dsimp only
    have hz0 : (strV (List.replicate (rows.length + 1 - j) 46)).length ≤ 10 := by rw [strV_len, List.length_replicate]; omega
    generalize hz0e : strV (List.replicate (rows.length + 1 - j) 46) = z0 at hz0
    obtain ⟨T', ta, tb, tdd, hT⟩ := tups_get ht j hj
    have hTm : (T', rowO rows[j] ta tb tdd) ∈ tups := List.mem_of_getElem? hT
    have hl1 : s₃.heap.IsList Rs (tups.map fun p => Value.ref p.1).toArray := ⟨_, N₄.get (.tail _ (.head _)), rfl, _, rfl⟩
    have hl2 : s₃.heap.IsList Tu tv.toArray := ⟨_, N₄.get (.tail _ (.tail _ (.head _))), rfl, _, rfl⟩
    have hTt : IsTup s₃.heap T' #[.int (rows[j].1 : Nat) ta, .str (strV rows[j].2.1) tb, .int ((rows[j].2.2 : Nat) : Nat) tdd] := ⟨_, N₄.get (.tail _ (.tail _ (.tail _ (List.mem_append_left _ (List.mem_append_left _ hTm))))), rfl, _, rfl⟩
    have hrow := H.row rows[j] (List.getElem_mem _)
    have hget : rows.getD j (0, [], 0) = rows[j] := by rw [List.getD_eq_getElem?_getD, List.getElem?_eq_getElem hj]; rfl
    obtain ⟨te, hte⟩ := strsAre_get htv rows[j].1 (by show _ < 3; omega)
    have hbi : ((j : Nat) : Int) < 2 ^ 63 := Int.lt_of_le_of_lt (show ((j : Nat) : Int) ≤ 9 by omega) (by decide)
    have hb2 : ((rows[j].1 : Nat) : Int) < 2 ^ 63 := Int.lt_of_le_of_lt (show ((rows[j].1 : Nat) : Int) ≤ 9 by omega) (by decide)
    have l1 : (strV (turnedP.getD rows[j].1 [])).length ≤ 4 := by
      rw [strV_len]
      have : ∀ i : Nat, i ≤ 2 → (turnedP.getD i []).length ≤ 4 := by decide
      exact this _ hrow.1
    have l2 : (strV rows[j].2.1).length ≤ 2 := by rw [strV_len]; exact hrow.2.1
    iterate 6 walk1
    have hXY : strV (dueUp rows (j + 1)) = x ++ (z0 ++ strV (turnedP.getD rows[j].1 []) ++ strV rows[j].2.1 ++ Str.ofString "\r\n") := by
      show strV (dueUp rows j ++ (List.replicate (rows.length + 1 - j) 46 ++ turnedP.getD (rows.getD j (0, [], 0)).1 [] ++ (rows.getD j (0, [], 0)).2.1 ++ [13, 10])) = _
      rw [hget, strV_append, strV_append, strV_append, strV_append, hx, hz0e]; rfl
    generalize strV (turnedP.getD rows[j].1 []) = z1 at l1 hte hXY
    generalize strV rows[j].2.1 = z2 at l2 hTt hXY
    refine item_listL (x := .ref T') hl1 (Int.natCast_nonneg _) hbi (by rw [Int.toNat_natCast, List.getElem?_map, hT]; rfl) ?_
    walk1
    refine item_tupleT (l := [.int (rows[j].1 : Nat) ta, .str z2 tb, .int ((rows[j].2.2 : Nat) : Nat) tdd]) hTt (by decide) (by decide) (j := 0) (by rfl) (by rfl) ?_
    refine item_listL (x := .str z1 te) hl2 (Int.natCast_nonneg _) hb2 (by rw [Int.toNat_natCast]; exact hte) ?_
    walk1
    dsimp only
    iterate 4 walk1
    refine item_listL (x := .ref T') hl1 (Int.natCast_nonneg _) hbi (by rw [Int.toNat_natCast, List.getElem?_map, hT]; rfl) ?_
    walk1
    refine item_tupleT (l := [.int (rows[j].1 : Nat) ta, .str z2 tb, .int ((rows[j].2.2 : Nat) : Nat) tdd]) hTt (by decide) (by decide) (j := 1) (by rfl) (by rfl) ?_
    walk1
    dsimp only
    iterate 2 walk1
    dsimp only
    walk1
    rw [← hXY]
    walk1
    rename Fr _ _ _ _ => F₅
    rename News _ _ _ _ => N₅
    obtain ⟨m₅, F₆⟩ := dueM_fr F₅ (by rfl) (by rfl) (by rfl)
    refine wpAny_execs_nil ⟨_, F₆, fun p hp => N₅ p (by simp [hp]), ⟨⟨m₅, _, rfl⟩, fun p hp => N₅ p ?_⟩, Quiet.same rfl rfl⟩
    simp only [List.mem_cons, List.mem_append] at hp ⊢
    rcases hp with h | h | h | h | h <;> simp [h]
  · rintro s₃ m' F₃ ⟨h1, N₂⟩ hqs
    obtain ⟨m0, tk₀, rfl⟩ := h1
    exact ⟨rfl, ⟨m0, tk₀, F₃⟩, N₂, ⟨fun z => hqs.gens z, hqs.os⟩⟩
  · exact ⟨⟨m, td, rfl⟩, N₁⟩
end
end Mine
end

section
open PySem PySem.W PySem.Calls PyProof.Rows
open Sem (wp)
set_option Elab.async false
set_option maxRecDepth 100000
set_option maxHeartbeats 1000000
namespace Mine
theorem fillL13 : (∀ P, hd.heap_39 P = hd.heap_39 P) ∧ PySem.Challenge.rw_tr0011_01.foot = 4 := by
  k_fill
  exact ⟨fun _ => rfl, rfl⟩
section
variable {w : World} {A : Around} {base : Heap} {L : Addr} {cd : Value} {s : Shared} {m : Str → Option Value} {mg mb : Str → Option Value} {n : Nat}
theorem law_C (rm : Room A (n + 6)) (K0 : (hd.heap_39 w.params).In base) (T0 : TopM mg mb base) {o1 o2 o4 : Obj} {Rs Tu Fi Ei : Addr} {kr kf ke kt : Nat} {fv ev tv : List Value} {tups : List (Addr × Obj)} {rows : List Row} {T : Nat → List Nat}
    (F : Fr base L s.heap m) (hm : m (Str.ofString "turned") = some (.ref Tu))
    (N : News base L s.heap ((L + 1, o1) :: (L + 4, o4) :: (L + 2, o2) :: (Rs, lsO (tups.map fun p => Value.ref p.1) kr) :: (Fi, lsO fv kf) :: (Ei, lsO ev ke) :: (tups ++ [(Tu, lsO tv kt)])))
    (y1 : o1.data = .cell (some (.ref Rs))) (y4 : o4.data = .cell (some (.ref Fi))) (y2 : o2.data = .cell (some (.ref Ei))) (hfv : StrsAre fv ((rows.map firstG).map strV)) (hev : StrsAre ev (endsP.map strV)) (htv : StrsAre tv (turnedP.map strV)) (ht : TupsAre tups rows) (H : LawOk rows T) :
    wpAny (model PP w) A (execs (lawDef.1.drop 10) (lawEnv L cd))
      (fun f s' => f = .ret (.bool true) ∧ (∀ b o, base.get? b = some o → s'.heap.get? b = some o) ∧ Quiet s s') (fun _ _ => False) s := by
  show wpAny _ _ (execs (lawDef.1.getD 10 (.Pass default) :: lawDef.1.getD 11 (.Pass default) :: lawDef.1.drop 12) _) _ _ _
  refine wpAny_execs_cons (wpAny_mono (law_text rm K0 T0 F N y1 y4 y2 hfv hev ht H.len H.row) (fun f s₁ h => ?_) fun _ _ h => h)
  obtain ⟨rfl, ⟨tk, F₁⟩, N₁, q₁⟩ := h
  dsimp only
  rw [show quoteL (joinedG rows) = T 0 from H.start] at F₁
  obtain ⟨m₁, F₁⟩ := textM_fr (tv := .str (strV (T 0)) tk) (Tu := Tu) F₁ (by rfl) (by rw [if_neg (by decide)]; exact hm)
  have N₂ : News base L s₁.heap ((L + 1, o1) :: (Rs, lsO (tups.map fun p => Value.ref p.1) kr) :: (Tu, lsO tv kt) :: (tups ++ [])) := fun p hp => N₁ p (by
    simp only [List.mem_cons, List.mem_append, List.not_mem_nil, or_false] at hp ⊢
    rcases hp with h | h | h | h <;> simp [h])
  clear N₁ F N
  refine wpAny_execs_cons (wpAny_mono (law_turns rm K0 T0 F₁ N₂ y1 ht.len (fun p hp => ?_) H) (fun f s₂ h => ?_) fun _ _ h => h)
  · rcases List.mem_cons.mp hp with rfl | hp
    · trivial
    · rw [List.append_nil] at hp
      exact (ht.tup p hp).2
  obtain ⟨rfl, ⟨m₂, tk₂, F₂⟩, N₃, q₂⟩ := h
  dsimp only
  clear F₁ N₂
  rw [H.stop] at F₂
  have hdl := due_len rows H.len H.row rows.length (Nat.le_refl _)
  have hlen := H.len
  unfold textM at F₂
  generalize hx : strV (dueUp rows rows.length) = x at F₂
  show wpAny _ _ (execs (lawDef.1.getD 12 (.Pass default) :: lawDef.1.getD 13 (.Pass default) :: lawDef.1.drop 14) _) _ _ _
  refine wpAny_execs_cons ?_
  change wpAny _ _ (exec (Stmt.Assign _ _ _) _) _ _ _
  iterate 3 walk1
  dsimp only
  rename Fr _ _ _ _ => F₄
  rename News _ _ _ _ => N₄
  obtain ⟨m₄, F₅⟩ := dueM_fr (tv := .str x tk₂) (Tu := Tu) F₄ (by rfl) (by rfl) (by rfl)
  clear F₄
  refine wpAny_execs_cons (wpAny_mono (law_due rm K0 T0 F₅ N₄ y1 ht htv (fun p hp => nomatch hp) H) (fun f s₅ h => ?_) fun _ _ h => h)
  obtain ⟨rfl, ⟨m₅, tk₅, F₆⟩, N₆, q₅⟩ := h
  dsimp only
  clear F₅ N₄
  unfold dueM at F₆
  rw [hx] at F₆
  show wpAny _ _ (execs (lawDef.1.getD 14 (.Pass default) :: []) _) _ _ _
  refine wpAny_execs_cons ?_
  change wpAny _ _ (exec (Stmt.Return _ _) _) _ _ _
  iterate 4 walk1
  refine eq_str ?_
  refine ⟨?_, F₆.keep, q₁.trans (q₂.trans ⟨fun z => q₅.gens z, q₅.os⟩)⟩
  rw [beq_self_eq_true]
end
end Mine
end

section
open PySem PySem.W PySem.Calls PyProof.Rows
open Sem (wp)
set_option Elab.async false
set_option maxRecDepth 100000
set_option maxHeartbeats 1000000
namespace Mine
theorem own_ne {base h : Heap} {L c : Addr} {oc : Obj} {own : List (Addr × Obj)} (N : News base L h ((c, oc) :: own)) (hc : oc.data = .cell none) (hd : ∀ p ∈ own, p.2.data ≠ .cell none ∨ p.1 ≠ c) : ∀ p ∈ own, p.1 ≠ c := fun p hp e => by
  rcases hd p hp with hd | hd
  · have h1 := (N p (.tail _ hp)).1
    have h2 := N.get (.head _)
    rw [e, h2] at h1
    rw [← Option.some.inj h1] at hd
    exact hd hc
  · exact hd e
theorem add_ne {L a b : Nat} (h : a ≠ b) : L + a ≠ L + b := fun e => h (Nat.add_left_cancel e)
theorem tup_data : ∀ {ps : List (Addr × Obj)} {rs : List Row}, TupsAre ps rs → ∀ p ∈ ps, p.2.data ≠ .cell none
  | _, _, .nil, p, h => nomatch h
  | _, _, .cons h, p, hp => by
    rcases List.mem_cons.mp hp with rfl | hp
    · exact fun e => by cases e
    · exact tup_data h p hp
theorem lsO_data (vs : List Value) (k : Nat) : (lsO vs k).data ≠ .cell none := fun e => by cases e
theorem cell_data {o : Obj} {v : Value} (h : o.data = .cell (some v)) : o.data ≠ .cell none := by rw [h]; exact fun e => by cases e
section
variable {w : World} {A : Around} {base : Heap} {L : Addr} {cd : Value} {s : Shared} {m : Str → Option Value} {mg mb : Str → Option Value} {n : Nat}
theorem firstG_len {rows : List Row} (hr : ∀ r ∈ rows, r.1 ≤ 2 ∧ r.2.1.length ≤ 2 ∧ r.2.2 ≤ 2) : ∀ r ∈ rows.map firstG, r.length ≤ 20 := by
  intro r hr'
  obtain ⟨q, hq, rfl⟩ := List.mem_map.mp hr'
  have hrow := hr q hq
  have h1 : ∀ i : Nat, i ≤ 2 → (piecesP.getD i []).length ≤ 4 := by decide
  have h1 := h1 _ hrow.1
  have h2 := hrow.2.1
  unfold firstG
  rw [List.length_append]
  omega
theorem law_B (rm : Room A (n + 6)) (K0 : (hd.heap_39 w.params).In base) (T0 : TopM mg mb base) {o1 o2 o4 o5 : Obj} {Rs Tu Fi Ei Be : Addr} {kr kf ke kt kb : Nat} {fv ev tv bv : List Value} {tups : List (Addr × Obj)} {rows : List Row} {T : Nat → List Nat}
    (F : Fr base L s.heap (fun y => if y = Str.ofString "behind" then some (.ref Be) else m y)) (hm : m (Str.ofString "turned") = some (.ref Tu))
    (N : News base L s.heap ((L + 4, o4) :: (Fi, lsO fv kf) :: (Be, lsO bv kb) :: (L + 5, o5) :: (L + 1, o1) :: (L + 2, o2) :: (Rs, lsO (tups.map fun p => Value.ref p.1) kr) :: (Ei, lsO ev ke) :: (tups ++ [(Tu, lsO tv kt)])))
    (y1 : o1.data = .cell (some (.ref Rs))) (y4 : o4.data = .cell (some (.ref Fi))) (y2 : o2.data = .cell (some (.ref Ei))) (y5 : o5.data = .cell none) (hfv : StrsAre fv ((rows.map firstG).map strV)) (hbv : StrsAre bv (((rows.map firstG).drop 1 ++ (rows.map firstG).take 1).map strV))
    (hev : StrsAre ev (endsP.map strV)) (htv : StrsAre tv (turnedP.map strV)) (ht : TupsAre tups rows) (H : LawOk rows T) :
    wpAny (model PP w) A (execs (lawDef.1.drop 6) (lawEnv L cd))
      (fun f s' => f = .ret (.bool true) ∧ (∀ b o, base.get? b = some o → s'.heap.get? b = some o) ∧ Quiet s s') (fun _ _ => False) s := by
  have hl9 : (rows.map firstG).length ≤ 9 := by rw [List.length_map]; exact H.len
  have hg := firstG_len H.row
  show wpAny _ _ (execs (lawDef.1.getD 6 (.Pass default) :: lawDef.1.getD 7 (.Pass default) :: lawDef.1.getD 8 (.Pass default) :: lawDef.1.getD 9 (.Pass default) :: lawDef.1.drop 10) _) _ _ _
  generalize h8 : lawDef.1.getD 8 (.Pass default) = st8
  refine wpAny_execs_cons (wpAny_mono (law_if1 (n := n + 3) rm K0 T0 F N y4 hfv hl9 hg H.one H.two) (fun f s₁ h => ?_) fun _ _ h => h)
  obtain ⟨rfl, F₁, N₁, q₁⟩ := h
  dsimp only
  clear F N
  have N₂ : News base L s₁.heap ((Be, lsO bv kb) :: (L + 4, o4) :: (Fi, lsO fv kf) :: (L + 5, o5) :: (L + 1, o1) :: (L + 2, o2) :: (Rs, lsO (tups.map fun p => Value.ref p.1) kr) :: (Ei, lsO ev ke) :: (tups ++ [(Tu, lsO tv kt)])) := fun p hp => N₁ p (by
    simp only [List.mem_cons] at hp ⊢
    rcases hp with h | h | h | h | h | h | h | h | h <;> simp [h])
  clear N₁
  refine wpAny_execs_cons (wpAny_mono (law_if2 (n := n + 3) rm K0 T0 F₁ N₂ hbv (by rw [List.length_append, List.length_drop, List.length_take]; omega) (fun r hr => ?_) H.tri H.qua) (fun f s₂ h => ?_) fun _ _ h => h)
  · rcases List.mem_append.mp hr with h | h
    · exact hg r (List.mem_of_mem_drop h)
    · exact hg r (List.mem_of_mem_take h)
  obtain ⟨rfl, F₃, N₃, q₂⟩ := h
  dsimp only
  clear F₁ N₂
  have N₄ : News base L s₂.heap ((L + 5, o5) :: (L + 4, o4) :: (Fi, lsO fv kf) :: (L + 1, o1) :: (L + 2, o2) :: (Rs, lsO (tups.map fun p => Value.ref p.1) kr) :: (Ei, lsO ev ke) :: (tups ++ [(Tu, lsO tv kt)])) := fun p hp => N₃ p (by
    simp only [List.mem_cons] at hp ⊢
    rcases hp with h | h | h | h | h | h | h | h <;> simp [h])
  clear N₃
  refine wpAny_execs_cons (wpAny_mono (law_names rm K0 T0 F₃ N₄ y5 (own_ne N₄ y5 fun p hp => .inl ?_) h8) (fun f s₃ h => ?_) fun _ _ h => h)
  · simp only [List.mem_cons, List.mem_append, List.not_mem_nil, or_false] at hp
    rcases hp with rfl | rfl | rfl | rfl | rfl | rfl | hp | rfl
    · exact cell_data y4
    · exact lsO_data _ _
    · exact cell_data y1
    · exact cell_data y2
    · exact lsO_data _ _
    · exact lsO_data _ _
    · exact tup_data ht p hp
    · exact lsO_data _ _
  obtain ⟨rfl, F₅, ⟨Na, no, o5', t1, t2, t3, N₅, hno, y5', hsys⟩, g₃, os₃⟩ := h
  dsimp only
  clear F₃ N₄
  refine wpAny_execs_cons (wpAny_mono (law_esc (n := n + 3) rm K0 T0 F₅ N₅ y4 y5' hno hsys hfv hl9 hg) (fun f s₄ h => ?_) fun _ _ h => h)
  obtain ⟨rfl, F₆, N₆, q₄⟩ := h
  dsimp only
  clear F₅ N₅
  have N₇ : News base L s₄.heap ((L + 1, o1) :: (L + 4, o4) :: (L + 2, o2) :: (Rs, lsO (tups.map fun p => Value.ref p.1) kr) :: (Fi, lsO fv kf) :: (Ei, lsO ev ke) :: (tups ++ [(Tu, lsO tv kt)])) := fun p hp => N₆ p (by
    simp only [List.mem_cons] at hp ⊢
    rcases hp with h | h | h | h | h | h | h <;> simp [h])
  refine wpAny_mono (law_C rm K0 T0 F₆ (by rw [if_neg (by decide)]; exact hm) N₇ y1 y4 y2 hfv hev htv ht H) (fun f s₅ h => ?_) fun _ _ h => h
  obtain ⟨rfl, hk, q₅⟩ := h
  exact ⟨rfl, hk, q₁.trans (q₂.trans ((Quiet.same g₃ os₃).trans (q₄.trans q₅)))⟩
end
end Mine
end

section
open PySem PySem.W PySem.Calls PyProof.Rows
open Sem (wp)
set_option Elab.async false
set_option maxRecDepth 100000
set_option maxHeartbeats 1000000
namespace Mine
section
variable {w : World} {A : Around} {base : Heap} {L : Addr} {cd : Value} {s : Shared} {m : Str → Option Value} {mg mb : Str → Option Value} {n : Nat}
theorem law_A (rm : Room A (n + 6)) (K0 : (hd.heap_39 w.params).In base) (T0 : TopM mg mb base) {o1 o2 o3 o4 o5 : Obj} {Rs : Addr} {kr : Nat} {tups : List (Addr × Obj)} {rows : List Row} {T : Nat → List Nat}
    (F : Fr base L s.heap m)
    (N : News base L s.heap ((L + 2, o2) :: (L + 1, o1) :: (L + 3, o3) :: (L + 4, o4) :: (L + 5, o5) :: (Rs, lsO (tups.map fun p => Value.ref p.1) kr) :: tups))
    (y1 : o1.data = .cell (some (.ref Rs))) (y2 : o2.data = .cell none) (y3 : o3.data = .cell none) (y4 : o4.data = .cell none) (y5 : o5.data = .cell none) (ht : TupsAre tups rows) (H : LawOk rows T) :
    wpAny (model PP w) A (execs (lawDef.1.drop 1) (lawEnv L cd))
      (fun f s' => f = .ret (.bool true) ∧ (∀ b o, base.get? b = some o → s'.heap.get? b = some o) ∧ Quiet s s') (fun _ _ => False) s := by
  show wpAny _ _ (execs (lawDef.1.getD 1 (.Pass default) :: lawDef.1.getD 2 (.Pass default) :: lawDef.1.getD 3 (.Pass default) :: lawDef.1.getD 4 (.Pass default) :: lawDef.1.getD 5 (.Pass default) :: lawDef.1.drop 6) _) _ _ _
  refine wpAny_execs_cons (wpAny_mono (law_ends rm K0 T0 F N y2 (own_ne N y2 fun p hp => ?_)) (fun f s₁ h => ?_) fun _ _ h => h)
  · simp only [List.mem_cons] at hp
    rcases hp with rfl | rfl | rfl | rfl | rfl | hp
    · exact .inl (cell_data y1)
    · exact .inr (add_ne (by decide))
    · exact .inr (add_ne (by decide))
    · exact .inr (add_ne (by decide))
    · exact .inl (lsO_data _ _)
    · exact .inl (tup_data ht p hp)
  obtain ⟨rfl, F₁, ⟨Ei, ev, ke, o2', N₁, hev, y2'⟩, g₁, os₁⟩ := h
  dsimp only
  clear F N
  have N₂ : News base L s₁.heap ((L + 3, o3) :: (L + 2, o2') :: (Ei, lsO ev ke) :: (L + 1, o1) :: (L + 4, o4) :: (L + 5, o5) :: (Rs, lsO (tups.map fun p => Value.ref p.1) kr) :: tups) := fun p hp => N₁ p (by
    simp only [List.mem_cons] at hp ⊢
    rcases hp with h | h | h | h | h | h | h | h <;> simp [h])
  clear N₁
  refine wpAny_execs_cons (wpAny_mono (law_pieces rm K0 T0 F₁ N₂ y3 (own_ne N₂ y3 fun p hp => ?_)) (fun f s₂ h => ?_) fun _ _ h => h)
  · simp only [List.mem_cons] at hp
    rcases hp with rfl | rfl | rfl | rfl | rfl | rfl | hp
    · exact .inl (cell_data y2')
    · exact .inl (lsO_data _ _)
    · exact .inl (cell_data y1)
    · exact .inr (add_ne (by decide))
    · exact .inr (add_ne (by decide))
    · exact .inl (lsO_data _ _)
    · exact .inl (tup_data ht p hp)
  obtain ⟨rfl, F₂, ⟨Pi, pv, kp, o3', N₃, hpv, y3'⟩, g₂, os₂⟩ := h
  dsimp only
  clear F₁ N₂
  refine wpAny_execs_cons (wpAny_mono (law_turned rm K0 T0 F₂ N₃) (fun f s₃ h => ?_) fun _ _ h => h)
  obtain ⟨rfl, ⟨Tu, tv, kt, F₃, N₄, htv⟩, g₃, os₃⟩ := h
  dsimp only
  clear F₂ N₃
  have N₅ : News base L s₃.heap ((L + 4, o4) :: (L + 1, o1) :: (L + 3, o3') :: (Pi, lsO pv kp) :: (Rs, lsO (tups.map fun p => Value.ref p.1) kr) :: (tups ++ [(L + 2, o2'), (Ei, lsO ev ke), (Tu, lsO tv kt), (L + 5, o5)])) := fun p hp => N₄ p (by
    simp only [List.mem_cons, List.mem_append, List.not_mem_nil, or_false] at hp ⊢
    rcases hp with h | h | h | h | h | h | h | h | h | h <;> simp [h])
  clear N₄
  refine wpAny_execs_cons (wpAny_mono (law_first rm K0 T0 F₃ N₅ y1 y3' y4 hpv ht H.len (fun r hr => ⟨(H.row r hr).1, (H.row r hr).2.1⟩) (own_ne N₅ y4 fun p hp => ?_)) (fun f s₄ h => ?_) fun _ _ h => h)
  · simp only [List.mem_cons, List.mem_append, List.not_mem_nil, or_false] at hp
    rcases hp with rfl | rfl | rfl | rfl | hp | rfl | rfl | rfl | rfl
    · exact .inl (cell_data y1)
    · exact .inl (cell_data y3')
    · exact .inl (lsO_data _ _)
    · exact .inl (lsO_data _ _)
    · exact .inl (tup_data ht p hp)
    · exact .inl (cell_data y2')
    · exact .inl (lsO_data _ _)
    · exact .inl (lsO_data _ _)
    · exact .inr (add_ne (by decide))
  obtain ⟨rfl, F₄, ⟨Fi, fv, kf, o4', N₆, hfv, y4'⟩, g₄, os₄⟩ := h
  dsimp only
  clear F₃ N₅
  refine wpAny_execs_cons (wpAny_mono (law_behind rm K0 T0 F₄ N₆ y4' hfv (by rw [List.length_map]; exact H.len)) (fun f s₅ h => ?_) fun _ _ h => h)
  obtain ⟨rfl, ⟨Be, bv, kb, F₅, N₇, hbv⟩, g₅, os₅⟩ := h
  dsimp only
  clear F₄ N₆
  have N₈ : News base L s₅.heap ((L + 4, o4') :: (Fi, lsO fv kf) :: (Be, lsO bv kb) :: (L + 5, o5) :: (L + 1, o1) :: (L + 2, o2') :: (Rs, lsO (tups.map fun p => Value.ref p.1) kr) :: (Ei, lsO ev ke) :: (tups ++ [(Tu, lsO tv kt)])) := fun p hp => N₇ p (by
    simp only [List.mem_cons, List.mem_append, List.not_mem_nil, or_false] at hp ⊢
    rcases hp with h | h | h | h | h | h | h | h | h | h <;> simp [h])
  clear N₇
  refine wpAny_mono (law_B rm K0 T0 F₅ (by rw [if_pos rfl]) N₈ y1 y4' y2' y5 hfv hbv hev htv ht H) (fun f s₆ h => ?_) fun _ _ h => h
  obtain ⟨rfl, hk, q₆⟩ := h
  exact ⟨rfl, hk, (Quiet.same g₁ os₁).trans ((Quiet.same g₂ os₂).trans ((Quiet.same g₃ os₃).trans ((Quiet.same g₄ os₄).trans ((Quiet.same g₅ os₅).trans q₆))))⟩
end
end Mine
end

section
open PySem PySem.W PySem.Calls PyProof.Rows
open Sem (wp)
set_option Elab.async false
set_option maxRecDepth 100000
set_option maxHeartbeats 1000000
namespace Mine
theorem fillL16 : (∀ P, hd.heap_39 P = hd.heap_39 P) ∧ PySem.Challenge.rw_tr0011_01.foot = 4 := by
  k_fill
  exact ⟨fun _ => rfl, rfl⟩
theorem law_whole {w : World} {A : Around} {n : Nat} {s : Shared} {mg mb : Str → Option Value} {l : Addr} {vs : List Value} {k : Nat} {xs : List Int} {R : Result → Shared → Prop}
    (rm : Room A (n + 7)) (K0 : (hd.heap_39 w.params).In s.heap) (T0 : TopM mg mb s.heap) (hl : s.heap.get? l = some (lsO vs k))
    (hvs : IntsAre vs xs) (hlen : xs.length ≤ 63)
    (hR : ∀ s', Later s s' → R (.ok (.ret (.bool true))) s') : codeAny (model PP w) A (.call (.ref 105) ⟨[.ref l], []⟩) R s := by
  obtain ⟨T, H⟩ := law_ok (if 3 < xs.length then 3 else 2) (by split <;> simp) xs
  refine enterC rm K0 T0 (by k_is) (by k_is) (BindsTo.of_eq (binds := [(Str.ofString "script", .ref l)]) rfl) (by rfl) (by decide +kernel) (fun h₁ A' tk cells rm' F N Y => ?_) rfl rfl rfl
  have Y1 : CellsAre _ [(Str.ofString "names", s.heap.objs.size + 5), (Str.ofString "first", s.heap.objs.size + 4), (Str.ofString "pieces", s.heap.objs.size + 3), (Str.ofString "ends", s.heap.objs.size + 2), (Str.ofString "rows", s.heap.objs.size + 1)] cells := Y
  obtain ⟨o5, o4, o3, o2, o1, rfl, y5, y4, y3, y2, y1⟩ := cells5 Y1
  replace y1 : o1.data = .cell none := y1
  replace y2 : o2.data = .cell none := y2
  replace y3 : o3.data = .cell none := y3
  replace y4 : o4.data = .cell none := y4
  replace y5 : o5.data = .cell none := y5
  clear Y Y1
  iterate 12 (first | (guard_target =~ _ ∧ _; skip) | walk1)
  walk1
  refine wpAny_call (rows_code (rm'.less (m := n + 1) (by omega)) (K0.keeps F.keep) (T0.keeps F.keep) (F.keep _ _ hl) hvs hlen fun s₂ Rs kr tups hl₂ hRn htn hRg ht => ?_)
  have F₂ := hl₂.fr F
  have N₂ := hl₂.news N
  generalize hL : s.heap.objs.size = L at F₂ N₂ F N ⊢
  have fresh : ∀ b : Addr, h₁.get? b = none → b ≠ L ∧ s.heap.get? b = none := by
    intro b e
    refine ⟨?_, ?_⟩
    · rintro rfl
      obtain ⟨o, _, _, ho, _⟩ := F.ns
      rw [ho] at e; cases e
    · cases e' : s.heap.get? b with
      | none => rfl
      | some o => rw [F.keep _ _ e'] at e; cases e
  have N₃ : News s.heap L s₂.heap ((L + 1, o1) :: (L + 2, o2) :: (L + 3, o3) :: (L + 4, o4) :: (L + 5, o5) :: (Rs, lsO (tups.map fun p => Value.ref p.1) kr) :: tups) := fun p hp => by
    simp only [List.mem_cons] at hp
    rcases hp with rfl | rfl | rfl | rfl | rfl | rfl | hp
    · exact N₂ _ (by simp)
    · exact N₂ _ (by simp)
    · exact N₂ _ (by simp)
    · exact N₂ _ (by simp)
    · exact N₂ _ (by simp)
    · exact ⟨hRg, (fresh _ hRn).1, (fresh _ hRn).2⟩
    · exact ⟨(htn p hp).2, (fresh _ (htn p hp).1).1, (fresh _ (htn p hp).1).2⟩
  clear N₂ N F
  refine storeX_C (c := L + 1) F₂ N₃ (by rfl) (UpdF.head (own_ne N₃ y1 fun p hp => ?_)) y1 (fun h' o' F' N' d' => ?_)
  · simp only [List.mem_cons] at hp
    rcases hp with rfl | rfl | rfl | rfl | rfl | hp
    · exact .inr (add_ne (by decide))
    · exact .inr (add_ne (by decide))
    · exact .inr (add_ne (by decide))
    · exact .inr (add_ne (by decide))
    · exact .inl (lsO_data _ _)
    · exact .inl (tup_data ht p hp)
  have N₄ : News s.heap L h' ((L + 2, o2) :: (L + 1, o') :: (L + 3, o3) :: (L + 4, o4) :: (L + 5, o5) :: (Rs, lsO (tups.map fun p => Value.ref p.1) kr) :: tups) := fun p hp => N' p (by
    simp only [List.mem_cons] at hp ⊢
    rcases hp with h | h | h | h | h | h | h <;> simp [h])
  clear N' N₃ F₂
  show wpAny _ _ (execs (lawDef.1.drop 1) (lawEnv L _)) _ _ _
  refine wpAny_mono (law_A rm' K0 T0 F' N₄ d' y2 y3 y4 y5 ht H) (fun f s₃ h => ?_) fun _ _ h => h
  obtain ⟨rfl, hk, q⟩ := h
  dsimp only
  intro htk
  exact hR s₃ ⟨hk, fun z => q.gens (hl₂.gens z), q.os.trans hl₂.os, htk⟩
end Mine
end

section
open PySem PySem.W PySem.Calls PyProof.Rows
open Sem (wp)
set_option Elab.async false
set_option maxRecDepth 100000
set_option maxHeartbeats 1000000
namespace Mine
theorem fillZ1 : (∀ P, hd.heap_39 P = hd.heap_39 P) ∧ PySem.Challenge.rw_tr0011_01.foot = 4 := by
  k_fill
  exact ⟨fun _ => rfl, rfl⟩
theorem ints_fit {h : Heap} {P : Params} : ∀ {vs : List Value} {ns : List Int}, WellAll P h vs (ofPys (ns.map PyData.int)) → IntsAre vs ns
  | _, [], x => by cases x; exact .nil
  | _, n :: ns, x => by
    have x : WellAll P h _ (WData.int n :: ofPys (ns.map PyData.int)) := x
    cases x with
    | cons x r =>
      cases x with
      | int i t => exact .cons _ _ (ints_fit r)
theorem well_ints {P : Params} {h : Heap} {a : Addr} {ns : List Int} (x : Well P h (.ref a) (ofPy (.list (ns.map PyData.int)))) : ∃ vs k, h.get? a = some (lsO vs k) ∧ IntsAre vs ns := by
  have x : Well P h (.ref a) (.list (ofPys (ns.map PyData.int))) := x
  cases x with
  | list hg r => exact ⟨_, _, hg, ints_fit r⟩
theorem room7 : Room callerA (0 + 7) := ⟨rfl, by decide, by decide⟩
end Mine
end

open PySem PySem.W PySem.Calls PyProof.Rows
theorem PySem.Challenge.cw_tr0011_01_holds : PySem.Challenge.rw_tr0011_01.Holds := by
  refine Mine.hd ?_
  intro w s₀ s₁ mg mb G Y fa o pm cd doc dV kV ho hd hcd hD hmg hg args vals as hpre hlay hrd hwl hlo
  have KX := kIn_of Y
  have T0 : Mine.TopM mg mb s₁.heap := topRead_of G.T
  have hfa : mg (Str.ofString "law") = some (.ref 105) := mg_of KX T0.g (by k_is)
  have hfa2 : mg (Str.ofString "law") = some (.ref fa) := hmg
  obtain rfl : fa = 105 := by
    rw [hfa] at hfa2
    cases hfa2; rfl
  clear hmg hfa hfa2 hd hcd hD ho
  wrow_args hpre hlay hrd hwl hlo
  rename (¬ (_ < _)) => hlen
  rename (Well _ _ _ _) => hw
  obtain ⟨vs, k, hl, hvs⟩ := Mine.well_ints hw
  refine enter_call ?_
  refine Mine.law_whole (n := 0) Mine.room7 KX T0 hl hvs (by omega) (fun s' hla => ?_)
  refine ⟨.inl ⟨_, .bool true, [], rfl, fun _ => rfl, ReadsW.bool true, ?_, fun _ => ⟨List.nodup_nil, fun _ hm => (nomatch hm)⟩⟩, OldK.of_keep hla.keep, hla.os, hla.gens (.of_eq hg)⟩
  wrow_post
