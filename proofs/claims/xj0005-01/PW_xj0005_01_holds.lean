import PyProof.Rows.All
import Wide.All
import OpenK.AllK
import Wide.FinOn
import Lean
import PySem.Challenge.RW_xj0005_01
set_option Elab.async false
section

section
open PySem PySem.W PyProof.Rows
set_option Elab.async false
namespace Mine
set_option maxRecDepth 100000 in
set_option maxHeartbeats 8000000 in
open_top hd for PySem.Challenge.rw_xj0005_01
end Mine
end

theorem Mine.walk_off : True := by
  w_top off
  trivial

section
open PySem PySem.W PyProof.Rows
set_option Elab.async false
namespace Mine
theorem o_pred {n j : Nat} (h : j < n) : ∃ k, n - j = k + 1 := ⟨n - j - 1, by omega⟩
theorem o_e1 {n j k : Nat} (h : j < n) (hk : n - j = k + 1) : n - 1 - (k + 1 - 1) = j := by omega
theorem o_e2 {n j k : Nat} (hk : n - j = k + 1) : n - (j + 1) = k := by omega
theorem o_pos {n j k : Nat} (h : j + 1 < n) (hk : n - j = k + 1) : 0 < k := by omega
theorem o_dec {n i : Nat} (h : i < n) : n - (i + 1) < n - i := by omega
theorem o_dec1 {n i : Nat} (h : i < n) : n + 1 - (i + 1) < n + 1 - i := by omega
theorem o_end {n i : Nat} (h : i ≤ n) (h2 : ¬ i < n) : i = n := by omega
theorem o_left {n : Nat} {i : Nat} (h : i < n) : (0 : Int) < (n : Int) - (i : Int) := by omega
theorem o_tnlt {a b : Int} (h0 : 0 < b) (h : a < b) : a.toNat < b.toNat := by omega
theorem o_tnle {a : Int} {k : Nat} (h : a ≤ k) : a.toNat ≤ k := by omega
theorem o_tnp {a : Int} (h : 0 < a) : 0 < a.toNat := by omega
theorem o_tnsub {a : Int} (h : 1 ≤ a) : (a - 1).toNat = a.toNat - 1 := by omega
theorem o_tnsle {a : Int} {k : Nat} (h : a ≤ k) : (a - 1).toNat ≤ k := by omega
theorem o_div16 {n : Int} (h : 0 ≤ n) : (n / 16).toNat = n.toNat / 16 := by omega
theorem o_mod16 {n : Int} (h : 0 ≤ n) : (n % 16).toNat = n.toNat % 16 := by omega
theorem o_lett {c : Int} (h : 0 ≤ c) : (65 + (1 + c)).toNat = 65 + (c.toNat + 1) := by omega
theorem o_pieces {a x : Int} {l : Nat} (h1 : 1 ≤ a) (he : a = 24 / x) (hl : l = (24 / x).toNat - 1 + 1) : (l : Int) = 24 / x := by omega
theorem o_units {a b c d : Nat} (h : a + b < c) (h2 : d ≤ a + b) : d < c := Nat.lt_of_le_of_lt h2 h
theorem gen_tok0 {α : Type} {M : Model} {A : Around} {x : Sem α} {Q : α → Shared → Prop} {E : Value → Shared → Prop} {h : Heap} {G : Array GenState} {dr : Drawn} {tk : Tok} {os : OsState}
    (H : ∀ tk, wpAny M A x Q E ⟨h, G, dr, tk, os⟩) : wpAny M A x Q E ⟨h, G, dr, tk, os⟩ := H tk
/-- a frame's bindings, written out -/
theorem fr_bs {g h : Heap} {L : Addr} {l l' : List (PySem.Str × Value)} (F : Fr g L h (fun y => l.lookup y)) (e : l = l') : Fr g L h (fun y => l'.lookup y) := e ▸ F
noncomputable def NameAt (m : PySem.Str → Option Value) (x : PySem.Str) (o : Option Value) : Prop := m x = o
theorem nameAt_rfl (m : PySem.Str → Option Value) (x : PySem.Str) : NameAt m x (m x) := rfl
noncomputable def isLoc (cs : Scope) (x : PySem.Str) : Bool := cs.kind == .function && cs.names.lookup x == some .local && !(x == PySem.Str.ofString "__debug__")
theorem isLoc_kind {cs : Scope} {x : PySem.Str} (h : isLoc cs x = true) : cs.kind = .function := by
  simp only [isLoc, Bool.and_eq_true] at h
  cases e : cs.kind <;> rw [e] at h <;> first | rfl | exact absurd h.1.1 (by decide)
theorem isLoc_loc {cs : Scope} {x : PySem.Str} (h : isLoc cs x = true) : cs.names.lookup x = some .local := by
  simp only [isLoc, Bool.and_eq_true] at h
  cases e : cs.names.lookup x with
  | none => rw [e] at h; exact absurd h.1.2 (by decide)
  | some k => rw [e] at h; cases k <;> first | rfl | exact absurd h.1.2 (by decide)
theorem isLoc_dbg {cs : Scope} {x : PySem.Str} (h : isLoc cs x = true) : (x == PySem.Str.ofString "__debug__") = false := by
  simp only [isLoc, Bool.and_eq_true, Bool.not_eq_true'] at h
  exact h.2
section
open PySem.Calls
variable {M : Model} {A : Around} {E : Value → Shared → Prop} {h : Heap} {G : Array GenState} {dr : Drawn} {tk : Tok} {os : OsState} {h₀ : Heap} {L a : Addr} {m : Str → Option Value} {cn : Str} {cs : Scope} {ccd : Value} {cl : List (Str × Addr)}
  {x : Str} {v : Value} {n : Int} {t : Tok} {Q : Unit → Shared → Prop} {news : List (Addr × Obj)}
theorem storeG (F : Fr h₀ L h m) (N : News h₀ L h news) (hx : isLoc cs x = true)
    (H : ∀ tk h', Fr h₀ L h' (fun y => if y = x then some v else m y) → News h₀ L h' news → Q () ⟨h', G, dr, tk, os⟩) : wpAny M A (storeName (envX cn cs L a ccd cl) x v) Q E ⟨h, G, dr, tk, os⟩ :=
  storeX_L F N (fun h' F' N' => H _ h' F' N') (isLoc_kind hx) (isLoc_loc hx)
theorem storeI (F : Fr h₀ L h m) (N : News h₀ L h news) (hx : isLoc cs x = true)
    (H : ∀ t tk h', Fr h₀ L h' (fun y => if y = x then some (.int n t) else m y) → News h₀ L h' news → Q () ⟨h', G, dr, tk, os⟩) : wpAny M A (storeName (envX cn cs L a ccd cl) x (.int n t)) Q E ⟨h, G, dr, tk, os⟩ :=
  storeX_L F N (fun h' F' N' => H t _ h' F' N') (isLoc_kind hx) (isLoc_loc hx)
end
section
open PySem.Calls
variable {M : Model} {A : Around} {E : Value → Shared → Prop} {s : Shared} {h : Heap} {G : Array GenState} {dr : Drawn} {tk : Tok} {os : OsState} {h₀ : Heap} {L a : Addr} {m : Str → Option Value} {cn : Str} {cs : Scope} {ccd : Value} {cl : List (Str × Addr)}
  {x : Str} {v : Value} {n : Int} {t : Tok} {Q : Value → Shared → Prop} {pos : Pos}
theorem nameL (F : Fr h₀ L s.heap m) (hx : isLoc cs x = true) (hv : NameAt m x (some v)) (H : Q v s) : wpAny M A (eval (.Name x pos) (envX cn cs L a ccd cl)) Q E s :=
  nameX_L F hv H (isLoc_kind hx) (isLoc_loc hx) (isLoc_dbg hx)
theorem constI {i : Int} {k : Nat} {env : Env} (H : Q (.int i tk) ⟨h, G, dr, tk + 1, os⟩) : wpAny M A (eval (.Constant (.int i) k pos) env) Q E ⟨h, G, dr, tk, os⟩ :=
  wpAny_Constant_int H
end
end Mine
end

section
open PySem PySem.W PyProof.Rows
local macro_rules | `(tactic| walk_at $s:str) => `(tactic| k_extra $s)

section
open PySem PySem.W PyProof.Rows
set_option Elab.async false
namespace Mine
noncomputable def Hold (P : Prop) : Prop := P
theorem hold {P : Prop} (h : Hold P) : P := h
theorem unhold {P : Prop} (h : P) : Hold P := h
noncomputable abbrev tupObj (vs : Array Value) (c : Nat) : Obj := { cls := .type "tuple", data := .seq vs c }

theorem divmod_K {prog : Program} {w : World} {A : Around} {E : Value → Shared → Prop} {s : Shared} {a b : Int} {t u : Tok} {Q : Value → Shared → Prop}
    {h₀ : Heap} {L : Addr} {m : Str → Option Value} {news : List (Addr × Obj)} (F : Fr h₀ L s.heap m) (N : News h₀ L s.heap news) (hb : b ≠ 0) (hl : b.natAbs.log2 < 9000)
    (h : ∀ D h', Fr h₀ L h' m → News h₀ L h' ((D, tupObj #[.int (a.fdiv b) s.toks, .int (a.fmod b) (s.toks + 1)] 0) :: news) → (∀ p ∈ news, p.1 < D) →
      Q (.ref D) { s with toks := s.toks + 1 + 1, heap := h' }) :
    wpAny (model prog w) A (call (.builtin "divmod") [.int a t, .int b u]) Q E s :=
  divmod_N F N hb (fun h' F' N' => h _ h' F' N' fun p hp => Heap.lt_size (N p hp).1) (Or.inl (PyProof.noPylong_of_log2 hl))

/-- a def's end that hands back a tuple made in the call -/
theorem ret_tup {h₀ h' : Heap} {L D : Addr} {m : Str → Option Value} {news news' : List (Addr × Obj)} {s' : Shared} {vs : Array Value} {c : Nat}
    {Q : Value → Shared → Prop} (hret : ∀ (D : Addr) (s' : Shared), Fr h₀ L s'.heap m → (∃ c, News h₀ L s'.heap ((D, tupObj vs c) :: news)) → AllLt D news → Q (.ref D) s')
    (F : Fr h₀ L s'.heap m) (N : News h₀ L s'.heap news') (hm : (D, tupObj vs c) ∈ news') (hs : ∀ p ∈ news, p ∈ news') (hl : AllLt D news) : Q (.ref D) s' := by
  refine hret D s' F ⟨c, fun p hp => ?_⟩ hl
  rcases List.mem_cons.mp hp with rfl | hp
  · exact N _ hm
  · exact N p (hs p hp)


section
variable (w : World) (mean : ExcName → Option Value) (mg mb : Str → Option Value)
   (dp un : Nat) (gd : Option (List Code)) (cn : Str) (cs : Scope) (a : Addr) (ccd : Value) (cl : List (Str × Addr)) (outer : List Env) (A₀ : Around) (base h₀ : Heap) (L : Addr) (m : Str → Option Value) (s : Shared) (news : List (Addr × Obj)) (Q E : Value → Shared → Prop)
   (B : Below A₀ base outer h₀) (F : Fr h₀ L s.heap m) (X : (Mine.hd.heap_39 w.params).In h₀) (N : News h₀ L s.heap news) (T : Top Mine.hd.view_39 (looseW Mine.hd.view_39 []) mean mg mb h₀) (hk : cs.kind = .function)
include B F X N T hk

set_option maxRecDepth 100000 in
set_option maxHeartbeats 8000000 in
theorem div2n1n_call (hd : dp + 1 < recursionLimit) (hu : un + 8 < cLine)
   (x y n : Int) (t1 t2 t3 : Tok) (hy : y ≠ 0) (hb : ((Builtin.Int.intBits x : Nat) : Int) - n ≤ 4000) (hl : y.natAbs.log2 < 9000)
   (hret : ∀ (D : Addr) (t1 t2 : Tok) (c : Nat) (h' : Heap) (tk' : Nat), Fr h₀ L h' m → News h₀ L h' ((D, tupObj #[.int (x.fdiv y) t1, .int (x.fmod y) t2] c) :: news) → AllLt D news → Q (.ref D) { s with heap := h', toks := tk' }) :
   wpAny (model PySem.Challenge.rw_xj0005_01.row.prog w) (ktrTop dp un gd cn cs L a ccd cl outer) (call (.ref 21) [.int x t1, .int y t2, .int n t3]) Q E s := by
  k_with_none
  (k_with "storeName" => (k_here; (try dsimp only); k_dflt (first   | ((with_reducible show wpAny _ _ (storeName _ _ (Value.int _ _)) _ _ _); (refine' Mine.storeI ?topF ?topN ?topA ?_; (case topA => exact rfl); (case topF => k_asm); (case topN => k_asm); k_whole); intro _ _ _ _ _)   | ((refine' Mine.storeG ?topF ?topN ?topA ?_; (case topA => exact rfl); (case topF => k_asm); (case topN => k_asm); k_whole); intro _ _ _ _)); (try k_sweep)))
  (k_with "eval Name" => (k_here; k_dflt (refine' Mine.nameL ?topF ?topA ?topV ?_; (case topF => k_asm); (case topA => exact rfl); (case topV => exact Mine.nameAt_rfl _ _); k_whole)))
  (k_with "eval Constant int" => (k_here; (try dsimp only); refine Mine.constI ?_))
  (k_with "call builtin:divmod" => (k_here; (with_reducible show wpAny _ _ (call (Value.builtin _) [Value.int _ _, Value.int _ _]) _ _ _); k_dflt (refine' divmod_K ?F ?N ?hb ?hl ?_; (case F => k_asm); (case N => k_asm); (case hb => omega); (case hl => assumption); k_whole); intro D' h' F' N' l1; (try k_lt l1); (try k_sweep)))
  revert X; k_fill; intro X
  refine wpAny_call ?_
  k_dflt cell_enter
  rename Fr _ _ _ _ => Fb0
  replace Fb0 := fr_bs Fb0 (l' := [(PySem.Str.ofString "n", .int n t3), (PySem.Str.ofString "b", .int y t2), (PySem.Str.ofString "a", .int x t1)]) rfl
  refine gen_tok0 ?_
  intro tk0
  k_steps
  exact hret _ _ _ _ _ _ (by assumption) (by assumption) (allLt_of (by assumption))
end
end Mine

theorem Mine.reset_D1 : True := by
  k_with_none
  trivial
end

section
open PySem PySem.W PyProof.Rows
set_option Elab.async false
namespace Mine
open PySem.Sem (wp)

section
variable {M : Model} {A : Around} {R : GenEnd} {Y : Protocol} {n : Nat} {s₀ : Shared} {c : Code} {fs : List Frame} {s : Shared} {env : Env}
  {K : Flow → Sem Fin} {H : Value → Sem Fin} {gd : Bool → Bool} {lv : List Value → List Value}

/-- a statement that does not yield -/
theorem seg_plain {st : Stmt} (h : wpAny M (A.over c fs) (exec st env) (fun f s' => Seg M A R Y n s₀ c (K f) fs s') (fun x s' => Seg M A R Y n s₀ c (H x) fs s') s) :
    Seg M A R Y n s₀ c ((exec st env).wrap K H gd lv) fs s := seg_wrap h

theorem seg_If {test : Expr} {body orelse : List Stmt} {pos : Pos}
    (h : wpAny M (A.over c fs) (isTrue test env (eval test env)) (fun b s' => if b = true then Seg M A R Y n s₀ c ((execs body env).wrap K H gd lv) fs s' else Seg M A R Y n s₀ c ((execs orelse env).wrap K H gd lv) fs s')
      (fun x s' => Seg M A R Y n s₀ c (H x) fs s') s) :
    Seg M A R Y n s₀ c ((exec (.If test body orelse pos) env).wrap K H gd lv) fs s := by
  rw [exec_If]
  refine seg_at ?_
  show Seg M A R Y n s₀ c (Sem.wrap K H gd lv (Sem.bind (isTrue test env (eval test env)) (fun b => if b = true then execs body env else execs orelse env))) fs s
  rw [Sem.bind_eq_wrap, Sem.wrap_wrap]
  refine seg_wrap (wpAny_mono h (fun b s' hb => ?_) fun _ _ x => x)
  cases b with
  | true => simpa using hb
  | false => simpa using hb

theorem seg_For {target iter : Expr} {body orelse : List Stmt} {pos : Pos} (hs : ∀ x, foldedSetIterable iter env x = pure x)
    (h : wpAny M (A.over c fs) (eval iter env) (fun xv s₁ => wpAny M (A.over c fs) (pyIter xv) (fun it s₂ => ∀ p, Seg M A R Y n s₀ (.forLoop target it body orelse env) (M.den (.forLoop target it body orelse env))
      (.ret (fun r => ((match r with | .ok f => (.pure f : Sem Flow) | .error e => .raise e).onRaise fun (x : Value) => do
        if (← field x 1) == Value.none then unsupported "frame.own-activation:exception-without-traceback"
        setFlight x env.frame).wrap K H gd lv) none (gd false) (lv []) c p [] :: fs) s₂) (fun x s' => Seg M A R Y n s₀ c (H x) fs s') s₁) (fun x s' => Seg M A R Y n s₀ c (H x) fs s') s) :
    Seg M A R Y n s₀ c ((exec (.For target iter body orelse pos) env).wrap K H gd lv) fs s := by
  rw [exec_For]
  refine seg_at ?_
  show Seg M A R Y n s₀ c (Sem.wrap K H gd lv (Sem.bind (eval iter env) (fun v => foldedSetIterable iter env v >>= fun x => standAt iter.pos >>= fun _ => (holding [x] (pyIter x)) >>= fun it => runOwn (.forLoop target it body orelse env) env))) fs s
  rw [Sem.bind_eq_wrap, Sem.wrap_wrap]
  refine seg_wrap (wpAny_mono h (fun xv s₁ h₁ => ?_) fun _ _ x => x)
  rw [hs xv]
  show Seg M A R Y n s₀ c (.at iter.pos fun _ => Sem.wrap K H gd lv (Sem.bind (holding [xv] (pyIter xv)) fun it => runOwn (.forLoop target it body orelse env) env)) fs s₁
  refine seg_at ?_
  rw [Sem.bind_eq_wrap, Sem.wrap_wrap]
  refine seg_wrap (wpAny_holding (wpAny_mono h₁ (fun it s₂ h₂ => ?_) fun _ _ x => x))
  exact seg_call h₂
end

section
variable {prog : Program} {w : World} {A : Around} {R : GenEnd} {Y : Protocol} {n : Nat} {s₀ : Shared} {fs : List Frame} {s : Shared} {env : Env}

/-- one turn of a for, its target a name, no else -/
theorem seg_forLoop {x : Str} {px : Pos} {it : Value} {body : List Stmt}
    (h : wpAny (model prog w) (A.over (.forLoop (.Name x px) it body [] env) fs) (pyNext it) (fun r s' => match r with
        | none => Seg (model prog w) A R Y n s₀ (.block [] env) (.pure (.done .next)) fs s'
        | some v => wpAny (model prog w) (A.over (.forLoop (.Name x px) it body [] env) fs) (storeName env x v) (fun _ s₂ =>
          Seg (model prog w) A R Y n s₀ (.forLoop (.Name x px) it body [] env) ((execs body env).wrap (fun f => match f with
            | .next | .cont => .pure (.again (.forLoop (.Name x px) it body [] env))
            | .brk => .pure (.done .next)
            | .ret v => .pure (.done (.ret v))) (fun e => (do noteFrame e env; theTreesLotGoes e : Sem Unit).wrap (fun _ => .raise e) .raise id id) id id) fs s₂)
          (fun _ _ => False) s')
      (fun _ _ => False) s) :
    Seg (model prog w) A R Y n s₀ (.forLoop (.Name x px) it body [] env) ((model prog w).den (.forLoop (.Name x px) it body [] env)) fs s := by
  show Seg _ A R Y n s₀ _ ((forTurn (.Name x px) it body [] env).onRaise (fun x => do noteFrame x env; theTreesLotGoes x)) fs s
  unfold forTurn
  rw [Sem.onRaise_eq_wrap]
  refine seg_at ?_
  show Seg _ A R Y n s₀ _ (Sem.wrap _ _ _ _ (Sem.bind ((pyNext it).onRaise _) _)) fs s
  rw [Sem.bind_eq_wrap, Sem.wrap_wrap]
  refine seg_wrap (wpAny_onRaise (wpAny_mono h (fun r s₁ h₁ => ?_) fun _ _ x => x.elim))
  cases r with
  | none => exact seg_again rfl h₁
  | some v =>
    show Seg _ A R Y n s₀ _ (.at px fun _ => Sem.wrap _ _ _ _ (Sem.bind (bindName env x v) (fun _ => Sem.bind (execs body env) _))) fs s₁
    refine seg_at ?_
    rw [Sem.bind_eq_wrap, Sem.wrap_wrap]
    refine seg_wrap (wpAny_bindName (wpAny_mono h₁ (fun _ s₂ h₂ => ?_) fun _ _ x => x.elim))
    rw [Sem.bind_eq_wrap, Sem.wrap_wrap]
    rw [Sem.wrap_congr (execs body env) _ _ (K' := fun f => match f with
            | .next | .cont => .pure (.again (.forLoop (.Name x px) it body [] env))
            | .brk => .pure (.done .next)
            | .ret v => .pure (.done (.ret v))) (H' := (fun e => (do noteFrame e env; theTreesLotGoes e : Sem Unit).wrap (fun _ => .raise e) .raise id id))
        (fun f => by cases f <;> rfl)
        (fun e => by first | exact Sem.bind_eq_wrap _ _ | (show (do noteFrame e env; theTreesLotGoes e : Sem Unit).bind (fun _ => .raise e) = _; rw [Sem.bind_eq_wrap]))]
    exact h₂
end
end Mine
end

section
open PySem PySem.W PyProof.Rows
set_option Elab.async false
namespace Mine
noncomputable abbrev listObj (vs : Array Value) (c : Nat) : Obj := { cls := .type "list", data := .seq vs c }
noncomputable abbrev iterObj (row : Addr) (i : Nat) : Obj := { cls := .type "list_iterator", data := .fields #[.ref row, .int i 0] }

theorem code_gen {prog : Program} {w : World} {A : Around} {s : Shared} {h₀ : Heap} {L : Addr} {m : Str → Option Value} {K : Frag} {p : Program} {loose : List Str} {mean : ExcName → Option Value} {mg mb : Str → Option Value}
    {R : Result → Shared → Prop} {name qual : Str} {params : Arguments} {body : List Stmt} {scope : Scope} {dV kV doc pm cdv ct oc : Value} {an od : Option Addr} {osl : Array (Option Value)} {f : Addr} {args : Args} {binds : List (Str × Value)}
    (F : Fr h₀ L s.heap m) (X₀ : K.In h₀) (T : Top p loose mean mg mb h₀)
    (ho : K.lookup f = some ⟨oc, od, .func (fnOf name qual params body scope dV kV doc pm an cdv ct), osl⟩) (hcd : codeIn K cdv qual = true) (hroom : A.depth < recursionLimit)
    (hbind : BindsTo s (fnOf name qual params body scope dV kV doc pm an cdv ct) args binds) (hloc : ∀ y ∈ binds, scope.names.lookup y.1 = some .local)
    (h : ∀ h₁ tk n1 n2, Fr h₀ s.heap.objs.size h₁ (fun y => binds.reverse.lookup y) → (∀ b o, s.heap.get? b = some o → h₁.get? b = some o) → h₁.objs.size = s.heap.objs.size + 1 →
      R (.ok (.ret (.ref (s.heap.objs.size + 1)))) { s with gens := s.gens.push (.fresh (.func body (envOf qual scope s.heap.objs.size f cdv))), toks := tk, heap := h₁.push { cls := .type "generator", data := .fields #[.int s.gens.size 0, .str name n1, .str qual n2] } })
    (hco : scope.isCoroutine = false := by rfl) (hgen : scope.isGenerator = true := by rfl) (hk : scope.kind = .function := by rfl)
    (hcell : ∀ x ∈ scope.names, x.2 ≠ .cell := by decide) : codeAny (model prog w) A (.call (.ref f) args) R s := by
  have X := X₀.keeps F.keep
  refine codeAny_call_generator (fd := fnOf name qual params body scope dV kV doc pm an cdv ct) (body := body) hroom (X _ _ ho) rfl hco hgen rfl (codeRec_of X hcd) (hbind _ _ _ _ ?_)
  refine wpAny_newFunctionEnv hcell hloc (fun h₁ hns hsb => ⟨(T.nolimit.keeps F.keep).fresh _ hsb, ?_⟩) hk
  have keep : ∀ b o, s.heap.get? b = some o → h₁.get? b = some o := fun b o e => hsb.extBut b o (Nat.ne_of_lt (Heap.lt_size e)) (Heap.get?_push_of_some _ e)
  have hsz : h₁.objs.size = s.heap.objs.size + 1 := by rw [hsb.1, Heap.size_push]
  have := h h₁ (s.toks + binds.length + 1 + 1) (s.toks + binds.length) (s.toks + binds.length + 1) ⟨hns, fun b o e => keep b o (F.keep b o e), Nat.le_trans F.above (Nat.le_of_lt (by obtain ⟨oL, _, _, hL, _⟩ := F.ns; exact Heap.lt_size hL))⟩ keep hsz
  rw [← hsz] at this
  exact this

section
variable {prog : Program} {w : World} {A : Around} {E : Value → Shared → Prop} {s : Shared}
theorem pyNext_own {a : Addr} {g n : Nat} {gs : GenState} {R : GenEnd} {Y : Protocol} {Q : Option Value → Shared → Prop} (hh : A.handled = none)
    (hl : s.heap.NoLimit) (hroom : A.depth < recursionLimit)
    (hg : s.heap.IsGen a g) (hgs : s.gens[g]? = some gs)
    (hgo : gs.Goes (model prog w) A.in1 R Y n (.send .none) (s.setGen g .running))
    (hY : ∀ v s₁ gs', gs'.bare = true → Y (n - 1) (s.setGen g .running) v s₁ (fun r' s'' => match n with
        | 0 => False
        | m + 1 => gs'.Goes (model prog w) A.in1 R Y m r' s'') → Q (some v) (s₁.setGen g gs'))
    (hP : ∀ x s₁, R n (s.setGen g .running) x s₁ → x = .ok (.ret .none) ∧ ∀ h', (∀ b o, s₁.heap.get? b = some o → h'.get? b = some o) → Q none { s₁.setGen g .finished with heap := h' }) :
    wpAny (model prog w) A (pyNext (.ref a)) Q E s := by
  unfold pyNext
  refine wpAny_bind (wpAny_attempt (wpAny_callSpecial?_slot (name := Str.ofString "__next__") hg.typeIs slot_gen_next
    (wpAny_call_entry slot_gen_next hg.typeIs entry_gen_next ?_ (args_gen_next _))))
  show wpAny _ A.in1 (Builtin.Generator.genWake (.ref a) (.send .none)) _ _ s
  unfold Builtin.Generator.genWake
  refine wpAny_bind (wpAny_holding (wpAny_genNumber hg (wpAny_bind (wpAny_genState hgs ?_))))
  cases gs with
  | running => exact hgo.elim
  | finished => exact hgo.elim
  | _ =>
    refine wpAny_bind (wpAny_roomToWake hl hroom ?_)
    show wpAny _ A.in1 (.resume g (.send .none) [] _) _ _ s
    refine wpAny_resumeQ hgs hgo (fun x s₁ hx => ?_) (fun v s₁ gs' hb hv => ?_)
    · obtain ⟨rfl, hp⟩ := hP x s₁ hx
      show wpAny _ A.in1 (newExc (.type "StopIteration") [] >>= _) _ _ _
      refine wpAny_bind ?_
      simp only [newExc, newTuple]
      refine wpAny_bind (wpAny_newObj_type ?_ (by size_fits))
      refine wpAny_bind (m := firstArgMember _ _) (wpAny_of_eq (a := Value.none) (by first | rfl | (simp only [firstArgMember]; rfl)) ?_)
      refine wpAny_newObj_type ?_ (by size_fits)
      simp only [raiseNew]
      refine wpAny_bind (wpAny_bind (wpAny_handled ?_))
      first | rw [show A.in1.handled = none from hh] | rw [hh]
      refine wpAny_throw ?_
      refine wpAny_bind (wpAny_isInstance (T := "StopIteration") (b := true) ⟨_, Heap.get?_push_size _ rfl, rfl⟩ isSubtype_stop ?_)
      exact wpAny_pure (hp _ fun b o hb => Heap.get?_push_of_some _ (Heap.get?_push_of_some _ hb))
    · exact wpAny_pure ⟨v, rfl, wpAny_pure (hY v s₁ gs' hb hv)⟩
end

/-- what the generator may change between two states -/
noncomputable def Kept (Lf I : Addr) (h h' : Heap) : Prop := ∀ b o, b ≠ Lf → b ≠ I → h.get? b = some o → h'.get? b = some o
theorem Kept.trans {Lf I : Addr} {h h' h'' : Heap} (x : Kept Lf I h h') (y : Kept Lf I h' h'') : Kept Lf I h h'' := fun b o h1 h2 e => y b o h1 h2 (x b o h1 h2 e)

noncomputable def ItOld (I : Addr) (h : Heap) : Prop := ∀ o, h.get? I = some o → o.cls = .type "list_iterator"
noncomputable def GenY (h₀ : Heap) (Lf row : Addr) (oRow : Obj) (val : Nat → Int) (fin : Bool) (N : Nat) : Protocol := fun m s₀ v s kap =>
  (∃ t, v = .int (val (N - 1 - m)) t) ∧ ∃ h tk I oI oLf, s = { s₀ with heap := h, toks := tk } ∧ Kept Lf I s₀.heap h ∧ h.get? Lf = some oLf ∧ h.get? I = some oI ∧ Lf + 1 < I ∧ ItOld I s₀.heap ∧
    ((fin = true ∨ 0 < m) → ∀ s'' : Shared, h₀.StaysIn s''.heap → s''.heap.get? row = some oRow → s''.heap.get? Lf = some oLf → s''.heap.get? I = some oI → kap (.send .none) s'')
noncomputable def GenR (Lf : Addr) (fin : Bool) : GenEnd := fun n s₀ r s₁ => r = .ok (.ret .none) ∧ n = 0 ∧ fin = true ∧ ∃ h tk I, s₁ = { s₀ with heap := h, toks := tk } ∧ Kept Lf I s₀.heap h ∧ Lf + 1 < I ∧ ItOld I s₀.heap

inductive GSpec (val : Nat → Int) (fin : Bool) (N : Nat) : Nat → List Int → Option Int → Prop
  | stop (last : Option Int) : fin = true → GSpec val fin N 0 [] last
  | mark (last : Option Int) (r : List Int) : fin = true → GSpec val fin N 0 (127 :: r) last
  | item (last : Option Int) (x : Int) (r : List Int) (n : Nat) : x ≠ 127 → x ≠ 0 → val (N - 1 - n) = x → GSpec val fin N n r (some x) → GSpec val fin N (n + 1) (x :: r) last
  | rep (x : Int) (r : List Int) (n : Nat) : fin = false → (∀ m, m ≤ n → val (N - 1 - m) = x) → GSpec val fin N (n + 1) (0 :: r) (some x)

theorem seg_ind {M : Model} {A : Around} {R : GenEnd} {Y : Protocol} {C : Code} {fs : List Frame} {val : Nat → Int} {fin : Bool} {N : Nat} (Inv : List Int → Option Int → Shared → Shared → Prop)
    (step : ∀ n rem last s₀ s, GSpec val fin N n rem last → Inv rem last s₀ s → (∀ m rem' last' s₀' s', m < n → GSpec val fin N m rem' last' → Inv rem' last' s₀' s' → Seg M A R Y m s₀' C (M.den C) fs s') →
      Seg M A R Y n s₀ C (M.den C) fs s) : ∀ n rem last s₀ s, GSpec val fin N n rem last → Inv rem last s₀ s → Seg M A R Y n s₀ C (M.den C) fs s := by
  intro n
  induction n using Nat.strongRecOn with
  | ind n ih => exact fun rem last s₀ s hg hi => step n rem last s₀ s hg hi fun m rem' last' s₀' s' hm hg' hi' => ih m hm rem' last' s₀' s' hg' hi'
theorem seg_rep {M : Model} {A : Around} {R : GenEnd} {Y : Protocol} {C : Code} {fs : List Frame} (N : Nat) (Inv : Shared → Shared → Prop)
    (step : ∀ n s₀ s, n ≤ N → Inv s₀ s → (∀ k, n = k + 1 → ∀ s₀' s', Inv s₀' s' → Seg M A R Y (k + 1) s₀' C (M.den C) fs s') → Seg M A R Y (n + 1) s₀ C (M.den C) fs s) :
    ∀ n s₀ s, n ≤ N → Inv s₀ s → Seg M A R Y (n + 1) s₀ C (M.den C) fs s := by
  intro n
  induction n with
  | zero => exact fun s₀ s hn hi => step 0 s₀ s hn hi fun k e => by cases e
  | succ n ih => exact fun s₀ s hn hi => step (n + 1) s₀ s hn hi fun k e s₀' s' hi' => by cases e; exact ih s₀' s' (by omega) hi'

/-- all of a heap but some places -/
noncomputable def restOf (h₀ : Heap) (X : List Addr) (h : Heap) : List (Addr × Obj) :=
  (List.range h.objs.size).filterMap fun b => if b ∈ X then none else match h₀.get? b with
    | some _ => none
    | none => (h.get? b).map fun o => (b, o)
theorem mem_restOf {h₀ h : Heap} {X : List Addr} {b : Addr} {o : Obj} : (b, o) ∈ restOf h₀ X h ↔ b ∉ X ∧ h₀.get? b = none ∧ h.get? b = some o := by
  unfold restOf
  rw [List.mem_filterMap]
  constructor
  · rintro ⟨b', hb, e⟩
    by_cases hx : b' ∈ X
    · rw [if_pos hx] at e; cases e
    · rw [if_neg hx] at e
      cases e₀ : h₀.get? b' with
      | some _ => rw [e₀] at e; cases e
      | none =>
        rw [e₀] at e
        obtain ⟨o', ho', e'⟩ := Option.map_eq_some_iff.mp e
        cases e'
        exact ⟨hx, e₀, ho'⟩
  · rintro ⟨hx, e₀, e⟩
    refine ⟨b, List.mem_range.mpr (Heap.lt_size e), ?_⟩
    rw [if_neg hx, e₀, e]; rfl
theorem rest_news {h₀ h : Heap} {L : Addr} {X : List Addr} (hL : L ∈ X) : News h₀ L h (restOf h₀ X h) := fun p hp => by
  obtain ⟨h1, h2, h3⟩ := mem_restOf.mp (show (p.1, p.2) ∈ _ from hp)
  exact ⟨h3, fun e => h1 (e ▸ hL), h2⟩
theorem kept_of {h₀ h h' : Heap} {Lf I : Addr} {X : List Addr} (hX : ∀ b ∈ X, b = Lf ∨ b = I) (hs : h₀.StaysIn h) (hs' : h₀.StaysIn h') (N : News h₀ Lf h' (restOf h₀ X h)) : Kept Lf I h h' := fun b o h1 h2 e => by
  cases e₀ : h₀.get? b with
  | some o' =>
    have := hs b o' e₀
    rw [e] at this
    cases this
    exact hs' b o e₀
  | none => exact (N (b, o) (mem_restOf.mpr ⟨fun hb => (hX b hb).elim h1 h2, e₀, e⟩)).1

noncomputable abbrev mG (lv : Value) (iv : Option Value) (row : Addr) : Str → Option Value := fun y => if y = Str.ofString "interval" then iv else if y = Str.ofString "last_interval" then some lv else if y = Str.ofString "grouping" then some (.ref row) else none
theorem fr_ext {h₀ h : Heap} {L : Addr} {m m' : Str → Option Value} (F : Fr h₀ L h m) (e : ∀ y, m y = m' y) : Fr h₀ L h m' := (funext e : m = m') ▸ F
noncomputable def LastIs : Value → Option Int → Prop
  | v, none => v = .none
  | v, some x => ∃ t, v = .int x t

theorem lookup_one {a y : Str} {v : Value} : List.lookup y [(a, v)] = if y = a then some v else none := by
  rw [List.lookup_cons]
  by_cases e : y = a
  · subst e; simp
  · have : (y == a) = false := beq_false_of_ne e
    rw [this, if_neg e]; rfl

inductive GInv (h₀ : Heap) (Lf I row : Addr) (oRow : Obj) (ns : List Int) (rem : List Int) (last : Option Int) (s₀ s : Shared) : Prop
  | mk (i : Nat) (oI : Obj) (lv : Value) (iv : Option Value) (Rs : List (Addr × Obj)) (a : Fr h₀ Lf s.heap (mG lv iv row)) (b : News h₀ Lf s.heap ((I, oI) :: Rs)) (c : s.heap.IsListIter I row i) (d : (row, oRow) ∈ Rs) (e : ∀ p ∈ Rs, p.1 ≠ I)
    (f : ∀ h', h₀.StaysIn h' → News h₀ Lf h' Rs → Kept Lf I s₀.heap h') (g : ∃ h tk, s = { s₀ with heap := h, toks := tk }) (j : Lf + 1 < I) (k : rem = ns.drop i) (l : LastIs lv last) (m : ItOld I s₀.heap)

inductive GInvW (h₀ : Heap) (Lf I row : Addr) (oRow : Obj) (x : Int) (t₁ : Tok) (iv : Option Value) (s₀ s : Shared) : Prop
  | mk (oI : Obj) (Rs : List (Addr × Obj)) (a : Fr h₀ Lf s.heap (mG (.int x t₁) iv row)) (b : News h₀ Lf s.heap ((I, oI) :: Rs)) (d : (row, oRow) ∈ Rs) (e : ∀ p ∈ Rs, p.1 ≠ I)
    (f : ∀ h', h₀.StaysIn h' → News h₀ Lf h' Rs → Kept Lf I s₀.heap h') (g : ∃ h tk, s = { s₀ with heap := h, toks := tk }) (m : ItOld I s₀.heap) (n : oI.cls = .type "list_iterator")

/-- a state of the generator after its caller went on -/
theorem gen_back {h₀ h h₂ : Heap} {Lf I row : Addr} {m : Str → Option Value} {oI oRow oL : Obj} {Rs : List (Addr × Obj)} (hF : Fr h₀ Lf h m) (hN : News h₀ Lf h ((I, oI) :: Rs)) (hL : h.get? Lf = some oL)
    (hrm : (row, oRow) ∈ Rs) (hne : ∀ p ∈ Rs, p.1 ≠ I) (h1 : h₀.StaysIn h₂) (h2 : h₂.get? row = some oRow) (h3 : h₂.get? Lf = some oL) (h4 : h₂.get? I = some oI) :
    ∃ Rs', Fr h₀ Lf h₂ m ∧ News h₀ Lf h₂ ((I, oI) :: Rs') ∧ (row, oRow) ∈ Rs' ∧ (∀ p ∈ Rs', p.1 ≠ I) ∧ (∀ h', h₀.StaysIn h' → News h₀ Lf h' Rs' → Kept Lf I h₂ h') := by
  refine ⟨restOf h₀ [Lf, I] h₂, ⟨?_, h1, hF.above⟩, ?_, ?_, ?_, fun h' hs' N' => kept_of (by simp) h1 hs' N'⟩
  · obtain ⟨o, es, ep, ho, r⟩ := hF.ns
    rw [hL] at ho
    cases ho
    exact ⟨_, es, ep, h3, r⟩
  · intro p hp
    rcases List.mem_cons.mp hp with rfl | hp
    · exact ⟨h4, (hN _ (.head _)).2⟩
    · exact rest_news (by simp) p hp
  · refine mem_restOf.mpr ⟨?_, (hN _ (.tail _ hrm)).2.2, h2⟩
    simp only [List.mem_cons, List.not_mem_nil, or_false, not_or]
    exact ⟨(hN _ (.tail _ hrm)).2.1, hne _ hrm⟩
  · intro p hp
    have := (mem_restOf.mp (show (p.1, p.2) ∈ _ from hp)).1
    simp only [List.mem_cons, List.not_mem_nil, or_false, not_or] at this
    exact this.2

end Mine
end

section
open PySem PySem.W PyProof.Rows
set_option Elab.async false
namespace Mine
section
variable (w : World) (mean : ExcName → Option Value) (mg mb : Str → Option Value)
   (dp un : Nat) (gd : Option (List Code)) (cn : Str) (cs : Scope) (a : Addr) (ccd : Value) (cl : List (Str × Addr)) (outer : List Env) (A₀ : Around) (base h₀ : Heap) (L : Addr) (m : Str → Option Value) (s : Shared) (news : List (Addr × Obj)) (Q E : Value → Shared → Prop)
   (B : Below A₀ base outer h₀) (F : Fr h₀ L s.heap m) (X : (Mine.hd.heap_39 w.params).In h₀) (N : News h₀ L s.heap news) (T : Top Mine.hd.view_39 (looseW Mine.hd.view_39 []) mean mg mb h₀) (hk : cs.kind = .function)
include B F X N T hk

noncomputable def genAround (d u : Nat) (gd : Option (List Code)) (fr : List Env) : Around := { handled := none, depth := d, frames := some fr, guards := gd, units := u }

set_option maxRecDepth 100000 in
set_option maxHeartbeats 8000000 in
omit B hk in
theorem intervals_call (hd : dp + 4 < recursionLimit)
   (row : Addr) (vs : Array Value) (c : Nat) (ns : List Int) (hi : IntsAre vs.toList ns) (hrow : (row, listObj vs c) ∈ news)
   (val : Nat → Int) (fin : Bool) (n : Nat) (hs : GSpec val fin n n ns none)
   (hret : ∀ (h₁ : Heap) (tk : Tok) (gs : GenState) (oG : Obj) (oLf : Obj), (∀ b o, s.heap.get? b = some o → h₁.get? b = some o) → h₁.get? s.heap.objs.size = some oLf → h₁.IsGen (s.heap.objs.size + 1) s.gens.size → h₁.get? (s.heap.objs.size + 1) = some oG → gs.bare = true →
     (∀ (d u : Nat) (gd' : Option (List Code)) (fr : List Env) (s'' : Shared), d + 8 < recursionLimit → u + 100 < cLine → h₀.StaysIn s''.heap → s''.heap.get? row = some (listObj vs c) → s''.heap.get? s.heap.objs.size = some oLf → s''.heap.get? (s.heap.objs.size + 1) = some oG →
        gs.Goes (model PySem.Challenge.rw_xj0005_01.row.prog w) (genAround d u gd' fr) (GenR s.heap.objs.size fin) (GenY h₀ s.heap.objs.size row (listObj vs c) val fin n) n (.send .none) s'') →
     Q (.ref (s.heap.objs.size + 1)) { s with gens := s.gens.push gs, toks := tk, heap := h₁ }) :
   wpAny (model PySem.Challenge.rw_xj0005_01.row.prog w) (ktrTop dp un gd cn cs L a ccd cl outer) (call (.ref 42) [.ref row]) Q E s := by
  k_with_none
  (k_with "eval Name" => (k_here; k_dflt (refine' Mine.nameL ?topF ?topA ?topV ?_; (case topF => k_asm); (case topA => exact rfl); (case topV => exact Mine.nameAt_rfl _ _); k_whole)))
  (k_with "eval Constant int" => (k_here; (try dsimp only); refine Mine.constI ?_))
  revert X; k_fill; intro X
  refine wpAny_call ?_
  refine code_gen F X T rfl (by k_is) (by ktr_room) (BindsTo.of_eq rfl) (locs rfl) (fun h₁ tk n1 n2 F1 keep hsz => ?_)
  obtain ⟨oLf, es, ep, hLf, hLd, hLk, hLff⟩ := F1.ns
  refine hret _ _ _ _ oLf (fun b o e => Heap.get?_push_of_some _ (keep b o e)) (Heap.get?_push_of_some _ hLf) ⟨_, _, _, hsz ▸ Heap.get?_push_size _ rfl, rfl, rfl, rfl⟩ (hsz ▸ Heap.get?_push_size _ rfl) rfl (fun d u gd' fr s'' hd'' hu'' hst hr hl hlt => ⟨rfl, ?_⟩)
  have Fg : Fr h₀ s.heap.objs.size s''.heap _ := ⟨⟨oLf, es, ep, hl, hLd, hLk, hLff⟩, hst, F1.above⟩
  have Fg : Fr h₀ s.heap.objs.size s''.heap (fun y => if y = Str.ofString "grouping" then some (.ref row) else none) := fr_ext Fg fun y => by
    show List.lookup y [(Str.ofString "grouping", Value.ref row)] = _
    exact lookup_one
  have hrow0 := (N _ hrow).2.2
  have hrowL := Nat.ne_of_lt (Heap.lt_size (N _ hrow).1)
  have Ng := rest_news (h₀ := h₀) (h := s''.heap) (L := s.heap.objs.size) (X := [s.heap.objs.size]) (by simp)
  have hrowm : (row, listObj vs c) ∈ restOf h₀ [s.heap.objs.size] s''.heap := mem_restOf.mpr ⟨by simpa using hrowL, hrow0, hr⟩
  have kept : ∀ h' I, h₀.StaysIn h' → News h₀ s.heap.objs.size h' (restOf h₀ [s.heap.objs.size] s''.heap) → Kept s.heap.objs.size I s''.heap h' := fun h' I hs' N' => kept_of (by simp) hst hs' N'
  have hG : (s.heap.objs.size + 1, _) ∈ restOf h₀ [s.heap.objs.size] s''.heap := mem_restOf.mpr ⟨by simp, Heap.get?_none_of_le (Nat.le_succ_of_le F1.above), hlt⟩
  generalize restOf h₀ [s.heap.objs.size] s''.heap = Rs at *
  clear hret hLff hl N F F1 keep hsz
  generalize s.heap.objs.size = Lf at *
  refine seg_func ?_
  refine seg_execs_cons ?_
  refine seg_plain ?_
  show wpAny _ (Around.mk none _ (some (_ :: _)) _ _) _ _ _ _
  k_steps
  rename_i hp hA FA
  rename News _ _ _ _ => NA
  try dsimp only
  refine seg_execs_cons ?_
  refine seg_For (fun x => rfl) ?_
  show wpAny _ (Around.mk none _ (some (_ :: _)) _ _) _ _ _ _
  k_steps
  try dsimp only
  refine wpAny_pyIter_list ⟨_, NA.get hrowm, rfl, _, rfl⟩ ?_
  intro p
  obtain ⟨I, hIe⟩ : ∃ I, I = hp.objs.size := ⟨_, rfl⟩
  try dsimp only
  rw [← hIe]
  refine seg_ind (GInv h₀ Lf I row (listObj vs c) ns) ?_ _ _ _ _ _ hs ?_
  case refine_2 =>
    subst hIe
    refine ⟨0, iterObj row 0, .none, none, Rs, fr_ext (hA.push _) (fun y => ?_), News.push hA NA _, ⟨_, Heap.get?_push_size _ rfl, rfl, rfl⟩, hrowm, fun p hp => Nat.ne_of_lt (Heap.lt_size (NA _ hp).1), fun h' h1 h2 => kept h' _ h1 h2, ⟨_, _, rfl⟩, Heap.lt_size (NA.get hG), rfl, rfl, fun o ho => ?_⟩
    · simp only [mG]
      by_cases e : y = Str.ofString "interval"
      · subst e; rfl
      · simp only [e, if_false]
    · have hne : hp.objs.size ≠ Lf := Nat.ne_of_gt (Nat.lt_of_succ_lt (Heap.lt_size (NA.get hG)))
      exact absurd (Heap.lt_size (kept hp Lf hA.keep NA _ o hne hne ho)) (Nat.lt_irrefl _)
  clear hs kept hIe hG hrowm NA hA Rs hr hlt hrow hd
  rintro n' rem last s₀ s₁ hg ⟨i, oI, lv, iv, Rs, hF, hN, hI, hrm, hne, hkept, ⟨hx, tkx, rfl⟩, hlt, hrem, hlast, hold⟩ ih
  refine seg_forLoop ?_
  cases rem with
  | nil =>
    have hend : vs[i]? = none := by
      have := congrArg List.length hrem
      have hl := hi.length
      simp at this hl
      simp; omega
    refine wpAny_pyNext_list_end rfl hI ⟨_, hN.get (.tail _ hrm), rfl, _, rfl⟩ hend (fun h' he => ?_)
    try dsimp only
    refine seg_leaf (.ok .next) ?_
    refine seg_end (.ok (.ret .none)) ?_
    cases hg with
    | stop _ hfin => exact ⟨rfl, rfl, hfin, h', _, I, rfl, hkept h' (fun b o e => he b o (fun q => Nat.lt_irrefl _ (Nat.lt_of_lt_of_le (Heap.lt_size e) (Nat.le_trans hF.above (Nat.le_of_lt (q ▸ Nat.lt_of_succ_lt hlt))))) (hF.keep b o e)) (fun p hp => ⟨he _ _ (hne p hp) (hN.get (.tail _ hp)), (hN p (.tail _ hp)).2⟩), hlt, hold⟩
  | cons x r =>
    obtain ⟨t, ht⟩ := hi.get i x (by have := congrArg (·[0]?) hrem; simpa using this.symm)
    refine wpAny_pyNext_list_item hI ⟨_, hN.get (.tail _ hrm), rfl, _, rfl⟩ (show vs[i]? = some (.int x t) by simpa using ht) (fun h' hI' hsb => ?_)
    have hF' : Fr h₀ Lf h' (mG lv iv row) := hF.sameNew (Nat.lt_of_succ_lt hlt) hsb
    obtain ⟨oI', hoI', hoR⟩ := id hI'
    have hN' : News h₀ Lf h' ((I, oI') :: Rs) := News.setAt (own := []) hN (fun _ hp => nomatch hp) hne hsb hoI'
    try dsimp only
    k_steps
    try dsimp only
    try clear hI
    rename Fr _ _ _ _ => hF
    rename News _ _ _ _ => hN
    refine seg_execs_cons ?_
    refine seg_If ?_
    show wpAny _ (Around.mk none _ (some (_ :: _)) _ _) _ _ _ _
    k_steps
    all_goals (try dsimp only)
    · rename x = 127 => h127
      subst h127
      refine seg_execs_cons ?_
      refine seg_plain ?_
      show wpAny _ (Around.mk none _ (some (_ :: _)) _ _) _ _ _ _
      k_steps
      rename Fr _ _ _ _ => hF
      rename News _ _ _ _ => hN
      all_goals (try dsimp only)
      refine seg_leaf (.ok (.ret .none)) ?_
      refine seg_end (.ok (.ret .none)) ?_
      cases hg with
      | mark _ _ hfin => exact ⟨rfl, rfl, hfin, _, _, I, rfl, hkept _ hF.keep (fun p hp => hN p (.tail _ hp)), hlt, hold⟩
      | item _ _ _ _ h12 => exact absurd rfl h12
    · rename x ≠ 127 => h127
      refine seg_execs_nil ?_
      try dsimp only
      refine seg_execs_cons ?_
      refine seg_If ?_
      show wpAny _ (Around.mk none _ (some (_ :: _)) _ _) _ _ _ _
      k_steps
      all_goals (try dsimp only)
      all_goals (rename Fr _ _ _ _ => hF; rename News _ _ _ _ => hN)
      · rename x = 0 => h0
        subst h0
        cases hg with
        | item _ _ _ _ _ h12 => exact absurd rfl h12
        | rep x₁ _ n₁ hfin hval =>
          obtain ⟨t₁, rfl⟩ := hlast
          refine seg_execs_cons ?_
          refine seg_If ?_
          show wpAny _ (Around.mk none _ (some (_ :: _)) _ _) _ _ _ _
          k_steps
          all_goals (try dsimp only)
          refine seg_execs_nil ?_
          try dsimp only
          refine seg_execs_cons ?_
          refine seg_While ?_
          intro p2
          refine seg_rep n₁ (GInvW h₀ Lf I row (listObj vs c) x₁ t₁ (some (.int 0 t))) ?_ _ _ _ (Nat.le_refl _) ⟨_, Rs, fr_ext hF (fun y => ?_), hN, hrm, hne, hkept, ⟨_, _, rfl⟩, hold, hoR.1⟩
          case refine_2 =>
            by_cases e : y = Str.ofString "interval"
            · subst e; rfl
            · simp only [mG, e, if_false]
          clear hN hF hrm hne hkept hI' hsb hoI' hold
          rintro n₂ s₀' s₁' hn₂ ⟨oI₂, Rs₂, hF, hN, hrm, hne, hkept, ⟨hx', tkx', rfl⟩, hold, hcl⟩ ihw
          refine seg_whileLoop ?_
          show wpAny _ (Around.mk none _ (some (_ :: _)) _ _) _ _ _ _
          k_steps
          refine seg_execs_cons ?_
          refine seg_Expr_Yield rfl rfl rfl ?_
          show wpAny _ (Around.mk none _ (some (_ :: _)) _ _) _ _ _ _
          k_steps
          rename_i kap hkap
          obtain ⟨oL, _, _, hL, _⟩ := id hF.ns
          refine ⟨⟨t₁, by rw [hval _ hn₂]⟩, _, _, I, _, oL, rfl, hkept _ hF.keep (fun p hp => hN p (.tail _ hp)), hL, hN.get (.head _), hlt, hold, fun hfm s₂ g1 g2 g3 g4 => ?_⟩
          have hn0 : 0 < n₂ := hfm.elim (fun q => absurd (hfin.symm.trans q) (by decide)) id
          obtain ⟨k, rfl⟩ : ∃ k, n₂ = k + 1 := ⟨n₂ - 1, by omega⟩
          refine hkap .none s₂ ?_
          obtain ⟨Rs', hF', hN', hrm', hne', hkept'⟩ := gen_back hF hN hL hrm hne g1 g2 g3 g4
          refine seg_execs_nil ?_
          refine seg_again rfl ?_
          exact ihw k rfl s₂ s₂ ⟨_, Rs', hF', hN', hrm', hne', hkept', ⟨_, _, rfl⟩, fun o ho => by rw [g4] at ho; cases ho; exact hcl, hcl⟩
      · rename x ≠ 0 => h0
        cases hg with
        | rep => exact absurd rfl h0
        | mark => exact absurd rfl h127
        | item _ _ _ n₁ _ _ hv hg' =>
          refine seg_execs_nil ?_
          try dsimp only
          refine seg_execs_cons ?_
          refine seg_Expr_Yield rfl rfl rfl ?_
          show wpAny _ (Around.mk none _ (some (_ :: _)) _ _) _ _ _ _
          k_steps
          rename_i kap hkap
          obtain ⟨oL, _, _, hL, _⟩ := id hF.ns
          refine ⟨⟨t, by rw [hv]⟩, _, _, I, _, oL, rfl, hkept _ hF.keep (fun p hp => hN p (.tail _ hp)), hL, hN.get (.head _), hlt, hold, fun _ s₂ g1 g2 g3 g4 => hkap .none s₂ ?_⟩
          obtain ⟨Rs', hF', hN', hrm', hne', hkept'⟩ := gen_back hF hN hL hrm hne g1 g2 g3 g4
          clear hF hN hkept hrm hne
          try dsimp only
          refine seg_execs_cons ?_
          refine seg_plain ?_
          show wpAny _ (Around.mk none _ (some (_ :: _)) _ _) _ _ _ _
          k_steps
          rename Fr _ _ _ _ => hF
          rename News _ _ _ _ => hN
          refine seg_execs_nil ?_
          refine seg_again rfl ?_
          refine ih n₁ r (some x) _ _ (Nat.lt_succ_self _) hg' ⟨i + 1, _, .int x t, some (.int x t), Rs', fr_ext hF (fun y => ?_), hN, ⟨_, hN.get (.head _), hoR⟩, hrm', hne', hkept', ⟨_, _, rfl⟩, hlt, ?_, ⟨t, rfl⟩, fun o ho => by rw [g4] at ho; cases ho; exact hoR.1⟩
          · by_cases e : y = Str.ofString "interval"
            · subst e; rfl
            · by_cases e2 : y = Str.ofString "last_interval"
              · subst e2; rfl
              · simp only [mG, e, e2, if_false]
          · have := congrArg List.tail hrem
            simpa [List.tail_drop] using this
end
end Mine

theorem Mine.reset_G3 : True := by
  k_with_none
  trivial
end

section
open PySem PySem.W PyProof.Rows
set_option Elab.async false
namespace Mine
theorem and_low (k : Nat) : ∀ (a z : Int), 0 ≤ z → z < 2 ^ k → Builtin.bitAnd (a * 2 ^ k) z = 0 := by
  induction k with
  | zero =>
    intro a z h0 h1
    have : z = 0 := by simp at h1; omega
    subst this
    rw [kbt_halves]
    have e : (0 : Int) / 2 = 0 := rfl
    rw [if_neg (by omega), e]
    have h := @bitAnd_range (a * 2 ^ 0 / 2) 0 (by omega)
    omega
  | succ k ih =>
    intro a z h0 h1
    have e : a * 2 ^ (k + 1) = 2 * (a * 2 ^ k) := by rw [Int.pow_succ]; grind
    rw [kbt_halves, e]
    have e2 : 2 * (a * 2 ^ k) / 2 = a * 2 ^ k := by omega
    rw [e2, ih a (z / 2) (by omega) (by rw [Int.pow_succ] at h1; omega), if_neg (by omega)]
    rfl
theorem or_low (k : Nat) (a z : Int) (h0 : 0 ≤ z) (h1 : z < 2 ^ k) : Builtin.bitOr (a * 2 ^ k) z = a * 2 ^ k + z := by
  rw [bitOr_and, and_low k a z h0 h1]; omega

theorem news_drop2 {h₀ h : Heap} {L : Addr} {a b : Addr × Obj} {news : List (Addr × Obj)} (N : News h₀ L h (a :: b :: news)) : News h₀ L h (a :: news) := fun p hp => by
  rcases List.mem_cons.mp hp with rfl | hp
  · exact N _ (.head _)
  · exact N _ (.tail _ (.tail _ hp))
theorem d3_start1 {b b1 b2 x z : Int} {k : Nat} (hb : b = b1 * 2 ^ k + b2) (hx : x < b) (hz0 : 0 ≤ z) (hz : z < 2 ^ k) :
    (1 * 2 ^ k - 1) * b + (Builtin.bitOr ((x - b1 * 2 ^ k + b1) * 2 ^ k) z - (1 * 2 ^ k - 1) * b2) = x * 2 ^ k + z ∧ Builtin.bitOr ((x - b1 * 2 ^ k + b1) * 2 ^ k) z - (1 * 2 ^ k - 1) * b2 < b := by
  rw [or_low k _ z hz0 hz]
  generalize (2 : Int) ^ k = n2 at *
  have e : (1 * n2 - 1) * b + ((x - b1 * n2 + b1) * n2 + z - (1 * n2 - 1) * b2) = x * n2 + z := by
    subst hb; grind
  refine ⟨e, ?_⟩
  have h : (x + 1) * n2 ≤ b * n2 := Int.mul_le_mul_of_nonneg_right (by omega) (by omega)
  grind
theorem d3_start2 {b b1 b2 x z : Int} {k : Nat} (hb : b = b1 * 2 ^ k + b2) (hx0 : 0 ≤ x) (hz0 : 0 ≤ z) (hz : z < 2 ^ k) (hb1 : 0 < b1) (hb2 : 0 ≤ b2) :
    x.fdiv b1 * b + (Builtin.bitOr (x.fmod b1 * 2 ^ k) z - x.fdiv b1 * b2) = x * 2 ^ k + z ∧ Builtin.bitOr (x.fmod b1 * 2 ^ k) z - x.fdiv b1 * b2 < b := by
  rw [or_low k _ z hz0 hz]
  have hq := Int.mul_fdiv_add_fmod x b1
  have hr := Int.fmod_lt_of_pos x hb1
  have hq0 : 0 ≤ x.fdiv b1 := Int.fdiv_nonneg hx0 (by omega)
  generalize x.fdiv b1 = q at *
  generalize x.fmod b1 = r at *
  generalize (2 : Int) ^ k = n2 at *
  subst hb
  refine ⟨by rw [← hq]; grind, ?_⟩
  have h1 : (r + 1) * n2 ≤ b1 * n2 := Int.mul_le_mul_of_nonneg_right (by omega) (by omega)
  have h2 : 0 ≤ q * b2 := Int.mul_nonneg hq0 hb2
  grind
theorem d3_step {b q r A : Int} (h : q * b + r = A) (_h2 : r < b) (hr : r < 0) : (q - 1) * b + (r + b) = A ∧ r + b < b := by
  refine ⟨?_, by omega⟩
  grind
theorem d3_end {b q r A : Int} (hb : 0 < b) (h1 : q * b + r = A) (h2 : r < b) (hr : ¬ r < 0) : q = A.fdiv b ∧ r = A.fmod b := by
  have := kbt_unique hb (show r + b * q = A by grind) (by omega) h2
  rw [Int.fdiv_eq_ediv_of_nonneg _ (by omega), Int.fmod_eq_emod_of_nonneg _ (by omega)]
  omega
theorem bits_room {a n : Int} (h : a.natAbs < 2 ^ 300) (hn : n ≤ 64) : (Builtin.Int.intBits a : Int) + n ≤ 2 ^ 27 := by
  have := intBits_le_iff.mpr h
  omega
theorem pow_le_64 {n : Int} (hn : n ≤ 64) : (2 : Int) ^ n.toNat ≤ 2 ^ 64 := by
  have h := Nat.pow_le_pow_right (n := 2) (by omega) (show n.toNat ≤ 64 by omega)
  have := kbt_cast n.toNat
  omega

structure DivOk (x z b b1 b2 n q r : Int) : Prop where
  n0 : 0 ≤ n
  n1 : n ≤ 64
  x0 : 0 ≤ x
  xb : x < b
  z0 : 0 ≤ z
  z1 : z < 2 ^ n.toNat
  b10 : 0 < b1
  b1l : b1 < 2 ^ 64
  b20 : 0 ≤ b2
  b2l : b2 < 2 ^ 64
  eb : b = b1 * 2 ^ n.toNat + b2
  eq : q * b + r = x * 2 ^ n.toNat + z
  r0 : 0 ≤ r
  rb : r < b

section
variable (w : World) (mean : ExcName → Option Value) (mg mb : Str → Option Value)
   (dp un : Nat) (gd : Option (List Code)) (cn : Str) (cs : Scope) (a : Addr) (ccd : Value) (cl : List (Str × Addr)) (outer : List Env) (A₀ : Around) (base h₀ : Heap) (L : Addr) (m : Str → Option Value) (s : Shared) (news : List (Addr × Obj)) (Q E : Value → Shared → Prop)
   (B : Below A₀ base outer h₀) (F : Fr h₀ L s.heap m) (X : (Mine.hd.heap_39 w.params).In h₀) (N : News h₀ L s.heap news) (T : Top Mine.hd.view_39 (looseW Mine.hd.view_39 []) mean mg mb h₀) (hk : cs.kind = .function)
include B F X N T hk


set_option maxRecDepth 100000 in
set_option maxHeartbeats 8000000 in
theorem div3n2n_call (hd : dp + 2 < recursionLimit) (hu : un + 16 < cLine)
   (x z b b1 b2 n : Int) (t1 t2 t3 t4 t5 t6 : Tok) (hn0 : 0 ≤ n) (hn1 : n ≤ 64) (hx0 : 0 ≤ x) (hx : x < b) (hz0 : 0 ≤ z) (hz : z < 2 ^ n.toNat)
   (hb1 : 0 < b1) (hb1l : b1 < 2 ^ 64) (hb2 : 0 ≤ b2) (hb2l : b2 < 2 ^ 64) (hb : b = b1 * 2 ^ n.toNat + b2)
   (hret : ∀ (D : Addr) (t1 t2 : Tok) (c : Nat) (h' : Heap) (tk' : Nat), Fr h₀ L h' m → News h₀ L h' ((D, tupObj #[.int ((x * 2 ^ n.toNat + z).fdiv b) t1, .int ((x * 2 ^ n.toNat + z).fmod b) t2] c) :: news) → AllLt D news → Q (.ref D) { s with heap := h', toks := tk' }) :
   wpAny (model PySem.Challenge.rw_xj0005_01.row.prog w) (ktrTop dp un gd cn cs L a ccd cl outer) (call (.ref 28) [.int x t1, .int z t2, .int b t3, .int b1 t4, .int b2 t5, .int n t6]) Q E s := by
  have hb10 : b1 ≠ 0 := by omega
  have hp0 : (0 : Int) < 2 ^ n.toNat := kbt_pos _
  have hp1 := pow_le_64 hn1
  have hbb : 0 < b := by
    have := Int.mul_pos hb1 hp0
    omega
  have hbl : b1 * 2 ^ n.toNat ≤ 2 ^ 64 * 2 ^ 64 := Int.mul_le_mul (by omega) hp1 (by omega) (by omega)
  have hb0 : 0 ≤ b1 * 2 ^ n.toNat := Int.mul_nonneg (by omega) (by omega)
  have hl : b1.natAbs.log2 < 9000 := by
    have : b1.natAbs.log2 < 64 := (Nat.log2_lt (by omega)).mpr (by omega)
    omega
  have hbits : ((Builtin.Int.intBits x : Nat) : Int) - n ≤ 4000 := by
    have : Builtin.Int.intBits x ≤ 300 := intBits_le_iff.mpr (by omega)
    omega
  have hs1 : (1 : Int).natAbs < 2 ^ 300 := by decide
  have hs2 : b1.natAbs < 2 ^ 300 := by omega
  have hs3 : (x - b1 * 2 ^ n.toNat + b1).natAbs < 2 ^ 300 := by omega
  have hs4 : (x.fmod b1).natAbs < 2 ^ 300 := by
    have := Int.fmod_nonneg_of_pos x hb1
    have := Int.fmod_lt_of_pos x hb1
    omega
  clear hbl hb0 hp0 hp1
  k_with_none
  (k_with "storeName" => (k_here; (try dsimp only); k_dflt (first   | ((with_reducible show wpAny _ _ (storeName _ _ (Value.int _ _)) _ _ _); (refine' Mine.storeI ?topF ?topN ?topA ?_; (case topA => exact rfl); (case topF => k_asm); (case topN => k_asm); k_whole); intro _ _ _ _ _)   | ((refine' Mine.storeG ?topF ?topN ?topA ?_; (case topA => exact rfl); (case topF => k_asm); (case topN => k_asm); k_whole); intro _ _ _ _)); (try k_sweep)))
  (k_with "eval Name" => (k_here; k_dflt (refine' Mine.nameL ?topF ?topA ?topV ?_; (case topF => k_asm); (case topA => exact rfl); (case topV => exact Mine.nameAt_rfl _ _); k_whole)))
  (k_with "eval Constant int" => (k_here; (try dsimp only); refine Mine.constI ?_))
  (k_with "call ref" => (k_here; k_dflt (refine' div2n1n_call _ _ _ _ _ _ _ _ _ _ _ _ _ _ _ _ _ _ _ _ _ _ ?k1 ?k2 ?k3 ?k4 ?k5 ?k6 ?kd ?ku _ _ _ _ _ _ ?ky ?kb ?kl ?_; (case k1 => k_asm); (case k2 => k_asm); (case k3 => k_asm); (case k4 => k_asm); (case k5 => k_asm); (case k6 => exact rfl); (case kd => ktr_room); (case ku => ktr_units); (case ky => omega); (case kb => assumption); (case kl => assumption)); intro D' t1' t2' c' h' tk' F' N' l1; (try k_lt l1); (try k_sweep)))
  (k_with "binaryOp LShift int int" => (k_here; k_dflt (refine' PyProof.Rows.lshift_int ?a ?b ?_; (case a => assumption); (case b => exact bits_room (by assumption) (by assumption)); k_whole)))
  revert X; k_fill; intro X
  refine wpAny_call ?_
  k_dflt cell_enter
  rename Fr _ _ _ _ => Fb0
  replace Fb0 := fr_bs Fb0 (l' := [(PySem.Str.ofString "n", .int n t6), (PySem.Str.ofString "b2", .int b2 t5), (PySem.Str.ofString "b1", .int b1 t4), (PySem.Str.ofString "b", .int b t3), (PySem.Str.ofString "a3", .int z t2), (PySem.Str.ofString "a12", .int x t1)]) rfl
  refine gen_tok0 ?_
  intro tk0
  k_with "exec While Compare cons nil" => k_while (fun _ q r => q * b + r = x * 2 ^ n.toNat + z ∧ r < b) (fun _ q r => (-r).toNat) "q" "r"
  k_with "state" => first | exact d3_start1 hb hx hz0 hz | exact d3_start2 hb hx0 hz0 hz hb1 hb2 | exact d3_step (by assumption) (by assumption) (by assumption)
  k_steps
  all_goals (
    obtain ⟨e1, e2⟩ := d3_end hbb (by assumption) (by assumption) (by assumption)
    subst e1 e2
    exact hret _ _ _ _ _ _ (by assumption) (news_drop2 (by assumption)) (And.right (by assumption)))
theorem div3n2n_q (hd : dp + 2 < recursionLimit) (hu : un + 16 < cLine)
   (x z b b1 b2 n q r : Int) (t1 t2 t3 t4 t5 t6 : Tok) (D : DivOk x z b b1 b2 n q r)
   (hret : ∀ (D : Addr) (t1 t2 : Tok) (c : Nat) (h' : Heap) (tk' : Nat), Fr h₀ L h' m → News h₀ L h' ((D, tupObj #[.int q t1, .int r t2] c) :: news) → AllLt D news → Q (.ref D) { s with heap := h', toks := tk' }) :
   wpAny (model PySem.Challenge.rw_xj0005_01.row.prog w) (ktrTop dp un gd cn cs L a ccd cl outer) (call (.ref 28) [.int x t1, .int z t2, .int b t3, .int b1 t4, .int b2 t5, .int n t6]) Q E s := by
  have hb : 0 < b := by have := D.r0; have := D.rb; omega
  obtain ⟨e1, e2⟩ := d3_end hb D.eq D.rb (by have := D.r0; omega)
  subst e1 e2
  exact div3n2n_call w mean mg mb dp un gd cn cs a ccd cl outer A₀ base h₀ L m s news Q E B F X N T hk hd hu x z b b1 b2 n t1 t2 t3 t4 t5 t6 D.n0 D.n1 D.x0 D.xb D.z0 D.z1 D.b10 D.b1l D.b20 D.b2l D.eb hret
end
end Mine

theorem Mine.reset_D2 : True := by
  k_with_none
  trivial
end

section
open PySem PySem.W PyProof.Rows
set_option Elab.async false
namespace Mine
/-- the letters of a number, the highest first -/
noncomputable def apL (n : Nat) : List UInt8 := if h : n = 0 then [] else apL (n / 16) ++ [UInt8.ofNat (65 + n % 16)]
termination_by n
decreasing_by omega

theorem ap_start (x : Int) (hx : x.natAbs < 16 ^ 60) : 0 ≤ (if x < 0 then -x else x) ∧ (if x < 0 then -x else x) < 16 ^ 60 ∧ apL (if x < 0 then -x else x).toNat ++ (#[] : Array UInt8).toList = apL x.natAbs := by
  have e : (if x < 0 then -x else x) = (x.natAbs : Int) := by split <;> omega
  rw [e]
  refine ⟨by omega, by omega, ?_⟩
  simp
theorem pick16 (k : Int) (h0 : 0 ≤ k) (h1 : k < 16) : KBy.picked #[65, 66, 67, 68, 69, 70, 71, 72, 73, 74, 75, 76, 77, 78, 79, 80] (some k) (some (k + 1)) = #[UInt8.ofNat (65 + k.toNat)] := by
  have key : ∀ j : Fin 16, KBy.picked #[65, 66, 67, 68, 69, 70, 71, 72, 73, 74, 75, 76, 77, 78, 79, 80] (some ((j.val : Nat) : Int)) (some (((j.val : Nat) : Int) + 1)) = #[UInt8.ofNat (65 + j.val)] := by decide +kernel
  have := key ⟨k.toNat, by omega⟩
  simp only [Int.toNat_of_nonneg h0] at this
  exact this
theorem ap_step {n : Int} {v : Array UInt8} {l : List UInt8} (h0 : 0 ≤ n) (h1 : n < 16 ^ 60) (h : apL n.toNat ++ v.toList = l) (hn : n ≠ 0) :
    0 ≤ n.fdiv 16 ∧ n.fdiv 16 < 16 ^ 60 ∧ apL (n.fdiv 16).toNat ++ (KBy.picked #[65, 66, 67, 68, 69, 70, 71, 72, 73, 74, 75, 76, 77, 78, 79, 80] (some (n.fmod 16)) (some (n.fmod 16 + 1)) ++ v).toList = l := by
  rw [Int.fdiv_eq_ediv_of_nonneg _ (by omega), Int.fmod_eq_emod_of_nonneg _ (by omega), pick16 _ (by omega) (by omega)]
  refine ⟨by omega, by omega, ?_⟩
  rw [← h, apL.eq_def n.toNat, dif_neg (by omega)]
  have e1 : (n / 16).toNat = n.toNat / 16 := o_div16 h0
  have e2 : (n % 16).toNat = n.toNat % 16 := o_mod16 h0
  rw [e1, e2]
  simp
theorem apL_len (k : Nat) : ∀ n : Nat, n < 16 ^ k → (apL n).length ≤ k := by
  induction k with
  | zero => intro n h; have : n = 0 := by simp at h; omega
            subst this; simp [apL]
  | succ k ih =>
    intro n h
    rw [apL]
    split
    · simp
    · rw [List.length_append, List.length_singleton]
      have := ih (n / 16) (by rw [Nat.pow_succ] at h; omega)
      omega
theorem ap_size {n : Nat} {p v : Array UInt8} {N : Nat} (hN : N < 16 ^ 60) (h : apL n ++ v.toList = apL N) (hp : p.size ≤ 16) : p.size + v.size ≤ 16777216 := by
  have h1 := apL_len 60 N hN
  have h2 := congrArg List.length h
  rw [List.length_append, show v.toList.length = v.size from rfl] at h2
  clear hN
  omega
theorem ap_end {v : Array UInt8} {l : List UInt8} (h : apL (0 : Int).toNat ++ v.toList = l) : v = l.toArray := by
  rw [show (0 : Int).toNat = 0 from rfl, apL, dif_pos rfl, List.nil_append] at h
  rw [← h]
theorem ap_less {n : Int} (h0 : 0 ≤ n) (hn : n ≠ 0) : (n.fdiv 16).toNat < n.toNat := by
  rw [Int.fdiv_eq_ediv_of_nonneg _ (by omega)]; omega
section
variable (w : World) (mean : ExcName → Option Value) (mg mb : Str → Option Value)
   (dp un : Nat) (gd : Option (List Code)) (cn : Str) (cs : Scope) (a : Addr) (ccd : Value) (cl : List (Str × Addr)) (outer : List Env) (A₀ : Around) (base h₀ : Heap) (L : Addr) (m : Str → Option Value) (s : Shared) (news : List (Addr × Obj)) (Q E : Value → Shared → Prop)
   (B : Below A₀ base outer h₀) (F : Fr h₀ L s.heap m) (X : (Mine.hd.heap_39 w.params).In h₀) (N : News h₀ L s.heap news) (T : Top Mine.hd.view_39 (looseW Mine.hd.view_39 []) mean mg mb h₀) (hk : cs.kind = .function)
include B F X N T hk


set_option maxRecDepth 100000 in
set_option maxHeartbeats 8000000 in
theorem int2ap_call (hd : dp + 2 < recursionLimit) (hu : un + 16 < cLine)
   (x : Int) (t1 : Tok) (hx : x.natAbs < 16 ^ 60)
   (hret : ∀ (t1 : Tok) (h' : Heap) (tk' : Nat), Fr h₀ L h' m → News h₀ L h' news → Q (.bytes (apL x.natAbs).toArray t1) { s with heap := h', toks := tk' }) :
   wpAny (model PySem.Challenge.rw_xj0005_01.row.prog w) (ktrTop dp un gd cn cs L a ccd cl outer) (call (.ref 35) [.int x t1]) Q E s := by
  k_with_none
  (k_with "storeName" => (k_here; (try dsimp only); k_dflt (first   | ((with_reducible show wpAny _ _ (storeName _ _ (Value.int _ _)) _ _ _); (refine' Mine.storeI ?topF ?topN ?topA ?_; (case topA => exact rfl); (case topF => k_asm); (case topN => k_asm); k_whole); intro _ _ _ _ _)   | ((refine' Mine.storeG ?topF ?topN ?topA ?_; (case topA => exact rfl); (case topF => k_asm); (case topN => k_asm); k_whole); intro _ _ _ _)); (try k_sweep)))
  (k_with "eval Name" => (k_here; k_dflt (refine' Mine.nameL ?topF ?topA ?topV ?_; (case topF => k_asm); (case topA => exact rfl); (case topV => exact Mine.nameAt_rfl _ _); k_whole)))
  (k_with "eval Constant int" => (k_here; (try dsimp only); refine Mine.constI ?_))
  (k_with "subscriptTail" => (k_here; (with_reducible show wpAny _ _ (subscriptTail _ (Expr.Slice _ _ none _) (Value.bytes _ _) (Value.ref _)) _ _ _); (with_reducible rename Fr _ _ _ _ => F'); (with_reducible rename News _ _ _ _ => N'); (refine KBc.slice_K (s := ⟨_, _, _, _, _⟩) F' N' rfl (by constructor) (by constructor) (by decide) ?_); intro _ _ _ _ _ kbcK; clear kbcK; (try k_sweep)))
  (k_with "binaryOp Add bytes bytes" => (k_here; (with_reducible show wpAny _ _ (binaryOp Operator.Add (Value.bytes _ _) (Value.bytes _ _)) _ _ _); (refine KBy.add_bytes (ap_size (by assumption) (by assumption) (KBc.size_picked_le _ _ _)) ?_); intro _ _))
  (k_with "exec" => (k_here; (with_reducible show wpAny _ _ (exec (Stmt.While _ _ _ _) _) _ _ _); refine hold ?_))
  revert X; k_fill; intro X
  refine wpAny_call ?_
  k_dflt cell_enter
  rename Fr _ _ _ _ => Fb0
  replace Fb0 := fr_bs Fb0 (l' := [(PySem.Str.ofString "num", .int x t1)]) rfl
  refine gen_tok0 ?_
  intro tk0
  k_steps
  refine unhold ?_
  k_with "measure" => exact ap_less (by assumption) (by assumption)
  k_with "state" => first | exact ap_start x hx | exact ap_step (by assumption) (by assumption) (by assumption) (by assumption)
  k_while (fun _ num (val : Array UInt8) => 0 ≤ num ∧ num < 16 ^ 60 ∧ apL num.toNat ++ val.toList = apL x.natAbs) (fun _ num _ => num.toNat) "num" "val"
  k_steps
  (rename apL _ ++ _ = apL _ => he)
  (rename @Eq Int _ 0 => hz)
  rw [hz] at he
  have e := ap_end he
  subst e
  exact hret _ _ _ (by assumption) (by assumption)
theorem int2ap_zero (hd : dp + 2 < recursionLimit) (hu : un + 16 < cLine)
   (x : Int) (t1 : Tok) (hx : x = 0)
   (hret : ∀ (t1 : Tok) (h' : Heap) (tk' : Nat), Fr h₀ L h' m → News h₀ L h' news → Q (.bytes #[] t1) { s with heap := h', toks := tk' }) :
   wpAny (model PySem.Challenge.rw_xj0005_01.row.prog w) (ktrTop dp un gd cn cs L a ccd cl outer) (call (.ref 35) [.int x t1]) Q E s := by
  subst hx
  refine int2ap_call w mean mg mb dp un gd cn cs a ccd cl outer A₀ base h₀ L m s news Q E B F X N T hk hd hu 0 t1 (by decide) ?_
  rw [show (apL (Int.natAbs 0)).toArray = #[] by rw [show Int.natAbs 0 = 0 from rfl, apL, dif_pos rfl]]
  exact hret
end
end Mine

theorem Mine.reset_D3 : True := by
  k_with_none
  trivial
end

section
open PySem PySem.W PyProof.Rows
set_option Elab.async false
namespace Mine

theorem mul_ok {a b : Int} (ha : a.natAbs < 2 ^ 300) (hb : b.natAbs < 2 ^ 300) : IntMulOk a b :=
  IntMulOk.of_le (intBits_le_iff.mpr ha) (intBits_le_iff.mpr hb) (by omega)
theorem four_le {x : Int} (hx1 : x ≤ 24) : (4 : Int) ^ x.toNat ≤ 281474976710656 := by
  have h := Nat.pow_le_pow_right (n := 4) (by omega) (show x.toNat ≤ 24 by omega)
  have : ((4 ^ x.toNat : Nat) : Int) = 4 ^ x.toNat := by rw [Int.natCast_pow]; rfl
  omega
theorem four_ge {x : Int} (hx0 : 2 ≤ x) : 16 ≤ (4 : Int) ^ x.toNat := by
  have h := Nat.pow_le_pow_right (n := 4) (by omega) (show 2 ≤ x.toNat by omega)
  have : ((4 ^ x.toNat : Nat) : Int) = 4 ^ x.toNat := by rw [Int.natCast_pow]; rfl
  omega
theorem two_step {x : Int} (_h : 0 ≤ x) : (2 : Int) ^ (2 * x).toNat = 4 ^ x.toNat := by
  have e : (2 * x).toNat = 2 * x.toNat := by omega
  rw [e, Int.pow_mul]; rfl
theorem stepA {x : Int} (hx0 : 2 ≤ x) (hx1 : x ≤ 24) :
    DivOk ((4 ^ x.toNat - 1) * (((4 : Int) ^ x.toNat - 1).fdiv 2 + 1)) 0 ((((4 : Int) ^ x.toNat - 1).fdiv 2 + 1) * (4 ^ x.toNat - 1 + 1) + (4 ^ x.toNat - 1)) (((4 : Int) ^ x.toNat - 1).fdiv 2 + 1) (4 ^ x.toNat - 1) (2 * x)
      (4 ^ x.toNat - 1 - 2) (4 * (4 ^ x.toNat - 1) + 1) := by
  have hp1 := four_le hx1
  have hp0 := four_ge hx0
  have e2 := two_step (show 0 ≤ x by omega)
  have ep : ∃ p : Int, (4 : Int) ^ x.toNat = 2 * p := ⟨2 * 4 ^ (x.toNat - 1), by
    rw [show x.toNat = (x.toNat - 1) + 1 by omega, Int.pow_succ]; simp; omega⟩
  obtain ⟨p, ep⟩ := ep
  have ef : (2 * p - 1).fdiv 2 + 1 = p := by rw [Int.fdiv_eq_ediv_of_nonneg _ (by omega)]; omega
  rw [ep] at hp0 hp1 e2 ⊢
  rw [ef]
  have h1 : 0 ≤ (2 * p - 1) * p := Int.mul_nonneg (by omega) (by omega)
  refine ⟨by omega, by omega, h1, by grind, by omega, by omega, by omega, by omega, by omega, by omega, by rw [e2]; grind, by rw [e2]; grind, by omega, ?_⟩
  have h3 : 8 * p ≤ p * p := Int.mul_le_mul_of_nonneg_right (by omega) (by omega)
  grind
theorem stepB {x : Int} (hx0 : 2 ≤ x) (hx1 : x ≤ 24) :
    DivOk ((((4 : Int) ^ x.toNat - 1).fdiv 2 + 1) * (4 ^ x.toNat - 1 + 1) + (4 ^ x.toNat - 1) - 1) (4 ^ x.toNat - 1) ((((4 : Int) ^ x.toNat - 1).fdiv 2 + 1) * (4 ^ x.toNat - 1 + 1) + (4 ^ x.toNat - 1)) (((4 : Int) ^ x.toNat - 1).fdiv 2 + 1) (4 ^ x.toNat - 1) (2 * x)
      (4 ^ x.toNat - 1) ((((4 : Int) ^ x.toNat - 1).fdiv 2 + 1) * (4 ^ x.toNat - 1 + 1) + (4 ^ x.toNat - 1) - 1) := by
  have hp1 := four_le hx1
  have hp0 := four_ge hx0
  have e2 := two_step (show 0 ≤ x by omega)
  have ep : ∃ p : Int, (4 : Int) ^ x.toNat = 2 * p := ⟨2 * 4 ^ (x.toNat - 1), by
    rw [show x.toNat = (x.toNat - 1) + 1 by omega, Int.pow_succ]; simp; omega⟩
  obtain ⟨p, ep⟩ := ep
  have ef : (2 * p - 1).fdiv 2 + 1 = p := by rw [Int.fdiv_eq_ediv_of_nonneg _ (by omega)]; omega
  rw [ep] at hp0 hp1 e2 ⊢
  rw [ef]
  have h1 : 0 ≤ p * (2 * p - 1 + 1) := Int.mul_nonneg (by omega) (by omega)
  refine ⟨by omega, by omega, by omega, by omega, by omega, by omega, by omega, by omega, by omega, by omega, by rw [e2]; grind, by rw [e2]; grind, by omega, by omega⟩
section
variable (w : World) (mean : ExcName → Option Value) (mg mb : Str → Option Value)
   (dp un : Nat) (gd : Option (List Code)) (cn : Str) (cs : Scope) (a : Addr) (ccd : Value) (cl : List (Str × Addr)) (outer : List Env) (A₀ : Around) (base h₀ : Heap) (L : Addr) (m : Str → Option Value) (s : Shared) (news : List (Addr × Obj)) (Q E : Value → Shared → Prop)
   (B : Below A₀ base outer h₀) (F : Fr h₀ L s.heap m) (X : (Mine.hd.heap_39 w.params).In h₀) (N : News h₀ L s.heap news) (T : Top Mine.hd.view_39 (looseW Mine.hd.view_39 []) mean mg mb h₀) (hk : cs.kind = .function)
include B F X N T hk

local macro_rules | `(tactic| ke_room) => `(tactic| ktr_units)

set_option maxRecDepth 100000 in
set_option maxHeartbeats 8000000 in
theorem stepped_call (hd : dp + 4 < recursionLimit) (hu : un + 200 < cLine)
   (x : Int) (t1 : Tok) (hx0 : 2 ≤ x) (hx1 : x ≤ 24)
   (hret : ∀ (h' : Heap) (tk' : Nat), Fr h₀ L h' m → News h₀ L h' news → Q (.bool true) { s with heap := h', toks := tk' }) :
   wpAny (model PySem.Challenge.rw_xj0005_01.row.prog w) (ktrTop dp un gd cn cs L a ccd cl outer) (call (.ref 63) [.int x t1]) Q E s := by
  have hp1 := four_le hx1
  have hp0 := four_ge hx0
  have hs1 : ((4 : Int) ^ x.toNat - 1).natAbs < 2 ^ 300 := by omega
  have hs2 : (((4 : Int) ^ x.toNat - 1).fdiv 2 + 1).natAbs < 2 ^ 300 := by rw [Int.fdiv_eq_ediv_of_nonneg _ (by omega)]; omega
  have hs3 : ((4 : Int) ^ x.toNat - 1 + 1).natAbs < 2 ^ 300 := by omega
  have hs4 : (2 : Int).natAbs < 2 ^ 300 := by omega
  have hs5 : (4 : Int).natAbs < 2 ^ 300 := by omega
  have hs6 : (x : Int).natAbs < 2 ^ 300 := by omega
  have hA := stepA hx0 hx1
  have hB := stepB hx0 hx1
  k_with_none
  (k_with "storeName" => (k_here; (try dsimp only); k_dflt (first   | ((with_reducible show wpAny _ _ (storeName _ _ (Value.int _ _)) _ _ _); (refine' Mine.storeI ?topF ?topN ?topA ?_; (case topA => exact rfl); (case topF => k_asm); (case topN => k_asm); k_whole); intro _ _ _ _ _)   | ((refine' Mine.storeG ?topF ?topN ?topA ?_; (case topA => exact rfl); (case topF => k_asm); (case topN => k_asm); k_whole); intro _ _ _ _)); (try k_sweep)))
  (k_with "eval Name" => (k_here; k_dflt (refine' Mine.nameL ?topF ?topA ?topV ?_; (case topF => k_asm); (case topA => exact rfl); (case topV => exact Mine.nameAt_rfl _ _); k_whole)))
  (k_with "eval Constant int" => (k_here; (try dsimp only); refine Mine.constI ?_))
  (k_with "binaryOp Mult int int" => (k_here; k_dflt (refine' PyProof.Rows.mul_int ?_ ?b; (case b => exact mul_ok (by assumption) (by assumption)); k_whole)))
  (k_with "call ref" => (k_here; (with_reducible show wpAny _ _ (call (Value.ref 28) _) _ _ _); k_dflt (refine' div3n2n_q _ _ _ _ _ _ _ _ _ _ _ _ _ _ _ _ _ _ _ _ _ _ ?k1 ?k2 ?k3 ?k4 ?k5 ?k6 ?kd ?ku _ _ _ _ _ _ _ _ _ _ _ _ _ _ ?kD ?_; (case k1 => k_asm); (case k2 => k_asm); (case k3 => k_asm); (case k4 => k_asm); (case k5 => k_asm); (case k6 => exact rfl); (case kd => ktr_room); (case ku => ktr_units); (case kD => assumption)); intro D' t1' t2' c' h' tk' F' N' l1; dsimp only [tupObj] at N'; (try k_lt l1); (try k_sweep)))
  revert X; k_fill; intro X
  refine wpAny_call ?_
  k_dflt cell_enter
  rename Fr _ _ _ _ => Fb0
  replace Fb0 := fr_bs Fb0 (l' := [(PySem.Str.ofString "step", .int x t1)]) rfl
  refine gen_tok0 ?_
  intro tk0
  k_steps
  exact hret _ _ (by assumption) (by refine cb_drop (by assumption) (fun p hp => ?_); repeat (first | exact hp | refine List.Mem.tail _ ?_))
end
end Mine

theorem Mine.reset_D4 : True := by
  k_with_none
  trivial
end

section
open PySem PySem.W PyProof.Rows
set_option Elab.async false
namespace Mine
theorem whole_eq {x : Int} : (16 : Int) ^ x.toNat = 4 ^ x.toNat * 4 ^ x.toNat := by
  rw [← Int.mul_pow]; rfl
noncomputable def DvOk (x : Int) : Prop := x = 2 ∨ x = 3 ∨ x = 4 ∨ x = 6 ∨ x = 8 ∨ x = 12 ∨ x = 24
theorem DvOk.rng {x : Int} (h : DvOk x) : 2 ≤ x ∧ x ≤ 24 := by rcases h with rfl | rfl | rfl | rfl | rfl | rfl | rfl <;> decide
theorem dv_48 {x : Int} (hx2 : DvOk x) : 0 ≤ Int.fdiv 48 x ∧ Int.fdiv 48 x ≤ 24 := by
  rcases hx2 with rfl | rfl | rfl | rfl | rfl | rfl | rfl <;> decide
theorem sixteen_cast (k : Nat) : ((16 ^ k : Nat) : Int) = (16 : Int) ^ k := by rw [Int.natCast_pow]; rfl
theorem sixteen_lt {mk x : Int} (hm0 : 0 ≤ mk) (hm1 : mk < x) : 1 ≤ (16 : Int) ^ mk.toNat ∧ 16 * (16 : Int) ^ mk.toNat ≤ 16 ^ x.toNat := by
  have h1 := Nat.pow_le_pow_right (n := 16) (by omega) (show mk.toNat + 1 ≤ x.toNat by omega)
  have h2 : 0 < 16 ^ mk.toNat := Nat.pow_pos (by omega)
  rw [Nat.pow_succ] at h1
  have e1 := sixteen_cast mk.toNat
  have e2 := sixteen_cast x.toNat
  omega
structure FsOk (x fs c : Int) : Prop where
  f0 : 0 ≤ fs
  f1 : fs < 16 ^ x.toNat - 1
  c0 : c = 0 ∨ c = 1
noncomputable def DInv (x fs c : Int) (k : Nat) (rest number : Int) : Prop := 0 ≤ rest ∧ rest < 16 ^ x.toNat - 1 ∧ (fs + c) * (4 ^ x.toNat) ^ k = number * (16 ^ x.toNat - 1) + rest + c
theorem fs0 {mk x : Int} (hm0 : 0 ≤ mk) (hm1 : mk < x) : FsOk x (16 ^ mk.toNat) 0 := by
  have := sixteen_lt hm0 hm1
  exact ⟨by omega, by omega, .inl rfl⟩
theorem fs1 {mk x : Int} (hm0 : 0 ≤ mk) (hm1 : mk < x) : FsOk x (16 ^ x.toNat - 1 - 16 ^ mk.toNat) 0 := by
  have := sixteen_lt hm0 hm1
  exact ⟨by omega, by omega, .inl rfl⟩
theorem fs2 {mk x : Int} (hm0 : 0 ≤ mk) (hm1 : mk < x) : FsOk x (16 ^ mk.toNat - 1) 1 := by
  have := sixteen_lt hm0 hm1
  exact ⟨by omega, by omega, .inr rfl⟩
theorem DInv.r0 {x fs c rest number : Int} {k : Nat} (h : DInv x fs c k rest number) : 0 ≤ rest := h.1
theorem DInv.r1 {x fs c rest number : Int} {k : Nat} (h : DInv x fs c k rest number) : rest < 16 ^ x.toNat - 1 := h.2.1
theorem dinv_small {x fs c rest number : Int} {k : Nat} (hx2 : DvOk x) (hf : FsOk x fs c) (h : DInv x fs c k rest number) (hk : k < (Int.fdiv 48 x - 0).toNat) : number.natAbs < 2 ^ 300 := by
  obtain ⟨h0, h1, h2⟩ := h
  obtain ⟨f0, f1, f2⟩ := hf
  have hp : ((4 : Int) ^ x.toNat) ^ k ≤ 79228162514264337593543950336 ∧ 0 < ((4 : Int) ^ x.toNat) ^ k := by
    have e : x.toNat * k ≤ 48 := by
      rcases hx2 with rfl | rfl | rfl | rfl | rfl | rfl | rfl <;> simp at hk ⊢ <;> omega
    rw [← Int.pow_mul]
    have h1 := Nat.pow_le_pow_right (n := 4) (by omega) e
    have h2 : 0 < 4 ^ (x.toNat * k) := Nat.pow_pos (by omega)
    have : ((4 ^ (x.toNat * k) : Nat) : Int) = 4 ^ (x.toNat * k) := by rw [Int.natCast_pow]; rfl
    omega
  obtain ⟨hp1, hp0⟩ := hp
  generalize ((4 : Int) ^ x.toNat) ^ k = PP at *
  have hW : 0 < (16 : Int) ^ x.toNat - 1 := by omega
  generalize (16 : Int) ^ x.toNat - 1 = W at *
  have h3 : (fs + c) * PP ≤ W * 79228162514264337593543950336 := Int.mul_le_mul (by omega) hp1 (by omega) (by omega)
  have h4 : 0 ≤ (fs + c) * PP := Int.mul_nonneg (by omega) (by omega)
  have h5 : number ≤ 79228162514264337593543950336 := by
    apply Int.le_of_mul_le_mul_right (a := W) _ hW
    omega
  have h6 : -2 ≤ number := by
    apply Int.le_of_mul_le_mul_right (a := W) _ hW
    omega
  omega
theorem len_range (a : Int) (n : Nat) : (rangeKs a n).length = n := by simp [rangeKs]
theorem sixteen_whole {x : Int} (hx2 : DvOk x) : (16 ^ x.toNat - 1) * ((16 ^ 24 - 1) / (16 ^ x.toNat - 1)) = (16 : Int) ^ 24 - 1 := by
  rcases hx2 with rfl | rfl | rfl | rfl | rfl | rfl | rfl <;> decide
theorem dinv_end {x fs c rest number : Int} (hx2 : DvOk x) (hf : FsOk x fs c) (h : DInv x fs c (rangeKs 0 (Int.fdiv 48 x - 0).toNat).length rest number) :
    rest = fs ∧ number = (fs + c) * ((16 ^ 24 - 1) / (16 ^ x.toNat - 1)) := by
  rw [len_range] at h
  obtain ⟨h0, h1, h2⟩ := h
  obtain ⟨f0, f1, f2⟩ := hf
  have hM := sixteen_whole hx2
  have hP : ((4 : Int) ^ x.toNat) ^ (Int.fdiv 48 x - 0).toNat = 16 ^ 24 - 1 + 1 := by rcases hx2 with rfl | rfl | rfl | rfl | rfl | rfl | rfl <;> decide
  rw [hP, ← hM] at h2
  clear hP hM hx2 f2
  generalize (16 ^ 24 - 1) / ((16 : Int) ^ x.toNat - 1) = M at *
  generalize (16 : Int) ^ x.toNat - 1 = W at *
  have hW : 0 < W := Int.lt_of_le_of_lt h0 h1
  have u1 := kbt_unique hW (show rest + W * number = rest + W * number from rfl) h0 h1
  have u2 := kbt_unique hW (show fs + W * ((fs + c) * M) = rest + W * number by grind) f0 f1
  exact ⟨u1.2.symm.trans u2.2, u1.1.symm.trans u2.1⟩
theorem dinv_start {x fs c : Int} (h : FsOk x fs c) : DInv x fs c ([] : List Int).length fs 0 := ⟨h.f0, h.f1, by simp⟩
theorem divTurn {x rest behind : Int} (hx0 : 2 ≤ x) (hx1 : x ≤ 24) (hb0 : 0 ≤ behind) (hb1 : behind < 4 ^ x.toNat) (h0 : 0 ≤ rest) (h1 : rest < 16 ^ x.toNat - 1) :
    DivOk rest behind (16 ^ x.toNat - 1) (4 ^ x.toNat - 1) (4 ^ x.toNat - 1) (2 * x) ((rest * 4 ^ x.toNat + behind).fdiv (16 ^ x.toNat - 1)) ((rest * 4 ^ x.toNat + behind).fmod (16 ^ x.toNat - 1)) := by
  have hp1 := four_le hx1
  have hp0 := four_ge hx0
  have e2 := two_step (show 0 ≤ x by omega)
  have e3 := Int.mul_fdiv_add_fmod (rest * 4 ^ x.toNat + behind) (16 ^ x.toNat - 1)
  have hw : 0 < (16 : Int) ^ x.toNat - 1 := by omega
  refine ⟨by omega, by omega, h0, h1, hb0, by rw [e2]; omega, by omega, by omega, by omega, by omega, ?_, ?_, Int.fmod_nonneg_of_pos _ hw, Int.fmod_lt_of_pos _ hw⟩
  · rw [e2, whole_eq]; grind
  · rw [e2]; grind
theorem dinv_step {x fs c rest number behind v : Int} {pre : List Int} (hx0 : 2 ≤ x) (hx1 : x ≤ 24) (h : DInv x fs c pre.length rest number) (hb : behind = c * (4 ^ x.toNat - 1)) :
    DInv x fs c (pre ++ [v]).length ((rest * 4 ^ x.toNat + behind).fmod (16 ^ x.toNat - 1)) (number * 4 ^ x.toNat + (rest * 4 ^ x.toNat + behind).fdiv (16 ^ x.toNat - 1)) := by
  obtain ⟨h1, h2, h3⟩ := h
  have e3 := Int.mul_fdiv_add_fmod (rest * 4 ^ x.toNat + behind) (16 ^ x.toNat - 1)
  have hw : 0 < (16 : Int) ^ x.toNat - 1 := by omega
  refine ⟨Int.fmod_nonneg_of_pos _ hw, Int.fmod_lt_of_pos _ hw, ?_⟩
  rw [List.length_append, List.length_singleton, Int.pow_succ]
  generalize (16 : Int) ^ x.toNat - 1 = W at *
  generalize (rest * 4 ^ x.toNat + behind).fdiv W = q at *
  generalize (rest * 4 ^ x.toNat + behind).fmod W = r at *
  generalize ((4 : Int) ^ x.toNat) ^ pre.length = PP at *
  generalize (4 : Int) ^ x.toNat = P at *
  subst hb
  have h4 : (fs + c) * PP * P = (number * W + rest + c) * P := by rw [h3]
  grind

theorem dend0 {x mk rest number : Int} (hx2 : DvOk x) (hf : FsOk x (16 ^ mk.toNat) 0) (h : DInv x (16 ^ mk.toNat) 0 (rangeKs 0 (Int.fdiv 48 x - 0).toNat).length rest number) :
    rest = 16 ^ mk.toNat ∧ number = 16 ^ mk.toNat * ((16 ^ 24 - 1) / (16 ^ x.toNat - 1)) := by
  have := dinv_end hx2 hf h
  rw [Int.add_zero] at this; exact this
theorem dend1 {x mk rest number : Int} (hx2 : DvOk x) (hf : FsOk x (16 ^ x.toNat - 1 - 16 ^ mk.toNat) 0) (h : DInv x (16 ^ x.toNat - 1 - 16 ^ mk.toNat) 0 (rangeKs 0 (Int.fdiv 48 x - 0).toNat).length rest number) :
    rest = 16 ^ x.toNat - 1 - 16 ^ mk.toNat ∧ number = 16 ^ 24 - 1 - 16 ^ mk.toNat * ((16 ^ 24 - 1) / (16 ^ x.toNat - 1)) := by
  have := dinv_end hx2 hf h
  rw [Int.add_zero, Int.sub_mul, sixteen_whole hx2] at this; exact this
theorem dend2 {x mk rest number : Int} (hx2 : DvOk x) (hf : FsOk x (16 ^ mk.toNat - 1) 1) (h : DInv x (16 ^ mk.toNat - 1) 1 (rangeKs 0 (Int.fdiv 48 x - 0).toNat).length rest number) :
    rest = 16 ^ mk.toNat - 1 ∧ number = 16 ^ mk.toNat * ((16 ^ 24 - 1) / (16 ^ x.toNat - 1)) := by
  have := dinv_end hx2 hf h
  rw [Int.sub_add_cancel] at this; exact this
theorem pow24 (t : Int) : (16 : Int) ^ Int.toNat 24 - 1 - (16 ^ 24 - 1 - t) = t := by
  rw [show Int.toNat 24 = 24 from rfl]; omega
theorem div_pick {mk x ma : Int} (hm0 : 0 ≤ mk) (hm1 : mk < x) (hx2 : DvOk x) (hw0 : 0 ≤ ma) (hw1 : ma < 3) : ∃ f1 fs c beh : Int, (ma = 1 → 16 ^ x.toNat - 1 - 16 ^ mk.toNat = f1) ∧ (¬ ma = 1 → 16 ^ mk.toNat = f1) ∧ (ma = 2 → f1 - 1 = fs ∧ 4 ^ x.toNat - 1 = beh) ∧ (¬ ma = 2 → f1 = fs ∧ 0 = beh) ∧
    (0 ≤ beh ∧ beh < 4 ^ x.toNat) ∧ FsOk x fs c ∧ beh = c * (4 ^ x.toNat - 1) ∧ ∀ rest number, DInv x fs c (rangeKs 0 (Int.fdiv 48 x - 0).toNat).length rest number → rest = fs ∧
      (ma = 1 → 16 ^ Int.toNat 24 - 1 - number = 16 ^ mk.toNat * ((16 ^ 24 - 1) / (16 ^ x.toNat - 1))) ∧ (¬ ma = 1 → number = 16 ^ mk.toNat * ((16 ^ 24 - 1) / (16 ^ x.toNat - 1))) := by
  have hp : (0 : Int) < 4 ^ x.toNat := Int.pow_pos (by decide)
  obtain h | h | h : ma = 0 ∨ ma = 1 ∨ ma = 2 := by omega
  · subst h
    exact ⟨_, _, 0, 0, fun e => absurd e (by decide), fun _ => rfl, fun e => absurd e (by decide), fun _ => ⟨rfl, rfl⟩, ⟨Int.le_refl _, hp⟩, fs0 hm0 hm1, (Int.zero_mul _).symm, fun rest number h => ⟨(dend0 hx2 (fs0 hm0 hm1) h).1, fun e => absurd e (by decide), fun _ => (dend0 hx2 (fs0 hm0 hm1) h).2⟩⟩
  · subst h
    exact ⟨_, _, 0, 0, fun _ => rfl, fun e => absurd rfl e, fun e => absurd e (by decide), fun _ => ⟨rfl, rfl⟩, ⟨Int.le_refl _, hp⟩, fs1 hm0 hm1, (Int.zero_mul _).symm, fun rest number h => ⟨(dend1 hx2 (fs1 hm0 hm1) h).1, fun _ => by rw [(dend1 hx2 (fs1 hm0 hm1) h).2, pow24], fun e => absurd rfl e⟩⟩
  · subst h
    exact ⟨_, _, 1, _, fun e => absurd e (by decide), fun _ => rfl, fun _ => ⟨rfl, rfl⟩, fun e => absurd rfl e, ⟨Int.sub_nonneg_of_le hp, Int.sub_lt_self _ (by decide)⟩, fs2 hm0 hm1, (Int.one_mul _).symm, fun rest number h => ⟨(dend2 hx2 (fs2 hm0 hm1) h).1, fun e => absurd e (by decide), fun _ => (dend2 hx2 (fs2 hm0 hm1) h).2⟩⟩
section
variable {M : Model} {A : Around} {E : Value → Shared → Prop} {Q : Flow → Shared → Prop} {s s₀ : Shared} {st : Stmt} {env : Env} {base h : Heap} {Lf : Addr} {m : PySem.Str → Option Value} {news : List (Addr × Obj)} {nm na nb : PySem.Str} {c ca cb : Int} {t ta tb tk : Tok}
noncomputable def JI (base : Heap) (Lf : Addr) (nm : PySem.Str) (m : PySem.Str → Option Value) (news : List (Addr × Obj)) (s₀ : Shared) (c : Int) (s' : Shared) : Prop :=
  ∃ (t : Tok) (h : Heap) (tk : Tok), s' = { s₀ with heap := h, toks := tk } ∧ Fr base Lf h (fun y => if y = nm then some (.int c t) else m y) ∧ News base Lf h news
theorem JI.set {c' : Int} (F : Fr base Lf h (fun y => if y = nm then some (.int c' t) else m y)) (N : News base Lf h news) (e : c' = c) : JI base Lf nm m news s₀ c { s₀ with heap := h, toks := tk } := e ▸ ⟨t, h, tk, rfl, F, N⟩
theorem JI.keep {c' : Int} (F : Fr base Lf h m) (N : News base Lf h news) (hm : NameAt m nm (some (.int c' t))) (e : c' = c) : JI base Lf nm m news s₀ c { s₀ with heap := h, toks := tk } := e ▸ ⟨t, h, tk, rfl, fr_ext F (fun y => by
  by_cases q : y = nm
  · subst q; rw [if_pos rfl]; exact hm
  · rw [if_neg q]), N⟩
theorem if_int (nm : PySem.Str) (c : Int) (_F : Fr base Lf s.heap m) (_N : News base Lf s.heap news) (h1 : wpAny M A (exec st env) (fun f s' => f = .next ∧ JI base Lf nm m news s c s') E s)
    (h2 : ∀ (t : Tok) (h : Heap) (tk : Tok), Fr base Lf h (fun y => if y = nm then some (.int c t) else m y) → News base Lf h news → Q .next { s with heap := h, toks := tk }) : wpAny M A (exec st env) Q E s :=
  wpAny_mono h1 (fun f s' hj => by
    obtain ⟨e, t, h, tk, b, d, g⟩ := hj
    subst e b
    exact h2 t h tk d g) (fun _ _ h => h)
noncomputable def JF (base : Heap) (Lf : Addr) (na nb : PySem.Str) (m : PySem.Str → Option Value) (news : List (Addr × Obj)) (s₀ : Shared) (ca cb : Int) (s' : Shared) : Prop :=
  ∃ (ta tb : Tok) (h : Heap) (tk : Tok), s' = { s₀ with heap := h, toks := tk } ∧ Fr base Lf h (fun y => if y = nb then some (.int cb tb) else if y = na then some (.int ca ta) else m y) ∧ News base Lf h news
theorem JF.set {ca' cb' : Int} (F : Fr base Lf h (fun y => if y = nb then some (.int cb' tb) else if y = na then some (.int ca' ta) else m y)) (N : News base Lf h news) (e : ca' = ca ∧ cb' = cb) : JF base Lf na nb m news s₀ ca cb { s₀ with heap := h, toks := tk } := by
  obtain ⟨rfl, rfl⟩ := e; exact ⟨ta, tb, h, tk, rfl, F, N⟩
theorem JF.keep {ca' cb' : Int} (F : Fr base Lf h m) (N : News base Lf h news) (ha : NameAt m na (some (.int ca' ta))) (hb : NameAt m nb (some (.int cb' tb))) (e : ca' = ca ∧ cb' = cb) : JF base Lf na nb m news s₀ ca cb { s₀ with heap := h, toks := tk } := by
  obtain ⟨rfl, rfl⟩ := e
  exact ⟨ta, tb, h, tk, rfl, fr_ext F (fun y => by
    by_cases q : y = nb
    · subst q; rw [if_pos rfl]; exact hb
    rw [if_neg q]
    by_cases q : y = na
    · subst q; rw [if_pos rfl]; exact ha
    · rw [if_neg q]), N⟩
theorem if_two (na nb : PySem.Str) (ca cb : Int) (_F : Fr base Lf s.heap m) (_N : News base Lf s.heap news) (h1 : wpAny M A (exec st env) (fun f s' => f = .next ∧ JF base Lf na nb m news s ca cb s') E s)
    (h2 : ∀ (ta tb : Tok) (h : Heap) (tk : Tok), Fr base Lf h (fun y => if y = nb then some (.int cb tb) else if y = na then some (.int ca ta) else m y) → News base Lf h news → Q .next { s with heap := h, toks := tk }) : wpAny M A (exec st env) Q E s :=
  wpAny_mono h1 (fun f s' hj => by
    obtain ⟨e, ta, tb, h, tk, b, d, g⟩ := hj
    subst e b
    exact h2 ta tb h tk d g) (fun _ _ h => h)
end
section
variable (w : World) (mean : ExcName → Option Value) (mg mb : Str → Option Value)
   (dp un : Nat) (gd : Option (List Code)) (cn : Str) (cs : Scope) (a : Addr) (ccd : Value) (cl : List (Str × Addr)) (outer : List Env) (A₀ : Around) (base h₀ : Heap) (L : Addr) (m : Str → Option Value) (s : Shared) (news : List (Addr × Obj)) (Q E : Value → Shared → Prop)
   (B : Below A₀ base outer h₀) (F : Fr h₀ L s.heap m) (X : (Mine.hd.heap_39 w.params).In h₀) (N : News h₀ L s.heap news) (T : Top Mine.hd.view_39 (looseW Mine.hd.view_39 []) mean mg mb h₀) (hk : cs.kind = .function)
include B F X N T hk

local macro_rules | `(tactic| ke_room) => `(tactic| ktr_units)

set_option maxRecDepth 100000 in
set_option maxHeartbeats 8000000 in
theorem divided_call (hd : dp + 4 < recursionLimit) (hu : un + 200 < cLine)
   (mk x wy : Int) (t1 t2 t3 : Tok) (hm0 : 0 ≤ mk) (hm1 : mk < x) (hx2 : DvOk x) (hw0 : 0 ≤ wy) (hw1 : wy < 3)
   (hret : ∀ (D : Addr) (t1 : Tok) (c : Nat) (h' : Heap) (tk' : Nat), Fr h₀ L h' m → News h₀ L h' ((D, tupObj #[.int (16 ^ mk.toNat * ((16 ^ 24 - 1) / (16 ^ x.toNat - 1))) t1, .bool true] c) :: news) → AllLt D news → Q (.ref D) { s with heap := h', toks := tk' }) :
   wpAny (model PySem.Challenge.rw_xj0005_01.row.prog w) (ktrTop dp un gd cn cs L a ccd cl outer) (call (.ref 56) [.int mk t1, .int x t2, .int wy t3]) Q E s := by
  obtain ⟨hx0, hx1⟩ := hx2.rng
  have hp1 := four_le hx1
  have hp0 := four_ge hx0
  have h48 := dv_48 hx2
  obtain ⟨f1, fs, c, beh, h1a, h1b, h2a, h2b, ⟨hb0, hb1⟩, hfs, hbc, hend⟩ := div_pick hm0 hm1 hx2 hw0 hw1
  have hs0 : ((4 : Int) ^ x.toNat).natAbs < 2 ^ 300 := by omega
  have hs1 : (2 : Int).natAbs < 2 ^ 300 := by omega
  have hs2 : (x : Int).natAbs < 2 ^ 300 := by omega
  k_with_none
  (k_with "storeName" => (k_here; (try dsimp only); k_dflt (first   | ((with_reducible show wpAny _ _ (storeName _ _ (Value.int _ _)) _ _ _); (refine' Mine.storeI ?topF ?topN ?topA ?_; (case topA => exact rfl); (case topF => k_asm); (case topN => k_asm); k_whole); intro _ _ _ _ _)   | ((refine' Mine.storeG ?topF ?topN ?topA ?_; (case topA => exact rfl); (case topF => k_asm); (case topN => k_asm); k_whole); intro _ _ _ _)); (try k_sweep)))
  (k_with "eval Name" => (k_here; k_dflt (refine' Mine.nameL ?topF ?topA ?topV ?_; (case topF => k_asm); (case topA => exact rfl); (case topV => exact Mine.nameAt_rfl _ _); k_whole)))
  (k_with "eval Constant int" => (k_here; (try dsimp only); refine Mine.constI ?_))
  (k_with "binaryOp Mult int int" => (k_here; k_dflt (refine' PyProof.Rows.mul_int ?_ ?b; (case b => first | exact mul_ok (by assumption) (by assumption) | exact mul_ok (dinv_small (by assumption) (by assumption) (by assumption) (by assumption)) (by assumption)); k_whole)))
  (k_with "call ref" => (k_here; (with_reducible show wpAny _ _ (call (Value.ref 28) _) _ _ _); k_dflt (refine' div3n2n_q _ _ _ _ _ _ _ _ _ _ _ _ _ _ _ _ _ _ _ _ _ _ ?k1 ?k2 ?k3 ?k4 ?k5 ?k6 ?kd ?ku _ _ _ _ _ _ _ _ _ _ _ _ _ _ ?kD ?_; (case k1 => k_asm); (case k2 => k_asm); (case k3 => k_asm); (case k4 => k_asm); (case k5 => k_asm); (case k6 => exact rfl); (case kd => ktr_room); (case ku => ktr_units); (case kD => (refine divTurn (by assumption) (by assumption) ?_ ?_ (DInv.r0 (by assumption)) (DInv.r1 (by assumption)) <;> omega))); intro D' t1' t2' c' h' tk' F' N' l1; dsimp only [tupObj] at N'; (try k_lt l1); (try k_sweep)))
  (k_with "call ref" => (k_here; (with_reducible show wpAny _ _ (call (Value.ref 35) _) _ _ _); refine hold ?_))
  (k_with "pyIter ref" => (k_here; refine hold ?_))
  (k_with "exec If" => (k_here; refine hold ?_))
  revert X; k_fill; intro X
  refine wpAny_call ?_
  k_dflt cell_enter
  rename Fr _ _ _ _ => Fb0
  replace Fb0 := fr_bs Fb0 (l' := [(PySem.Str.ofString "manner", .int wy t3), (PySem.Str.ofString "step", .int x t2), (PySem.Str.ofString "mark", .int mk t1)]) rfl
  refine gen_tok0 ?_
  intro tk0
  k_steps
  refine unhold ?_
  rename Fr _ _ _ _ => F10
  rename News _ _ _ _ => N10
  refine if_int (PySem.Str.ofString "first") f1 F10 N10 ?_ ?_
  · refine wpAny_If ?_
    k_steps
    · exact JI.set (by assumption) (by assumption) (h1a (by assumption))
    · exact JI.keep F10 N10 (nameAt_rfl _ _) (h1b (by assumption))
  intro t11 h11 tk11 F11 N11
  clear F10 N10 h1a h1b
  try dsimp only
  k_steps
  refine unhold ?_
  refine if_two (PySem.Str.ofString "first") (PySem.Str.ofString "behind") fs beh F11 N11 ?_ ?_
  · refine wpAny_If ?_
    k_steps
    · exact JF.set (by assumption) (by assumption) (h2a (by assumption))
    · exact JF.keep F11 N11 (nameAt_rfl _ _) (nameAt_rfl _ _) (h2b (by assumption))
  intro t12 t13 h12 tk12 F12 N12
  clear F11 N11 h2a h2b
  try dsimp only
  k_steps
  refine unhold ?_
  k_with "state" => first | exact dinv_start hfs | exact dinv_step hx0 hx1 (by assumption) hbc
  k_state (fun pre rest number => DInv x fs c pre.length rest number) "rest" "number"
  k_steps
  obtain ⟨e1, e2a, e2b⟩ := hend _ _ (by assumption)
  subst e1
  refine unhold ?_
  rename Fr _ _ _ _ => F14
  rename News _ _ _ _ => N14
  refine if_int (PySem.Str.ofString "number") (16 ^ mk.toNat * ((16 ^ 24 - 1) / (16 ^ x.toNat - 1))) F14 N14 ?_ ?_
  · refine wpAny_If ?_
    k_steps
    · exact JI.set (by assumption) (by assumption) (e2a (by assumption))
    · exact JI.keep F14 N14 (nameAt_rfl _ _) (e2b (by assumption))
  intro t15 h15 tk15 F15 N15
  clear F14 N14 e2a e2b
  try dsimp only
  k_steps
  refine unhold ?_
  k_dflt (refine' int2ap_zero _ _ _ _ _ _ _ _ _ _ _ _ _ _ _ _ _ _ _ _ _ _ ?k1 ?k2 ?k3 ?k4 ?k5 ?k6 ?kd ?ku _ _ ?kz ?_)
  (case k1 => k_asm); (case k2 => k_asm); (case k3 => k_asm); (case k4 => k_asm); (case k5 => k_asm); (case k6 => exact rfl); (case kd => ktr_room); (case ku => ktr_units); (case kz => omega)
  intro t1' h' tk' F' N'
  k_steps
  (rename News _ _ _ _ => zN)
  exact hret _ _ _ _ _ (by assumption) zN (by first | assumption | exact allLt_of (by assumption))
end
end Mine

theorem Mine.reset_D5 : True := by
  k_with_none
  trivial
end

section
open PySem PySem.W PyProof.Rows
set_option Elab.async false
namespace Mine

section
variable (w : World) (mean : ExcName → Option Value) (mg mb : Str → Option Value)
   (dp un : Nat) (gd : Option (List Code)) (cn : Str) (cs : Scope) (a : Addr) (ccd : Value) (cl : List (Str × Addr)) (outer : List Env) (A₀ : Around) (base h₀ : Heap) (L : Addr) (m : Str → Option Value) (s : Shared) (news : List (Addr × Obj)) (Q E : Value → Shared → Prop)
   (B : Below A₀ base outer h₀) (F : Fr h₀ L s.heap m) (X : (Mine.hd.heap_39 w.params).In h₀) (N : News h₀ L s.heap news) (T : Top Mine.hd.view_39 (looseW Mine.hd.view_39 []) mean mg mb h₀) (hk : cs.kind = .function)
include B F X N T hk

set_option maxRecDepth 100000 in
set_option maxHeartbeats 8000000 in
theorem cells_call (hd : dp + 4 < recursionLimit) (hu : un + 200 < cLine)
   (l : Addr) (vs : List Value) (ns : List Int) (hl : base.IsList l vs.toArray) (hi : IntsAre vs ns) (hfit : ns.length < 2 ^ 62)
   (hret : ∀ (D : Addr) (us : List Value) (ks : List Int) (c : Nat) (h' : Heap) (tk' : Nat), IntsAre us ks → ks.length = 6 → Fr h₀ L h' m → News h₀ L h' ((D, { cls := .type "list", data := .seq us.toArray c }) :: news) → AllLt D news → Q (.ref D) { s with heap := h', toks := tk' }) :
   wpAny (model PySem.Challenge.rw_xj0005_01.row.prog w) (ktrTop dp un gd cn cs L a ccd cl outer) (call (.ref 49) [.ref l]) Q E s := by
  k_with_none
  (k_with "storeName" => (k_here; (try dsimp only); k_dflt (first   | ((with_reducible show wpAny _ _ (storeName _ _ (Value.int _ _)) _ _ _); (refine' Mine.storeI ?topF ?topN ?topA ?_; (case topA => exact rfl); (case topF => k_asm); (case topN => k_asm); k_whole); intro _ _ _ _ _)   | ((refine' Mine.storeG ?topF ?topN ?topA ?_; (case topA => exact rfl); (case topF => k_asm); (case topN => k_asm); k_whole); intro _ _ _ _)); (try k_sweep)))
  (k_with "eval Name" => (k_here; k_dflt (refine' Mine.nameL ?topF ?topA ?topV ?_; (case topF => k_asm); (case topA => exact rfl); (case topV => exact Mine.nameAt_rfl _ _); k_whole)))
  (k_with "eval Constant int" => (k_here; (try dsimp only); refine Mine.constI ?_))
  revert X; k_fill; intro X
  refine wpAny_call ?_
  k_dflt cell_enter
  rename Fr _ _ _ _ => Fb0
  replace Fb0 := fr_bs Fb0 (l' := [(PySem.Str.ofString "script", .ref l)]) rfl
  refine gen_tok0 ?_
  intro tk0
  k_with "pyIter ref" => k_state (fun _ (cells : List Int) => cells.length = 6) "cells"
  k_steps
  exact hret _ _ _ _ _ _ (by assumption) (by assumption) (by assumption) (by assumption) (allLt_of (by assumption))
end
end Mine

theorem Mine.reset_D6 : True := by
  k_with_none
  trivial
end

section
open PySem PySem.W PyProof.Rows
set_option Elab.async false
namespace Mine
theorem clip_neg (a b : Nat) : clipAt (a + b) (-(b : Int)) = if b = 0 then 0 else a := by
  have e : -(b : Int) + ((a + b : Nat) : Int) = (a : Int) := by omega
  have e2 : min (a : Int) ((a + b : Nat) : Int) = a := Int.min_eq_left (Int.ofNat_le.mpr (Nat.le_add_right a b))
  by_cases hb : b = 0
  · subst hb; rfl
  · have hn : -(b : Int) < 0 := Int.neg_neg_of_pos (Int.ofNat_lt.mpr (Nat.pos_of_ne_zero hb))
    unfold clipAt
    rw [if_pos hn, e, e2, if_neg hb, Int.max_eq_right (Int.natCast_nonneg a)]
    rfl
theorem picked_lo (rest piece : List UInt8) (h : 0 < piece.length) : KBy.picked (rest ++ piece).toArray (some (-(piece.length : Int))) none = piece.toArray := by
  rw [KBc.picked_eq]
  have h0 : piece.length ≠ 0 := by omega
  simp [clip_neg, h0]
theorem picked_hi (rest piece : List UInt8) (h : 0 < piece.length) : KBy.picked (rest ++ piece).toArray none (some (-(piece.length : Int))) = rest.toArray := by
  rw [KBc.picked_eq]
  have h0 : piece.length ≠ 0 := by omega
  simp [clip_neg, h0]

section
variable {prog : Program} {w : World} {A : Around} {E : Value → Shared → Prop} {s : Shared} {value slice : PySem.Expr} {rest piece : List UInt8} {t ui : Tok} {h₀ : Heap} {L : Addr} {m : PySem.Str → Option Value} {news : List (Addr × Obj)} {Q : Value → Shared → Prop}
theorem cut_lo (hF : Fr h₀ L s.heap m) (hN : News h₀ L s.heap news) (hp : 0 < piece.length) (hz : rest.length + piece.length ≤ 16777216)
    (h : ∀ h' t' k, Fr h₀ L h' m → News h₀ L h' news → Q (.bytes piece.toArray t') { s with heap := h', toks := k })
    (hs : subscripted slice false (.bytes (rest ++ piece).toArray t) (.ref s.heap.objs.size) = operate [.ref s.heap.objs.size, .bytes (rest ++ piece).toArray t] (getItem (.bytes (rest ++ piece).toArray t) (.ref s.heap.objs.size)) := by with_unfolding_all rfl)
    (ht : ∀ r, letTemporaryGo value (.bytes (rest ++ piece).toArray t) r = pure () := by intro _; with_unfolding_all rfl) :
    wpAny (model prog w) A (subscriptTail value slice (.bytes (rest ++ piece).toArray t) (.ref s.heap.objs.size)) Q E { s with heap := s.heap.push { cls := .type "slice", data := .fields #[.int (-(piece.length : Int)) ui, .none, .none] } } := by
  refine KBc.slice_K hF hN rfl (by constructor) (by constructor) (by rw [KBw.ints_length]; simpa using hz) (fun h' t' k h1 h2 _ => ?_) hs ht
  rw [picked_lo rest piece hp]
  exact h h' t' k h1 h2
theorem cut_hi (hF : Fr h₀ L s.heap m) (hN : News h₀ L s.heap news) (hp : 0 < piece.length) (hz : rest.length + piece.length ≤ 16777216)
    (h : ∀ h' t' k, Fr h₀ L h' m → News h₀ L h' news → Q (.bytes rest.toArray t') { s with heap := h', toks := k })
    (hs : subscripted slice false (.bytes (rest ++ piece).toArray t) (.ref s.heap.objs.size) = operate [.ref s.heap.objs.size, .bytes (rest ++ piece).toArray t] (getItem (.bytes (rest ++ piece).toArray t) (.ref s.heap.objs.size)) := by with_unfolding_all rfl)
    (ht : ∀ r, letTemporaryGo value (.bytes (rest ++ piece).toArray t) r = pure () := by intro _; with_unfolding_all rfl) :
    wpAny (model prog w) A (subscriptTail value slice (.bytes (rest ++ piece).toArray t) (.ref s.heap.objs.size)) Q E { s with heap := s.heap.push { cls := .type "slice", data := .fields #[.none, .int (-(piece.length : Int)) ui, .none] } } := by
  refine KBc.slice_K hF hN rfl (by constructor) (by constructor) (by rw [KBw.ints_length]; simpa using hz) (fun h' t' k h1 h2 _ => ?_) hs ht
  rw [picked_hi rest piece hp]
  exact h h' t' k h1 h2
end

inductive BytesAre : List Value → List (List UInt8) → Prop
  | nil : BytesAre [] []
  | cons (p : List UInt8) (t : Tok) {us ps} : BytesAre us ps → BytesAre (.bytes p.toArray t :: us) (p :: ps)
theorem BytesAre.snoc {p : List UInt8} {t : Tok} : ∀ {us ps}, BytesAre us ps → BytesAre (us ++ [.bytes p.toArray t]) (ps ++ [p])
  | _, _, .nil => .cons p t .nil
  | _, _, .cons q u h => .cons q u h.snoc

noncomputable abbrev mC (wd : List UInt8) (tw : Tok) (sv : Option Value) (P row : Addr) : Str → Option Value := fun y => if y = Str.ofString "word" then some (.bytes wd.toArray tw) else if y = Str.ofString "size" then sv else if y = Str.ofString "pieces" then some (.ref P) else if y = Str.ofString "row" then some (.ref row) else none
theorem lookup_two {a b y : Str} {v u : Value} : List.lookup y [(a, v), (b, u)] = if y = a then some v else if y = b then some u else none := by
  rw [List.lookup_cons, lookup_one]
  by_cases e : y = a
  · subst e; simp
  · have : (y == a) = false := beq_false_of_ne e
    rw [this, if_neg e]
theorem bare_set {G : Array GenState} {g : Nat} {x : GenState} (h : AllBare G) (hx : x.bare = true) : AllBare (G.setIfInBounds g x) := fun y hy => by
  obtain ⟨i, hi, rfl⟩ := Array.mem_iff_getElem.mp hy
  rw [Array.getElem_setIfInBounds]
  split
  · exact hx
  · exact h _ (Array.getElem_mem (by simpa using hi))
  · simpa using hi

theorem isGen_at {h h' : Heap} {G : Addr} {g : Nat} {o : Obj} (x : h.IsGen G g) (e : h.get? G = some o) (e' : h'.get? G = some o) : h'.IsGen G g := by
  obtain ⟨o', nm, qn, ho, r⟩ := x
  rw [e] at ho
  cases ho
  exact ⟨_, nm, qn, e', r⟩

/-- what a suspended generator asks of the state at which it is taken up -/
noncomputable def GOk (M : Model) (A : Around) (h₀ : Heap) (Lf row : Addr) (oRow oLf oG : Obj) (val : Nat → Int) (n k : Nat) (LI : List (Addr × Obj)) (gs : GenState) : Prop :=
  ∀ s'' : Shared, h₀.StaysIn s''.heap → s''.heap.get? row = some oRow → s''.heap.get? Lf = some oLf → s''.heap.get? (Lf + 1) = some oG → (∀ p ∈ LI, s''.heap.get? p.1 = some p.2) →
    gs.Goes M A (GenR Lf false) (GenY h₀ Lf row oRow val false n) k (.send .none) s''

inductive CInv (M : Model) (A : Around) (h₀ : Heap) (L Lf P row : Addr) (oRow oG : Obj) (news : List (Addr × Obj)) (val : Nat → Int) (n : Nat) (ps : List (List UInt8)) (s₀ : Shared) (g : Nat) : Nat → Shared → Prop
  | mk {done todo : List (List UInt8)} {us : List Value} {c : Nat} {wd : List UInt8} {tw : Tok} {sv : Option Value} {oLf : Obj} {LI : List (Addr × Obj)} {gs : GenState} {h : Heap} {tk : Tok} {G : Array GenState} (a : ps = done ++ todo) (b : todo ≠ []) (d : wd = todo.reverse.flatten) (e : wd.length ≤ 16777216) (f : BytesAre us done) (g1 : us.length = done.length) (i : AllBare G) (j : G[g]? = some gs) (k : (∀ p ∈ LI, Lf + 1 < p.1)) (F : Fr h₀ L h (mC wd tw sv P row)) (N : News h₀ L h (LI ++ ((Lf + 1, oG) :: (Lf, oLf) :: (P, W.listOf us.toArray c) :: news))) (O : GOk M A h₀ Lf row oRow oLf oG val n (n - done.length) LI gs) : CInv M A h₀ L Lf P row oRow oG news val n ps s₀ g todo.length { s₀ with heap := h, toks := tk, gens := G }
theorem CInv.all {M : Model} {A : Around} {h₀ : Heap} {L Lf P row : Addr} {oRow oG : Obj} {news : List (Addr × Obj)} {val : Nat → Int} {n : Nat} {ps : List (List UInt8)} {s₀ : Shared} {g : Nat} {R : Nat → Shared → Prop} (H : ∀ (done todo : List (List UInt8)) (us : List Value) (c : Nat) (wd : List UInt8) (tw : Tok) (sv : Option Value) (oLf : Obj) (LI : List (Addr × Obj)) (gs : GenState) (h : Heap) (tk : Tok) (G : Array GenState), ps = done ++ todo → todo ≠ [] → wd = todo.reverse.flatten → wd.length ≤ 16777216 → BytesAre us done → us.length = done.length → AllBare G → G[g]? = some gs → (∀ p ∈ LI, Lf + 1 < p.1) → Fr h₀ L h (mC wd tw sv P row) → News h₀ L h (LI ++ ((Lf + 1, oG) :: (Lf, oLf) :: (P, W.listOf us.toArray c) :: news)) → GOk M A h₀ Lf row oRow oLf oG val n (n - done.length) LI gs → R todo.length { s₀ with heap := h, toks := tk, gens := G }) : ∀ k s, CInv M A h₀ L Lf P row oRow oG news val n ps s₀ g k s → R k s
  | _, _, .mk a b d e f g1 i j k F N O => H _ _ _ _ _ _ _ _ _ _ _ _ _ a b d e f g1 i j k F N O



/-- the turn of a for over the generator: what it gives, and what it leaves -/
theorem cut_next {prog : Program} {w : World} {A : Around} {h₀ : Heap} {L Lf row : Addr} {oRow oLf oG : Obj} {m : Str → Option Value} {led : List (Addr × Obj)} {val : Nat → Int} {n j : Nat} {LI : List (Addr × Obj)} {gs : GenState} {s₀ : Shared} {h : Heap} {tk : Tok} {G : Array GenState} {g : Nat}
    {E : Value → Shared → Prop} {Q : Option Value → Shared → Prop} (hh : A.handled = none) (hl : h.NoLimit) (hroom : A.depth < recursionLimit)
    (hgen : h.IsGen (Lf + 1) g) (hgs : G[g]? = some gs) (hb : AllBare G) (hL : L < Lf) (hj : j + 1 < n) (hled : ∀ p ∈ led, p.1 < Lf) (hrow : (row, oRow) ∈ led)
    (F : Fr h₀ L h m) (N : News h₀ L h (LI ++ ((Lf + 1, oG) :: (Lf, oLf) :: led)))
    (hgo : GOk (model prog w) A.in1 h₀ Lf row oRow oLf oG val n (n - j) LI gs)
    (hQ : ∀ t I oI oLf' gs' h' tk' G', Lf + 1 < I → AllBare G' → G'[g]? = some gs' → Fr h₀ L h' m → News h₀ L h' ((I, oI) :: (Lf + 1, oG) :: (Lf, oLf') :: led) →
      GOk (model prog w) A.in1 h₀ Lf row oRow oLf' oG val n (n - (j + 1)) [(I, oI)] gs' → Q (some (.int (val j) t)) { s₀ with heap := h', toks := tk', gens := G' }) :
    wpAny (model prog w) A (pyNext (.ref (Lf + 1))) Q E { s₀ with heap := h, toks := tk, gens := G } := by
  have mem : ∀ p ∈ ((Lf + 1, oG) :: (Lf, oLf) :: led), p ∈ LI ++ ((Lf + 1, oG) :: (Lf, oLf) :: led) := fun p hp => List.mem_append_right _ hp
  have hgo' := hgo (({ s₀ with heap := h, toks := tk, gens := G } : Shared).setGen g .running) F.keep (N.get (mem _ (.tail _ (.tail _ hrow)))) (N.get (mem _ (.tail _ (.head _)))) (N.get (mem _ (.head _)))
    (fun p hp => N.get (List.mem_append_left _ (show (p.1, p.2) ∈ LI from hp)))
  obtain ⟨k, hk⟩ := o_pred (Nat.lt_of_succ_lt hj)
  rw [hk] at hgo'
  refine pyNext_own hh hl hroom hgen hgs hgo' (fun v s₁ gs' hbare hY => ?_) (fun x s₁ hR => ?_)
  · obtain ⟨⟨t, rfl⟩, h', tk', I, oI, oLf', rfl, hkept, hLf', hI', hlt, _, hkap⟩ := hY
    have e1 : n - 1 - (k + 1 - 1) = j := o_e1 (Nat.lt_of_succ_lt hj) hk
    rw [e1]
    have keepB : ∀ b o, b < Lf → h.get? b = some o → h'.get? b = some o := fun b o hb e => hkept b o (Nat.ne_of_lt hb) (Nat.ne_of_lt (Nat.lt_trans hb (Nat.lt_of_succ_lt hlt))) e
    have F' : Fr h₀ L h' m := ⟨let ⟨oL, es, ep, hoL, r⟩ := F.ns; ⟨oL, es, ep, keepB _ _ hL hoL, r⟩, fun b o e => keepB b o (Nat.lt_of_lt_of_le (Heap.lt_size e) (Nat.le_trans F.above (Nat.le_of_lt hL))) (F.keep b o e), F.above⟩
    refine hQ t I oI oLf' gs' h' tk' _ hlt (bare_set (bare_set hb rfl) hbare) (setGen_self (gs := .running) (setGen_self hgs)) F' (fun p hp => ?_) (fun s'' g1 g2 g3 g4 g5 => ?_)
    · have up : h₀.objs.size ≤ Lf := Nat.le_trans F.above (Nat.le_of_lt hL)
      rcases List.mem_cons.mp hp with rfl | hp
      · exact ⟨hI', Nat.ne_of_gt (Nat.lt_trans hL (Nat.lt_of_succ_lt hlt)), Heap.get?_none_of_le (Nat.le_trans up (Nat.le_of_lt (Nat.lt_of_succ_lt hlt)))⟩
      rcases List.mem_cons.mp hp with rfl | hp
      · exact ⟨hkept _ _ (Nat.succ_ne_self _) (Nat.ne_of_lt hlt) (N.get (mem _ (.head _))), (N _ (mem _ (.head _))).2⟩
      rcases List.mem_cons.mp hp with rfl | hp
      · exact ⟨hLf', (N _ (mem _ (.tail _ (.head _)))).2⟩
      · have := N _ (mem _ (.tail _ (.tail _ hp)))
        exact ⟨keepB _ _ (hled p hp) this.1, this.2⟩
    · have hkm : 0 < k := o_pos hj hk
      have := hkap (.inr hkm) s'' g1 g2 g3 (g5 _ (.head _))
      have e2 : n - (j + 1) = k := o_e2 hk
      rw [e2]
      exact this
  · obtain ⟨_, h2, _⟩ := hR
    exact absurd h2 (Nat.succ_ne_zero k)

theorem for_own {prog : Program} {w : World} {A : Around} {E : Value → Shared → Prop} {Q : Flow → Shared → Prop} {s : Shared} {x : Str} {px : Pos} {it : Value} {body : List Stmt} {env : Env} (I : Model → Around → Nat → Shared → Prop) (n : Nat)
    (h : I (model prog w) A.in1 n s)
    (turn : ∀ n s, I (model prog w) A.in1 n s → wpAny (model prog w) A (pyNext it) (fun r s₁ => match r with
      | none => Q .next s₁
      | some v => wpAny (model prog w) A (storeName env x v) (fun _ s₂ => wpAny (model prog w) A (execs body env) (fun f s₃ => match f with
          | .next | .cont => ∃ m, m < n ∧ I (model prog w) A.in1 m s₃
          | .brk => Q .next s₃
          | .ret v => Q (.ret v) s₃) E s₂) E s₁) E s)
    (hE : PassesOwn (model prog w) A env E := by passes_own) :
    codeAny (model prog w) A (.forLoop (.Name x px) it body [] env) (fun r s' => match r with | .ok f => Q f s' | .error e => cameBackBy (model prog w) A env E e s') s := by
  refine codeAny_forLoop (I (model prog w) A.in1) (fun n s hI => ?_) n h (by intro _; rfl)
  refine wpAny_passesOwn hE (wpAny_mono (turn n s hI) (fun r s₁ h₁ => ?_) fun _ _ e => e)
  cases r with
  | none => exact wpAny_pure h₁
  | some v => exact wpAny_assign_Name (wpAny_passesOwn hE (wpAny_mono h₁ (fun _ s₂ h₂ => wpAny_passesOwn hE (wpAny_mono h₂ (fun f s₃ h₃ => by cases f <;> exact h₃) fun _ _ e => e)) fun _ _ e => e))

theorem news_drop3 {h₀ h : Heap} {L : Addr} {a b c : Addr × Obj} {r : List (Addr × Obj)} (N : News h₀ L h (a :: b :: c :: r)) : News h₀ L h r := fun p hp => N p (.tail _ (.tail _ (.tail _ hp)))

theorem for_ownT {prog : Program} {w : World} {A : Around} {E : Value → Shared → Prop} {Q : Flow → Shared → Prop} {s : Shared} {target : Expr} {it : Value} {body : List Stmt} {env : Env} (I : Nat → Shared → Prop) (n : Nat)
    (h : I n s)
    (turn : ∀ n s, I n s → wpAny (model prog w) A (pyNext it) (fun r s₁ => match r with
      | none => Q .next s₁
      | some v => wpAny (model prog w) A (letOwnedTupleGo target it v) (fun _ s₀ => wpAny (model prog w) A (assign target env v) (fun _ s₂ => wpAny (model prog w) A (execs body env) (fun f s₃ => match f with
          | .next | .cont => ∃ m, m < n ∧ I m s₃
          | .brk => Q .next s₃
          | .ret v => Q (.ret v) s₃) E s₂) E s₀) (fun _ _ => False) s₁) E s)
    (hE : PassesOwn (model prog w) A env E := by passes_own) :
    codeAny (model prog w) A (.forLoop target it body [] env) (fun r s' => match r with | .ok f => Q f s' | .error e => cameBackBy (model prog w) A env E e s') s := by
  refine codeAny_loop' rfl I (fun n s hI => ?_) n h
  show wpAny _ _ ((forTurn target it body [] env).onRaise (fun x => do noteFrame x env; theTreesLotGoes x)) _ _ s
  refine wpAny_noted ?_
  simp only [forTurn]
  refine wpAny_bind (wpAny_standAt (wpAny_bind (wpAny_onRaise (wpAny_mono (wpAny_passesOwn hE (turn n s hI)) (fun r s₁ h₁ => ?_) fun _ _ h' => wpAny_standAt h'))))
  cases r with
  | none => exact wpAny_pure (.inr ⟨rfl, codeAny_block (wpAny_pure h₁)⟩)
  | some v =>
    refine wpAny_bind (wpAny_mono h₁ (fun _ s₀ h₀ => ?_) fun _ _ h' => h'.elim)
    refine wpAny_bind (wpAny_mono (wpAny_passesOwn hE h₀) (fun _ s₂ h₂ => wpAny_bind (wpAny_mono (wpAny_passesOwn hE h₂) (fun f s₃ h₃ => ?_) fun _ _ h' => h')) fun _ _ h' => h')
    cases f with
    | next => exact wpAny_pure (.inl ⟨rfl, h₃⟩)
    | cont => exact wpAny_pure (.inl ⟨rfl, h₃⟩)
    | brk => exact wpAny_pure h₃
    | ret v => exact wpAny_pure h₃
end Mine
end

section
open PySem PySem.W PyProof.Rows
set_option Elab.async false
namespace Mine
section
variable (w : World) (mean : ExcName → Option Value) (mg mb : Str → Option Value)
   (dp un : Nat) (gd : Option (List Code)) (cn : Str) (cs : Scope) (a : Addr) (ccd : Value) (cl : List (Str × Addr)) (outer : List Env) (A₀ : Around) (base h₀ : Heap) (L : Addr) (m : Str → Option Value) (s : Shared) (news : List (Addr × Obj)) (Q E : Value → Shared → Prop)
   (B : Below A₀ base outer h₀) (F : Fr h₀ L s.heap m) (X : (Mine.hd.heap_39 w.params).In h₀) (N : News h₀ L s.heap news) (T : Top Mine.hd.view_39 (looseW Mine.hd.view_39 []) mean mg mb h₀) (hk : cs.kind = .function)
include B F X N T hk



set_option maxRecDepth 100000 in
set_option maxHeartbeats 8000000 in
theorem cut_call (hd : dp + 20 < recursionLimit) (hu : un + 200 < cLine)
   (row : Addr) (vs : Array Value) (c : Nat) (ns : List Int) (hi : IntsAre vs.toList ns) (hrow : (row, listObj vs c) ∈ news)
   (val : Nat → Int) (n : Nat) (hs : GSpec val false n n ns none) (hG : AllBare s.gens)
   (wd : List UInt8) (tw : Tok) (ps : List (List UInt8)) (hps : ps ≠ []) (hpn : ps.length < n) (hn : n ≤ 1000) (hwd : wd = ps.reverse.flatten) (hwl : wd.length ≤ 16777216) 
   (hval : ∀ j p, ps[j]? = some p → val j = p.length ∧ 0 < p.length)
   (hret : ∀ (D : Addr) (us : List Value) (c : Nat) (h' : Heap) (tk' : Nat) (G : Array GenState), BytesAre us ps → AllBare G → Fr h₀ L h' m → News h₀ L h' ((D, listObj us.toArray c) :: news) → AllLt D news → Q (.ref D) { s with heap := h', toks := tk', gens := G }) :
   wpAny (model PySem.Challenge.rw_xj0005_01.row.prog w) (ktrTop dp un gd cn cs L a ccd cl outer) (call (.ref 70) [.bytes wd.toArray tw, .ref row]) Q E s := by
  k_with_none
  (k_with "storeName" => (k_here; (try dsimp only); k_dflt (first   | ((with_reducible show wpAny _ _ (storeName _ _ (Value.int _ _)) _ _ _); (refine' Mine.storeI ?topF ?topN ?topA ?_; (case topA => exact rfl); (case topF => k_asm); (case topN => k_asm); k_whole); intro _ _ _ _ _)   | ((refine' Mine.storeG ?topF ?topN ?topA ?_; (case topA => exact rfl); (case topF => k_asm); (case topN => k_asm); k_whole); intro _ _ _ _)); (try k_sweep)))
  (k_with "eval Name" => (k_here; k_dflt (refine' Mine.nameL ?topF ?topA ?topV ?_; (case topF => k_asm); (case topA => exact rfl); (case topV => exact Mine.nameAt_rfl _ _); k_whole)))
  (k_with "eval Constant int" => (k_here; (try dsimp only); refine Mine.constI ?_))
  (k_with "call ref" => (k_here; refine hold ?_))
  (k_with "exec For Name Call cons nil" => (k_here; refine hold ?_))
  (k_with "subscriptTail" => (k_here; (with_reducible show wpAny _ _ (subscriptTail _ (Expr.Slice _ _ none _) (Value.bytes _ _) (Value.ref _)) _ _ _); (with_reducible rename Fr _ _ _ _ => F'); (with_reducible rename News _ _ _ _ => N'); (first | (refine cut_lo (s := ⟨_, _, _, _, _⟩) F' N' (by assumption) (by assumption) ?_) | (refine cut_hi (s := ⟨_, _, _, _, _⟩) F' N' (by assumption) (by assumption) ?_)); intro _ _ _ _ _))
  (k_with "call builtin:list.append" => (k_here; (with_reducible show wpAny _ _ (call (Value.builtin _) [Value.ref _, _]) _ _ _); k_dflt (refine' append_K ?k1 ?k2 ?k3 ?_ ?z; (case k1 => k_asm); (case k2 => k_asm); (case k3 => solve_by_elim); (case z => assumption); k_whole); intro h' F' N'; (try k_sweep)))
  revert X; k_fill; intro X
  refine wpAny_call ?_
  k_dflt cell_enter
  rename Fr _ _ _ _ => Fb0
  replace Fb0 := fr_bs Fb0 (l' := [(PySem.Str.ofString "row", .ref row), (PySem.Str.ofString "word", .bytes wd.toArray tw)]) rfl
  refine gen_tok0 ?_
  intro tk0
  k_steps
  refine unhold ?_
  refine wpAny_For ?_ (by intro _; rfl)
  k_steps
  refine unhold ?_
  k_dflt (refine' intervals_call _ _ _ _ _ _ _ _ _ _ _ _ _ _ _ _ _ _ _ _ ?k2 ?k3 ?k4 ?k5 ?kd row vs c ns hi ?kr val false n hs ?_; (case k2 => k_asm); (case k3 => k_asm); (case k4 => k_asm); (case k5 => k_asm); (case kd => ktr_room); (case kr => exact .tail _ hrow))
  rename_i g' L' h'0 FG B' X' T' P h'1 l1 tk1 h2 F2 N2
  intro h₁ tk gs oG oLf keep hLf hIG hoG hbare hgo
  refine wpAny_pyIter_gen hIG ?_
  dsimp only at keep hLf hIG hoG hgo ⊢
  have hLfL : L' < h2.objs.size := by obtain ⟨o, _, _, e, _⟩ := F2.ns; exact Heap.lt_size e
  have hled : ∀ p ∈ ((P, W.listOf #[] 0) :: news), p.1 < h2.objs.size := fun p hp => Heap.lt_size (N2 p hp).1
  have hab : h₀.objs.size ≤ L := F.above
  have hab' := F2.above
  generalize h2.objs.size = Lf at *
  refine for_own (fun M A => CInv M A g' L' Lf P row (listObj vs c) oG news val n ps s s.gens.size) ps.length ?_ (CInv.all ?_)
  case refine_1 =>
    refine CInv.mk (done := []) (us := []) (c := 0) (wd := wd) (tw := tw) (sv := none) (oLf := oLf) (LI := []) rfl hps hwd hwl .nil rfl (hG.push hbare) (by simp) (fun _ hp => (by cases hp)) (fr_ext (F2.keeps keep) (fun y => ?_)) (fun p hp => ?_) (fun s'' g1 g2 g3 g4 _ => hgo _ _ _ _ s'' ?_ ?_ g1 g2 g3 g4)
    · show (if y = Str.ofString "pieces" then _ else List.lookup y [(Str.ofString "row", _), (Str.ofString "word", _)]) = _
      rw [lookup_two]
      by_cases e1 : y = Str.ofString "word"
      · subst e1; rfl
      by_cases e2 : y = Str.ofString "size"
      · subst e2; rfl
      simp only [mC, e1, e2, if_false]
    · rcases List.mem_cons.mp hp with rfl | hp
      · exact ⟨hoG, Nat.ne_of_gt (Nat.lt_succ_of_lt hLfL), Heap.get?_none_of_le (Nat.le_trans hab' (Nat.le_succ_of_le (Nat.le_of_lt hLfL)))⟩
      rcases List.mem_cons.mp hp with rfl | hp
      · exact ⟨hLf, Nat.ne_of_gt hLfL, Heap.get?_none_of_le (Nat.le_trans hab' (Nat.le_of_lt hLfL))⟩
      · exact N2.keeps keep p hp
    · ktr_room
    · ktr_units
  clear hgo hs hLf keep F2 N2 hwd hwl hps
  intro done todo us c' wd tw sv oLf' LI gs' hx tkx G hps htodo hwd hwl hus husl hGb hGg hLI hF hN hgo
  (show wpAny _ _ _ _ _ _); k_fold
  obtain ⟨p, td, rfl⟩ := List.exists_cons_of_ne_nil htodo
  have hpj := hval done.length p (by rw [hps]; simp)
  have hlen : done.length + 1 < n := by have := congrArg List.length hps; simp at this; omega
  refine cut_next rfl ((T'.keeps hF.keep).nolimit) (by ktr_room) (isGen_at hIG hoG (hN.get (List.mem_append_right _ (.head _)))) hGg hGb hLfL (j := done.length) hlen (led := (P, W.listOf us.toArray c') :: news) (fun q hq => ?_) (.tail _ hrow) hF hN hgo ?_
  · rcases List.mem_cons.mp hq with rfl | hq
    · exact (hled _ (.head _) : P < Lf)
    · exact hled _ (.tail _ hq)
  clear hF hN hgo hGg hGb hLI hIG hoG hbare LI gs' gs hx
  intro t I oI oLf2 gs2 h3 tk3 G3 hlt hGb hGg F3 N3 hgo
  rw [hpj.1]
  have hp0 := hpj.2
  obtain ⟨rest, hrest⟩ : ∃ rest, rest = td.reverse.flatten := ⟨_, rfl⟩
  have hwd2 : wd = rest ++ p := by rw [hwd, hrest]; simp
  subst hwd2
  have hz : rest.length + p.length ≤ 16777216 := by simpa using hwl
  clear hwd
  have hPL : P < Lf := hled _ (.head _)
  have hup : ∀ o', Upd P (W.listOf us.toArray c') o' ((I, oI) :: (Lf + 1, oG) :: (Lf, oLf2) :: (P, W.listOf us.toArray c') :: news) ((I, oI) :: (Lf + 1, oG) :: (Lf, oLf2) :: (P, o') :: news) := fun o' =>
    .tail (Nat.ne_of_gt (Nat.lt_trans hPL (Nat.lt_of_succ_lt hlt))) (.tail (Nat.ne_of_gt (Nat.lt_succ_of_lt hPL)) (.tail (Nat.ne_of_gt hPL) (.head fun q hq => Nat.ne_of_lt (l1 q hq))))
  have husz : us.toArray.size ≤ sizeLine := Nat.le_trans (m := 1000) (by simp; have := congrArg List.length hps; simp at this; omega) (by decide)
  try dsimp only
  k_steps
  · have hr0 : rest = [] := by
      have := (by assumption : (rest.toArray.toList == #[].toList) = true)
      simpa using this
    have htd : td = [] := by
      cases td with
      | nil => rfl
      | cons q td =>
        exfalso
        have := (hval (done.length + 1) q (by rw [hps]; simp)).2
        have h0 := congrArg List.length (hrest.symm.trans hr0)
        simp at h0
        have : q = [] := h0.2
        subst this
        simp at this
    subst htd
    have hus' : ∀ t, BytesAre (us ++ [.bytes p.toArray t]) ps := fun t => by rw [hps]; exact hus.snoc
    rename News h₀ _ _ _ => kN
    simp only [List.push_toArray] at kN
    refine hret P _ _ _ _ G3 (hus' _) hGb (by assumption) (news_drop3 kN) (allLt_of l1)
  · exact Nat.lt_succ_self td.length
  · rename Fr g' _ _ _ => hF
    rename News g' _ _ _ => hN
    simp only [List.push_toArray] at hN
    obtain ⟨tw9, sv9, F9⟩ : ∃ tw sv, Fr g' L' _ (mC rest tw sv P row) := ⟨_, _, fr_ext hF (fun y => by
      by_cases e1 : y = Str.ofString "word"
      · subst e1; rfl
      by_cases e2 : y = Str.ofString "size"
      · subst e2; rfl
      simp only [mC, e1, e2, if_false])⟩
    refine CInv.mk (done := done ++ [p]) (todo := td) (LI := [(I, oI)]) (by rw [hps]; simp) ?_ hrest (by omega) hus.snoc (by simp [husl]) hGb hGg (by simpa using hlt) F9 hN ?_
    · intro h0
      subst h0
      have := (by assumption : (rest.toArray.toList == #[].toList) = false)
      subst hrest
      simp at this
    · simpa using hgo
end
end Mine

theorem Mine.reset_C2 : True := by
  k_with_none
  trivial
end

section
open PySem PySem.W PyProof.Rows
set_option Elab.async false
namespace Mine
section
variable {prog : Program} {w : World} {A : Around} {R : Result → Shared → Prop} {I S : Addr} {n : Nat} {P : Nat → Value → Prop} {J : Nat → Shared → Prop} {JE : Shared → Prop}

/-- what list() asks of what it walks -/
structure LWalk (prog : Program) (w : World) (A : Around) (I S : Addr) (n : Nat) (P : Nat → Value → Prop) (J : Nat → Shared → Prop) (JE : Shared → Prop) : Prop where
  ne : S ≠ I
  gen : ∀ i s, J i s → ∃ g, s.heap.IsGen I g
  frame : ∀ i (s : Shared) h', J i s → (∀ b o, b ≠ S → s.heap.get? b = some o → h'.get? b = some o) → J i { s with heap := h' }
  item : ∀ i (s : Shared) acc c, i < n → J i s → s.heap.get? S = some (PySem.W.listOf acc c) →
    wpAny (model prog w) A (pyNext (.ref I)) (fun r s' => ∃ v, r = some v ∧ P i v ∧ J (i + 1) s' ∧ s'.heap.get? S = some (PySem.W.listOf acc c)) (fun _ _ => False) s
  done : ∀ (s : Shared) acc c, J n s → s.heap.get? S = some (PySem.W.listOf acc c) →
    wpAny (model prog w) A (pyNext (.ref I)) (fun r s' => r = none ∧ JE s' ∧ s'.heap.get? S = some (PySem.W.listOf acc c)) (fun _ _ => False) s

theorem codeAny_ext_loop (W : LWalk prog w A.in1 I S n P J JE) (hn : n ≤ sizeLine) (res : Value) :
    ∀ (k i : Nat) (s : Shared) (acc : Array Value) (c : Nat), n - i = k → i ≤ n → J i s → s.heap.get? S = some (PySem.W.listOf acc c) → ItemsOf P acc i →
    (∀ s' acc' c', JE s' → s'.heap.get? S = some (PySem.W.listOf acc' c') → ItemsOf P acc' n → R (.ok (.ret res)) s') →
    codeAny (model prog w) A (.builtin "list.extend.loop" ⟨[.ref S, .ref I, res], []⟩) R s := by
  intro k
  induction k with
  | zero =>
    intro i s acc c hk hi hst hS hacc hR
    have hin : i = n := by omega
    subst hin
    refine codeAny_builtin F.entry_extend_loop ?_
    rw [Around.under_plainId F.plain_extend_loop _]
    show wpAny _ A.in1 (pyNext (.ref I) >>= _) _ _ s
    refine wpAny_bind (wpAny_mono (W.done s acc c hst hS) (fun r s' h => ?_) fun _ _ h => h.elim)
    obtain ⟨rfl, hJ, hS'⟩ := h
    exact wpAny_pure (hR s' acc c hJ hS' hacc)
  | succ k ih =>
    intro i s acc c hk hi hst hS hacc hR
    have hlt : i < n := by omega
    refine codeAny_builtin F.entry_extend_loop ?_
    rw [Around.under_plainId F.plain_extend_loop _]
    show wpAny _ A.in1 (pyNext (.ref I) >>= _) _ _ s
    refine wpAny_bind (wpAny_mono (W.item i s acc c hlt hst hS) (fun r s' h => ?_) fun _ _ h => h.elim)
    obtain ⟨v, rfl, hP, hJ, hS'⟩ := h
    show wpAny _ A.in1 (updateSeq S (·.push v) >>= _) _ _ _
    refine wpAny_bind ?_
    refine wpAny_updateSeq hS' rfl (wpAny_pure ⟨plainId_quiet F.plain_extend_loop _, ih (i + 1) _ (acc.push v) _ (by omega) hlt (W.frame _ s' _ hJ fun b o hb e => ?_) (Heap.get?_update_self _ hS' rfl) (hacc.push hP) fun s'' acc' c' hJ' hS'' hacc' => ?_⟩)
      (by rw [hacc.1]; omega) (by show (acc.push v).size ≤ sizeLine + 1; rw [Array.size_push, hacc.1]; omega)
    · exact (Heap.get?_update_other _ _ (Ne.symm hb)).trans e
    · exact hR s'' acc' c' hJ' hS'' hacc'

theorem wpAny_ext_gen (W : LWalk prog w A.in1 I S n P J JE) (hn : n ≤ sizeLine) (res : Value) (c₀ : Nat) {s : Shared} (hst : J 0 s) 
    (hS : s.heap.get? S = some (PySem.W.listOf #[] c₀))
    (hR : ∀ s' acc' c', JE s' → s'.heap.get? S = some (PySem.W.listOf acc' c') → ItemsOf P acc' n → R (.ok (.ret res)) s') :
    wpAny (model prog w) A.in1 (Builtin.List.listExtendWith (.ref S) (.ref I) res)
      (fun fin s' => match fin with | .done f => R (.ok f) s' | .again c' => c'.quiet = true ∧ codeAny (model prog w) A c' R s') (fun e s' => R (.error e) s') s := by
  have hSI : S ≠ I := W.ne
  obtain ⟨g, hG⟩ := W.gen 0 s hst
  have hT := hG.typeIs
  unfold Builtin.List.listExtendWith
  refine wpAny_bind (wpAny_typeOf hT ?_)
  have h1 : Builtin.List.listSameRef (.ref S) (.ref I) = false := by simp [Builtin.List.listSameRef, hSI]
  have h2 : (Value.type "generator" == Value.type "list") = false := by decide
  have h3 : (Value.type "generator" == Value.type "tuple") = false := by decide
  simp only [h1, h2, h3, Bool.or_false, Bool.false_eq_true, if_false]
  refine wpAny_bind (wpAny_pyIter_gen hG ?_)
  refine wpAny_bind (wpAny_holding ?_)
  unfold Builtin.List.listLengthHint
  refine wpAny_bind (wpAny_specialOf hT F.gen_no_len ?_)
  show wpAny _ A.in1 (specialOf (Value.ref I) (Str.ofString "__length_hint__") >>= _) _ _ _
  refine wpAny_bind (wpAny_specialOf hT F.gen_no_hint ?_)
  refine wpAny_pure ?_
  show wpAny _ A.in1 (rule "list.extend.makes-room" >>= fun _ => Builtin.List.listTouch (.ref S) >>= fun _ =>
    again (.builtin "list.extend.loop" ⟨[.ref S, .ref I, res], []⟩)) _ _ _
  refine wpAny_bind (wpAny_rule ?_)
  refine wpAny_bind ?_
  show wpAny _ A.in1 (updateSeq S (·.push .none) >>= fun _ => updateSeq S (·.pop)) _ _ _
  refine wpAny_bind (wpAny_updateSeq hS rfl ?_)
  have hS₂ := Heap.get?_update_self (Obj.mapSeq (·.push Value.none)) hS rfl
  refine wpAny_updateSeq (hz := by seq_fits) hS₂ rfl ?_
  have hS₃ := Heap.get?_update_self (Obj.mapSeq (·.pop)) hS₂ rfl
  have oth : ∀ b o, b ≠ S → s.heap.get? b = some o → ((s.heap.update S (Obj.mapSeq (·.push Value.none))).update S (Obj.mapSeq (·.pop))).get? b = some o :=
    fun b o hb e => (Heap.get?_update_other _ _ (Ne.symm hb)).trans ((Heap.get?_update_other _ _ (Ne.symm hb)).trans e)
  exact wpAny_pure ⟨plainId_quiet F.plain_extend_loop _, codeAny_ext_loop W hn _ n 0 _ _ _ rfl (Nat.zero_le _)
    (W.frame 0 s _ hst oth) hS₃ (ItemsOf.nil P) hR⟩

theorem wpAny_list_init_own (W : LWalk prog w A.in1 I S n P J JE) (hn : n ≤ sizeLine) {s : Shared} (hst : J 0 s) 
    (hS : s.heap.get? S = some { cls := .type "list", data := .seq #[] })
    (hR : ∀ s' acc' c', JE s' → s'.heap.get? S = some (PySem.W.listOf acc' c') → ItemsOf P acc' n → R (.ok (.ret .none)) s') :
    wpAny (model prog w) A.in1 (Builtin.«list.__init__» ⟨[.ref S, .ref I], []⟩)
      (fun fin s' => match fin with | .done f => R (.ok f) s' | .again c' => c'.quiet = true ∧ codeAny (model prog w) A c' R s') (fun e s' => R (.error e) s') s := by
  show wpAny _ A.in1 (do let old ← Builtin.List.listItems (.ref S); Builtin.List.listUpdate (.ref S) (fun _ => #[]); letGo old.toList.reverse; Builtin.List.listExtendWith (.ref S) (.ref I) .none) _ _ s
  refine wpAny_bind ?_
  unfold Builtin.List.listItems
  refine wpAny_bind (wpAny_seqItems hS rfl (wpAny_pure ?_))
  show wpAny _ A.in1 (updateSeq S (fun _ => #[]) >>= fun _ => letGo (#[] : Array Value).toList.reverse >>= fun _ => Builtin.List.listExtendWith (.ref S) (.ref I) .none) _ _ s
  refine wpAny_bind (wpAny_updateSeq hS rfl ?_)
  have hS₂ := Heap.get?_update_self (Obj.mapSeq (fun _ => (#[] : Array Value))) hS rfl
  have oth : ∀ b o, b ≠ S → s.heap.get? b = some o → (s.heap.update S (Obj.mapSeq (fun _ => (#[] : Array Value)))).get? b = some o :=
    fun b o hb e => (Heap.get?_update_other _ _ (Ne.symm hb)).trans e
  refine wpAny_bind (wpAny_letGo ?_)
  exact wpAny_ext_gen W hn .none _ (W.frame 0 s _ hst oth) hS₂ hR

theorem call_list_own {E : Value → Shared → Prop} {s : Shared} {Q : Value → Shared → Prop} (W : LWalk prog w A.in1.in1 I s.heap.objs.size n P J JE) (hn : n ≤ sizeLine)
    (hst : J 0 { s with heap := s.heap.push { cls := .type "list", data := .seq #[] } })
    (hQ : ∀ s' acc' c', JE s' → s'.heap.get? s.heap.objs.size = some (PySem.W.listOf acc' c') → ItemsOf P acc' n → Q (.ref s.heap.objs.size) s') :
    wpAny (model prog w) A (call (.type "list") [.ref I]) Q E s := by
  refine callType_codes (Q₁ := fun obj s₁ => obj = .ref s.heap.objs.size ∧ s₁ = { s with heap := s.heap.push { cls := .type "list", data := .seq #[] } }) F.called_list (F.typeCall_list_1 _) F.entry_list_init
    (code_list_new _ ⟨rfl, rfl⟩) fun obj s₁ h₁ => ?_
  obtain ⟨rfl, rfl⟩ := h₁
  have hS : (s.heap.push { cls := .type "list", data := .seq #[] }).get? s.heap.objs.size = some { cls := .type "list", data := .seq #[] } := Heap.get?_push_size _ rfl
  exact ⟨⟨_, hS, rfl⟩, F.args_list_init_2 _ _, wpAny_list_init_own W hn hst hS fun s' acc' c' hJ hS' hacc => ⟨rfl, hQ s' acc' c' hJ hS' hacc⟩⟩
end
end Mine
end

section
open PySem PySem.W PyProof.Rows
set_option Elab.async false
namespace Mine
noncomputable def GOkT (M : Model) (A : Around) (h₀ : Heap) (Lf row : Addr) (oRow oLf oG : Obj) (val : Nat → Int) (n k : Nat) (LI : List (Addr × Obj)) (gs : GenState) : Prop :=
  ∀ s'' : Shared, h₀.StaysIn s''.heap → s''.heap.get? row = some oRow → s''.heap.get? Lf = some oLf → s''.heap.get? (Lf + 1) = some oG → (∀ p ∈ LI, s''.heap.get? p.1 = some p.2) →
    gs.Goes M A (GenR Lf true) (GenY h₀ Lf row oRow val true n) k (.send .none) s''
noncomputable def EJ (M : Model) (A : Around) (h₀ : Heap) (L : Addr) (m : Str → Option Value) (Lf row S : Addr) (oRow oG : Obj) (led : List (Addr × Obj)) (val : Nat → Int) (n : Nat) (s₀ : Shared) (g j : Nat) (s : Shared) : Prop :=
  ∃ oLf LI gs h tk G, s = { s₀ with heap := h, toks := tk, gens := G } ∧ AllBare G ∧ G[g]? = some gs ∧ (∀ p ∈ LI, p.1 ≠ S) ∧
    Fr h₀ L h m ∧ News h₀ L h (LI ++ ((Lf + 1, oG) :: (Lf, oLf) :: led)) ∧ GOkT M A h₀ Lf row oRow oLf oG val n (n - j) LI gs
noncomputable def EJE (h₀ : Heap) (L : Addr) (m : Str → Option Value) (led : List (Addr × Obj)) (s₀ : Shared) (s : Shared) : Prop :=
  ∃ h tk G, s = { s₀ with heap := h, toks := tk, gens := G } ∧ AllBare G ∧ Fr h₀ L h m ∧ News h₀ L h led

theorem end_walk {prog : Program} {w : World} {A : Around} {h₀ : Heap} {L Lf row S : Addr} {oRow oG : Obj} {m : Str → Option Value} {led : List (Addr × Obj)} {val : Nat → Int} {n : Nat} {s₀ : Shared} {g : Nat}
    (hh : A.handled = none) (hl : ∀ h, h₀.StaysIn h → h.NoLimit) (hroom : A.depth < recursionLimit) (hgen : ∀ h : Heap, h.get? (Lf + 1) = some oG → h.IsGen (Lf + 1) g)
    (hL : L < Lf) (hS : Lf + 1 < S) (hled : ∀ p ∈ led, p.1 < Lf) (hrow : (row, oRow) ∈ led) :
    LWalk prog w A (Lf + 1) S n (fun j v => ∃ t, v = .int (val j) t) (EJ (model prog w) A.in1 h₀ L m Lf row S oRow oG led val n s₀ g) (EJE h₀ L m led s₀) where
  ne := Nat.ne_of_gt hS
  gen := fun i s hJ0 => by
    obtain ⟨oLf, LI, gs, h, tk, G, e, _, _, _, _, N, _⟩ := hJ0
    exact ⟨g, by subst e; exact hgen _ (N.get (List.mem_append_right _ (.head _)))⟩
  frame := fun i s h' hJ0 hk => by
    obtain ⟨oLf, LI, gs, h, tk, G, e, hb, hg, hLI, F, N, hgo⟩ := hJ0
    subst e
    refine ⟨oLf, LI, gs, h', tk, G, rfl, hb, hg, hLI, ?_, fun p hp => ?_, hgo⟩
    · have kb : ∀ b o, b < Lf → h.get? b = some o → h'.get? b = some o := fun b o hlt e => hk b o (Nat.ne_of_lt (Nat.lt_trans hlt (Nat.lt_of_succ_lt hS))) e
      exact ⟨let ⟨oL, es, ep, hoL, r⟩ := F.ns; ⟨oL, es, ep, kb _ _ hL hoL, r⟩, fun b o e => kb b o (Nat.lt_of_lt_of_le (Heap.lt_size e) (Nat.le_trans F.above (Nat.le_of_lt hL))) (F.keep b o e), F.above⟩
    · refine ⟨hk _ _ ?_ (N p hp).1, (N p hp).2⟩
      rcases List.mem_append.mp hp with hp | hp
      · exact hLI p hp
      rcases List.mem_cons.mp hp with rfl | hp
      · exact Nat.ne_of_lt hS
      rcases List.mem_cons.mp hp with rfl | hp
      · exact Nat.ne_of_lt (Nat.lt_of_succ_lt hS)
      · exact Nat.ne_of_lt (Nat.lt_trans (hled p hp) (Nat.lt_of_succ_lt hS))
  item := fun j s acc c hj hJ0 hSo => by
    obtain ⟨oLf, LI, gs, h, tk, G, e, hb, hgs, hLI, F, N, hgo⟩ := hJ0
    subst e
    have mem : ∀ p ∈ ((Lf + 1, oG) :: (Lf, oLf) :: led), p ∈ LI ++ ((Lf + 1, oG) :: (Lf, oLf) :: led) := fun p hp => List.mem_append_right _ hp
    have hgo' := hgo (({ s₀ with heap := h, toks := tk, gens := G } : Shared).setGen g .running) F.keep (N.get (mem _ (.tail _ (.tail _ hrow)))) (N.get (mem _ (.tail _ (.head _)))) (N.get (mem _ (.head _)))
      (fun p hp => N.get (List.mem_append_left _ (show (p.1, p.2) ∈ LI from hp)))
    obtain ⟨k, hk⟩ := o_pred hj
    rw [hk] at hgo'
    refine pyNext_own hh (hl _ F.keep) hroom (hgen _ (N.get (mem _ (.head _)))) hgs hgo' (fun v s₁ gs' hbare hY => ?_) (fun x s₁ hR => ?_)
    · obtain ⟨⟨t, rfl⟩, h', tk', I, oI, oLf', rfl, hkept, hLf', hI', hlt, hold, hkap⟩ := hY
      have e1 : n - 1 - (k + 1 - 1) = j := o_e1 hj hk
      rw [e1]
      have hSI : I ≠ S := fun q => by
        have : Value.type "list" = .type "list_iterator" := hold _ (show (({ s₀ with heap := h, toks := tk, gens := G } : Shared).setGen g .running).heap.get? I = some _ from q ▸ hSo)
        exact absurd this (by decide)
      have keepB : ∀ b o, b < Lf → h.get? b = some o → h'.get? b = some o := fun b o hb e => hkept b o (Nat.ne_of_lt hb) (Nat.ne_of_lt (Nat.lt_trans hb (Nat.lt_of_succ_lt hlt))) e
      have F' : Fr h₀ L h' m := ⟨let ⟨oL, es, ep, hoL, r⟩ := F.ns; ⟨oL, es, ep, keepB _ _ hL hoL, r⟩, fun b o e => keepB b o (Nat.lt_of_lt_of_le (Heap.lt_size e) (Nat.le_trans F.above (Nat.le_of_lt hL))) (F.keep b o e), F.above⟩
      refine ⟨_, rfl, ⟨t, rfl⟩, ⟨oLf', [(I, oI)], gs', h', tk', _, rfl, bare_set (bare_set hb rfl) hbare, setGen_self (gs := .running) (setGen_self hgs), by simpa using hSI, F', fun p hp => ?_, fun s'' g1 g2 g3 g4 g5 => ?_⟩, hkept _ _ (Nat.ne_of_gt (Nat.lt_of_succ_lt hS)) (Ne.symm hSI) hSo⟩
      · have up : h₀.objs.size ≤ Lf := Nat.le_trans F.above (Nat.le_of_lt hL)
        rcases List.mem_cons.mp hp with rfl | hp
        · exact ⟨hI', Nat.ne_of_gt (Nat.lt_trans hL (Nat.lt_of_succ_lt hlt)), Heap.get?_none_of_le (Nat.le_trans up (Nat.le_of_lt (Nat.lt_of_succ_lt hlt)))⟩
        rcases List.mem_cons.mp hp with rfl | hp
        · exact ⟨hkept _ _ (Nat.succ_ne_self _) (Nat.ne_of_lt hlt) (N.get (mem _ (.head _))), (N _ (mem _ (.head _))).2⟩
        rcases List.mem_cons.mp hp with rfl | hp
        · exact ⟨hLf', (N _ (mem _ (.tail _ (.head _)))).2⟩
        · have := N _ (mem _ (.tail _ (.tail _ hp)))
          exact ⟨keepB _ _ (hled p hp) this.1, this.2⟩
      · have := hkap (.inl rfl) s'' g1 g2 g3 (g5 _ (.head _))
        have e2 : n - (j + 1) = k := o_e2 hk
        rw [e2]
        exact this
    · obtain ⟨_, h2, _⟩ := hR
      exact absurd h2 (Nat.succ_ne_zero k)
  done := fun s acc c hJ0 hSo => by
    obtain ⟨oLf, LI, gs, h, tk, G, e, hb, hgs, hLI, F, N, hgo⟩ := hJ0
    subst e
    have mem : ∀ p ∈ ((Lf + 1, oG) :: (Lf, oLf) :: led), p ∈ LI ++ ((Lf + 1, oG) :: (Lf, oLf) :: led) := fun p hp => List.mem_append_right _ hp
    have hgo' := hgo (({ s₀ with heap := h, toks := tk, gens := G } : Shared).setGen g .running) F.keep (N.get (mem _ (.tail _ (.tail _ hrow)))) (N.get (mem _ (.tail _ (.head _)))) (N.get (mem _ (.head _)))
      (fun p hp => N.get (List.mem_append_left _ (show (p.1, p.2) ∈ LI from hp)))
    rw [Nat.sub_self] at hgo'
    refine pyNext_own hh (hl _ F.keep) hroom (hgen _ (N.get (mem _ (.head _)))) hgs hgo' (fun v s₁ gs' hbare hY => ?_) (fun x s₁ hR => ?_)
    · obtain ⟨_, h', tk', I, oI, oLf', rfl, hkept, hLf', hI', hlt, hold, hkap⟩ := hY
      exact (hkap (.inl rfl) { s₀ with heap := h' } (fun b o e => hkept b o (Nat.ne_of_lt (Nat.lt_of_lt_of_le (Heap.lt_size e) (Nat.le_trans F.above (Nat.le_of_lt hL)))) (Nat.ne_of_lt (Nat.lt_of_lt_of_le (Heap.lt_size e) (Nat.le_trans F.above (Nat.le_trans (Nat.le_of_lt hL) (Nat.le_of_lt (Nat.lt_of_succ_lt hlt)))))) (F.keep b o e))
        (hkept _ _ (Nat.ne_of_lt (hled _ hrow)) (Nat.ne_of_lt (Nat.lt_trans (hled _ hrow) (Nat.lt_of_succ_lt hlt))) (N.get (mem _ (.tail _ (.tail _ hrow))))) hLf' hI').elim
    · obtain ⟨rfl, _, _, h', tk', I, rfl, hkept, hlt, hold⟩ := hR
      have hSI : I ≠ S := fun q => by
        have : Value.type "list" = .type "list_iterator" := hold _ (show (({ s₀ with heap := h, toks := tk, gens := G } : Shared).setGen g .running).heap.get? I = some _ from q ▸ hSo)
        exact absurd this (by decide)
      refine ⟨rfl, fun h2 hk2 => ⟨rfl, ⟨h2, tk', _, rfl, bare_set (bare_set hb rfl) rfl, ?_, fun p hp => ?_⟩, hk2 _ _ (hkept _ _ (Nat.ne_of_gt (Nat.lt_of_succ_lt hS)) (Ne.symm hSI) hSo)⟩⟩
      · have keepB : ∀ b o, b < Lf → h.get? b = some o → h2.get? b = some o := fun b o hb e => hk2 b o (hkept b o (Nat.ne_of_lt hb) (Nat.ne_of_lt (Nat.lt_trans hb (Nat.lt_of_succ_lt hlt))) e)
        exact ⟨let ⟨oL, es, ep, hoL, r⟩ := F.ns; ⟨oL, es, ep, keepB _ _ hL hoL, r⟩, fun b o e => keepB b o (Nat.lt_of_lt_of_le (Heap.lt_size e) (Nat.le_trans F.above (Nat.le_of_lt hL))) (F.keep b o e), F.above⟩
      · have := N _ (mem _ (.tail _ (.tail _ hp)))
        exact ⟨hk2 _ _ (hkept _ _ (Nat.ne_of_lt (hled p hp)) (Nat.ne_of_lt (Nat.lt_trans (hled p hp) (Nat.lt_of_succ_lt hlt))) this.1), this.2⟩
end Mine
end

section
open PySem PySem.W PyProof.Rows
set_option Elab.async false
namespace Mine
noncomputable def two (a b : Int) : Nat → Int := fun j => if j = 0 then a else b
theorem len_two {α : Type} (l : List α) (h : l.length = 2) : ∃ v u, l = [v, u] := by
  cases l with
  | nil => cases h
  | cons a l => cases l with
    | nil => cases h
    | cons b l => cases l with
      | nil => exact ⟨a, b, rfl⟩
      | cons c l => cases h
theorem list_K {prog : Program} {w : World} {A : Around} {E : Value → Shared → Prop} {s : Shared} {h₀ : Heap} {L Lf row : Addr} {oRow oG oLf : Obj} {m : Str → Option Value} {led : List (Addr × Obj)} {a b : Int} {g : Nat} {gs : GenState} {Q : Value → Shared → Prop}
    (F : Fr h₀ L s.heap m) (N : News h₀ L s.heap ((Lf + 1, oG) :: (Lf, oLf) :: led)) (hl : h₀.NoLimit) (hb : AllBare s.gens) (hgs : s.gens[g]? = some gs) (hgen : ∀ h : Heap, h.get? (Lf + 1) = some oG → h.IsGen (Lf + 1) g)
    (hL : L < Lf) (hled : ∀ p ∈ led, p.1 < Lf) (hrow : (row, oRow) ∈ led) (hgo : GOkT (model prog w) A.in1.in1.in1 h₀ Lf row oRow oLf oG (two a b) 2 2 [] gs) (hh : A.handled = none) (hroom : A.depth < recursionLimit)
    (h : ∀ S t u c h' tk G, AllBare G → Fr h₀ L h' m → News h₀ L h' ((S, PySem.W.listOf #[.int a t, .int b u] c) :: led) → (∀ p ∈ led, p.1 < S) → Q (.ref S) { s with heap := h', toks := tk, gens := G }) :
    wpAny (model prog w) A (call (.type "list") [.ref (Lf + 1)]) Q E s := by
  have hS : Lf + 1 < s.heap.objs.size := Heap.lt_size (N.get (.head _))
  refine call_list_own (end_walk (m := m) (s₀ := s) (oRow := oRow) (row := row) (g := g) hh (fun h hs => hl.keeps hs) hroom hgen hL hS hled hrow) (by decide) ⟨oLf, [], gs, _, s.toks, s.gens, rfl, hb, hgs, (fun _ hp => nomatch hp), F.push _, N.keeps fun b o e => Heap.get?_push_of_some _ e, hgo⟩ (fun s' acc' c' hJ hS' hacc => ?_)
  obtain ⟨h', tk, G, rfl, hb', F', N'⟩ := hJ
  obtain ⟨hsz, hit⟩ := hacc
  have h2 : ∃ v u, acc' = #[v, u] := by
    obtain ⟨v, u, e⟩ := len_two acc'.toList (show acc'.toList.length = 2 from hsz)
    exact ⟨v, u, Array.toList_inj.mp e⟩
  obtain ⟨v, u, rfl⟩ := h2
  obtain ⟨t, rfl⟩ := hit 0 v rfl
  obtain ⟨t', rfl⟩ := hit 1 u rfl
  refine h _ t t' c' h' tk G hb' F' (fun p hp => ?_) (fun p hp => Nat.lt_trans (hled p hp) (Nat.lt_of_succ_lt hS))
  rcases List.mem_cons.mp hp with rfl | hp
  · have := Nat.le_trans F.above (Nat.le_of_lt (Nat.lt_trans hL (Nat.lt_of_succ_lt hS)))
    exact ⟨hS', Nat.ne_of_gt (Nat.lt_trans hL (Nat.lt_of_succ_lt hS)), Heap.get?_none_of_le this⟩
  · exact N' p hp

section
variable (w : World) (mean : ExcName → Option Value) (mg mb : Str → Option Value)
   (dp un : Nat) (gd : Option (List Code)) (cn : Str) (cs : Scope) (a : Addr) (ccd : Value) (cl : List (Str × Addr)) (outer : List Env) (A₀ : Around) (base h₀ : Heap) (L : Addr) (m : Str → Option Value) (s : Shared) (news : List (Addr × Obj)) (Q E : Value → Shared → Prop)
   (B : Below A₀ base outer h₀) (F : Fr h₀ L s.heap m) (X : (Mine.hd.heap_39 w.params).In h₀) (N : News h₀ L s.heap news) (T : Top Mine.hd.view_39 (looseW Mine.hd.view_39 []) mean mg mb h₀) (hk : cs.kind = .function)
include B F X N T hk

omit B hk in
theorem intervals_T (hd : dp + 4 < recursionLimit)
   (row : Addr) (vs : Array Value) (c : Nat) (ns : List Int) (hi : IntsAre vs.toList ns) (hrow : (row, listObj vs c) ∈ news) (p q : Int)
   (hs : GSpec (two p q) true 2 2 ns none)
   (hret : ∀ (Lf : Addr) (oLf oG : Obj) (gs : GenState) (h' : Heap) (tk : Tok), L < Lf → (∀ p ∈ news, p.1 < Lf) → Fr h₀ L h' m → News h₀ L h' ((Lf + 1, oG) :: (Lf, oLf) :: news) → gs.bare = true → (∀ h : Heap, h.get? (Lf + 1) = some oG → h.IsGen (Lf + 1) s.gens.size) →
     (∀ d u gd' fr, d + 8 < recursionLimit → u + 100 < cLine → GOkT (model PySem.Challenge.rw_xj0005_01.row.prog w) (genAround d u gd' fr) h₀ Lf row (listObj vs c) oLf oG (two p q) 2 2 [] gs) →
     Q (.ref (Lf + 1)) { s with gens := s.gens.push gs, toks := tk, heap := h' }) :
   wpAny (model PySem.Challenge.rw_xj0005_01.row.prog w) (ktrTop dp un gd cn cs L a ccd cl outer) (call (.ref 42) [.ref row]) Q E s := by
  refine intervals_call w mean mg mb dp un gd cn cs a ccd cl outer h₀ L m s news Q E F X N T hd row vs c ns hi hrow (two p q) true 2 hs ?_
  intro h₁ tk gs oG oLf keep hLf hIG hoG hbare hgo
  have hLL : L < s.heap.objs.size := by obtain ⟨o, _, _, e, _⟩ := F.ns; exact Heap.lt_size e
  refine hret _ oLf oG gs h₁ tk hLL (fun p hp => Heap.lt_size (N p hp).1) (F.keeps keep) (fun p hp => ?_) hbare (fun h e => isGen_at hIG hoG e) (fun d u gd' fr h1 h2 s'' g1 g2 g3 g4 _ => hgo d u gd' fr s'' h1 h2 g1 g2 g3 g4)
  rcases List.mem_cons.mp hp with rfl | hp
  · exact ⟨hoG, Nat.ne_of_gt (Nat.lt_succ_of_lt hLL), Heap.get?_none_of_le (Nat.le_trans F.above (Nat.le_succ_of_le (Nat.le_of_lt hLL)))⟩
  rcases List.mem_cons.mp hp with rfl | hp
  · exact ⟨hLf, Nat.ne_of_gt hLL, Heap.get?_none_of_le (Nat.le_trans F.above (Nat.le_of_lt hLL))⟩
  · exact N.keeps keep p hp
end
end Mine
end

section
open PySem PySem.W PyProof.Rows PySem.Calls
set_option Elab.async false
namespace Mine
theorem seg_raise {M : Model} {A : Around} {R : GenEnd} {Y : Protocol} {n : Nat} {s₀ s' : Shared} {base g h : Heap} {outer : List Env} {L a e : Addr} {m : Str → Option Value} {name : Str} {scope : Scope} {cd cls : Value} {vs : List Value} {news : List (Addr × Obj)}
    {cFor cFun : Code} {K₀ : Flow → Sem Fin} {gdf : Bool → Bool} {lv : List Value → List Value} {p : Pos} {b : Bool} {lvs : List Value}
    (K : Below A base outer g) (hx : Heap.MadeExcOf h s'.heap e cls vs) (F : Fr g L h m) (N : News g L h news) (hk : scope.kind = .function)
    (h1 : ∀ k, A.over cFor [.ret k none b lvs cFun p []] = A.deeper (envOf name scope L a cd)) (h2 : A.over cFun [] = A.deeper (envOf name scope L a cd))
    (hend : ∀ h' t, RaisedK base outer e cls t vs news h' → g.UpToSlots h' → R n s₀ (.error (.ref e)) { s' with heap := h' }) :
    Seg M A R Y n s₀ cFor ((do noteFrame (.ref e) (envOf name scope L a cd); theTreesLotGoes (.ref e) : Sem Unit).wrap (fun _ => .raise (.ref e)) .raise id id)
      (.ret (fun r => ((match r with | .ok f => (.pure f : Sem Flow) | .error e => .raise e).onRaise fun (x : Value) => do
        if (← field x 1) == Value.none then unsupported "frame.own-activation:exception-without-traceback"
        setFlight x (envOf name scope L a cd).frame).wrap K₀ (fun e => (leaving (envOf name scope L a cd) e).wrap (fun _ => .raise e) .raise id id) gdf lv) none b lvs cFun p [] :: []) s' := by
  refine seg_wrap ?_
  rw [h1]
  refine wpAny_bind (wpAny_mono (wpAny_leaving_again (A'' := A.deeper (envOf name scope L a cd)) (SameStack.refl _) (what := "frame.own-activation:exception-without-traceback") (E₁ := fun _ _ => False) (E₂ := fun _ _ => False) (E₃ := fun _ _ => False)
    (leave_raiseK (Q := fun _ s4 => R n s₀ (.error (.ref e)) s4) K hx F N hend hk)) (fun _ s2 h2' => wpAny_theTreesLotGoes (seg_leaf (.error (.ref e)) ?_)) fun _ _ x => x.elim)
  show Seg M A R Y n s₀ cFun (Sem.wrap _ _ _ _ (Sem.bind _ fun _ => .raise (.ref e))) [] s2
  rw [Sem.bind_eq_wrap, Sem.wrap_wrap]
  refine seg_wrap ?_
  rw [h2]
  refine wpAny_mono h2' (fun _ s3 h3 => ?_) fun _ _ x => x.elim
  show Seg M A R Y n s₀ cFun (Sem.wrap _ _ _ _ (leaving (envOf name scope L a cd) (.ref e))) [] s3
  refine seg_wrap ?_
  rw [h2]
  exact wpAny_mono h3 (fun _ s4 h4 => seg_end (.error (.ref e)) h4) fun _ _ x => x.elim

noncomputable def RR (base g : Heap) (l : List Env) (news : List (Addr × Obj)) : GenEnd := fun _ s₀ r s₁ => ∃ e t u h' tk, r = .error (.ref e) ∧ s₁ = { s₀ with heap := h', toks := tk } ∧
  RaisedK base l e (.type "ValueError") t [.str "invalid grouping" u] news h' ∧ g.UpToSlots h'
section
variable (w : World) (mean : ExcName → Option Value) (mg mb : Str → Option Value)
   (dp un : Nat) (gd : Option (List Code)) (cn : Str) (cs : Scope) (a : Addr) (ccd : Value) (cl : List (Str × Addr)) (outer : List Env) (base h₀ : Heap) (L : Addr) (m : Str → Option Value) (s : Shared) (news : List (Addr × Obj)) (Q E : Value → Shared → Prop)
   (F : Fr h₀ L s.heap m) (X : (Mine.hd.heap_39 w.params).In h₀) (T : Top Mine.hd.view_39 (looseW Mine.hd.view_39 []) mean mg mb h₀)
include F X T

set_option maxRecDepth 100000 in
set_option maxHeartbeats 8000000 in
theorem intervals_raise (hd : dp + 4 < recursionLimit)
   (g : Heap) (hgk : g.StaysIn s.heap) (hg0 : h₀.StaysIn g) (hgs : g.objs.size ≤ s.heap.objs.size) (Bg : ∀ A : Around, A.frames = some (envX cn cs L a ccd cl :: outer) → Below A base (envX cn cs L a ccd cl :: outer) g)
   (hgn : ∀ q ∈ news, s.heap.get? q.1 = some q.2 ∧ g.get? q.1 = none)
   (row : Addr) (vs : Array Value) (c : Nat) (ns : List Int) (hi : IntsAre vs.toList (0 :: ns)) (hrow : (row, listObj vs c) ∈ news)
   (hret : ∀ (h₁ : Heap) (tk : Tok) (gs : GenState) (oG : Obj), (∀ b o, s.heap.get? b = some o → h₁.get? b = some o) → h₁.IsGen (s.heap.objs.size + 1) s.gens.size → h₁.get? (s.heap.objs.size + 1) = some oG → gs.bare = true →
     (∀ (d u : Nat) (gd' : Option (List Code)) (s'' : Shared), d + 8 < recursionLimit → u + 100 < cLine → s''.heap = h₁ →
        gs.Goes (model PySem.Challenge.rw_xj0005_01.row.prog w) (genAround d u gd' (envX cn cs L a ccd cl :: outer)) (RR base g (envX cn cs L a ccd cl :: outer) ((s.heap.objs.size + 1, oG) :: news)) (fun _ _ _ _ _ => False) 0 (.send .none) s'') →
     Q (.ref (s.heap.objs.size + 1)) { s with gens := s.gens.push gs, toks := tk, heap := h₁ }) :
   wpAny (model PySem.Challenge.rw_xj0005_01.row.prog w) (ktrTop dp un gd cn cs L a ccd cl outer) (call (.ref 42) [.ref row]) Q E s := by
  k_with_none
  (k_with "storeName" => (k_here; (try dsimp only); k_dflt (first   | ((with_reducible show wpAny _ _ (storeName _ _ (Value.int _ _)) _ _ _); (refine' Mine.storeI ?topF ?topN ?topA ?_; (case topA => exact rfl); (case topF => k_asm); (case topN => k_asm); k_whole); intro _ _ _ _ _)   | ((refine' Mine.storeG ?topF ?topN ?topA ?_; (case topA => exact rfl); (case topF => k_asm); (case topN => k_asm); k_whole); intro _ _ _ _)); (try k_sweep)))
  (k_with "eval Name" => (k_here; k_dflt (refine' Mine.nameL ?topF ?topA ?topV ?_; (case topF => k_asm); (case topA => exact rfl); (case topV => exact Mine.nameAt_rfl _ _); k_whole)))
  (k_with "eval Constant int" => (k_here; (try dsimp only); refine Mine.constI ?_))
  revert X; k_fill; intro X
  refine wpAny_call ?_
  refine code_gen F X T rfl (by k_is) (by ktr_room) (BindsTo.of_eq rfl) (locs rfl) (fun h₁ tk n1 n2 F1 keep hsz => ?_)
  refine hret _ _ _ _ (fun b o e => Heap.get?_push_of_some _ (keep b o e)) ⟨_, _, _, hsz ▸ Heap.get?_push_size _ rfl, rfl, rfl, rfl⟩ (hsz ▸ Heap.get?_push_size _ rfl) rfl (fun d u gd' s'' hd'' hu'' hst => ⟨rfl, ?_⟩)
  have Xg := X.keeps hg0
  have Tg := T.keeps hg0
  have Bg' := Bg (genAround d u gd' (envX cn cs L a ccd cl :: outer)) rfl
  have Fg : Fr g s.heap.objs.size s''.heap (fun y => if y = Str.ofString "grouping" then some (.ref row) else none) := by
    refine fr_ext (m := fun y => List.lookup y [(Str.ofString "grouping", Value.ref row)]) ⟨?_, fun b o e => ?_, hgs⟩ fun y => lookup_one
    · rw [hst]; exact (F1.push _).ns
    · rw [hst]; exact Heap.get?_push_of_some _ (keep b o (hgk b o e))
  have Ng : News g s.heap.objs.size s''.heap ((s.heap.objs.size + 1, { cls := .type "generator", data := .fields #[.int s.gens.size 0, .str (Str.ofString "_grouping_intervals") n1, .str (Str.ofString "_grouping_intervals") n2] }) :: news) := fun p hp => by
    rcases List.mem_cons.mp hp with rfl | hp
    · exact ⟨by rw [hst]; exact hsz ▸ Heap.get?_push_size _ rfl, Nat.succ_ne_self _, Heap.get?_none_of_le (Nat.le_succ_of_le hgs)⟩
    · exact ⟨by rw [hst]; exact Heap.get?_push_of_some _ (keep _ _ (hgn p hp).1), Nat.ne_of_lt (Heap.lt_size (hgn p hp).1), (hgn p hp).2⟩
  generalize hnews : ((s.heap.objs.size + 1, ({ cls := .type "generator", data := .fields #[.int s.gens.size 0, .str (Str.ofString "_grouping_intervals") n1, .str (Str.ofString "_grouping_intervals") n2] } : Obj)) :: news) = newsG at Ng
  have hrowG : (row, listObj vs c) ∈ newsG := hnews ▸ .tail _ hrow
  clear hret F1 keep hsz F X T Bg hnews
  generalize s.heap.objs.size = Lf at *
  refine seg_func ?_
  refine seg_execs_cons ?_
  refine seg_plain ?_
  show wpAny _ (Around.mk none _ (some (_ :: _)) _ _) _ _ _ _
  k_steps
  rename_i hp hA FA
  rename News _ _ _ _ => NA
  try dsimp only
  refine seg_execs_cons ?_
  refine seg_For (fun x => rfl) ?_
  show wpAny _ (Around.mk none _ (some (_ :: _)) _ _) _ _ _ _
  k_steps
  try dsimp only
  refine wpAny_pyIter_list ⟨_, NA.get hrowG, rfl, _, rfl⟩ ?_
  intro p
  refine seg_forLoop ?_
  obtain ⟨t, ht⟩ := hi.get 0 0 rfl
  have hIlt : Lf < hp.objs.size := by obtain ⟨o, _, _, e, _⟩ := hA.ns; exact Heap.lt_size e
  have hA2 := hA.push (iterObj row 0)
  have NA2 := News.push hA NA (iterObj row 0)
  refine wpAny_pyNext_list_item (items := vs) ⟨_, Heap.get?_push_size _ rfl, rfl, rfl⟩ ⟨_, NA2.get (.tail _ hrowG), rfl, _, rfl⟩ (show vs[0]? = some (.int 0 t) by simpa using ht) (fun h' hI' hsb => ?_)
  have hF' := hA2.sameNew hIlt hsb
  obtain ⟨oI', hoI', hoR⟩ := id hI'
  have hN' : News g Lf h' ((hp.objs.size, oI') :: newsG) := News.setAt (own := []) NA2 (fun _ hp => nomatch hp) (fun q hq => Nat.ne_of_lt (Heap.lt_size (NA q hq).1)) hsb hoI'
  generalize hp.objs.size = I at *
  clear hA hA2 NA2 NA
  try dsimp only
  k_steps
  try dsimp only
  refine seg_execs_cons ?_
  refine seg_If ?_
  show wpAny _ (Around.mk none _ (some (_ :: _)) _ _) _ _ _ _
  k_steps
  all_goals (try dsimp only)
  refine seg_execs_nil ?_
  try dsimp only
  refine seg_execs_cons ?_
  refine seg_If ?_
  show wpAny _ (Around.mk none _ (some (_ :: _)) _ _) _ _ _ _
  k_steps
  all_goals (try dsimp only)
  refine seg_execs_cons ?_
  refine seg_If ?_
  show wpAny _ (Around.mk none _ (some (_ :: _)) _ _) _ _ _ _
  k_steps
  all_goals (try dsimp only)
  refine seg_execs_cons ?_
  refine seg_plain ?_
  show wpAny _ (Around.mk none _ (some (_ :: _)) _ _) _ _ _ _
  k_dflt (refine Raise_madeB PySem.F.excCall_ValueError PySem.F.excRaise_ValueError rfl ?_)
  k_steps
  rename Heap.MadeExc _ _ _ _ _ => hX
  rename Fr g _ _ _ => hF
  rename News g _ _ _ => hN
  rename_i h5 e5
  have hfin : ∀ (u6 tk6 : Tok) (h6 : Heap) (t6 : Addr), RaisedK base (envX cn cs L a ccd cl :: outer) e5 (.type "ValueError") t6 [.str "invalid grouping" u6] ((I, oI') :: newsG) h6 → g.UpToSlots h6 →
      RR base g (envX cn cs L a ccd cl :: outer) newsG 0 s'' (.error (.ref e5)) { s'' with heap := h6, toks := tk6 } := fun u6 tk6 h6 t6 R6 U6 => by
    obtain ⟨⟨B6, r1, r2, r3⟩, r4⟩ := R6
    exact ⟨e5, t6, _, h6, _, rfl, rfl, ⟨⟨B6, r1, fun q hq => r2 q (.tail _ hq), r3⟩, r4⟩, U6⟩
  exact seg_raise Bg' (Heap.MadeExc.of hX) hF hN rfl (fun _ => rfl) rfl (fun h6 t6 => hfin _ _ h6 t6)
end

section
variable {prog : Program} {w : World} {A : Around} {E : Value → Shared → Prop} {s : Shared}
theorem not_stop : isSubtype (.type "ValueError") (.type "StopIteration") = pure false := isSubtype_of_subB (by decide +kernel)
theorem next_raise {G : Addr} {gi : Nat} {gs : GenState} {Q : Value → Shared → Prop} {base g : Heap} {l : List Env} {oG : Obj} {news : List (Addr × Obj)} (hh : A.handled = none) (hl : s.heap.NoLimit) (hroom : A.depth < recursionLimit)
    (hg : s.heap.IsGen G gi) (hoG : s.heap.get? G = some oG) (hgs : s.gens[gi]? = some gs)
    (hgo : gs.Goes (model prog w) A.in1.in1 (RR base g l ((G, oG) :: news)) (fun _ _ _ _ _ => False) 0 (.send .none) (s.setGen gi .running))
    (hE : ∀ e t u h' tk, RaisedK base l e (.type "ValueError") t [.str "invalid grouping" u] news h' → g.UpToSlots h' → E (.ref e) { s with heap := h', toks := tk, gens := (s.gens.setIfInBounds gi .running).setIfInBounds gi .finished }) :
    wpAny (model prog w) A (call (.builtin "next") [.ref G]) Q E s := by
  refine call_function_entry (by decide +kernel) (by decide +kernel) kdk_entry_next (kdk_args_next _) ?_
  unfold Builtin.«next»
  refine wpAny_bind (m := someArgs "next" 1 2 _) (wpAny_of_eq (a := [Value.ref G]) (by first | rfl | kernel_rfl!) ?_)
  try dsimp only
  refine wpAny_bind (wpAny_specialOf (name := Str.ofString "__next__") hg.typeIs slot_gen_next.lookup ?_)
  refine wpAny_ite_split (fun hab => absurd hab (by decide)) (fun _ => ?_)
  refine wpAny_bind (wpAny_callSpecial?_slot (name := Str.ofString "__next__") hg.typeIs slot_gen_next
    (wpAny_call_entry slot_gen_next hg.typeIs entry_gen_next ?_ (args_gen_next _)))
  show wpAny _ A.in1.in1 (Builtin.Generator.genWake (.ref G) (.send .none)) _ _ s
  unfold Builtin.Generator.genWake
  refine wpAny_bind (wpAny_holding (wpAny_genNumber hg (wpAny_bind (wpAny_genState hgs ?_))))
  cases gs with
  | running => exact hgo.elim
  | finished => exact hgo.elim
  | _ =>
    refine wpAny_bind (wpAny_roomToWake hl hroom ?_)
    show wpAny _ A.in1.in1 (.resume gi (.send .none) [] _) _ _ s
    refine wpAny_resumeQ hgs hgo (fun x s₁ hx => ?_) (fun v s₁ gs' hb hv => hv.elim)
    obtain ⟨e, t, u, h', tk, rfl, rfl, R, U⟩ := hx
    obtain ⟨⟨B, hB, hled, hfl, hnew⟩, htup⟩ := id R
    have hG' : h'.get? G = some oG := hfl.1 _ _ (hled _ (.head _)).1
    obtain ⟨ob, hob, hobc⟩ := (flyingW_base hB hfl).there
    obtain ⟨oG', nm, qn, hoG', hc, hd, hsl⟩ := hg
    rw [hoG] at hoG'
    cases hoG'
    show wpAny _ A.in1.in1 (Builtin.Generator.genLeft (.ref G) (.ref e)) _ _ _
    unfold Builtin.Generator.genLeft
    refine wpAny_bind (m := Builtin.Generator.madeByALambda (.ref G)) ?_
    unfold Builtin.Generator.madeByALambda
    refine wpAny_bind (wpAny_load hG' (wpAny_pure ?_))
    refine wpAny_bind (wpAny_isInstance (T := "ValueError") (b := false) ⟨ob, hob, hobc⟩ not_stop ?_)
    refine wpAny_ite_split (fun hab => absurd hab (by simp)) (fun _ => ?_)
    unfold Builtin.Generator.genEscaped
    refine wpAny_bind (wpAny_isInstance (T := "ValueError") (b := false) ⟨ob, hob, hobc⟩ not_stop ?_)
    refine wpAny_ite_split (fun _ => wpAny_throw ?_) (fun hab => absurd rfl hab)
    exact hE e t u h' tk ⟨⟨B, hB, fun q hq => hled q (.tail _ hq), hfl, hnew⟩, htup⟩ U
end
end Mine

theorem Mine.reset_E4 : True := by
  k_with_none
  trivial
end

section
open PySem PySem.W PyProof.Rows PySem.Calls PySem.Spec
set_option Elab.async false
namespace Mine
section
variable {prog : Program} {w : World} {A₀ : Around} {E : Value → Shared → Prop} {s' : Shared} {h₀ h : Heap} {outer : List Env} {L a e t : Addr} {m : Str → Option Value} {name : Str} {scope : Scope} {cd : Value}
  {vs : List Value} {n : Str} {b₀ : Stmt} {suite : List Stmt} {pos np : Pos} {rest : List ExceptHandler} {Q : Flow → Shared → Prop} {news : List (Addr × Obj)}
  {p : Program} {loose : List Str} {mean : ExcName → Option Value} {mg mb : Str → Option Value} {x : Str} {X T' : String} {Lc : Addr} {oc : Obj}
/-- a named clause that meets what a callee raised, below another frame -/
theorem caught_own (hA : A₀.frames = some outer) (F : Fr h₀ L h m) (hsm : h.UpToSlots s'.heap) (R : RaisedK h₀ (envOf name scope L a cd :: outer) e (.type X) t vs news s'.heap)
    (T : TopRead p loose mg mb h₀) (hv : bootBuiltins x = some (.type T'))
    (hexc : isSubtype (.type T') (.type "BaseException") = pure true) (hnt : isSubtype (.type ((Manifest.find? T').elim "type" fun y => y.metatype)) (.type "tuple") = pure false) (hsub : isSubtype (.type X) (.type T') = pure true)
    (hc : h.get? Lc = some oc) (hcd : ∀ vs, oc.data ≠ .fields vs) (hcL : Lc ≠ L) (hc0 : h₀.get? Lc = none)
    (k : ∀ h' news₂ tk sl, Fr h₀ L h' (fun y => if y = n then some (.ref e) else m y) → News h₀ L h' news₂ → Got news₂ e t (.type X) vs → News h₀ L h' (news ++ [(Lc, { oc with slots := sl })]) →
      wpAny (model prog w) ((A₀.deeper (envOf name scope L a cd)).mark (some (.ref e))) (execs (b₀ :: suite) (envOf name scope L a cd))
        (fun f s₄ => wpAny (model prog w) (A₀.deeper (envOf name scope L a cd)) (do bindName (envOf name scope L a cd) n .none; unbindBehindTheSuite (envOf name scope L a cd) n pos) (fun _ s₅ => Q f s₅) E s₄)
        (AsSuiteRaised (model prog w) ((A₀.deeper (envOf name scope L a cd)).mark (some (.ref e))) (envOf name scope L a cd) n pos (notedBy (model prog w) ((A₀.deeper (envOf name scope L a cd)).mark (some (.ref e))) (envOf name scope L a cd) (cameBackBy (model prog w) (A₀.deeper (envOf name scope L a cd)) (envOf name scope L a cd) E)))
        { s' with heap := h', toks := tk })
    (h1 : x ∉ startupNames := by decide +kernel) (h2 : x ∉ loose := by decide +kernel) (h3 : x ∉ (recsOf p).map (·.name) := by decide +kernel) (h4 : x ∉ (litsOf p).map (·.1) := by decide +kernel) (h4c : x ∉ (clssOf p loose).map (·.name) := by decide +kernel) (hn : x ≠ "__name__" := by decide +kernel)
    (hk : scope.kind = .function := by rfl) (hlo : (envOf name scope L a cd).kindOf n = some .local := by rfl) (hx : (envOf name scope L a cd).kindOf x = some .globalImplicit := by rfl) (hd : (x == ("__debug__" : Str)) = false := by decide) :
    wpAny (model prog w) (A₀.deeper (envOf name scope L a cd)) (noteFrame (.ref e) (envOf name scope L a cd))
      (fun _ s₂ => wpAny (model prog w) (A₀.deeper (envOf name scope L a cd)) (setFlight (.ref e) none) (fun _ s₃ =>
        wpAny (model prog w) (A₀.deeper (envOf name scope L a cd)) (handleBy (.ref e) (envOf name scope L a cd) (.ExceptHandler (some (.Name x np)) (some n) (b₀ :: suite) pos :: rest)) Q E s₃) E s₂) E s' := by
  obtain ⟨⟨B, hB, hl, hfl, hnew⟩, htup⟩ := R
  have hL : B.get? L = none := by
    obtain ⟨_, ⟨L', _, hf, hn', _⟩, _⟩ := hfl.2.2.1
    obtain rfl : L = L' := Option.some.inj hf
    exact hn'
  refine wpAny_looks_onW (Around.frames_deeper hA) rfl hfl fun h₄ hheld₄ hsm₄ => ?_
  refine wpAny_landsW hheld₄ fun h₅ hheld hsm₅' => ?_
  have hsm₅ := hsm₄.trans hsm₅'
  have hheld' := flyingW_base hB hheld
  have F₅ := F.of_stays hheld'.1 (hsm.trans hsm₅)
  obtain ⟨ob, hob, hobc⟩ := hheld'.there
  refine wpAny_handleBy_builtin_as (X := X) (T := T') (b := true) hexc hnt hsub (ld_builtin_at F₅ T.g (T.free x h1 h2 h3 h4 h4c) T.b ((T.builtins x hn).trans hv) ⟨rfl, ⟨ob, hob, hobc⟩, ?_⟩ hk hx hd)
  refine lands_againW hheld fun h₆ hfl₆ hsm₆ => ?_
  have hfl₆' := flyingW_base hB hfl₆
  have F₆ := F.of_stays hfl₆'.1 ((hsm.trans hsm₅).trans hsm₆)
  obtain ⟨oe, ws, hoe, hoec, hoed, hoe0⟩ := hfl₆'.first
  obtain ⟨ot, nt, hot, hotc, hotd⟩ := (htup.of_slots hsm₅).of_slots hsm₆
  have N₆ := News.more F₆ (News.more F₆ News.nil hot (fun es n q => by rw [hotd] at q; cases q) (fresh_of_stays hB hnew)) hoe (fun es n q => by rw [hoed] at q; cases q) hfl₆'.2.1
  obtain ⟨sl, hsl⟩ := ((hsm.trans hsm₅).trans hsm₆) _ _ hc hcd
  have Nl : News h₀ L h₆ (news ++ [(Lc, { oc with slots := sl })]) := fun q hq => by
    rcases List.mem_append.mp hq with hq | hq
    · exact ⟨hfl₆.1 _ _ (hl q hq).1, (fun z => by have := (hl q hq).1; rw [z, hL] at this; cases this), (hl q hq).2⟩
    · obtain rfl := List.mem_singleton.mp hq
      exact ⟨hsl, hcL, hc0⟩
  refine stN F₆ (news := _ ++ (news ++ [(Lc, { oc with slots := sl })])) (fun q hq => (List.mem_append.mp hq).elim (N₆ q) (Nl q)) (fun h₇ F₇ N₇ => ?_) hk hlo
  exact k h₇ _ _ sl F₇ (fun q hq => N₇ q (List.mem_append_left _ hq)) ⟨oe, ot, ws, nt, .head _, .tail _ (.head _), hoec, hoed, hoe0, hotc, hotd⟩ fun q hq => N₇ q (List.mem_append_right _ hq)
end

/-- the ground on which a callee of a helper raises: all that the helper made is hidden -/
structure Ground (h₀ g h : Heap) (L' L : Addr) (m' m : Str → Option Value) (oL : Obj) (e1 e2 : Env) (led : List (Addr × Obj)) : Prop where
  gk : g.StaysIn h
  g0 : h₀.StaysIn g
  gs : g.objs.size ≤ h.objs.size
  bg : ∀ A : Around, A.frames = some (e1 :: [e2]) → Below A h₀ (e1 :: [e2]) g
  gn : ∀ q ∈ led, h.get? q.1 = some q.2 ∧ g.get? q.1 = none
  fr : Fr h₀ L' g m'
  cl : g.get? L = some oL
theorem ground {h₀ h : Heap} {L' L : Addr} {m' m : Str → Option Value} {oL : Obj} {e1 e2 : Env} {led : List (Addr × Obj)} (F : Fr h₀ L' h m') (N : News h₀ L' h (led ++ [(L, oL)])) (hne : ∀ p ∈ led, p.1 ≠ L)
    (C : TI.Caller h₀ L m oL) (h1 : e1.frame = some L') (h2 : e2.frame = some L) (k1 : e1.scope.kind = .function) (k2 : e2.scope.kind = .function) :
    Ground h₀ (hideAll h (led.map (·.1))) h L' L m' m oL e1 e2 led := by
  have hn : ∀ b o, h₀.get? b = some o → b ∉ led.map (·.1) := fun b o e q => by
    obtain ⟨p, hp, rfl⟩ := List.mem_map.mp q
    rw [(N p (List.mem_append_left _ hp)).2.2] at e; cases e
  have g0 : h₀.StaysIn (hideAll h (led.map (·.1))) := fun b o e => hideAll_get _ (F.keep b o e) (hn b o e)
  have nL' : L' ∉ led.map (·.1) := fun q => by
    obtain ⟨p, hp, e⟩ := List.mem_map.mp q
    exact (N p (List.mem_append_left _ hp)).2.1 e
  have nL : L ∉ led.map (·.1) := fun q => by
    obtain ⟨p, hp, e⟩ := List.mem_map.mp q
    exact hne p hp e
  have NL := N (L, oL) (List.mem_append_right _ (.head _))
  have fr : Fr h₀ L' (hideAll h (led.map (·.1))) m' := ⟨let ⟨o, es, ep, ho, r⟩ := F.ns; ⟨o, es, ep, hideAll_get _ ho nL', r⟩, g0, F.above⟩
  have cl : (hideAll h (led.map (·.1))).get? L = some oL := hideAll_get _ NL.1 nL
  refine ⟨fun b o e => of_hideAll _ e, g0, Nat.le_of_eq (hideAll_size _ _), fun A hA => ⟨hA, g0, ?_⟩, fun q hq => ⟨(N q (List.mem_append_left _ hq)).1, hideAll_none _ (List.mem_map_of_mem hq)⟩, fr, cl⟩
  exact .cons (by rw [k1]; decide) h1 fr.ns (Heap.get?_none_of_le F.above) (.cons (by rw [k2]; decide) h2 (C.ns _ oL.slots cl) NL.2.2 trivial)
theorem news_pick6 {h₀ h : Heap} {L : Addr} {p a b c d e f : Addr × Obj} {r : List (Addr × Obj)} (N : News h₀ L h (p :: a :: b :: c :: d :: e :: f :: r)) : News h₀ L h (p :: r) := fun q hq => by
  rcases List.mem_cons.mp hq with rfl | hq
  · exact N _ (.head _)
  · exact N _ (.tail _ (.tail _ (.tail _ (.tail _ (.tail _ (.tail _ (.tail _ hq)))))))
theorem row_ne {h₀ h : Heap} {L' L r : Addr} {oL : Obj} {m : Str → Option Value} {vs : Array Value} {c : Nat} {news : List (Addr × Obj)} (N : News h₀ L' h (((r, PySem.W.listOf vs c) :: news) ++ [(L, oL)])) (C : TI.Caller h₀ L m oL) (hE : ∀ p ∈ news, p.1 ≠ L) :
    ∀ p ∈ ((r, PySem.W.listOf vs c) :: news), p.1 ≠ L := fun p hp => by
  rcases List.mem_cons.mp hp with rfl | hp
  · have hoL := (N (L, oL) (List.mem_append_right _ (.head _))).1
    have hor := (N (r, PySem.W.listOf vs c) (.head _)).1
    intro q
    obtain ⟨es, ep, hd⟩ := C.dict
    have q' : r = L := q
    subst q'
    rw [hoL] at hor
    cases hor
    cases hd
  · exact hE p hp

section
variable (w : World) (mean : ExcName → Option Value) (mg mb : Str → Option Value)
   (dp un : Nat) (gd : Option (List Code)) (cn : Str) (cs : Scope) (a : Addr) (ccd : Value) (cl : List (Str × Addr)) (e2 : Env) (h₀ : Heap) (L Lc : Addr) (m mc : Str → Option Value) (s : Shared) (news : List (Addr × Obj)) (Q E : Value → Shared → Prop) (oL : Obj) (g : Heap)
   (F : Fr h₀ L s.heap m) (X : (Mine.hd.heap_39 w.params).In h₀) (T : Top Mine.hd.view_39 (looseW Mine.hd.view_39 []) mean mg mb h₀)
include F X T
theorem intervals_R (hd : dp + 4 < recursionLimit) (G : Ground h₀ g s.heap L Lc m mc oL (envX cn cs L a ccd cl) e2 news)
   (row : Addr) (vs : Array Value) (c : Nat) (ns : List Int) (hi : IntsAre vs.toList (0 :: ns)) (hrow : (row, listObj vs c) ∈ news)
   (hret : ∀ (Gn gi : Nat) (h₁ : Heap) (tk : Tok) (gs : GenState) (oG : Obj), h₁.IsGen Gn gi → h₁.get? Gn = some oG → gs.bare = true → gi = s.gens.size → h₀.StaysIn h₁ →
     (∀ (d u : Nat) (gd' : Option (List Code)) (s'' : Shared), d + 8 < recursionLimit → u + 100 < cLine → s''.heap = h₁ →
        gs.Goes (model PySem.Challenge.rw_xj0005_01.row.prog w) (genAround d u gd' (envX cn cs L a ccd cl :: [e2])) (RR h₀ g (envX cn cs L a ccd cl :: [e2]) ((Gn, oG) :: news)) (fun _ _ _ _ _ => False) 0 (.send .none) s'') →
     Q (.ref Gn) { s with gens := s.gens.push gs, toks := tk, heap := h₁ }) :
   wpAny (model PySem.Challenge.rw_xj0005_01.row.prog w) (ktrTop dp un gd cn cs L a ccd cl [e2]) (call (.ref 42) [.ref row]) Q E s :=
  intervals_raise w mean mg mb dp un gd cn cs a ccd cl [e2] h₀ h₀ L m s news Q E F X T hd g G.gk G.g0 G.gs G.bg G.gn row vs c ns hi hrow
    (fun h₁ tk gs oG keep hIG hoG hb hgo => hret _ _ h₁ tk gs oG hIG hoG hb rfl (fun b o e => keep b o (F.keep b o e)) hgo)
end
end Mine
end

section
open PySem PySem.W PyProof.Rows PySem.Calls PySem.Spec
set_option Elab.async false
namespace Mine
section
variable (w : World) (mean : ExcName → Option Value) (mg mb : Str → Option Value)
   (dp un : Nat) (gd : Option (List Code)) (cn : Str) (cs : Scope) (a : Addr) (ccd : Value) (h₀ : Heap) (L : Addr) (m : Str → Option Value) (s : Shared) (news : List (Addr × Obj)) (Q E : Value → Shared → Prop)
   (F : Fr h₀ L s.heap m) (X : (Mine.hd.heap_39 w.params).In h₀) (N : News h₀ L s.heap news) (T : Top Mine.hd.view_39 (looseW Mine.hd.view_39 []) mean mg mb h₀) (hk : cs.kind = .function)
include F X N T hk

local macro_rules | `(tactic| ke_room) => `(tactic| ktr_units)

set_option maxRecDepth 100000 in
set_option maxHeartbeats 8000000 in
theorem ended_call (hd : dp + 20 < recursionLimit) (hu : un + 200 < cLine)
   (mk x : Int) (t1 t2 : Tok) (h0 : 0 ≤ mk) (h1 : mk < x) (hx0 : 2 ≤ x) (hx1 : x ≤ 24) (hG : AllBare s.gens)
   (hret : ∀ (h' : Heap) (tk' : Nat) (G : Array GenState), AllBare G → Fr h₀ L h' m → News h₀ L h' news → Q (.bool true) { s with heap := h', toks := tk', gens := G }) :
   wpAny (model PySem.Challenge.rw_xj0005_01.row.prog w) (ktrTop dp un gd cn cs L a ccd [] []) (call (.ref 77) [.int mk t1, .int x t2]) Q E s := by
  k_with_none
  (k_with "storeName" => (k_here; (try dsimp only); k_dflt (first   | ((with_reducible show wpAny _ _ (storeName _ _ (Value.int _ _)) _ _ _); (refine' Mine.storeI ?topF ?topN ?topA ?_; (case topA => exact rfl); (case topF => k_asm); (case topN => k_asm); k_whole); intro _ _ _ _ _)   | ((refine' Mine.storeG ?topF ?topN ?topA ?_; (case topA => exact rfl); (case topF => k_asm); (case topN => k_asm); k_whole); intro _ _ _ _)); (try k_sweep)))
  (k_with "eval Name" => (k_here; k_dflt (refine' Mine.nameL ?topF ?topA ?topV ?_; (case topF => k_asm); (case topA => exact rfl); (case topV => exact Mine.nameAt_rfl _ _); k_whole)))
  (k_with "eval Constant int" => (k_here; (try dsimp only); refine Mine.constI ?_))
  (k_with "call ref" => (k_here; first   | (k_dflt (refine' intervals_T _ _ _ _ _ _ _ _ _ _ _ _ _ _ _ _ _ _ _ _ ?k2 ?k3 ?k4 ?k5 ?kd _ _ _ [_, _, 127, 1] ?ki ?kr _ _ ?ks ?_; (case k2 => k_asm); (case k3 => k_asm); (case k4 => k_asm); (case k5 => k_asm); (case kd => ktr_room); (case kr => exact .head _); (case ki => exact .cons _ _ (.cons _ _ (.cons _ _ (.cons _ _ .nil)))); (case ks => assumption)); intro Lf' oLf' oG' gs' h' tk' hLL' hlf' F' N' hgb' hgen' hgo'; (try k_sweep))   | (k_dflt (refine' intervals_T _ _ _ _ _ _ _ _ _ _ _ _ _ _ _ _ _ _ _ _ ?k2 ?k3 ?k4 ?k5 ?kd _ _ _ [_, _] ?ki ?kr _ _ ?ks ?_; (case k2 => k_asm); (case k3 => k_asm); (case k4 => k_asm); (case k5 => k_asm); (case kd => ktr_room); (case kr => exact .head _); (case ki => exact .cons _ _ (.cons _ _ .nil)); (case ks => assumption)); intro Lf' oLf' oG' gs' h' tk' hLL' hlf' F' N' hgb' hgen' hgo'; (try k_sweep))))
  (k_with "call type:list" => (k_here; k_dflt (refine' list_K ?k1 ?k2 ?k3 ?k4 ?k5 ?k6 ?k7 ?k8 ?k9 ?k10 ?k11 ?k12 ?_; (case k1 => k_asm); (case k2 => k_asm); (case k3 => exact Top.nolimit (by assumption)); (case k4 => exact AllBare.push (by assumption) (by assumption)); (case k5 => exact Array.getElem?_push_size); (case k6 => assumption); (case k7 => assumption); (case k8 => assumption); (case k9 => exact .head _); (case k10 => (refine (by assumption : ∀ d u gd' fr, d + 8 < recursionLimit → u + 100 < cLine → GOkT _ (genAround d u gd' fr) _ _ _ _ _ _ _ _ _ _ _) _ _ _ _ ?_ ?_; (case refine_1 => ktr_room); (case refine_2 => ktr_units))); (case k11 => exact rfl); (case k12 => ktr_room)); intro S' t' u' c' h' tk' G' hb' F' N' l1; (try k_lt l1); (try k_sweep)))
  revert X; k_fill; intro X
  refine wpAny_call ?_
  refine TLgL.code_def F X N T rfl rfl (by k_is) (by ktr_room) (BindsTo.of_eq rfl) (locs rfl) ?_ hk
  intro oL hh1 tiC tiF tiE F' N'
  generalize hledg : news ++ [(L, oL)] = ledg at N'
  replace F' := fr_bs F' (l' := [(PySem.Str.ofString "step", .int x t2), (PySem.Str.ofString "mark", .int mk t1)]) rfl
  try dsimp only
  refine gen_tok0 ?_
  intro tk0
  (show wpAny _ _ _ _ _ _); k_fold
  have hs1 : GSpec (two (mk + 1) x) true 2 2 [mk + 1, x, 127, 1] none := .item _ _ _ _ (by omega) (by omega) rfl (.item _ _ _ _ (by omega) (by omega) rfl (.mark _ _ rfl))
  have hs2 : GSpec (two (mk + 1) x) true 2 2 [mk + 1, x] none := .item _ _ _ _ (by omega) (by omega) rfl (.item _ _ _ _ (by omega) (by omega) rfl (.stop _ rfl))
  k_steps
  subst hledg
  rename Fr h₀ _ _ _ => F2
  rename News h₀ _ _ _ => N2
  rename AllBare _ => hGb
  have N3 := news_pick6 N2
  have hne3 := row_ne N3 tiC tiE
  k_dflt (refine' intervals_R _ _ _ _ _ _ _ _ _ _ _ _ _ _ _ _ _ _ _ _ _ _ _ _ F2 X T ?kd (ground F2 N3 hne3 tiC rfl rfl rfl hk) _ _ _ [mk + 1, x] ?ki (.head _) ?_; (case kd => ktr_room); (case ki => exact .cons _ _ (.cons _ _ (.cons _ _ .nil))))
  intro Gn gi h6 tk6 gs6 oG6 hIG6 hoG6 hbare6 hgi6 hst6 hgo6
  k_steps
  have G3 := ground (e1 := envX cn cs s.heap.objs.size 77 ccd []) (e2 := envX cn cs L a ccd []) F2 N3 hne3 tiC rfl rfl hk hk
  have NL := N3 (L, oL) (.tail _ (List.mem_append_right _ (.head _)))
  refine next_raise rfl (T.nolimit.keeps hst6) (by ktr_room) hIG6 hoG6 (by rw [hgi6]; exact Array.getElem?_push_size) (hgo6 _ _ _ _ ?_ ?_ rfl) ?_
  · ktr_room
  · ktr_units
  intro e6 t6 u6 h7 tk7 R7 U7
  k_dflt (refine caught_own rfl G3.fr U7 R7 (topRead_of T) PyProof.Rows.Boot.«ValueError» PySem.F.isExc_ValueError PySem.F.notTuple_ValueError (by rw [isSubtype_type]; kernel_rfl) G3.cl (fun vs q => by obtain ⟨es, ep, hd⟩ := tiC.dict; rw [hd] at q; cases q) NL.2.1 NL.2.2 ?_)
  intro h8 news8 tk8 sl8 F8 N8a Got8 N8
  clear F2 N2 N3 R7 U7 hgo6 hoG6 hIG6 F N
  k_steps
  rename Fr h₀ _ _ _ => F9
  rename TI.Caller _ _ _ _ => tiC9
  rename_i N9
  refine TLg.leave_back tiC9 F9 N9 (TLgL.allNe_of hne3) (fun F9' N9' => ?_)
  exact hret _ _ _ (bare_set (bare_set (hGb.push hbare6) rfl) rfl) F9' (fun p hp => N9' p (.tail _ hp))
end
end Mine

theorem Mine.reset_E6 : True := by
  k_with_none
  trivial
end

section
open PySem PySem.W PyProof.Rows PySem.Calls PySem.Spec
set_option Elab.async false
namespace Mine
open PyProof.Rows.LCg (NsObj ns_obj)
/-- what a step of a comprehension leaves -/
inductive Stay {α : Type} (h₀ : Heap) (L : Addr) (m : Str → Option Value) (led : List (Addr × Obj)) (s : Shared) (P : α → Prop) (v : α) (s' : Shared) : Prop
  | mk (h' : Heap) (tk : Tok) (e : s' = { s with heap := h', toks := tk }) (F : Fr h₀ L h' m) (N : News h₀ L h' led) (p : P v)
inductive CompOut (p : Nat → Bool) (F : Nat → Value → Prop) : Nat → List Value → Prop
  | nil : CompOut p F 0 []
  | skip {i ys} : p i = false → CompOut p F i ys → CompOut p F (i + 1) ys
  | take {i ys v} : p i = true → F i v → CompOut p F i ys → CompOut p F (i + 1) (ys ++ [v])
theorem CompOut.le {p : Nat → Bool} {F : Nat → Value → Prop} {i : Nat} {ys : List Value} (x : CompOut p F i ys) : ys.length ≤ i := by
  induction x with
  | nil => exact Nat.le_refl _
  | skip _ _ ih => exact Nat.le_succ_of_le ih
  | take _ _ _ ih => simp; exact ih
theorem CompOut.ints {p : Nat → Bool} {F : Nat → Value → Prop} {f : Nat → Int} (hF : ∀ i v, F i v → ∃ t, v = .int (f i) t) {i : Nat} {ys : List Value} (x : CompOut p F i ys) : IntsAre ys (((List.range i).filter p).map f) := by
  induction x with
  | nil => exact .nil
  | @skip i ys hp _ ih => simpa [List.range_succ, hp] using ih
  | @take i ys v hp hv _ ih =>
    obtain ⟨t, rfl⟩ := hF i v hv
    have := ih.append (.cons (f i) t .nil)
    simpa [List.range_succ, hp] using this

/-- a kind of iterator: n values, the i-th one as val tells -/
structure ItKind (prog : Program) (w : World) (A : Around) (xv : Value) (n : Nat) (val : Nat → Value → Prop) (It : Heap → Addr → Nat → Prop) (Ok : Heap → Prop) : Prop where
  start : ∀ (s : Shared) (Q : Value → Shared → Prop) (E : Value → Shared → Prop), Ok s.heap → (∀ oI : Obj, oI.isFreed = false → (∀ h : Heap, h.get? s.heap.objs.size = some oI → It h s.heap.objs.size 0) → Q (.ref s.heap.objs.size) { s with heap := s.heap.push oI }) → wpAny (model prog w) A (pyIter xv) Q E s
  item : ∀ (i : Nat) (I : Addr) (s : Shared) (Q : Option Value → Shared → Prop) (E : Value → Shared → Prop), i < n → Ok s.heap → It s.heap I i → (∀ v h' tk, val i v → It h' I (i + 1) → Heap.SameBut I s.heap h' → Q (some v) { s with heap := h', toks := tk }) → wpAny (model prog w) A (pyNext (.ref I)) Q E s
  done : ∀ (I : Addr) (s : Shared) (Q : Option Value → Shared → Prop) (E : Value → Shared → Prop), Ok s.heap → It s.heap I n → (∀ h', Heap.ExtBut I s.heap h' → Q none { s with heap := h' }) → wpAny (model prog w) A (pyNext (.ref I)) Q E s
  self : ∀ (i : Nat) (I : Addr) (s : Shared) (Q : Value → Shared → Prop) (E : Value → Shared → Prop), It s.heap I i → Q (.ref I) s → wpAny (model prog w) A (pyIter (.ref I)) Q E s
  keep : ∀ (h h' : Heap) (I : Addr) (i : Nat), It h I i → (∀ o, h.get? I = some o → h'.get? I = some o) → It h' I i
  there : ∀ (h : Heap) (I : Addr) (i : Nat), It h I i → ∃ o, h.get? I = some o

theorem listKind {prog : Program} {w : World} {A : Around} (hh : A.handled = none) (l : Addr) (items : Array Value) :
    ItKind prog w A (.ref l) items.size (fun i v => items[i]? = some v) (fun h I i => h.IsListIter I l i) (fun h => h.IsList l items) where
  start := fun s Q E ok hQ => wpAny_pyIter_list ok (hQ _ rfl fun h e => ⟨_, e, rfl, rfl⟩)
  item := fun i I s Q E hi ok hit hQ => wpAny_pyNext_list_item hit ok (x := items[i]) (by simp [hi]) fun h' hit' hs => hQ _ h' s.toks (by simp [hi]) hit' hs
  done := fun I s Q E ok hit hQ => wpAny_pyNext_list_end hh hit ok (by simp) hQ
  self := fun i I s Q E hit hQ => wpAny_pyIter_listiter hit hQ
  keep := fun h h' I i hit hk => hit.at hk
  there := fun h I i ⟨o, ho, _⟩ => ⟨o, ho⟩
theorem bytesKind {prog : Program} {w : World} {A : Around} (hh : A.handled = none) (b : Array UInt8) (t : Tok) :
    ItKind prog w A (.bytes b t) b.size (fun i v => ∃ c u, b[i]? = some c ∧ v = .int (c.toNat : Int) u) (fun h I i => KBw.IsBytesIter h I b t i) (fun _ => True) where
  start := fun s Q E _ hQ => KBw.pyIter_bytes (hQ _ rfl fun h e => ⟨_, e, rfl, rfl⟩)
  item := fun i I s Q E hi _ hit hQ => KBw.next_item hit (c := b[i]) (by simp [hi]) fun h' hit' hs => hQ _ h' (s.toks + 1) ⟨_, _, by simp [hi], rfl⟩ hit' hs
  done := fun I s Q E _ hit hQ => KBw.next_end hh hit (by simp) hQ
  self := fun i I s Q E hit hQ => KBw.pyIter_self hit hQ
  keep := fun h h' I i ⟨o, ho, r⟩ hk => ⟨o, hk _ ho, r⟩
  there := fun h I i ⟨o, ho, _⟩ => ⟨o, ho⟩

section
variable (prog : Program) (w : World) (A : Around) (h₀ : Heap) (L : Addr) (m : Str → Option Value) (env : Env) (target elt : Expr) (ifs : List Expr) (scope : Scope) (cl : List (Str × Addr))

structure CompTurns (val : Nat → Value → Prop) (It : Heap → Addr → Nat → Prop) (news : List (Addr × Obj)) (p : Nat → Bool) (F : Nat → Value → Prop) (upd : Nat → Value → (Str → Option Value) → Str → Option Value) : Prop where
  go : ∀ (I i j : Nat) (v : Value) (s' : Shared) (Qa : Unit → Shared → Prop) (Ea : Value → Shared → Prop), It s'.heap I i → val j v → Qa () s' → wpAny (model prog w) A (letOwnedTupleGo target (.ref I) v) Qa Ea s'
  asg : ∀ (i : Nat) (x : Value), val i x → ∀ (C : Addr) (mC : Str → Option Value) (s' : Shared) (Qa : Unit → Shared → Prop) (Ea : Value → Shared → Prop), Fr h₀ L s'.heap m → News h₀ L s'.heap news → C ≠ L → s'.heap.Ns C mC →
    (∀ h' tk, h'.Ns C (upd i x mC) → (∀ c o, c ≠ C → s'.heap.get? c = some o → h'.get? c = some o) → Qa () { s' with heap := h', toks := tk }) → wpAny (model prog w) A (assign target (compEnvC scope cl C env) x) Qa Ea s'
  test : ∀ (i : Nat) (x : Value), val i x → ∀ (I : Addr) (oI : Obj) (C : Addr) (oC : Obj) (D : Addr) (oD : Obj) (mC : Str → Option Value) (s' : Shared), Fr h₀ L s'.heap m → News h₀ L s'.heap ((I, oI) :: (C, oC) :: (D, oD) :: news) → NsObj oC (upd i x mC) →
    wpAny (model prog w) A (forIn ifs true fun c r => if r = true then do let ok ← isTrue c (compEnvC scope cl C env) (eval c (compEnvC scope cl C env)); pure (ForInStep.yield ok) else pure (ForInStep.yield r))
      (Stay h₀ L m ((I, oI) :: (C, oC) :: (D, oD) :: news) s' (fun ok => ok = p i)) (fun _ _ => False) s'
  elt : ∀ (i : Nat) (x : Value), val i x → p i = true → ∀ (I : Addr) (oI : Obj) (C : Addr) (oC : Obj) (D : Addr) (oD : Obj) (mC : Str → Option Value) (s' : Shared), Fr h₀ L s'.heap m → News h₀ L s'.heap ((I, oI) :: (C, oC) :: (D, oD) :: news) → NsObj oC (upd i x mC) →
    wpAny (model prog w) A (eval elt (compEnvC scope cl C env)) (Stay h₀ L m ((I, oI) :: (C, oC) :: (D, oD) :: news) s' (fun v => F i v)) (fun _ _ => False) s'

inductive CompSrc (Q : Value → Shared → Prop) (xv : Value) (s₁ : Shared) : Prop
  | mk (n : Nat) (val : Nat → Value → Prop) (It : Heap → Addr → Nat → Prop) (Ok : Heap → Prop) (news : List (Addr × Obj)) (p : Nat → Bool) (F : Nat → Value → Prop) (upd : Nat → Value → (Str → Option Value) → Str → Option Value) (k : ItKind prog w A xv n val It Ok) (f : Fr h₀ L s₁.heap m) (nw : News h₀ L s₁.heap news)
    (ok : ∀ h : Heap, h₀.StaysIn h → News h₀ L h news → Ok h) (hn : n ≤ 1000) (t : CompTurns prog w A h₀ L m env target elt ifs scope cl val It news p F upd)
    (hQ : ∀ (D : Addr) (ys : List Value) (c : Nat) (h' : Heap) (tk : Tok), CompOut p F n ys → Fr h₀ L h' m → News h₀ L h' ((D, PySem.W.listOf ys.toArray c) :: news) → (∀ p ∈ news, p.1 < D) → Q (.ref D) { s₁ with heap := h', toks := tk })
/-- between two turns of a comprehension -/
inductive CompInv (I : Addr) (n : Nat) (s₁ : Shared) (p : Nat → Bool) (F : Nat → Value → Prop) (It : Heap → Addr → Nat → Prop) (news : List (Addr × Obj)) : Nat → Shared → Prop
  | mk (i : Nat) (ys : List Value) (c : Nat) (oI oC : Obj) (mC : Str → Option Value) (h : Heap) (tk : Tok) (hi : i ≤ n) (a : CompOut p F i ys) (b : It h I i) (d : NsObj oC mC) (f : Fr h₀ L h m)
      (nw : News h₀ L h ((I, oI) :: (I + 2, oC) :: (I + 1, PySem.W.listOf ys.toArray c) :: news)) : CompInv I n s₁ p F It news (n + 1 - i) { s₁ with heap := h, toks := tk }
end

section
variable {prog : Program} {w : World} {A : Around} {E : Value → Shared → Prop} {s : Shared} {env : Env}
theorem comp_loop {elt target iter : Expr} {ifs : List Expr} {scope : Scope} {pos : Pos} {it acc : Value} {R : Result → Shared → Prop} (I : Nat → Shared → Prop)
    (turn : ∀ n s, I n s → wpAny (model prog w) A (pyNext it) (fun r s₁ => match r with
      | none => R (.ok .next) s₁
      | some v => wpAny (model prog w) A (letOwnedTupleGo target it v) (fun _ s₀ => wpAny (model prog w) A (assign target env v) (fun _ s₂ =>
          wpAny (model prog w) A (forIn ifs true fun c r => if r = true then do let ok ← isTrue c env (eval c env); pure (ForInStep.yield ok) else pure (ForInStep.yield r)) (fun ok s₃ =>
            if ok = true then wpAny (model prog w) A (eval elt env) (fun x s₄ =>
              wpAny (model prog w) A (call (.builtin "list.append") [acc, x]) (fun _ s₅ => ∃ m, m < n ∧ I m s₅) (fun _ _ => False) s₄) (fun _ _ => False) s₃
            else ∃ m, m < n ∧ I m s₃) (fun _ _ => False) s₂) (fun _ _ => False) s₀) (fun _ _ => False) s₁) (fun _ _ => False) s)
    (n : Nat) (h : I n s) : codeAny (model prog w) A (.compLoop (.ListComp elt [⟨target, iter, ifs, 0⟩] scope pos) 0 it acc env) R s := by
  refine codeAny_loop rfl I (fun n s hI => ?_) n h
  show wpAny _ A ((compTurn (.ListComp elt [⟨target, iter, ifs, 0⟩] scope pos) 0 it acc env).onRaise (fun x => do noteFrame x env; theTreesLotGoes x)) _ _ s
  refine wpAny_noted ?_
  rw [compTurn_list]
  refine wpAny_bind (wpAny_standAt (wpAny_bind (wpAny_mono (turn n s hI) (fun r s₁ h₁ => ?_) fun _ _ h' => h'.elim)))
  cases r with
  | none => exact wpAny_pure h₁
  | some v =>
    refine wpAny_bind (wpAny_mono h₁ (fun _ s₀ h₀' => ?_) fun _ _ h' => h'.elim)
    refine wpAny_bind (wpAny_mono h₀' (fun _ s₂ h₂ => wpAny_bind (wpAny_mono h₂ (fun ok s₃ h₃ => ?_) fun _ _ h' => h'.elim)) fun _ _ h' => h'.elim)
    cases ok with
    | false => exact wpAny_pure ⟨rfl, h₃⟩
    | true =>
      exact wpAny_bind (wpAny_bind (wpAny_mono h₃ (fun x s₄ h₄ => wpAny_bind (wpAny_mono h₄ (fun _ s₅ h₅ => wpAny_pure (wpAny_pure ⟨rfl, h₅⟩)) fun _ _ h' => h'.elim)) fun _ _ h' => h'.elim))

theorem comp_own {h₀ : Heap} {L : Addr} {m : Str → Option Value} {target elt iter : Expr} {ifs : List Expr} {scope : Scope} {cl : List (Str × Addr)} {pos : Pos} {Q : Value → Shared → Prop}
    (hclos : closureFor scope env = pure cl) (hcell : ∀ y ∈ scope.names, y.2 ≠ .cell) (hkind : scope.kind = .function)
    (hnames : ∀ y ∈ scope.names, y.2 = .local → scope.names.lookup y.1 = some .local)
    (h : wpAny (model prog w) A (eval iter env) (CompSrc prog w A h₀ L m env target elt ifs scope cl Q) E s)
    (hs : ∀ x, foldedSetIterable iter env x = pure x := by intro _; rfl) :
    wpAny (model prog w) A (eval (.ListComp elt [⟨target, iter, ifs, 0⟩] scope pos) env) Q E s := by
  rw [eval_ListComp]
  refine wpAny_comprehension_free (use := none) rfl hs hclos hkind hnames (wpAny_mono h (fun xv s₁ h₁ => ?_) fun _ _ e => e)
  obtain ⟨n, val, It, Ok, news, p, F, upd, Kd, hF, hN, hL, hsz, W, hQ⟩ := h₁
  refine Kd.start s₁ _ _ (hL _ hF.keep hN) (fun oI0 hfree hIt0 => ?_)
  refine wpAny_newObj_type (wpAny_newFunctionEnv hcell (by intro y hy; simp at hy) (fun h₁ hns₁ hsb₁ => ?_) hkind)
  dsimp only at hns₁ hsb₁ ⊢
  have hLlt : L < s₁.heap.objs.size := by obtain ⟨o, _, _, e, _⟩ := hF.ns; exact Heap.lt_size e
  have hab : h₀.objs.size ≤ s₁.heap.objs.size := Nat.le_trans hF.above (Nat.le_of_lt hLlt)
  generalize hH1 : s₁.heap.push oI0 = H1 at hns₁ hsb₁ ⊢
  have hD : H1.objs.size = s₁.heap.objs.size + 1 := by rw [← hH1, Heap.size_push]
  generalize hH2 : H1.push { cls := .type "list", dict := none, data := .seq ([] : List Value).toArray } = H2 at hns₁ hsb₁ ⊢
  have hC : H2.objs.size = s₁.heap.objs.size + 2 := by rw [← hH2, Heap.size_push, hD]
  have keep1 : ∀ b o, b ≠ H2.objs.size → H2.get? b = some o → h₁.get? b = some o := fun b o hb e => hsb₁.extBut b o hb (Heap.get?_push_of_some _ e)
  have hI1 : h₁.get? s₁.heap.objs.size = some oI0 :=
    keep1 _ _ (by rw [hC]; exact Nat.ne_of_lt (Nat.lt_succ_of_lt (Nat.lt_succ_self _))) (hH2 ▸ Heap.get?_push_of_some _ (hH1 ▸ Heap.get?_push_size _ hfree))
  have hD1 : h₁.get? H1.objs.size = some (PySem.W.listOf #[] 0) := keep1 _ _ (by rw [hC, hD]; exact Nat.ne_of_lt (Nat.lt_succ_self _)) (hH2 ▸ Heap.get?_push_size _ rfl)
  obtain ⟨oC, hoC, hnC⟩ := ns_obj hns₁
  have up : ∀ b o, s₁.heap.get? b = some o → h₁.get? b = some o := fun b o e => keep1 b o (by rw [hC]; exact Nat.ne_of_lt (Nat.lt_of_lt_of_le (Heap.lt_size e) (Nat.le_add_right _ 2))) (hH2 ▸ Heap.get?_push_of_some _ (hH1 ▸ Heap.get?_push_of_some _ e))
  have hlt : ∀ q ∈ news, q.1 < s₁.heap.objs.size := fun q hq => Heap.lt_size (hN q hq).1
  generalize hIe : s₁.heap.objs.size = I at *
  generalize H1.objs.size = D at *
  generalize H2.objs.size = C at *
  subst hD hC
  have hCL : I + 2 ≠ L := Nat.ne_of_gt (Nat.lt_of_lt_of_le hLlt (Nat.le_add_right _ 2))
  have N1 : News h₀ L h₁ ((I, oI0) :: (I + 2, oC) :: (I + 1, PySem.W.listOf ([] : List Value).toArray 0) :: news) := fun q hq => by
    rcases List.mem_cons.mp hq with rfl | hq
    · exact ⟨hI1, Nat.ne_of_gt hLlt, Heap.get?_none_of_le hab⟩
    rcases List.mem_cons.mp hq with rfl | hq
    · exact ⟨hoC, hCL, Heap.get?_none_of_le (Nat.le_trans hab (Nat.le_add_right _ _))⟩
    rcases List.mem_cons.mp hq with rfl | hq
    · exact ⟨hD1, Nat.ne_of_gt (Nat.lt_succ_of_lt hLlt), Heap.get?_none_of_le (Nat.le_trans hab (Nat.le_add_right _ _))⟩
    · exact ⟨up _ _ (hN q hq).1, (hN q hq).2⟩
  have loop : ∀ s₃ : Shared, (∃ tk, s₃ = { s₁ with heap := h₁, toks := tk }) → codeAny (model prog w) A (.compLoop (.ListComp elt [⟨target, iter, ifs, 0⟩] scope pos) 0 (.ref I) (.ref (I + 1)) (compEnvC scope cl (I + 2) env))
      (compPost (model prog w) A E none Q (.ref (I + 1)) (I + 2)) s₃ := by
    rintro s₃ ⟨tk₀, rfl⟩
    refine comp_loop (CompInv h₀ L m I n s₁ p F It news) ?_ (n + 1)
      (.mk 0 [] 0 _ oC _ h₁ _ (Nat.zero_le _) .nil (hIt0 _ hI1) hnC (hF.keeps up) N1)
    rintro k s' ⟨i, ys, c, oI, oC, mC, h2, tk, hi, hout, hit, hn2, F2, N2⟩
    have Nn : News h₀ L h2 news := fun q hq => N2 q (.tail _ (.tail _ (.tail _ hq)))
    by_cases hlt2 : i < n
    · refine Kd.item i I _ _ _ hlt2 (hL _ F2.keep Nn) hit (fun x h3 tk3 hx hit3 hsb3 => ?_)
      obtain ⟨oI3, hoI3⟩ := Kd.there _ _ _ hit3
      have F3 := F2.sameNew hLlt hsb3
      have N3 : News h₀ L h3 ((I, oI3) :: (I + 2, oC) :: (I + 1, PySem.W.listOf ys.toArray c) :: news) := News.setAt (own := []) N2 (fun _ hp => nomatch hp) (fun q hq => by
        rcases List.mem_cons.mp hq with rfl | hq
        · exact Nat.ne_of_gt (Nat.lt_add_of_pos_right (by decide))
        rcases List.mem_cons.mp hq with rfl | hq
        · exact Nat.succ_ne_self _
        · exact Nat.ne_of_lt (hlt q hq)) hsb3 hoI3
      refine W.go I (i + 1) i x _ _ _ hit3 hx ?_
      refine W.asg i _ hx (I + 2) mC _ _ _ F3 (fun q hq => N3 q (.tail _ (.tail _ (.tail _ hq)))) hCL (hn2.ns (N3 _ (.tail _ (.head _))).1) (fun h4 tk4 hn4 hk4 => ?_)
      obtain ⟨oC4, hoC4, hnC4⟩ := ns_obj hn4
      have F4 : Fr h₀ L h4 m := ⟨let ⟨oL, es, ep, hoL, r⟩ := F3.ns; ⟨oL, es, ep, hk4 _ _ (Ne.symm hCL) hoL, r⟩, fun b o e => hk4 b o (fun q => by rw [q, (N3 (I + 2, oC) (.tail _ (.head _))).2.2] at e; cases e) (F3.keep b o e), F3.above⟩
      have N4 : News h₀ L h4 ((I, oI3) :: (I + 2, oC4) :: (I + 1, PySem.W.listOf ys.toArray c) :: news) := fun q hq => by
        rcases List.mem_cons.mp hq with rfl | hq
        · exact ⟨hk4 _ _ (Nat.ne_of_lt (Nat.lt_add_of_pos_right (by decide))) (N3 _ (.head _)).1, (N3 _ (.head _)).2⟩
        rcases List.mem_cons.mp hq with rfl | hq
        · exact ⟨hoC4, (N3 _ (.tail _ (.head _))).2⟩
        · have z := N3 q (.tail _ (.tail _ hq))
          refine ⟨hk4 _ _ ?_ z.1, z.2⟩
          rcases List.mem_cons.mp hq with rfl | hq
          · exact Nat.ne_of_lt (Nat.lt_succ_self _)
          · exact Nat.ne_of_lt (Nat.lt_of_lt_of_le (hlt q hq) (Nat.le_add_right _ 2))
      refine wpAny_mono (W.test i _ hx I oI3 (I + 2) oC4 (I + 1) _ mC _ F4 N4 hnC4) (fun ok s5 h5 => ?_) fun _ _ e => e.elim
      obtain ⟨h5, tk5, rfl, F5, N5, rfl⟩ := h5
      have it5 : ∀ h : Heap, h.get? I = some oI3 → It h I (i + 1) := fun h e => Kd.keep _ _ _ _ hit3 fun o ho => by
        rw [hoI3] at ho
        cases ho
        exact e
      cases hp : p i with
      | false =>
        rw [if_neg (by decide)]
        exact ⟨n + 1 - (i + 1), o_dec1 hlt2, .mk (i + 1) ys c oI3 oC4 _ h5 tk5 hlt2 (.skip hp hout) (it5 _ (N5 _ (.head _)).1) hnC4 F5 N5⟩
      | true =>
        rw [if_pos rfl]
        refine wpAny_mono (W.elt i _ hx hp I oI3 (I + 2) oC4 (I + 1) _ mC _ F5 N5 hnC4) (fun v s6 h6 => ?_) fun _ _ e => e.elim
        obtain ⟨h6, tk6, rfl, F6, N6, hv⟩ := h6
        have hyl := hout.le
        refine append_K F6 N6 (.tail (Nat.ne_of_lt (Nat.lt_succ_self _)) (.tail (Nat.ne_of_gt (Nat.lt_succ_self _)) (.head fun q hq => Nat.ne_of_lt (Nat.lt_succ_of_lt (hlt q hq))))) (fun h7 F7 N7 => ?_) (Nat.le_trans (m := 1000) (by simp; omega) (by decide))
        exact ⟨n + 1 - (i + 1), o_dec1 hlt2, .mk (i + 1) (ys ++ [v]) (c + 1) oI3 oC4 _ h7 tk6 hlt2 (.take hp hv hout) (it5 _ (N7 _ (.head _)).1) hnC4 F7 (by simpa using N7)⟩
    · have hin : i = n := o_end hi hlt2
      subst hin
      refine Kd.done I _ _ _ (hL _ F2.keep Nn) hit (fun h3 he3 => ?_)
      have F3 : Fr h₀ L h3 m := ⟨let ⟨oL, es, ep, hoL, r⟩ := F2.ns; ⟨oL, es, ep, he3 _ _ (Nat.ne_of_lt hLlt) hoL, r⟩, fun b o e => he3 b o (fun q => by rw [q, (N2 (I, oI) (.head _)).2.2] at e; cases e) (F2.keep b o e), F2.above⟩
      refine ⟨_, hn2.ns (he3 _ _ (Nat.ne_of_gt (Nat.lt_add_of_pos_right (by decide))) (N2 _ (.tail _ (.head _))).1), fun h4 hsb4 => hQ (I + 1) ys c h4 tk hout (F3.change hsb4 hCL (N2 (I + 2, oC) (.tail _ (.head _))).2.2) (fun q hq => ?_) fun q hq => Nat.lt_succ_of_lt (hlt q hq)⟩
      have z := N2 q (.tail _ (.tail _ hq))
      refine ⟨hsb4.extBut _ _ ?_ (he3 _ _ ?_ z.1), z.2⟩
      · rcases List.mem_cons.mp hq with rfl | hq
        · exact Nat.ne_of_lt (Nat.lt_succ_self _)
        · exact Nat.ne_of_lt (Nat.lt_of_lt_of_le (hlt q hq) (Nat.le_add_right _ 2))
      · rcases List.mem_cons.mp hq with rfl | hq
        · exact Nat.succ_ne_self _
        · exact Nat.ne_of_lt (hlt q hq)
  exact codeAny_compStart_list (loop _ ⟨_, rfl⟩) (Kd.self 0 I _ _ _ (hIt0 _ hI1) (loop _ ⟨_, rfl⟩))
theorem comp_at {h₀ : Heap} {L : Addr} {m : Str → Option Value} {target elt iter : Expr} {ifs : List Expr} {scope : Scope} {cl : List (Str × Addr)} {pos : Pos} {Q : Value → Shared → Prop} (_F : Fr h₀ L s.heap m)
    (hclos : closureFor scope env = pure cl) (hcell : ∀ y ∈ scope.names, y.2 ≠ .cell) (hkind : scope.kind = .function)
    (hnames : ∀ y ∈ scope.names, y.2 = .local → scope.names.lookup y.1 = some .local)
    (h : wpAny (model prog w) A (eval iter env) (CompSrc prog w A h₀ L m env target elt ifs scope cl Q) E s)
    (hs : ∀ x, foldedSetIterable iter env x = pure x := by intro _; rfl) :
    wpAny (model prog w) A (eval (.ListComp elt [⟨target, iter, ifs, 0⟩] scope pos) env) Q E s := comp_own hclos hcell hkind hnames h hs
end
end Mine
end

section
open PySem PySem.W PyProof.Rows PySem.Calls PySem.Spec
set_option Elab.async false
namespace Mine
open PyProof.Rows.LCg (NsObj ns_obj)
noncomputable abbrev Quad := Int × Int × Int × Int
noncomputable def LaidAt (news : List (Addr × Obj)) (items : Array Value) (rs : List Quad) : Prop :=
  items.size = rs.length ∧ ∀ (i : Nat) (r : Quad), rs[i]? = some r → ∃ T c t1 t2 t3 t4, items[i]? = some (.ref T) ∧ (T, tupObj #[.int r.1 t1, .int r.2.1 t2, .int r.2.2.1 t3, .int r.2.2.2 t4] c) ∈ news
theorem LaidAt.mono {news news' : List (Addr × Obj)} {items : Array Value} {rs : List Quad} (x : LaidAt news items rs) (h : ∀ p ∈ news, p ∈ news') : LaidAt news' items rs :=
  ⟨x.1, fun i r e => let ⟨T, c, t1, t2, t3, t4, h1, h2⟩ := x.2 i r e; ⟨T, c, t1, t2, t3, t4, h1, h _ h2⟩⟩
noncomputable abbrev upd4 (a b c d : Str) (x y z u : Value) (mC : Str → Option Value) : Str → Option Value := fun n => if n = d then some u else if n = c then some z else if n = b then some y else if n = a then some x else mC n

section
variable {prog : Program} {w : World} {A : Around} {E : Value → Shared → Prop} {s : Shared} {env : Env}
theorem asg4 {a b c d : Str} {pa pb pc pd tp : Pos} {kk : Nat} {T C : Addr} {x y z u : Value} {mC : Str → Option Value} {Q : Unit → Shared → Prop} {scope : Scope} {cl : List (Str × Addr)} (hh : A.handled = none) (ht : s.heap.IsTuple T #[x, y, z, u])
    (ha : scope.names.lookup a = some .local) (hb : scope.names.lookup b = some .local) (hc : scope.names.lookup c = some .local) (hd : scope.names.lookup d = some .local) (hkind : scope.kind = .function) (hn : s.heap.Ns C mC)
    (h : ∀ (h' : Heap) (tk : Nat), h'.Ns C (upd4 a b c d x y z u mC) → (∀ c o, c ≠ C → s.heap.get? c = some o → h'.get? c = some o) → Q () { s with heap := h', toks := tk }) :
    wpAny (model prog w) A (assign (.Tuple [.Name a pa, .Name b pb, .Name c pc, .Name d pd] kk tp) (compEnvC scope cl C env) (.ref T)) Q E s := by
  have hp : ((compEnvC scope cl C env).scope.kind == .class || ((compEnvC scope cl C env).scope.kind == .module && (compEnvC scope cl C env).locals != (compEnvC scope cl C env).globals)) = false := by simp [compEnvC, relabel, hkind]
  refine wpAny_assign_Tuple hh ht rfl rfl fun h₁ he₁ => ?_
  have hL : C ≠ s.heap.objs.size := Nat.ne_of_lt hn.lt
  have hn₁ : h₁.Ns (compEnvC scope cl C env).locals mC := hn.at' fun o e => he₁ _ o hL e
  have up₁ : ∀ c o, s.heap.get? c = some o → h₁.get? c = some o := fun c o e => he₁ c o (Nat.ne_of_lt (Heap.lt_size e)) e
  show wpAny _ _ (assignInOrder [assign (.Name a pa) _, assign (.Name b pb) _, assign (.Name c pc) _, assign (.Name d pd) _] [x, y, z, u]) _ _ _
  refine assignInOrder_cons ?_
  refine wpAny_assign_Name (wpAny_storeName_local (lookup_relabel_local ha) hn₁ (fun h₂ hn₂ hs₂ => ?_) hp)
  refine assignInOrder_cons ?_
  refine wpAny_assign_Name (wpAny_storeName_local (lookup_relabel_local hb) hn₂ (fun h₃ hn₃ hs₃ => ?_) hp)
  refine assignInOrder_cons ?_
  refine wpAny_assign_Name (wpAny_storeName_local (lookup_relabel_local hc) hn₃ (fun h₄ hn₄ hs₄ => ?_) hp)
  refine assignInOrder_cons ?_
  refine wpAny_assign_Name (wpAny_storeName_local (lookup_relabel_local hd) hn₄ (fun h₅ hn₅ hs₅ => ?_) hp)
  refine assignInOrder_nil ?_
  exact h h₅ _ hn₅ fun c o hc e => hs₅.extBut c o hc (hs₄.extBut c o hc (hs₃.extBut c o hc (hs₂.extBut c o hc (up₁ c o e))))

theorem laid_src {h₀ : Heap} {L : Addr} {m : Str → Option Value} {a b c d : Str} {pa pb pc pd tp : Pos} {kk : Nat} {elt : Expr} {ifs : List Expr} {scope : Scope} {cl : List (Str × Addr)} {Q : Value → Shared → Prop}
    {l : Addr} {items : Array Value} {lc : Nat} {news : List (Addr × Obj)} {rs : List Quad} (pr : Quad → Bool) (f : Quad → Int) (hh : A.handled = none) (F : Fr h₀ L s.heap m) (N : News h₀ L s.heap news) (hl : (l, PySem.W.listOf items lc) ∈ news) (hlaid : LaidAt news items rs) (hsz : rs.length ≤ 1000)
    (ha : scope.names.lookup a = some .local) (hb : scope.names.lookup b = some .local) (hc : scope.names.lookup c = some .local) (hd : scope.names.lookup d = some .local) (hkind : scope.kind = .function)
    (test : ∀ r ∈ rs, ∀ (t1 t2 t3 t4 : Tok) (I : Addr) (oI : Obj) (C : Addr) (oC : Obj) (D : Addr) (oD : Obj) (mC : Str → Option Value) (s' : Shared), Fr h₀ L s'.heap m → News h₀ L s'.heap ((I, oI) :: (C, oC) :: (D, oD) :: news) →
      NsObj oC (upd4 a b c d (.int r.1 t1) (.int r.2.1 t2) (.int r.2.2.1 t3) (.int r.2.2.2 t4) mC) →
      wpAny (model prog w) A (forIn ifs true fun c r => if r = true then do let ok ← isTrue c (compEnvC scope cl C env) (eval c (compEnvC scope cl C env)); pure (ForInStep.yield ok) else pure (ForInStep.yield r))
        (Stay h₀ L m ((I, oI) :: (C, oC) :: (D, oD) :: news) s' (fun ok => ok = pr r)) (fun _ _ => False) s')
    (elts : ∀ r ∈ rs, pr r = true → ∀ (t1 t2 t3 t4 : Tok) (I : Addr) (oI : Obj) (C : Addr) (oC : Obj) (D : Addr) (oD : Obj) (mC : Str → Option Value) (s' : Shared), Fr h₀ L s'.heap m → News h₀ L s'.heap ((I, oI) :: (C, oC) :: (D, oD) :: news) →
      NsObj oC (upd4 a b c d (.int r.1 t1) (.int r.2.1 t2) (.int r.2.2.1 t3) (.int r.2.2.2 t4) mC) →
      wpAny (model prog w) A (eval elt (compEnvC scope cl C env)) (Stay h₀ L m ((I, oI) :: (C, oC) :: (D, oD) :: news) s' (fun v => ∃ t, v = .int (f r) t)) (fun _ _ => False) s')
    (hQ : ∀ (D : Addr) (ys : List Value) (c : Nat) (h' : Heap) (tk : Tok), IntsAre ys ((rs.filter pr).map f) → Fr h₀ L h' m → News h₀ L h' ((D, PySem.W.listOf ys.toArray c) :: news) → (∀ p ∈ news, p.1 < D) → Q (.ref D) { s with heap := h', toks := tk }) :
    CompSrc prog w A h₀ L m env (.Tuple [.Name a pa, .Name b pb, .Name c pc, .Name d pd] kk tp) elt ifs scope cl Q (.ref l) s := by
  have at' : ∀ i x, items[i]? = some x → ∃ r, rs[i]? = some r ∧ r ∈ rs := fun i x e => by
    have hlt : i < rs.length := by rw [← hlaid.1]; exact (Array.getElem?_eq_some_iff.mp e).1
    exact ⟨rs[i], List.getElem?_eq_getElem hlt, List.getElem_mem hlt⟩
  have key : ∀ i : Nat, ∃ tt : Tok × Tok × Tok × Tok, ∀ r, rs[i]? = some r → ∃ T c, items[i]? = some (Value.ref T) ∧ (T, tupObj #[.int r.1 tt.1, .int r.2.1 tt.2.1, .int r.2.2.1 tt.2.2.1, .int r.2.2.2 tt.2.2.2] c) ∈ news := fun i => by
    cases e : rs[i]? with
    | none => exact ⟨(0, 0, 0, 0), fun r q => by cases q⟩
    | some r =>
      obtain ⟨T, c, t1, t2, t3, t4, h1, h2⟩ := hlaid.2 i r e
      exact ⟨(t1, t2, t3, t4), fun r' q => by cases q; exact ⟨T, c, h1, h2⟩⟩
  obtain ⟨tt, htt⟩ := Classical.axiomOfChoice key
  have hpick : ∀ (i : Nat) (r : Quad), rs[i]? = some r → rs.getD i (0, 0, 0, 0) = r := fun i r e => by rw [List.getD_eq_getElem?_getD, e]; rfl
  refine ⟨items.size, fun i v => items[i]? = some v, fun h I i => h.IsListIter I l i, fun h => h.IsList l items, news, fun i => pr (rs.getD i (0, 0, 0, 0)), fun i v => ∃ t, v = .int (f (rs.getD i (0, 0, 0, 0))) t,
    fun i _ mC => upd4 a b c d (.int (rs.getD i (0, 0, 0, 0)).1 (tt i).1) (.int (rs.getD i (0, 0, 0, 0)).2.1 (tt i).2.1) (.int (rs.getD i (0, 0, 0, 0)).2.2.1 (tt i).2.2.1) (.int (rs.getD i (0, 0, 0, 0)).2.2.2 (tt i).2.2.2) mC,
    listKind hh l items, F, N, fun h _ Nh => ⟨_, (Nh _ hl).1, rfl, _, rfl⟩, by rw [hlaid.1]; exact hsz, ⟨?_, ?_, ?_, ?_⟩, ?_⟩
  · intro I i j v s' Qa Ea hit hj hq
    obtain ⟨r, hr, _⟩ := at' j v hj
    obtain ⟨T, c, h1, _⟩ := htt j r hr
    rw [hj] at h1
    cases h1
    exact wpAny_letOwnedTupleGo_listiter hit hq
  · intro i x hx C mC s' Qa Ea F' N' hCL hn hq
    obtain ⟨r, hr, _⟩ := at' i x hx
    obtain ⟨T, c, h1, h2⟩ := htt i r hr
    rw [hx] at h1
    cases h1
    rw [hpick i r hr] at hq
    exact asg4 hh ⟨_, (N' _ h2).1, rfl, _, rfl⟩ ha hb hc hd hkind hn hq
  · intro i x hx I oI C oC D oD mC s' F' N' hn
    obtain ⟨r, hr, hm⟩ := at' i x hx
    rw [hpick i r hr] at hn ⊢
    exact test r hm _ _ _ _ I oI C oC D oD mC s' F' N' hn
  · intro i x hx hp I oI C oC D oD mC s' F' N' hn
    obtain ⟨r, hr, hm⟩ := at' i x hx
    rw [hpick i r hr] at hn hp ⊢
    exact elts r hm hp _ _ _ _ I oI C oC D oD mC s' F' N' hn
  · intro D ys c h' tk hout F' N' hlt
    refine hQ D ys c h' tk ?_ F' N' hlt
    have := hout.ints (f := fun i => f (rs.getD i (0, 0, 0, 0))) (fun i v h => h)
    have e : ((List.range items.size).filter fun i => pr (rs.getD i (0, 0, 0, 0))).map (fun i => f (rs.getD i (0, 0, 0, 0))) = (rs.filter pr).map f := by
      rw [hlaid.1]
      have h1 : (List.range rs.length).map (fun i => rs.getD i (0, 0, 0, 0)) = rs := by
        apply List.ext_getElem
        · simp
        · intro i h1 h2
          simp [List.getD_eq_getElem?_getD, h2]
      conv => rhs; rw [← h1]
      rw [List.filter_map, List.map_map]
      rfl
    rw [e] at this
    exact this
end

section
variable {prog : Program} {w : World} {A : Around} {E : Value → Shared → Prop} {s : Shared} {env : Env}
/-- a comprehension over one name -/
theorem name_turns {h₀ : Heap} {L : Addr} {m : Str → Option Value} {a : Str} {pa : Pos} {elt : Expr} {ifs : List Expr} {scope : Scope} {cl : List (Str × Addr)} {val : Nat → Value → Prop} {It : Heap → Addr → Nat → Prop} {news : List (Addr × Obj)} {p : Nat → Bool} {F : Nat → Value → Prop}
    (ha : scope.names.lookup a = some .local) (hkind : scope.kind = .function)
    (test : ∀ (i : Nat) (x : Value), val i x → ∀ (I : Addr) (oI : Obj) (C : Addr) (oC : Obj) (D : Addr) (oD : Obj) (mC : Str → Option Value) (s' : Shared), Fr h₀ L s'.heap m → News h₀ L s'.heap ((I, oI) :: (C, oC) :: (D, oD) :: news) →
      NsObj oC (fun y => if y = a then some x else mC y) →
      wpAny (model prog w) A (forIn ifs true fun c r => if r = true then do let ok ← isTrue c (compEnvC scope cl C env) (eval c (compEnvC scope cl C env)); pure (ForInStep.yield ok) else pure (ForInStep.yield r))
        (Stay h₀ L m ((I, oI) :: (C, oC) :: (D, oD) :: news) s' (fun ok => ok = p i)) (fun _ _ => False) s')
    (elts : ∀ (i : Nat) (x : Value), val i x → p i = true → ∀ (I : Addr) (oI : Obj) (C : Addr) (oC : Obj) (D : Addr) (oD : Obj) (mC : Str → Option Value) (s' : Shared), Fr h₀ L s'.heap m → News h₀ L s'.heap ((I, oI) :: (C, oC) :: (D, oD) :: news) →
      NsObj oC (fun y => if y = a then some x else mC y) →
      wpAny (model prog w) A (eval elt (compEnvC scope cl C env)) (Stay h₀ L m ((I, oI) :: (C, oC) :: (D, oD) :: news) s' (fun v => F i v)) (fun _ _ => False) s') :
    CompTurns prog w A h₀ L m env (.Name a pa) elt ifs scope cl val It news p F (fun _ x mC => fun y => if y = a then some x else mC y) where
  go := fun I i j v s' Qa Ea _ _ hq => wpAny_pure hq
  asg := fun i x _ C mC s' Qa Ea F' N' hCL hn hq => by
    refine wpAny_assign_Name (wpAny_storeName_local (lookup_relabel_local ha) hn (fun h₂ hn₂ hs₂ => ?_) (by simp [compEnvC, relabel, hkind]))
    exact hq h₂ _ hn₂ fun c o hc e => hs₂.extBut c o hc e
  test := test
  elt := elts

/-- over a list of ints -/
theorem ints_src {h₀ : Heap} {L : Addr} {m : Str → Option Value} {a : Str} {pa : Pos} {elt : Expr} {ifs : List Expr} {scope : Scope} {cl : List (Str × Addr)} {Q : Value → Shared → Prop} {l : Addr} {vs : List Value} {ns : List Int} {lc : Nat} {news : List (Addr × Obj)} (pr : Int → Bool) (f : Int → Int)
    (hh : A.handled = none) (F : Fr h₀ L s.heap m) (N : News h₀ L s.heap news) (hl : (l, PySem.W.listOf vs.toArray lc) ∈ news) (hi : IntsAre vs ns) (hsz : ns.length ≤ 1000) (ha : scope.names.lookup a = some .local) (hkind : scope.kind = .function)
    (test : ∀ n ∈ ns, ∀ (t : Tok) (I : Addr) (oI : Obj) (C : Addr) (oC : Obj) (D : Addr) (oD : Obj) (mC : Str → Option Value) (s' : Shared), Fr h₀ L s'.heap m → News h₀ L s'.heap ((I, oI) :: (C, oC) :: (D, oD) :: news) → NsObj oC (fun y => if y = a then some (.int n t) else mC y) →
      wpAny (model prog w) A (forIn ifs true fun c r => if r = true then do let ok ← isTrue c (compEnvC scope cl C env) (eval c (compEnvC scope cl C env)); pure (ForInStep.yield ok) else pure (ForInStep.yield r))
        (Stay h₀ L m ((I, oI) :: (C, oC) :: (D, oD) :: news) s' (fun ok => ok = pr n)) (fun _ _ => False) s')
    (elts : ∀ n ∈ ns, pr n = true → ∀ (t : Tok) (I : Addr) (oI : Obj) (C : Addr) (oC : Obj) (D : Addr) (oD : Obj) (mC : Str → Option Value) (s' : Shared), Fr h₀ L s'.heap m → News h₀ L s'.heap ((I, oI) :: (C, oC) :: (D, oD) :: news) → NsObj oC (fun y => if y = a then some (.int n t) else mC y) →
      wpAny (model prog w) A (eval elt (compEnvC scope cl C env)) (Stay h₀ L m ((I, oI) :: (C, oC) :: (D, oD) :: news) s' (fun v => ∃ t, v = .int (f n) t)) (fun _ _ => False) s')
    (hQ : ∀ (D : Addr) (ys : List Value) (c : Nat) (h' : Heap) (tk : Tok), IntsAre ys ((ns.filter pr).map f) → Fr h₀ L h' m → News h₀ L h' ((D, PySem.W.listOf ys.toArray c) :: news) → (∀ p ∈ news, p.1 < D) → Q (.ref D) { s with heap := h', toks := tk }) :
    CompSrc prog w A h₀ L m env (.Name a pa) elt ifs scope cl Q (.ref l) s := by
  have at' : ∀ i x, vs.toArray[i]? = some x → ∃ n t, ns[i]? = some n ∧ n ∈ ns ∧ x = Value.int n t := fun i x e => by
    have hlt : i < ns.length := by rw [← hi.length]; simpa using (Array.getElem?_eq_some_iff.mp e).1
    obtain ⟨t, ht⟩ := hi.get i ns[i] (List.getElem?_eq_getElem hlt)
    refine ⟨ns[i], t, List.getElem?_eq_getElem hlt, List.getElem_mem hlt, ?_⟩
    rw [List.getElem?_toArray, ht] at e
    exact (Option.some.inj e).symm
  have hpick : ∀ (i : Nat) (n : Int), ns[i]? = some n → ns.getD i 0 = n := fun i r e => by rw [List.getD_eq_getElem?_getD, e]; rfl
  refine ⟨vs.toArray.size, _, _, _, news, fun i => pr (ns.getD i 0), fun i v => ∃ t, v = .int (f (ns.getD i 0)) t, _, listKind hh l vs.toArray, F, N, fun h _ Nh => ⟨_, (Nh _ hl).1, rfl, _, rfl⟩, by simpa [hi.length] using hsz, name_turns ha hkind ?_ ?_, ?_⟩
  · intro i x hx I oI C oC D oD mC s' F' N' hn
    obtain ⟨n, t, hr, hm, rfl⟩ := at' i x hx
    rw [hpick i n hr]
    exact test n hm t I oI C oC D oD mC s' F' N' hn
  · intro i x hx hp I oI C oC D oD mC s' F' N' hn
    obtain ⟨n, t, hr, hm, rfl⟩ := at' i x hx
    rw [hpick i n hr] at hp ⊢
    exact elts n hm hp t I oI C oC D oD mC s' F' N' hn
  · intro D ys c h' tk hout F' N' hlt
    refine hQ D ys c h' tk ?_ F' N' hlt
    have := hout.ints (f := fun i => f (ns.getD i 0)) (fun i v h => h)
    have e : ((List.range vs.toArray.size).filter fun i => pr (ns.getD i 0)).map (fun i => f (ns.getD i 0)) = (ns.filter pr).map f := by
      rw [List.size_toArray, hi.length]
      have h1 : (List.range ns.length).map (fun i => ns.getD i 0) = ns := by
        apply List.ext_getElem
        · simp
        · intro i h1 h2
          simp [List.getD_eq_getElem?_getD, h2]
      conv => rhs; rw [← h1]
      rw [List.filter_map, List.map_map]
      rfl
    rw [e] at this
    exact this

/-- over bytes -/
theorem bytes_src {h₀ : Heap} {L : Addr} {m : Str → Option Value} {a : Str} {pa : Pos} {elt : Expr} {ifs : List Expr} {scope : Scope} {cl : List (Str × Addr)} {Q : Value → Shared → Prop} {bs : List UInt8} {tb : Tok} {news : List (Addr × Obj)} (pr : UInt8 → Bool) (f : UInt8 → Int)
    (hh : A.handled = none) (F : Fr h₀ L s.heap m) (N : News h₀ L s.heap news) (hsz : bs.length ≤ 1000) (ha : scope.names.lookup a = some .local) (hkind : scope.kind = .function)
    (test : ∀ (n : UInt8) (t : Tok) (I : Addr) (oI : Obj) (C : Addr) (oC : Obj) (D : Addr) (oD : Obj) (mC : Str → Option Value) (s' : Shared), Fr h₀ L s'.heap m → News h₀ L s'.heap ((I, oI) :: (C, oC) :: (D, oD) :: news) → NsObj oC (fun y => if y = a then some (.int (n.toNat : Int) t) else mC y) →
      wpAny (model prog w) A (forIn ifs true fun c r => if r = true then do let ok ← isTrue c (compEnvC scope cl C env) (eval c (compEnvC scope cl C env)); pure (ForInStep.yield ok) else pure (ForInStep.yield r))
        (Stay h₀ L m ((I, oI) :: (C, oC) :: (D, oD) :: news) s' (fun ok => ok = pr n)) (fun _ _ => False) s')
    (elts : ∀ (n : UInt8), pr n = true → ∀ (t : Tok) (I : Addr) (oI : Obj) (C : Addr) (oC : Obj) (D : Addr) (oD : Obj) (mC : Str → Option Value) (s' : Shared), Fr h₀ L s'.heap m → News h₀ L s'.heap ((I, oI) :: (C, oC) :: (D, oD) :: news) → NsObj oC (fun y => if y = a then some (.int (n.toNat : Int) t) else mC y) →
      wpAny (model prog w) A (eval elt (compEnvC scope cl C env)) (Stay h₀ L m ((I, oI) :: (C, oC) :: (D, oD) :: news) s' (fun v => ∃ t, v = .int (f n) t)) (fun _ _ => False) s')
    (hQ : ∀ (D : Addr) (ys : List Value) (c : Nat) (h' : Heap) (tk : Tok), IntsAre ys ((bs.filter pr).map f) → Fr h₀ L h' m → News h₀ L h' ((D, PySem.W.listOf ys.toArray c) :: news) → (∀ p ∈ news, p.1 < D) → Q (.ref D) { s with heap := h', toks := tk }) :
    CompSrc prog w A h₀ L m env (.Name a pa) elt ifs scope cl Q (.bytes bs.toArray tb) s := by
  have hpick : ∀ (i : Nat) (n : UInt8), bs.toArray[i]? = some n → bs.getD i 0 = n := fun i r e => by
    rw [List.getElem?_toArray] at e
    rw [List.getD_eq_getElem?_getD, e]; rfl
  refine ⟨bs.toArray.size, _, _, _, news, fun i => pr (bs.getD i 0), fun i v => ∃ t, v = .int (f (bs.getD i 0)) t, _, bytesKind hh bs.toArray tb, F, N, fun h _ Nh => trivial, by simpa using hsz, name_turns ha hkind ?_ ?_, ?_⟩
  · rintro i x ⟨n, t, hx, rfl⟩ I oI C oC D oD mC s' F' N' hn
    rw [hpick i n hx]
    exact test n t I oI C oC D oD mC s' F' N' hn
  · rintro i x ⟨n, t, hx, rfl⟩ hp I oI C oC D oD mC s' F' N' hn
    rw [hpick i n hx] at hp ⊢
    exact elts n hp t I oI C oC D oD mC s' F' N' hn
  · intro D ys c h' tk hout F' N' hlt
    refine hQ D ys c h' tk ?_ F' N' hlt
    have := hout.ints (f := fun i => f (bs.getD i 0)) (fun i v h => h)
    have e : ((List.range bs.toArray.size).filter fun i => pr (bs.getD i 0)).map (fun i => f (bs.getD i 0)) = (bs.filter pr).map f := by
      rw [List.size_toArray]
      have h1 : (List.range bs.length).map (fun i => bs.getD i 0) = bs := by
        apply List.ext_getElem
        · simp
        · intro i h1 h2
          simp [List.getD_eq_getElem?_getD, h2]
      conv => rhs; rw [← h1]
      rw [List.filter_map, List.map_map]
      rfl
    rw [e] at this
    exact this
end

noncomputable abbrev riObj (x left : Int) : Obj := { cls := .type "range_iterator", dict := none, data := .fields #[rawInt x, rawInt left, rawInt 1], slots := #[] }
section
variable {prog : Program} {w : World} {A : Around} {E : Value → Shared → Prop} {s : Shared} {h₀ : Heap} {L I : Addr} {m : Str → Option Value} {led : List (Addr × Obj)} {x left : Int} {Q : Option Value → Shared → Prop}
theorem range_item (F : Fr h₀ L s.heap m) (N : News h₀ L s.heap ((I, riObj x left) :: led)) (hLI : L < I) (hI : ∀ p ∈ led, p.1 ≠ I) (hl : 0 < left)
    (hQ : ∀ h', Fr h₀ L h' m → News h₀ L h' ((I, riObj (x + 1) (left - 1)) :: led) → Q (some (.int x s.toks)) { s with heap := h', toks := s.toks + 1 }) : wpAny (model prog w) A (pyNext (.ref I)) Q E s :=
  wpAny_pyNext_range_item (N.get (.head _)) hl fun h' hit hs => hQ h' (F.sameNew hLI hs) (News.setAt (own := []) N (fun _ hp => nomatch hp) hI hs hit)
theorem range_end (hh : A.handled = none) (F : Fr h₀ L s.heap m) (N : News h₀ L s.heap ((I, riObj x left) :: led)) (hLI : L < I) (hI : ∀ p ∈ led, p.1 ≠ I) (hl : left ≤ 0)
    (hQ : ∀ h', Fr h₀ L h' m → News h₀ L h' led → Q none { s with heap := h' }) : wpAny (model prog w) A (pyNext (.ref I)) Q E s := by
  refine wpAny_pyNext_range_end hh (N.get (.head _)) hl fun h' he => hQ h' ?_ fun p hp => ⟨he _ _ (hI p hp) (N p (.tail _ hp)).1, (N p (.tail _ hp)).2⟩
  exact ⟨let ⟨oL, es, ep, hoL, r⟩ := F.ns; ⟨oL, es, ep, he _ _ (Nat.ne_of_lt hLI) hoL, r⟩, fun b o e => he b o (fun q => by rw [q, (N (I, riObj x left) (.head _)).2.2] at e; cases e) (F.keep b o e), F.above⟩
end
/-- the letter of a place -/
noncomputable def cntAt (rs : List Quad) (p : Int) : Nat := (rs.filter fun r => p.fmod r.2.1 == r.1).length
noncomputable def ltr (rs : List Quad) (p : Int) : PySem.Str := Txt.item (Str.ofString "ABCDEFG") (cntAt rs p : Int)
noncomputable abbrev mL (P l : Addr) : PySem.Str → Option Value := fun y => if y = Str.ofString "told" then some (.ref P) else if y = Str.ofString "laid" then some (.ref l) else none
theorem StrsAre.snoc {y : PySem.Str} {t : Tok} : ∀ {vs ys}, StrsAre vs ys → StrsAre (vs ++ [.str y t]) (ys ++ [y])
  | _, _, .nil => .cons y t .nil
  | _, _, .cons q u h => .cons q u (StrsAre.snoc h)
theorem AllLt.mem {d : Addr} : ∀ {l : List (Addr × Obj)}, AllLt d l → ∀ p ∈ l, p.1 < d
  | [], _, _, h => nomatch h
  | _ :: _, x, p, h => by
    rcases List.mem_cons.mp h with rfl | h
    · exact x.1
    · exact AllLt.mem x.2 p h
inductive LInv (g' : Heap) (L' P I cA l : Addr) (news : List (Addr × Obj)) (rs : List Quad) (s₀ : Shared) : Nat → Shared → Prop
  | mk {i : Nat} {us : List Value} {c : Nat} {oc : Obj} {ov : Option Value} {h : Heap} {tk : Tok} (a : i ≤ 24) (b : StrsAre us ((List.range i).map fun (j : Nat) => ltr rs (j : Int))) (d : us.length = i) (e : oc.data = .cell ov) (F : Fr g' L' h (mL P l)) (N : News g' L' h ((I, riObj (i : Int) (24 - (i : Int))) :: (P, PySem.W.listOf us.toArray c) :: (cA, oc) :: news)) : LInv g' L' P I cA l news rs s₀ (24 - i) { s₀ with heap := h, toks := tk }
theorem LInv.all {g' : Heap} {L' P I cA l : Addr} {news : List (Addr × Obj)} {rs : List Quad} {s₀ : Shared} {R : Nat → Shared → Prop} (H : ∀ (i : Nat) (us : List Value) (c : Nat) (oc : Obj) (ov : Option Value) (h : Heap) (tk : Tok), i ≤ 24 → StrsAre us ((List.range i).map fun (j : Nat) => ltr rs (j : Int)) → us.length = i → oc.data = .cell ov → Fr g' L' h (mL P l) → News g' L' h ((I, riObj (i : Int) (24 - (i : Int))) :: (P, PySem.W.listOf us.toArray c) :: (cA, oc) :: news) → R (24 - i) { s₀ with heap := h, toks := tk }) : ∀ k s, LInv g' L' P I cA l news rs s₀ k s → R k s
  | _, _, .mk a b d e F N => H _ _ _ _ _ _ _ a b d e F N


end Mine
end

section
open PySem PySem.W PyProof.Rows PySem.Calls PySem.Spec
set_option Elab.async false
namespace Mine
open Builtin Builtin._codecs
section
variable {M : Model} {A : Around} {E : Value → Shared → Prop} {s : Shared}
theorem findIdx_none (p : Nat → Bool) (a : Array Nat) (h : ∀ c ∈ a.toList, p c = false) : a.findIdx? p = none := by
  rw [Array.findIdx?_eq_none_iff]
  intro x hx
  exact h x (Array.mem_toList_iff.mpr hx)
theorem enc_fold (a : Array Nat) : a.foldl (fun acc y => acc ++ (asciiCodec.bytesOf y).toArray) #[] = a.map (fun c => c.toUInt8) := by
  obtain ⟨l⟩ := a
  simp only [List.size_toArray, List.foldl_toArray', List.map_toArray]
  have key : ∀ (l : List Nat) (acc : Array UInt8), l.foldl (fun acc y => acc ++ (asciiCodec.bytesOf y).toArray) acc = acc ++ (l.map (fun c => c.toUInt8)).toArray := by
    intro l
    induction l with
    | nil => simp
    | cons x l ih => intro acc; simp [ih, asciiCodec]
  rw [key]; simp
theorem enc_narrow {id : String} {self : Value} {x : PySem.Str} {Q : Array UInt8 → Shared → Prop} (hx : ∀ c ∈ x.cps.toList, c < 128) (hs : x.cps.size ≤ 1000) (h : Q (x.cps.map (fun c => c.toUInt8)) s) :
    wpAny M A (encodeNarrow id asciiCodec none self x) Q E s := by
  unfold encodeNarrow
  have hbad : ∀ c ∈ x.cps.toList, asciiCodec.bad c = false := fun c hc => by
    have := hx c hc
    simp [asciiCodec]; omega
  rw [show x.length = x.cps.size from rfl]
  simp only [Std.Legacy.Range.forIn_eq_forIn_range', Std.Legacy.Range.size]
  refine wpAny_bind (wpAny_forIn_list _ (fun rest b s' => s = s' ∧ ((b.1 = 0 ∧ b.2.1 = #[] ∧ rest.length = x.cps.size) ∨ (b.1 = x.cps.size ∧ b.2.1 = x.cps.map (fun c => c.toUInt8)))) _ ?_ ?_ _ _ ⟨rfl, .inl ⟨rfl, rfl, by simp⟩⟩)
  · rintro k rest ⟨i, out, st⟩ s' ⟨e, hI⟩
    subst e
    dsimp only at hI ⊢
    rcases hI with ⟨rfl, rfl, hn⟩ | ⟨rfl, rfl⟩
    · rw [if_neg (by simp)]
      have hpos : 0 < x.cps.size := by simp at hn; omega
      have e0 : x.cps[0]? = some x.cps[0] := by simp [hpos]
      rw [e0]
      dsimp only
      rw [hbad _ (by simp)]
      have e1 : x.cps.extract 0 = x.cps := by simp
      rw [e1, findIdx_none _ _ hbad]
      refine wpAny_pure ⟨rfl, .inr ⟨by simp, ?_⟩⟩
      simp only [Option.getD_none, Array.extract_size]
      exact enc_fold x.cps
    · rw [if_neg (by simp [sizeLine]; omega)]
      have e0 : x.cps[x.cps.size]? = none := by simp
      rw [e0]
      exact wpAny_pure (wpAny_pure h)
  · rintro ⟨i, out, st⟩ s' ⟨e, hI⟩
    subst e
    dsimp only at hI ⊢
    rcases hI with ⟨rfl, rfl, hn⟩ | ⟨rfl, rfl⟩
    · have : x.cps = #[] := by
        apply Array.eq_empty_of_size_eq_zero
        simpa using hn.symm
      rw [this] at h
      exact wpAny_pure (by simpa using h)
    · exact wpAny_pure h

theorem dec_ascii {id : String} {b : Array UInt8} {Q : Array Nat × Nat → Shared → Prop} (hx : ∀ c ∈ b.toList, c.toNat < 128) (hs : b.size ≤ 1000) (h : Q (b.map (fun c => c.toNat), b.size) s) :
    wpAny M A (runDecoder id asciiDecoder none true b 0 []) Q E s := by
  unfold runDecoder
  simp only [Std.Legacy.Range.forIn_eq_forIn_range', Std.Legacy.Range.size]
  refine wpAny_bind (wpAny_forIn_list _ (fun rest c s' => s = s' ∧ c.1 + rest.length = b.size ∧ c.2.1 = (b.map (fun c => c.toNat)).extract 0 c.1) _ ?_ ?_ _ _ ⟨rfl, by simp, by simp⟩)
  · rintro k rest ⟨i, out, st⟩ s' ⟨e, h1, h2⟩
    subst e
    dsimp only at h1 h2 ⊢
    simp only [List.length_cons] at h1
    have hi : i < b.size := by omega
    rw [if_neg (by rw [h2]; simp [sizeLine]; omega), if_neg (by omega)]
    have e0 : b.getD i 0 = b[i] := by simp [hi]
    have hc : asciiDecoder.find true b i = .char (b[i].toNat) (i + 1) := by
      show (if (b.getD i 0).toNat < 128 then _ else _) = _
      rw [e0, if_pos (hx _ (by simp))]
    rw [hc]
    refine wpAny_pure ⟨rfl, by omega, ?_⟩
    show out ++ _ = _
    rw [h2]
    apply Array.ext
    · simp; rw [Nat.min_eq_left (Nat.le_of_lt hi), Nat.min_eq_left hi]
    · intro j h3 h4
      simp at h3 h4 ⊢
      rw [Array.getElem_push]
      split
      · simp
      · next hge =>
        have : j = i := by
          simp at hge
          rw [Nat.min_eq_left (Nat.le_of_lt hi)] at h3 hge
          exact Nat.le_antisymm (Nat.le_of_lt_succ h3) hge
        subst this
        rfl
  · rintro ⟨i, out, st⟩ s' ⟨e, h1, h2⟩
    subst e
    dsimp only at h1 h2 ⊢
    simp at h1
    subst h1
    have : out = b.map (fun c => c.toNat) := by
      rw [h2]
      apply Array.ext
      · simp
      · intro j h3 h4; simp
    rw [this]
    exact wpAny_pure h
end

theorem encode_tree2 (x : PySem.Str) (t u : Tok) : «str.encode» ⟨[.str x t, .str (Str.ofString "ascii") u], []⟩ = (do ret (← encodeRoad "str.encode" (.str x t) x (Str.ofString "ascii") none)) := by kernel_rfl
theorem road_ascii (id : String) (self : Value) (x : PySem.Str) : encodeRoad id self x (Str.ofString "ascii") none = (do mkBytes (← encodeNarrow id asciiCodec none self x)) := by kernel_rfl
section
variable {prog : Program} {w : World} {A : Around} {E : Value → Shared → Prop} {s : Shared}
theorem encode_ascii {x : PySem.Str} {t u : Tok} {Q : Value → Shared → Prop} (hx : ∀ c ∈ x.cps.toList, c < 128) (hs : x.cps.size ≤ 1000) (h : ∀ t', Q (.bytes (x.cps.map (fun c => c.toUInt8)) t') { s with toks := s.toks + 1 }) :
    wpAny (model prog w) A (call (.builtin "str.encode") [.str x t, .str (Str.ofString "ascii") u]) Q E s := by
  refine wpAny_call_entry F.slot_str_encode (typeIs_str _ _ _) F.entry_str_encode ?_ (F.args_str_encode_2 _ _)
  rw [encode_tree2, road_ascii]
  refine wpAny_bind (wpAny_bind (enc_narrow hx hs ?_))
  exact wpAny_mkBytes (wpAny_pure ⟨_, rfl, h _⟩) (Nat.le_trans (m := 1000) (by simpa using hs) (by decide))
end

theorem road_dec (id : String) (b : Array UInt8) : decodeRoad id b (Str.ofString "ascii") none [] = (runDecoder id asciiDecoder none true b 0 [] >>= fun r => mkStr ⟨r.1⟩) := by kernel_rfl
theorem dec_entry {c : UInt8} {cs : List UInt8} {t u : Tok} : «bytes.decode» ⟨[.bytes (c :: cs).toArray t, .str (Str.ofString "ascii") u], []⟩ = (mkStr (PySem.Str.ofString "utf-8") >>= fun _ => mkStr (PySem.Str.ofString "ascii") >>= fun e => mkStr (PySem.Str.ofString "bytes.decode") >>= fun d =>
    call (.builtin "_codecs.decode.text") [.bytes (c :: cs).toArray t, e, .none, d] >>= fun v => ret v) := by kernel_rfl
theorem args_dec2 (a b : Value) : argsOk "bytes.decode" ⟨[a, b], []⟩ := by unfold argsOk; kernel_rfl
section
variable {prog : Program} {w : World} {A : Around} {E : Value → Shared → Prop} {s : Shared}
theorem decode_ascii {c : UInt8} {cs : List UInt8} {t u : Tok} {Q : Value → Shared → Prop} (hx : ∀ d ∈ (c :: cs), d.toNat < 128) (hs : (c :: cs).length ≤ 1000) (h : ∀ t' k, Q (.str ⟨((c :: cs).map (fun d => d.toNat)).toArray⟩ t') { s with toks := k }) :
    wpAny (model prog w) A (call (.builtin "bytes.decode") [.bytes (c :: cs).toArray t, .str (Str.ofString "ascii") u]) Q E s := by
  refine wpAny_call_entry FB.slot_bytes_decode (typeIs_bytes _ _ _) FB.entry_bytes_decode ?_ (args_dec2 _ _)
  rw [dec_entry]
  refine wpAny_bind (wpAny_mkStr ?_ (by decide))
  refine wpAny_bind (wpAny_mkStr ?_ (by decide))
  refine wpAny_bind (wpAny_mkStr ?_ (by decide))
  refine wpAny_bind (call_function_entry KBd.kind_text KBd.plain_text KBd.entry_text (KBd.args_text _ _ _ _) ?_)
  show wpAny _ _ (Bytes.bytesLike _ (.bytes _ t) >>= fun r => _) _ _ _
  refine wpAny_bind (wpAny_of_eq KBd.like_eq ?_)
  refine wpAny_bind (wpAny_of_eq KBd.held_eq ?_)
  show wpAny _ _ (_codecs.decodeRoad _ _ (PySem.Str.ofString "ascii") none [] >>= fun v => _) _ _ _
  rw [road_dec]
  refine wpAny_bind (wpAny_bind (dec_ascii (by simpa using hx) (by simpa using hs) ?_))
  refine wpAny_mkStr ?_ (Nat.le_trans (m := 1000) (by simpa [PySem.Str.length] using hs) (by decide))
  have := h (s.toks + 1 + 1 + 1) (s.toks + 1 + 1 + 1 + 1)
  refine wpAny_pure ⟨_, rfl, wpAny_pure ⟨_, rfl, ?_⟩⟩
  simpa using this
end

theorem noRefS {s : Shared} {x : PySem.Str} {t : Tok} : ∀ a, Value.str x t = .ref a → ∃ o, s.heap.get? a = some o ∧ o.dict = none := fun _ e => nomatch e
set_option maxRecDepth 100000 in
theorem meth_encode {M : Model} {A : Around} {E : Value → Shared → Prop} {s : Shared} {x : PySem.Str} {t : Tok} {pl : Sem Bool} {Q : Value × List Value → Shared → Prop} (h : Q (.builtin "str.encode", [.str x t]) s) : wpAny M A (getMethod (.str x t) "encode" pl) Q E s :=
  by with_reducible exact getMethod_builtin (typeIs_str s x t) F.plainAttrs_str F.slot_str_encode F.type_str_encode noRefS h
end Mine
end

section
open PySem PySem.W PyProof.Rows PySem.Calls PySem.Spec
set_option Elab.async false
namespace Mine
open Builtin Builtin.Str
theorem join_go (f : Nat → Nat) : ∀ (l : List Nat) (acc : Array Nat), (l.map fun j => (⟨#[f j]⟩ : PySem.Str)).foldl (fun acc p => acc ++ (Str.ofString "").cps ++ p.cps) acc = acc ++ (l.map f).toArray
  | [], acc => by simp
  | j :: l, acc => by
    simp only [List.map_cons, List.foldl_cons]
    rw [join_go f l]
    have : (Str.ofString "").cps = #[] := rfl
    rw [this]
    simp
theorem join_letters (f : Nat → Nat) (l : List Nat) : Txt.join (Str.ofString "") (l.map fun j => (⟨#[f j]⟩ : PySem.Str)) = ⟨(l.map f).toArray⟩ := by
  unfold Txt.join glued
  cases l with
  | nil => rfl
  | cons j l =>
    simp only [List.map_cons, List.drop_succ_cons, List.drop_zero, List.headD_cons]
    rw [join_go]
    simp
theorem filterMap_some {g : Nat → Option Nat} {f : Nat → Nat} : ∀ (l : List Nat), (∀ j ∈ l, g j = some (f j)) → l.filterMap g = l.map f
  | [], _ => rfl
  | j :: l, h => by
    rw [List.filterMap_cons, h j (.head _), List.map_cons, filterMap_some l fun k hk => h k (.tail _ hk)]
theorem rev24 (f : Nat → Nat) (t : Tok) : Txt.sliceBy ⟨((List.range 24).map f).toArray⟩ none none (-1, t) = ⟨((List.range 24).reverse.map f).toArray⟩ := by
  unfold Txt.sliceBy
  rw [if_neg (by simp)]
  have hp : slicePicked (⟨((List.range 24).map f).toArray⟩ : PySem.Str) none none (some (-1, t)) = (List.range 24).reverse := by
    have e : (⟨((List.range 24).map f).toArray⟩ : PySem.Str).length = 24 := by simp [PySem.Str.length]
    unfold slicePicked
    rw [e]
    rfl
  rw [hp, filterMap_some (f := f)]
  intro j hj
  simp at hj ⊢
  exact ⟨j, by simp [hj], rfl⟩
theorem ltr_code {rs : List Quad} (h : rs.length ≤ 6) (p : Int) : ltr rs p = ⟨#[65 + cntAt rs p]⟩ := by
  have : cntAt rs p ≤ 6 := Nat.le_trans (List.length_filter_le _ _) h
  unfold ltr
  generalize cntAt rs p = q at *
  match q, this with
  | 0, _ | 1, _ | 2, _ | 3, _ | 4, _ | 5, _ | 6, _ => rfl
theorem drop_take {p : Nat → Bool} : ∀ l : List Nat, l.drop (l.takeWhile p).length = l.dropWhile p
  | [] => rfl
  | a :: l => by
    rw [List.takeWhile_cons, List.dropWhile_cons]
    cases p a with
    | true => simpa using drop_take l
    | false => rfl
theorem lstripA (l : List Nat) : Txt.lstripChars ⟨l.toArray⟩ (Str.ofString "A") = ⟨(l.dropWhile (· == 65)).toArray⟩ := by
  unfold Txt.lstripChars
  rw [PyProof.Rows.stripBy_eq]
  have hp : (Str.ofString "A").cps.contains = fun c => c == 65 := by
    funext c
    show Array.contains #[65] c = _
    by_cases h : c = 65
    · subst h; simp
    · rw [beq_false_of_ne h]; simp [h, Ne.symm h]
  unfold strSub stripLo stripHi
  simp only [hp, if_true, Bool.false_eq_true, if_false, PySem.Str.length]
  congr 1
  rw [← drop_take]
  apply Array.toList_inj.mp
  simp only [List.extract_toArray, List.extract_eq_take_drop, List.size_toArray]
  rw [List.take_of_length_le]
  simp
/-- what _law_letters tells -/
noncomputable def told (rs : List Quad) : List UInt8 := (((List.range 24).reverse.map fun (j : Nat) => 65 + cntAt rs (j : Int)).dropWhile (· == 65)).map fun c => c.toUInt8
end Mine
end

section
open PySem PySem.W PyProof.Rows PySem.Calls PySem.Spec
set_option Elab.async false
namespace Mine
section
variable (w : World) (mean : ExcName → Option Value) (mg mb : Str → Option Value)
   (dp un : Nat) (gd : Option (List Code)) (cn : Str) (cs : Scope) (a : Addr) (ccd : Value) (cl : List (Str × Addr)) (outer : List Env) (A₀ : Around) (base h₀ : Heap) (L : Addr) (m : Str → Option Value) (s : Shared) (news : List (Addr × Obj)) (Q E : Value → Shared → Prop)
   (B : Below A₀ base outer h₀) (F : Fr h₀ L s.heap m) (X : (Mine.hd.heap_39 w.params).In h₀) (N : News h₀ L s.heap news) (T : Top Mine.hd.view_39 (looseW Mine.hd.view_39 []) mean mg mb h₀) (hk : cs.kind = .function)
include B F X N T hk
set_option maxRecDepth 100000 in
set_option maxHeartbeats 8000000 in
theorem letters_call (hd : dp + 20 < recursionLimit) (hu : un + 200 < cLine)
   (l : Addr) (items : Array Value) (c : Nat) (hl : (l, PySem.W.listOf items c) ∈ news) (rs : List Quad) (hlaid : LaidAt news items rs) (hsz : rs.length ≤ 6) (hst : ∀ r ∈ rs, 2 ≤ r.2.1)
   (hret : ∀ (t : Tok) (h' : Heap) (tk' : Nat), Fr h₀ L h' m → News h₀ L h' news → Q (.bytes (told rs).toArray t) { s with heap := h', toks := tk' }) :
   wpAny (model PySem.Challenge.rw_xj0005_01.row.prog w) (ktrTop dp un gd cn cs L a ccd cl outer) (call (.ref 82) [.ref l]) Q E s := by
  k_with_none
  (k_with "storeName" => (k_here; (try dsimp only); k_dflt (first   | ((with_reducible show wpAny _ _ (storeName _ _ (Value.int _ _)) _ _ _); (refine' Mine.storeI ?topF ?topN ?topA ?_; (case topA => exact rfl); (case topF => k_asm); (case topN => k_asm); k_whole); intro _ _ _ _ _)   | ((refine' Mine.storeG ?topF ?topN ?topA ?_; (case topA => exact rfl); (case topF => k_asm); (case topN => k_asm); k_whole); intro _ _ _ _)); (try k_sweep)))
  (k_with "eval Name" => (k_here; k_dflt (refine' Mine.nameL ?topF ?topA ?topV ?_; (case topF => k_asm); (case topA => exact rfl); (case topV => exact Mine.nameAt_rfl _ _); k_whole)))
  (k_with "eval Constant int" => (k_here; (try dsimp only); refine Mine.constI ?_))
  (k_with "eval ListComp" => (k_here; refine hold ?_))
  (k_with "cellC_enter" => (refine' code_defC ?k1 ?k2 ?k3 ?k4 ?k5 ?kA ?kF ?kK ?k6 ?k7 ?k8 ?k9 ?kB ?kD ?_ ?c2 ?c3 ?c4; (case kA => exact rfl); (case kF => exact rfl); (case kK => assumption); (case k1 => k_asm); (case k2 => k_asm); (case k3 => k_asm); (case k4 => k_asm); (case k5 => k_asm); (case k6 => k_is); (case k7 => k_is); (case k8 => ktr_room); (case k9 => exact BindsTo.of_eq rfl); (case kB => exact rfl); (case kD => decide +kernel); (case c2 => exact rfl); (case c3 => exact rfl); (case c4 => exact rfl); k_whole; intro g' L' h' tk' cells' FG' F' N' Y' B' X' T' l1; (try k_lt l1); k_cells Y'; (try simp only [List.cons_append, List.nil_append] at N'); (try dsimp only); (try k_lift B'); (try k_fold)))
  (k_with "eval Name" => (k_here; k_dflt (refine' LCgL.ld_own ?N ?m ?C ?x ?_; (case N => k_asm); (case m => k_mem); (case C => assumption); (case x => exact rfl); k_whole)))
  revert X; k_fill; intro X
  refine wpAny_call ?_
  k_dflt (k_extra "cellC_enter")
  (show wpAny _ _ _ _ _ _); k_fold
  refine gen_tok0 ?_
  intro tk0
  k_steps
  refine wpAny_For ?_ (by intro _; rfl)
  k_steps
  rename IsRange _ _ _ _ _ _ _ _ => hR
  rename Fr _ _ _ _ => hF
  rename News _ _ _ _ => hN
  refine wpAny_pyIter_range hR (by decide) ?_
  have FG := FG'
  have l1a := l1
  rename_i oc d1 P h2 l1b tkS h1 F2 N2 hh tk1 tt1 uu1 vv1 keepR
  have hLh : L' < hh.objs.size := by obtain ⟨o, _, _, e, _⟩ := hF.ns; exact Heap.lt_size e
  have hI : ∀ q ∈ ((P, PySem.W.listOf #[] 0) :: (L' + 1, oc) :: news), q.1 < hh.objs.size := fun q hq => Heap.lt_size (hN q hq).1
  have F3 := hF.push (riObj 0 24)
  have N3 := News.push hF hN (riObj 0 24)
  try dsimp only
  generalize hh.objs.size = I at *
  refine for_own (fun _ _ => LInv g' L' P I (L' + 1) l news rs s) 24 ?_ (LInv.all ?_)
  · exact LInv.mk (i := 0) (us := []) (Nat.zero_le _) .nil rfl d1 (fr_ext F3 (fun y => rfl)) N3
  have hIP : @LT.lt Nat _ P I := hI _ (.head _)
  have hIc : @LT.lt Nat _ (L' + 1) I := hI _ (.tail _ (.head _))
  have hIn : AllLt I news := allLt_of fun q hq => hI q (.tail _ (.tail _ hq))
  have hcn : AllLt (L' + 1) news := allLt_of fun q hq => Nat.lt_succ_of_lt (l1a q hq)
  have hPc : @LT.lt Nat _ (L' + 1) P := l1b.1
  have hPn : AllLt P news := l1b.2
  have hI' : ∀ (o : Obj) (led : PySem.W.listOf #[] 0 = PySem.W.listOf #[] 0), True := fun _ _ => trivial
  clear F3 N3 hF hN hR F2 N2 keepR d1 hI hI'
  intro i us c' oc' ov h tk4 hi hus hul hoc F4 N4
  (show wpAny _ _ _ _ _ _); k_fold
  have hne : ∀ q ∈ ((P, PySem.W.listOf us.toArray c') :: (L' + 1, oc') :: news), q.1 ≠ I := fun q hq => by
    rcases List.mem_cons.mp hq with rfl | hq
    · exact Nat.ne_of_lt hIP
    rcases List.mem_cons.mp hq with rfl | hq
    · exact Nat.ne_of_lt hIc
    · exact Nat.ne_of_lt (AllLt.mem hIn q hq)
  by_cases hi24 : i < 24
  · refine range_item F4 N4 hLh hne (o_left hi24) (fun h5 F5 N5 => ?_)
    have husz : us.toArray.size ≤ sizeLine := Nat.le_trans (m := 1000) (by simp; omega) (by decide)
    clear F4 N4
    try dsimp only
    (try k_unfold)
    try dsimp only
    (show wpAny _ _ _ _ _ _); k_fold
    k_steps
    refine unhold ?_
    rename Fr g' _ _ _ => F6
    rename News g' _ _ _ => N6
    rename_i hC oc6 hoc6
    refine comp_own (h₀ := g') (L := L') (m := mL P l) rfl (by decide) rfl (by decide) ?_ (by intro _; rfl)
    k_steps
    refine laid_src (pr := fun r => (i : Int).fmod r.2.1 == r.1) (f := fun _ => 1) rfl F6 N6 (.tail _ (.tail _ (.tail _ hl))) (hlaid.mono fun q hq => .tail _ (.tail _ (.tail _ hq))) (by omega) rfl rfl rfl rfl rfl ?_ ?_ ?_
    · intro r hr t1 t2 t3 t4 I2 oI2 C2 oC2 D2 oD2 mC2 s2 F7 N7 hn7
      have hr2 := hst r hr
      clear F6 N6
      refine wpAny_tests_one ?_
      k_steps
      exact ⟨_, _, rfl, F7, N7, rfl⟩
    · intro r hr hp t1 t2 t3 t4 I2 oI2 C2 oC2 D2 oD2 mC2 s2 F7 N7 hn7
      clear F6 N6
      k_steps
      exact ⟨_, _, rfl, F7, N7, _, rfl⟩
    · intro D2 ys2 c2 h7 tk7 hys F7 N7 hlt7
      clear F6 N6
      have hfl : ((rs.filter fun r => (i : Int).fmod r.2.1 == r.1).map fun _ => (1 : Int)).length ≤ 6 := by
        rw [List.length_map]
        exact Nat.le_trans (List.length_filter_le _ _) hsz
      k_steps
      refine len_ints_fit ⟨_, (N7 _ (.head _)).1, rfl, _, rfl⟩ hys (Nat.lt_of_le_of_lt hfl (by decide)) ?_
      rw [List.length_map] at hfl ⊢
      have hq : (rs.filter fun r => (i : Int).fmod r.2.1 == r.1).length = cntAt rs i := rfl
      rw [hq] at hfl ⊢
      k_lt hlt7
      k_steps
      · exact o_dec hi24
      · rename Fr g' _ _ (mL P l) => F8
        rename News g' _ _ (_ :: _ :: _ :: _ :: _) => N8
        simp only [List.push_toArray] at N8
        refine LInv.mk (i := i + 1) (us := us ++ [.str (ltr rs (i : Int)) (tk7 + 1 + 1)]) (c := c' + 1) hi24 ?a (by simp [hul]) hoc6 F8 ?b
        case b =>
          have e1 : ((i + 1 : Nat) : Int) = (i : Int) + 1 := by omega
          have e2 : (24 : Int) - ((i : Int) + 1) = 24 - (i : Int) - 1 := by omega
          rw [e1, e2]
          exact fun q hq => N8 q (.tail _ hq)
        case a =>
          rw [List.range_succ, List.map_append]
          exact StrsAre.snoc hus
  · have hi24' : i = 24 := o_end hi hi24
    subst hi24'
    refine range_end rfl F4 N4 hLh hne (by decide) (fun h5 F5 N5 => ?_)
    clear F4 N4
    try dsimp only
    k_steps
    have hlt : (fun (j : Nat) => ltr rs (j : Int)) = fun (j : Nat) => (⟨#[65 + cntAt rs (j : Int)]⟩ : PySem.Str) := funext fun j => ltr_code hsz j
    have hc6 : ∀ j : Nat, cntAt rs (j : Int) ≤ 6 := fun j => Nat.le_trans (List.length_filter_le _ _) hsz
    rw [hlt] at hus
    refine join_listW (ys := (List.range 24).map fun (j : Nat) => (⟨#[65 + cntAt rs (j : Int)]⟩ : PySem.Str)) ⟨_, (N5 _ (.head _)).1, rfl, _, rfl⟩ (by simpa using hus) (by decide) ?_ ?_
    · rw [List.map_map, show ((PySem.Str.length ∘ fun (j : Nat) => (⟨#[65 + cntAt rs (j : Int)]⟩ : PySem.Str)) = fun _ => 1) from rfl, List.length_map]
      decide
    intro t8 k8
    rw [join_letters]
    k_steps
    refine slice_strK_nn (s := ⟨_, _, _, _, _⟩) F5 N5 rfl (fun h9 t9 c9 F9 N9 => ?_) (by with_unfolding_all rfl) (by intro _; with_unfolding_all rfl) (Nat.le_trans (m := 1000) (by simp [PySem.Str.length]) (by decide))
    rw [rev24]
    clear F5 N5
    k_steps
    refine KXw.lstripChars (lstripA _) (Nat.le_trans (m := 1000) (by simp [PySem.Str.length]) (by decide)) (fun t10 k10 => ?_)
    have hdrop : ∀ c ∈ ((List.range 24).reverse.map fun (j : Nat) => 65 + cntAt rs (j : Int)).dropWhile (· == 65), c < 128 := fun c hc => by
      have := (List.dropWhile_sublist _).subset hc
      obtain ⟨j, _, rfl⟩ := List.mem_map.mp this
      have := hc6 j
      omega
    have hdl : (((List.range 24).reverse.map fun (j : Nat) => 65 + cntAt rs (j : Int)).dropWhile (· == 65)).length ≤ 24 := Nat.le_trans (List.dropWhile_sublist _).length_le (by simp)
    k_steps
    refine meth_encode ?_
    k_steps
    refine encode_ascii ?e1 ?e2 (fun t11 => ?_)
    case e1 => exact hdrop
    case e2 => exact Nat.le_trans hdl (by decide)
    have he : Array.map (fun c => c.toUInt8) (((List.range 24).reverse.map fun (j : Nat) => 65 + cntAt rs (j : Int)).dropWhile (· == 65)).toArray = (told rs).toArray := by simp [told]
    try dsimp only
    rw [he]
    k_steps
    rename News h₀ _ _ (_ :: _ :: _) => kN2
    exact hret _ _ _ (by assumption) (fun q hq => kN2 q (.tail _ (.tail _ hq)))
end
end Mine

theorem Mine.reset_M3 : True := by
  k_with_none
  trivial
end

section
open PySem PySem.W PyProof.Rows PySem.Calls PySem.Spec
set_option Elab.async false
namespace Mine
noncomputable def sumsOf (cs : List Int) : List Int := cs.foldl (fun S c => S ++ S.map (· + c)) [0]
theorem sums_go : ∀ (cs S : List Int), (cs.foldl (fun S c => S ++ S.map (· + c)) S).length = S.length * 2 ^ cs.length
  | [], S => by simp
  | c :: cs, S => by
    rw [List.foldl_cons, sums_go cs, List.length_append, List.length_map, List.length_cons, Nat.pow_succ]
    grind
theorem sums_len (cs : List Int) : (sumsOf cs).length = 2 ^ cs.length := by rw [sumsOf, sums_go]; simp
theorem sums_go_bd (B : Int) : ∀ (cs S : List Int), (∀ c ∈ cs, 0 ≤ c ∧ c ≤ 12) → (∀ n ∈ S, 0 ≤ n ∧ n ≤ B) → ∀ n ∈ cs.foldl (fun S c => S ++ S.map (· + c)) S, 0 ≤ n ∧ n ≤ B + 12 * cs.length
  | [], S, _, hS => fun n hn => by simpa using hS n hn
  | c :: cs, S, hc, hS => fun n hn => by
    have h12 := hc c (.head _)
    have := sums_go_bd (B + 12) cs (S ++ S.map (· + c)) (fun d hd => hc d (.tail _ hd)) (fun k hk => by
      rcases List.mem_append.mp hk with hk | hk
      · have := hS k hk; omega
      · obtain ⟨j, hj, rfl⟩ := List.mem_map.mp hk
        have := hS j hj; omega) n hn
    simp only [List.length_cons]
    omega
theorem sums_bd {cs : List Int} (h : ∀ c ∈ cs, 0 ≤ c ∧ c ≤ 12) (hl : cs.length ≤ 6) : ∀ n ∈ sumsOf cs, 0 ≤ n ∧ n ≤ 72 := fun n hn => by
  have := sums_go_bd 0 cs [0] h (by simp) n hn
  omega
theorem and15 : ∀ k : Fin 73, Builtin.bitAnd (9 * ((k.val : Nat) : Int)) 15 = (9 * ((k.val : Nat) : Int)) % 16 := by decide +kernel
theorem zh_ok {n : Int} (h0 : 0 ≤ n) (h1 : n ≤ 72) : DivOk ((9 * n).fdiv (2 ^ Int.toNat 4)) (Builtin.bitAnd (9 * n) 15) 216 13 8 4 (n.fdiv 24) (9 * (n % 24)) := by
  have e : Builtin.bitAnd (9 * n) 15 = (9 * n) % 16 := by
    have := and15 ⟨n.toNat, by omega⟩
    simp only [Int.toNat_of_nonneg h0] at this
    exact this
  have e2 : (9 * n).fdiv (2 ^ Int.toNat 4) = (9 * n) / 16 := Int.fdiv_eq_ediv_of_nonneg _ (by decide)
  have e3 : n.fdiv 24 = n / 24 := Int.fdiv_eq_ediv_of_nonneg _ (by decide)
  have e4 : (2 : Int) ^ Int.toNat 4 = 16 := rfl
  rw [e, e2, e3]
  constructor <;> (try rw [e4]) <;> omega
noncomputable abbrev mS (S l : Addr) (tx : PySem.Str) (tt : Tok) (nv sv mv : Option Value) : PySem.Str → Option Value := fun y => if y = Str.ofString "number" then nv else if y = Str.ofString "step" then sv else if y = Str.ofString "mark" then mv else
  if y = Str.ofString "sums" then some (.ref S) else if y = Str.ofString "text" then some (.str tx tt) else if y = Str.ofString "laid" then some (.ref l) else none
inductive SInv (g' : Heap) (L' I l : Addr) (news : List (Addr × Obj)) (rs : List Quad) (tx : PySem.Str) (tt : Tok) (s₀ : Shared) : Nat → Shared → Prop
  | mk {i : Nat} {us : List Value} {c : Nat} {oI o1 o2 : Obj} {v1 v2 nv sv mv : Option Value} {S : Addr} {h : Heap} {tk : Tok} (hi : i ≤ rs.length) (a : IntsAre us (sumsOf ((rs.take i).map fun r => r.2.2.1))) (b : o1.data = .cell v1) (d : o2.data = .cell v2) (e : @LT.lt Nat _ (L' + 1 + 1) S) (f : S ≠ I) (g : h.IsListIter I l i) (F : Fr g' L' h (mS S l tx tt nv sv mv)) (N : News g' L' h ((I, oI) :: (S, PySem.W.listOf us.toArray c) :: (L' + 1 + 1, o1) :: (L' + 1, o2) :: news)) : SInv g' L' I l news rs tx tt s₀ (rs.length + 1 - i) { s₀ with heap := h, toks := tk }
theorem SInv.all {g' : Heap} {L' I l : Addr} {news : List (Addr × Obj)} {rs : List Quad} {tx : PySem.Str} {tt : Tok} {s₀ : Shared} {R : Nat → Shared → Prop} (H : ∀ (i : Nat) (us : List Value) (c : Nat) (oI o1 o2 : Obj) (v1 v2 nv sv mv : Option Value) (S : Addr) (h : Heap) (tk : Tok), i ≤ rs.length → IntsAre us (sumsOf ((rs.take i).map fun r => r.2.2.1)) → o1.data = .cell v1 → o2.data = .cell v2 → @LT.lt Nat _ (L' + 1 + 1) S → S ≠ I → h.IsListIter I l i → Fr g' L' h (mS S l tx tt nv sv mv) → News g' L' h ((I, oI) :: (S, PySem.W.listOf us.toArray c) :: (L' + 1 + 1, o1) :: (L' + 1, o2) :: news) → R (rs.length + 1 - i) { s₀ with heap := h, toks := tk }) : ∀ k s, SInv g' L' I l news rs tx tt s₀ k s → R k s
  | _, _, .mk hi a b d e f g F N => H _ _ _ _ _ _ _ _ _ _ _ _ _ _ hi a b d e f g F N

theorem sinv_next {g' : Heap} {L' I l D' D2 S' : Addr} {news : List (Addr × Obj)} {rs : List Quad} {tx : PySem.Str} {tt : Tok} {s₀ : Shared} {i : Nat} {ws : List Value} {oI o1 o2 oD oS : Obj} {v1 v2 nv sv mv : Option Value} {h : Heap} {tk : Tok} {r : Quad} {cw : Nat}
    (hi : i < rs.length) (hr : rs[i]? = some r) (hi' : IntsAre ws (sumsOf ((rs.take i).map fun r => r.2.2.1) ++ (List.filter (fun _ => true) (sumsOf ((rs.take i).map fun r => r.2.2.1))).map (fun n => n + r.2.2.1))) (hd1 : o1.data = .cell v1) (hd2 : o2.data = .cell v2)
    (l1 : D2 < D' ∧ I < D' ∧ S' < D' ∧ L' + 1 + 1 < D' ∧ L' + 1 < D' ∧ AllLt D' news) (hr5 : oI.cls = Value.type "list_iterator" ∧ oI.data = Data.fields #[Value.ref l, Value.int (↑(i + 1)) 0])
    (F : Fr g' L' h (fun y => if y = Str.ofString "sums" then some (Value.ref D') else mS S' l tx tt nv sv mv y)) (N : News g' L' h ((D', PySem.W.listOf ws.toArray cw) :: (D2, oD) :: (I, oI) :: (S', oS) :: (L' + 1 + 1, o1) :: (L' + 1, o2) :: news)) :
    SInv g' L' I l news rs tx tt s₀ (rs.length + 1 - (i + 1)) { s₀ with heap := h, toks := tk } := by
  refine SInv.mk (i := i + 1) (us := ws) (c := cw) (oI := oI) (nv := nv) (sv := sv) (mv := mv) (S := D') hi ?_ hd1 hd2 l1.2.2.2.1 (Nat.ne_of_gt l1.2.1) ⟨_, (N _ (.tail _ (.tail _ (.head _)))).1, hr5⟩ (fr_ext F (fun y => ?_)) (fun q hq => N q ?_)
  · rw [List.take_add_one, hr]
    simp only [Option.toList_some, List.map_append, List.map_cons, List.map_nil]
    have e : sumsOf (((rs.take i).map fun r => r.2.2.1) ++ [r.2.2.1]) = sumsOf ((rs.take i).map fun r => r.2.2.1) ++ (sumsOf ((rs.take i).map fun r => r.2.2.1)).map (· + r.2.2.1) := by
      unfold sumsOf
      rw [List.foldl_append]; rfl
    rw [e]
    rw [List.filter_eq_self.mpr (fun _ _ => rfl)] at hi'
    exact hi'
  · by_cases e1 : y = Str.ofString "number"
    · subst e1; rfl
    by_cases e2 : y = Str.ofString "step"
    · subst e2; rfl
    by_cases e3 : y = Str.ofString "mark"
    · subst e3; rfl
    simp only [mS, e1, e2, e3, if_false]
    by_cases e4 : y = Str.ofString "sums"
    · subst e4; rfl
    simp only [e4, if_false]
  · rcases List.mem_cons.mp hq with rfl | hq
    · exact .tail _ (.tail _ (.head _))
    rcases List.mem_cons.mp hq with rfl | hq
    · exact .head _
    · exact .tail _ (.tail _ (.tail _ (.tail _ hq)))
noncomputable def JL (base : Heap) (Lf : Addr) (m : PySem.Str → Option Value) (news : List (Addr × Obj)) (s₀ : Shared) (G : Int) (s' : Shared) : Prop :=
  ∃ (c : Int) (t : Tok) (h : Heap) (tk : Tok), c = (if G = 3 then 3 else 2) ∧ s' = { s₀ with heap := h, toks := tk } ∧ Fr base Lf h (fun y => if y = Str.ofString "least" then some (.int c t) else m y) ∧ News base Lf h news
theorem if_least {M : Model} {A : Around} {E : Value → Shared → Prop} {Q : Flow → Shared → Prop} {s : Shared} {st : Stmt} {env : Env} {base : Heap} {Lf : Addr} {m : PySem.Str → Option Value} {news : List (Addr × Obj)} {v : Option Value} (G : Int)
    (_F : Fr base Lf s.heap (fun y => if y = Str.ofString "least" then v else m y)) (_N : News base Lf s.heap news)
    (h1 : wpAny M A (exec st env) (fun f s' => f = .next ∧ JL base Lf m news s G s') E s)
    (h2 : ∀ (c : Int) (t : Tok) (h : Heap) (tk : Tok), c = (if G = 3 then 3 else 2) → 2 ≤ c → c ≤ 3 → Fr base Lf h (fun y => if y = Str.ofString "least" then some (.int c t) else m y) → News base Lf h news → Q .next { s with heap := h, toks := tk }) :
    wpAny M A (exec st env) Q E s :=
  wpAny_mono h1 (fun f s' hj => by
    obtain ⟨e, c, t, h, tk, a, b, d, g⟩ := hj
    subst e b
    exact h2 c t h tk a (by rw [a]; split <;> omega) (by rw [a]; split <;> omega) d g) (fun _ _ h => h)
theorem JL.three {base h : Heap} {Lf : Addr} {m : PySem.Str → Option Value} {news : List (Addr × Obj)} {s₀ s' : Shared} {G : Int} {t tk : Tok} {v : Option Value} (hG : G = 3) (F : Fr base Lf h (fun y => if y = Str.ofString "least" then some (.int 3 t) else if y = Str.ofString "least" then v else m y))
    (N : News base Lf h news) (e : s' = { s₀ with heap := h, toks := tk }) : JL base Lf m news s₀ G s' :=
  ⟨3, t, h, tk, by rw [if_pos hG], e, fr_ext F (fun y => by
    by_cases e : y = Str.ofString "least"
    · subst e; rfl
    · simp only [e, if_false]), N⟩
theorem JL.two {base h : Heap} {Lf : Addr} {m : PySem.Str → Option Value} {news : List (Addr × Obj)} {s₀ s' : Shared} {G : Int} {t tk : Tok} (hG : ¬ G = 3) (F : Fr base Lf h (fun y => if y = Str.ofString "least" then some (.int 2 t) else m y))
    (N : News base Lf h news) (e : s' = { s₀ with heap := h, toks := tk }) : JL base Lf m news s₀ G s' :=
  ⟨2, t, h, tk, by rw [if_neg hG], e, F, N⟩
section
variable (w : World) (mean : ExcName → Option Value) (mg mb : Str → Option Value)
   (dp un : Nat) (gd : Option (List Code)) (cn : Str) (cs : Scope) (a : Addr) (ccd : Value) (cl : List (Str × Addr)) (outer : List Env) (A₀ : Around) (base h₀ : Heap) (L : Addr) (m : Str → Option Value) (s : Shared) (news : List (Addr × Obj)) (Q E : Value → Shared → Prop)
   (B : Below A₀ base outer h₀) (F : Fr h₀ L s.heap m) (X : (Mine.hd.heap_39 w.params).In h₀) (N : News h₀ L s.heap news) (T : Top Mine.hd.view_39 (looseW Mine.hd.view_39 []) mean mg mb h₀) (hk : cs.kind = .function)
include B F X N T hk
local macro_rules | `(tactic| ke_room) => `(tactic| ktr_units)
set_option maxRecDepth 100000 in
set_option maxHeartbeats 8000000 in
theorem shares_call (hd : dp + 20 < recursionLimit) (hu : un + 200 < cLine)
   (l : Addr) (items : Array Value) (c : Nat) (hl : (l, PySem.W.listOf items c) ∈ news) (rs : List Quad) (hlaid : LaidAt news items rs) (hsz : rs.length ≤ 6) (hst : ∀ r ∈ rs, 2 ≤ r.2.1 ∧ r.2.1 ≤ 24) (hct : ∀ r ∈ rs, 0 ≤ r.2.2.1 ∧ r.2.2.1 ≤ 12)
   (tx : PySem.Str) (tt : Tok) (hZ : ∃ n ∈ (sumsOf (rs.map fun r => r.2.2.1)).drop 1, n % 24 = 0)
   (hne : rs ≠ []) (hMN : tx = Txt.mul (Str.ofString "B") 24 → ∀ G ∈ rs.map (fun (r : Quad) => r.2.1), (∀ x ∈ rs.map (fun (r : Quad) => r.2.1), x ≤ G) → (((rs.filter fun (r : Quad) => r.2.1 == G).map fun (r : Quad) => r.2.2.2).sum).natAbs < 16 ^ 60 ∧ (if G = 3 then 3 else 2) * (24 / G) ≤ (((apL (((rs.filter fun (r : Quad) => r.2.1 == G).map fun (r : Quad) => r.2.2.2).sum).natAbs).filter fun c => decide (65 < c.toNat)).length : Int))
   (hret : ∀ (h' : Heap) (tk' : Nat), Fr h₀ L h' m → News h₀ L h' news → Q (.bool true) { s with heap := h', toks := tk' }) :
   wpAny (model PySem.Challenge.rw_xj0005_01.row.prog w) (ktrTop dp un gd cn cs L a ccd cl outer) (call (.ref 87) [.ref l, .str tx tt]) Q E s := by
  k_with_none
  (k_with "storeName" => (k_here; (try dsimp only); k_dflt (first   | ((with_reducible show wpAny _ _ (storeName _ _ (Value.int _ _)) _ _ _); (refine' Mine.storeI ?topF ?topN ?topA ?_; (case topA => exact rfl); (case topF => k_asm); (case topN => k_asm); k_whole); intro _ _ _ _ _)   | ((refine' Mine.storeG ?topF ?topN ?topA ?_; (case topA => exact rfl); (case topF => k_asm); (case topN => k_asm); k_whole); intro _ _ _ _)); (try k_sweep)))
  (k_with "eval Name" => (k_here; k_dflt (refine' Mine.nameL ?topF ?topA ?topV ?_; (case topF => k_asm); (case topA => exact rfl); (case topV => exact Mine.nameAt_rfl _ _); k_whole)))
  (k_with "eval Constant int" => (k_here; (try dsimp only); refine Mine.constI ?_))
  (k_with "eval ListComp" => (k_here; refine hold ?_))
  (k_with "exec For Name" => (k_here; refine hold ?_))
  (k_with "exec For Tuple Name" => (k_here; refine hold ?_))
  (k_with "call ref" => (k_here; refine hold ?_))
  (k_with "exec If" => (k_here; (with_reducible show wpAny _ _ (exec (Stmt.If (Expr.Compare (Expr.Name _ _) _ [Expr.Constant _ _ _] _) _ _ _) _) _ _ _); refine hold ?_))
  (k_with "cellC_enter" => (refine' code_defC ?k1 ?k2 ?k3 ?k4 ?k5 ?kA ?kF ?kK ?k6 ?k7 ?k8 ?k9 ?kB ?kD ?_ ?c2 ?c3 ?c4; (case kA => exact rfl); (case kF => exact rfl); (case kK => assumption); (case k1 => k_asm); (case k2 => k_asm); (case k3 => k_asm); (case k4 => k_asm); (case k5 => k_asm); (case k6 => k_is); (case k7 => k_is); (case k8 => ktr_room); (case k9 => exact BindsTo.of_eq rfl); (case kB => exact rfl); (case kD => decide +kernel); (case c2 => exact rfl); (case c3 => exact rfl); (case c4 => exact rfl); k_whole; intro g' L' h' tk' cells' FG' F' N' Y' B' X' T' l1; (try k_lt l1); k_cells Y'; (try simp only [List.cons_append, List.nil_append] at N'); (try dsimp only); (try k_lift B'); (try k_fold)))
  (k_with "eval Name" => (k_here; k_dflt (refine' LCgL.ld_own ?N ?m ?C ?x ?_; (case N => k_asm); (case m => k_mem); (case C => assumption); (case x => exact rfl); k_whole)))
  revert X; k_fill; intro X
  refine wpAny_call ?_
  k_dflt (k_extra "cellC_enter")
  (show wpAny _ _ _ _ _ _); k_fold
  refine gen_tok0 ?_
  intro tk0
  k_steps
  refine unhold ?_
  refine wpAny_For ?_ (by intro _; rfl)
  k_steps
  rename Fr _ _ _ _ => hF
  rename News _ _ _ _ => hN
  have FG := FG'
  have l1a := l1
  rename_i o1 o2 d1 d2 S h2 l1b tkS h1
  have hLn : AllLt L' news := allLt_of l1a
  refine wpAny_pyIter_list (items := items) ⟨_, (hN _ (.tail _ (.tail _ (.tail _ hl)))).1, rfl, _, rfl⟩ ?_
  have F3 := hF.push (iterObj l 0)
  have N3 := News.push hF hN (iterObj l 0)
  have hlt : ∀ q ∈ ((S, PySem.W.listOf #[.int 0 _] 0) :: (L' + 1 + 1, o1) :: (L' + 1, o2) :: news), q.1 < h1.objs.size := fun q hq => Heap.lt_size (hN q hq).1
  try dsimp only
  generalize h1.objs.size = I at *
  refine for_ownT (SInv g' L' I l news rs tx tt s) (rs.length + 1) ?_ (SInv.all ?_)
  · refine SInv.mk (i := 0) (nv := none) (sv := none) (mv := none) (Nat.zero_le _) (.cons _ _ .nil) d1 d2 l1b.1 (Nat.ne_of_lt (hlt _ (.head _))) ⟨_, (N3 _ (.head _)).1, rfl, rfl⟩ (fr_ext F3 (fun y => ?_)) N3
    by_cases e1 : y = Str.ofString "number"
    · subst e1; rfl
    by_cases e2 : y = Str.ofString "step"
    · subst e2; rfl
    by_cases e3 : y = Str.ofString "mark"
    · subst e3; rfl
    simp only [mS, e1, e2, e3, if_false]
    rfl
  have hI1 : @LT.lt Nat _ (L' + 1 + 1) I := hlt _ (.tail _ (.head _))
  have hI2 : @LT.lt Nat _ (L' + 1) I := hlt _ (.tail _ (.tail _ (.head _)))
  have hIL : L' < I := Nat.lt_of_succ_lt hI2
  have hIn : AllLt I news := allLt_of fun q hq => hlt q (.tail _ (.tail _ (.tail _ hq)))
  have hc1n : AllLt (L' + 1) news := allLt_of fun q hq => Nat.lt_succ_of_lt (l1a q hq)
  have hc2n : AllLt (L' + 1 + 1) news := allLt_of fun q hq => Nat.lt_succ_of_lt (Nat.lt_succ_of_lt (l1a q hq))
  clear F3 N3 hF hN d1 d2 hlt
  intro i us c' oI o1' o2' v1 v2 nv sv mv S' h tk4 hi hus hd1 hd2 hS' hSI hit F4 N4
  (show wpAny _ _ _ _ _ _); k_fold
  by_cases hir : i < rs.length
  · obtain ⟨T0, tc, t1, t2, t3, t4, hx, hT0⟩ := hlaid.2 i rs[i] (List.getElem?_eq_getElem hir)
    refine wpAny_pyNext_list_item hit ⟨_, (N4 _ (.tail _ (.tail _ (.tail _ (.tail _ hl))))).1, rfl, _, rfl⟩ hx (fun h5 hit5 hsb5 => ?_)
    obtain ⟨oI5, hoI5, hr5⟩ := id hit5
    have F5 := F4.sameNew hIL hsb5
    have N5 : News g' L' h5 ((I, oI5) :: (S', PySem.W.listOf us.toArray c') :: (L' + 1 + 1, o1') :: (L' + 1, o2') :: news) := News.setAt (own := []) N4 (fun _ hp => nomatch hp) (fun q hq => by
      rcases List.mem_cons.mp hq with rfl | hq
      · exact hSI
      rcases List.mem_cons.mp hq with rfl | hq
      · exact Nat.ne_of_lt hI1
      rcases List.mem_cons.mp hq with rfl | hq
      · exact Nat.ne_of_lt hI2
      · exact Nat.ne_of_lt (AllLt.mem hIn q hq)) hsb5 hoI5
    refine wpAny_letOwnedTupleGo_listiter hit5 ?_
    refine wpAny_assign_Tuple (items := #[.int rs[i].1 t1, .int rs[i].2.1 t2, .int rs[i].2.2.1 t3, .int rs[i].2.2.2 t4]) rfl ⟨_, (N5 _ (.tail _ (.tail _ (.tail _ (.tail _ hT0))))).1, rfl, _, rfl⟩ rfl rfl (fun h6 he6 => ?_)
    have up6 : ∀ b o, h5.get? b = some o → h6.get? b = some o := fun b o e => he6 b o (Nat.ne_of_lt (Heap.lt_size e)) e
    have F6 := F5.keeps up6
    have N6 := N5.keeps up6
    clear F4 N4 F5 N5 he6 up6
    (try k_unfold)
    try dsimp only
    (show wpAny _ _ _ _ _ _); k_fold
    k_steps
    refine unhold ?_
    rename Fr g' _ _ _ => F7'
    rename News g' _ _ _ => N7
    obtain ⟨nv7, sv7, mv7, F7⟩ : ∃ nv sv mv, Fr g' L' _ (mS S' l tx tt nv sv mv) := ⟨_, _, _, fr_ext F7' (fun y => by
      by_cases e1 : y = Str.ofString "number"
      · subst e1; rfl
      by_cases e2 : y = Str.ofString "step"
      · subst e2; rfl
      by_cases e3 : y = Str.ofString "mark"
      · subst e3; rfl
      simp only [mS, e1, e2, e3, if_false])⟩
    clear F7'
    have hsl : (sumsOf ((rs.take i).map fun r => r.2.2.1)).length ≤ 64 := by
      rw [sums_len]
      have : ((rs.take i).map fun r => r.2.2.1).length ≤ 6 := by rw [List.length_map, List.length_take]; omega
      exact Nat.pow_le_pow_right (n := 2) (j := 6) (by decide) this
    refine comp_own (h₀ := g') (L := L') (m := mS S' l tx tt nv7 sv7 mv7) rfl (by decide) rfl (by decide) ?_ (by intro _; rfl)
    k_steps
    refine ints_src (pr := fun _ => true) (f := fun n => n + rs[i].2.2.1) rfl F7 N7 (.tail _ (.head _)) hus (Nat.le_trans hsl (by decide)) rfl rfl ?_ ?_ ?_
    · intro n hn t I2 oI2 C2 oC2 D2 oD2 mC2 s2 F8 N8 hn8
      exact wpAny_tests_nil ⟨_, _, rfl, F8, N8, rfl⟩
    · intro n hn _ t I2 oI2 C2 oC2 D2 oD2 mC2 s2 F8 N8 hn8
      clear F7 N7
      k_steps
      exact ⟨_, _, rfl, F8, N8, _, rfl⟩
    · intro D2 ys2 c2 h7 tk7 hys F8 N8 hlt7
      clear F7 N7
      k_lt hlt7
      k_steps
      rotate_left
      · exact sinv_next hir (List.getElem?_eq_getElem hir) (by assumption) hd1 (by assumption) (by assumption) hr5 (by assumption) (by assumption)
      · exact o_dec1 hir
  · have hin : i = rs.length := o_end hi hir
    subst hin
    refine wpAny_pyNext_list_end rfl hit ⟨_, (N4 _ (.tail _ (.tail _ (.tail _ (.tail _ hl))))).1, rfl, _, rfl⟩ (by simp [hlaid.1]) (fun h5 he5 => ?_)
    have hIg : g'.get? I = none := (N4 (I, oI) (.head _)).2.2
    have F5 : Fr g' L' h5 (mS S' l tx tt nv sv mv) := ⟨let ⟨oL, es, ep, hoL, r⟩ := F4.ns; ⟨oL, es, ep, he5 _ _ (Nat.ne_of_lt hIL) hoL, r⟩, fun b o e => he5 b o (fun q => by rw [q, hIg] at e; cases e) (F4.keep b o e), F4.above⟩
    have N5 : News g' L' h5 ((S', PySem.W.listOf us.toArray c') :: (L' + 1 + 1, o1') :: (L' + 1, o2') :: news) := fun q hq => ⟨he5 _ _ (by
      rcases List.mem_cons.mp hq with rfl | hq
      · exact hSI
      rcases List.mem_cons.mp hq with rfl | hq
      · exact Nat.ne_of_lt hI1
      rcases List.mem_cons.mp hq with rfl | hq
      · exact Nat.ne_of_lt hI2
      · exact Nat.ne_of_lt (AllLt.mem hIn q hq)) (N4 q (.tail _ hq)).1, (N4 q (.tail _ hq)).2⟩
    clear F4 N4 he5
    rw [List.take_length] at hus
    obtain ⟨SS, hSS⟩ : ∃ SS, SS = sumsOf (rs.map fun r => r.2.2.1) := ⟨_, rfl⟩
    rw [← hSS] at hus
    have hsl : SS.length ≤ 64 := by
      rw [hSS, sums_len, List.length_map]
      exact Nat.pow_le_pow_right (n := 2) (j := 6) (by decide) hsz
    have hsu : us.length ≤ 64 := by rw [hus.length]; exact hsl
    try dsimp only
    k_steps
    refine unhold ?_
    refine comp_own (h₀ := g') (L := L') (m := mS S' l tx tt nv sv mv) rfl (by decide) rfl (by decide) ?_ (by intro _; rfl)
    k_steps
    have hbd : ∀ n ∈ SS.drop 1, 0 ≤ n ∧ n ≤ 72 := fun n hn => sums_bd (cs := rs.map fun r => r.2.2.1) (fun c hc => by
      obtain ⟨r, hr, rfl⟩ := List.mem_map.mp hc
      exact hct r hr) (by simpa using hsz) n (hSS ▸ List.mem_of_mem_drop hn)
    rename Fr g' _ _ _ => F6
    rename News g' _ _ _ => N6
    rename IntsAre _ (List.drop 1 SS) => hdr
    refine ints_src (pr := fun n => n % 24 == 0) (f := fun n => n) rfl F6 N6 (.head _) hdr (by simp; omega) rfl rfl ?_ ?_ ?_
    · intro n hn t I2 oI2 C2 oC2 D2 oD2 mC2 s2 F8 N8 hn8
      have hb := hbd n hn
      refine wpAny_tests_one ?_
      clear F6 N6
      k_steps
      refine unhold ?_
      k_dflt (refine' div3n2n_q _ _ _ _ _ _ _ _ _ _ _ _ _ _ _ _ _ _ _ _ _ _ ?k1 ?k2 ?k3 ?k4 ?k5 ?k6 ?kd ?ku _ _ _ _ _ _ _ _ _ _ _ _ _ _ ?kD ?_; (case k1 => k_asm); (case k2 => k_asm); (case k3 => k_asm); (case k4 => k_asm); (case k5 => k_asm); (case k6 => exact rfl); (case kd => ktr_room); (case ku => ktr_units); (case kD => exact zh_ok hb.1 hb.2))
      intro D' t1' t2' c' h' tk' F' N' l1
      dsimp only [tupObj] at N'
      simp only [AllLt, and_true] at l1
      k_steps
      rename Fr g' _ _ _ => F9
      rename News g' _ _ _ => N9
      exact ⟨_, _, rfl, F9, fun q hq => N9 q (.tail _ (.tail _ hq)), Bool.eq_iff_iff.mpr (by simp; omega)⟩
    · intro n hn _ t I2 oI2 C2 oC2 D2 oD2 mC2 s2 F8 N8 hn8
      clear F6 N6
      k_steps
      exact ⟨_, _, rfl, F8, N8, _, rfl⟩
    · intro D2 ys2 c2 h7 tk7 hys F8 N8 hlt7
      clear F6 N6
      k_lt hlt7
      k_steps
      · exfalso
        have hq := (by assumption : decide (List.map (fun n => n) (List.filter (fun n => n % 24 == 0) (List.drop 1 SS)) = []) = true)
        obtain ⟨n, hn, h24⟩ := hZ
        have h1 := of_decide_eq_true hq
        rw [List.map_eq_nil_iff, List.filter_eq_nil_iff] at h1
        exact h1 n (hSS ▸ hn) (by simpa using h24)
      · rename News h₀ _ _ (_ :: _) => kN
        exact hret _ _ (by assumption) (fun q hq => kN q (.tail _ (.tail _ (.tail _ (.tail _ (.tail _ (.tail _ hq)))))))
      have htxB := (by assumption : (tx != Txt.mul (Str.ofString "B") 24) = false)
      refine unhold ?_
      rename Fr g' _ _ _ => F9
      rename News g' _ _ _ => N9
      refine comp_own (h₀ := g') (L := L') (m := mS S' l tx tt nv sv mv) rfl (by decide) rfl (by decide) ?_ (by intro _; rfl)
      k_steps
      refine laid_src (pr := fun _ => true) (f := fun r => r.2.1) rfl F9 N9 (.tail _ (.tail _ (.tail _ (.tail _ (.tail _ (.tail _ hl)))))) (hlaid.mono fun q hq => .tail _ (.tail _ (.tail _ (.tail _ (.tail _ (.tail _ hq)))))) (by omega) rfl rfl rfl rfl rfl ?_ ?_ ?_
      · intro r hr t1 t2 t3 t4 I2 oI2 C2 oC2 D2 oD2 mC2 s2 F7 N7 hn7
        exact wpAny_tests_nil ⟨_, _, rfl, F7, N7, rfl⟩
      · intro r hr hp t1 t2 t3 t4 I2 oI2 C2 oC2 D2 oD2 mC2 s2 F7 N7 hn7
        clear F9 N9
        k_steps
        exact ⟨_, _, rfl, F7, N7, _, rfl⟩
      intro D4 ys4 c4 h11 tk11 hys4 F10 N10 hlt10
      clear F9 N9
      k_lt hlt10
      have hmx : (List.map (fun r : Quad => r.2.1) (List.filter (fun _ => true) rs)) = rs.map fun r => r.2.1 := by rw [List.filter_eq_self.mpr (fun _ _ => rfl)]
      rw [hmx] at hys4
      k_steps
      have hL10 : h11.IsList D4 ys4.toArray := ⟨_, (N10 _ (.head _)).1, rfl, _, rfl⟩
      k_dflt (refine' max_list_N ?k0 ?k1 ?k2 ?k3 ?k4 ?k5 ?_; (case k0 => exact rfl); (case k1 => exact F10); (case k2 => exact N10); (case k3 => exact hL10); (case k4 => exact hys4); (case k5 => rw [List.length_map]; exact List.length_pos_iff.mpr hne))
      intro h12 G t12 tk12 F11 N11 hG hGle
      clear F10 N10
      have htxe : tx = Txt.mul (Str.ofString "B") 24 := by simpa using htxB
      have hM1 := (hMN htxe G hG hGle).1
      have hG2 : 2 ≤ G ∧ G ≤ 24 := by
        obtain ⟨r, hr, rfl⟩ := List.mem_map.mp hG
        exact hst r hr
      have hG0 : G ≠ 0 := by omega
      obtain ⟨hG2, hG24⟩ := hG2
      k_steps
      refine unhold ?_
      rename Fr g' _ _ _ => F20
      rename News g' _ _ _ => N20
      refine if_least G F20 N20 ?_ ?_
      · refine wpAny_If ?_
        k_steps
        · exact JL.three (by assumption) (by assumption) (by assumption) rfl
        · exact JL.two (by assumption) (by assumption) (by assumption) rfl
      intro lc tl h20 tk20 hlc hl2 hl3 F21 N21
      clear F20 N20
      try dsimp only
      k_steps
      all_goals
        refine unhold ?_
        rename Fr g' _ _ _ => F12
        rename News g' _ _ _ => N12
        refine comp_at F12 rfl (by decide) rfl (by decide) ?_ (by intro _; rfl)
        k_steps
        refine laid_src (pr := fun r => r.2.1 == G) (f := fun r => r.2.2.2) rfl F12 N12 (.tail _ (.tail _ (.tail _ (.tail _ (.tail _ (.tail _ (.tail _ hl))))))) (hlaid.mono fun q hq => .tail _ (.tail _ (.tail _ (.tail _ (.tail _ (.tail _ (.tail _ hq))))))) (by omega) rfl rfl rfl rfl rfl ?_ ?_ ?_
        · intro r hr t1 t2 t3 t4 I2 oI2 C2 oC2 D2 oD2 mC2 s2 F7 N7 hn7
          clear F12 N12
          refine wpAny_tests_one ?_
          k_steps
          exact ⟨_, _, rfl, F7, N7, rfl⟩
        · intro r hr hp t1 t2 t3 t4 I2 oI2 C2 oC2 D2 oD2 mC2 s2 F7 N7 hn7
          clear F12 N12
          k_steps
          exact ⟨_, _, rfl, F7, N7, _, rfl⟩
        · intro D5 ys5 c5 h13 tk13 hys5 F13 N13 hlt13
          clear F12 N12
          k_lt hlt13
          k_steps
          refine unhold ?_
          rename Fr g' _ _ _ => F14
          rename News g' _ _ _ => N14
          refine comp_at F14 rfl (by decide) rfl (by decide) ?_ (by intro _; rfl)
          k_steps
          refine unhold ?_
          k_dflt (refine' int2ap_call _ _ _ _ _ _ _ _ _ _ _ _ _ _ _ _ _ _ _ _ _ _ ?k1 ?k2 ?k3 ?k4 ?k5 ?k6 ?kd ?ku _ _ hM1 ?_; (case k1 => k_asm); (case k2 => k_asm); (case k3 => k_asm); (case k4 => k_asm); (case k5 => k_asm); (case k6 => exact rfl); (case kd => ktr_room); (case ku => ktr_units))
          intro t15 h15 tk15 F15 N15
          clear F14 N14
          refine bytes_src (pr := fun c => decide (65 < c.toNat)) (f := fun _ => 1) rfl F15 N15 (Nat.le_trans (apL_len 60 _ hM1) (by decide)) rfl rfl ?_ ?_ ?_
          · intro n t I2 oI2 C2 oC2 D2 oD2 mC2 s2 F7 N7 hn7
            clear F15 N15
            refine wpAny_tests_one ?_
            k_steps
            exact ⟨_, _, rfl, F7, N7, decide_eq_decide.mpr (by omega)⟩
          · intro n hp t I2 oI2 C2 oC2 D2 oD2 mC2 s2 F7 N7 hn7
            clear F15 N15
            k_steps
            exact ⟨_, _, rfl, F7, N7, _, rfl⟩
          · intro D6 ys6 c6 h16 tk16 hys6 F16 N16 hlt16
            clear F15 N15
            k_lt hlt16
            k_steps
            refine len_ints_fit ⟨_, (N16 _ (.head _)).1, rfl, _, rfl⟩ hys6 (by rw [List.length_map]; exact Nat.lt_of_le_of_lt (List.length_filter_le _ _) (Nat.lt_of_le_of_lt (apL_len 60 _ hM1) (by decide))) ?_
            k_steps
            have hM2 := (hMN htxe G hG hGle).2
            rename News h₀ _ _ (_ :: _) => kN
            have e : (24:Int).fdiv G = 24 / G := Int.fdiv_eq_ediv_of_nonneg _ (by omega)
            rw [← hlc] at hM2
            rw [e, List.length_map, decide_eq_true hM2]
            exact hret _ _ (by assumption) (fun q hq => kN q (.tail _ (.tail _ (.tail _ (.tail _ (.tail _ (.tail _ (.tail _ (.tail _ (.tail _ hq))))))))))
end
end Mine

theorem Mine.reset_M4 : True := by
  k_with_none
  trivial
end

section
open PySem PySem.W PyProof.Rows PySem.Calls PySem.Spec
set_option Elab.async false
namespace Mine
noncomputable def okR (r : Quad) : Prop := DvOk r.2.1 ∧ 0 ≤ r.1 ∧ r.1 < r.2.1 ∧ r.2.2.1 = 24 / r.2.1 ∧ r.2.2.2 = 16 ^ r.1.toNat * ((16 ^ 24 - 1) / (16 ^ r.2.1.toNat - 1))
noncomputable def Good (rs : List Quad) (total gap : Int) : Prop := (∀ r ∈ rs, okR r) ∧ total = (rs.map fun r => r.2.2.2).sum ∧ 0 ≤ gap ∧ gap ≤ 23
noncomputable abbrev mW (m0 : PySem.Str → Option Value) (total gap : Int) (tt tg : Tok) (l D : Addr) : PySem.Str → Option Value := fun y => if y = Str.ofString "gap" then some (.int gap tg) else if y = Str.ofString "total" then some (.int total tt) else
  if y = Str.ofString "laid" then some (.ref l) else if y = Str.ofString "cells" then some (.ref D) else m0 y
inductive LawInv (base : Heap) (Lf I D l : Addr) (us : List Value) (cD : Nat) (s₀ : Shared) : Nat → Shared → Prop
  | mk {i : Nat} {rs : List Quad} {items : Array Value} {c : Nat} {total gap : Int} {tt tg : Tok} {TT : List (Addr × Obj)} {m0 : PySem.Str → Option Value} {h : Heap} {tk : Tok} {G : Array GenState} (hi : i ≤ 6) (a : AllBare G) (b : Good rs total gap) (d : rs.length = i) (e : LaidAt TT items rs) (f : (∀ q ∈ TT, @LT.lt Nat _ I q.1)) (F : Fr base Lf h (mW m0 total gap tt tg l D)) (N : News base Lf h ((I, riObj (i : Int) (6 - (i : Int))) :: (l, PySem.W.listOf items c) :: (D, PySem.W.listOf us.toArray cD) :: TT)) : LawInv base Lf I D l us cD s₀ (6 - i) { s₀ with heap := h, toks := tk, gens := G }
theorem LawInv.all {base : Heap} {Lf I D l : Addr} {us : List Value} {cD : Nat} {s₀ : Shared} {R : Nat → Shared → Prop} (H : ∀ (i : Nat) (rs : List Quad) (items : Array Value) (c : Nat) (total gap : Int) (tt tg : Tok) (TT : List (Addr × Obj)) (m0 : PySem.Str → Option Value) (h : Heap) (tk : Tok) (G : Array GenState), i ≤ 6 → AllBare G → Good rs total gap → rs.length = i → LaidAt TT items rs → (∀ q ∈ TT, @LT.lt Nat _ I q.1) → Fr base Lf h (mW m0 total gap tt tg l D) → News base Lf h ((I, riObj (i : Int) (6 - (i : Int))) :: (l, PySem.W.listOf items c) :: (D, PySem.W.listOf us.toArray cD) :: TT) → R (6 - i) { s₀ with heap := h, toks := tk, gens := G }) : ∀ k s, LawInv base Lf I D l us cD s₀ k s → R k s
  | _, _, .mk hi a b d e f F N => H _ _ _ _ _ _ _ _ _ _ _ _ _ hi a b d e f F N

theorem menu_dv (ce : Int) : DvOk ([(2 : Int), 3, 4, 6, 8, 12, 24].getD (ce.fmod 7).toNat 0) := by
  have h1 : 0 ≤ ce.fmod 7 := Int.fmod_nonneg_of_pos _ (by decide)
  have h2 : ce.fmod 7 < 7 := Int.fmod_lt_of_pos _ (by decide)
  have h3 : (ce.fmod 7).toNat < 7 := by omega
  generalize (ce.fmod 7).toNat = j at h3
  unfold DvOk
  match j, h3 with
  | 0, _ => simp
  | 1, _ => simp
  | 2, _ => simp
  | 3, _ => simp
  | 4, _ => simp
  | 5, _ => simp
  | 6, _ => simp
noncomputable def cutVal (a b : Int) (j : Nat) : Int := if j = 0 then a else b
theorem cut_spec {a b : Int} {r : List Int} (ha : a ≠ 127) (ha0 : a ≠ 0) (hb : b ≠ 127) (hb0 : b ≠ 0) : GSpec (cutVal a b) false 100 100 (a :: b :: 0 :: r) none :=
  .item _ _ _ _ ha ha0 rfl (.item _ _ _ _ hb hb0 rfl (.rep _ _ _ rfl fun m hm => by unfold cutVal; rw [if_neg (by omega)]))
end Mine
end

section
open PySem PySem.W PyProof.Rows
set_option Elab.async false
namespace Mine
noncomputable def menu : List Nat := [2, 3, 4, 6, 8, 12, 24]
noncomputable def nm (mk x : Nat) : Nat := 16 ^ mk * ((16 ^ 24 - 1) / (16 ^ x - 1))
theorem DvOk.menu {x : Int} (h : DvOk x) : x.toNat ∈ menu ∧ (x.toNat : Int) = x := by
  unfold DvOk at h
  rcases h with rfl | rfl | rfl | rfl | rfl | rfl | rfl <;> decide
theorem nm_int (mk x : Int) (hx : DvOk x) : (16 : Int) ^ mk.toNat * ((16 ^ 24 - 1) / (16 ^ x.toNat - 1)) = (nm mk.toNat x.toNat : Nat) := by
  unfold nm
  unfold DvOk at hx
  rcases hx with rfl | rfl | rfl | rfl | rfl | rfl | rfl <;> simp [Int.natCast_mul, Int.natCast_pow]
theorem nm_lt : ∀ x ∈ menu, ∀ mk, mk < x → nm mk x < 16 ^ 24 := by decide +kernel
/-- the letters of a number as codes, low to high -/
noncomputable def hexd : Nat → Nat → List Nat
  | 0, _ => []
  | f + 1, n => if n = 0 then [] else (65 + n % 16) :: hexd f (n / 16)
theorem apL_hexd : ∀ (f n : Nat), n < 16 ^ f → apL n = ((hexd f n).reverse).map UInt8.ofNat
  | 0, n, h => by
    have : n = 0 := by simpa using h
    subst this; simp [apL, hexd]
  | f + 1, n, h => by
    rw [apL, hexd]
    by_cases h0 : n = 0
    · simp [h0]
    · rw [dif_neg h0, if_neg h0, apL_hexd f (n / 16) (by rw [Nat.pow_succ] at h; omega)]
      simp
noncomputable def pcsN (of lead x : Nat) : List (List Nat) := ((65 + of) :: List.replicate lead 65) :: List.replicate (24 / x - 1) ((65 + of) :: List.replicate (x - 1) 65)
noncomputable def lowN (ps : List (List Nat)) : List Nat := (ps.map List.reverse).flatten
theorem hexd_shift (f n : Nat) (hn : n ≠ 0) : ∀ m, hexd (m + f) (16 ^ m * n) = List.replicate m 65 ++ hexd f n
  | 0 => by simp
  | m + 1 => by
    have h0 : 16 ^ m * n ≠ 0 := Nat.mul_ne_zero (Nat.ne_of_gt (Nat.pow_pos (by decide))) hn
    have e : 16 ^ (m + 1) * n = 16 * (16 ^ m * n) := by rw [Nat.pow_succ, Nat.mul_comm (16 ^ m) 16, Nat.mul_assoc]
    rw [e, Nat.add_right_comm, hexd, if_neg (Nat.mul_ne_zero (by decide) h0), Nat.mul_mod_right, Nat.mul_div_cancel_left _ (by decide), hexd_shift f n hn m]
    rfl
theorem hexd_more : ∀ (f g n : Nat), n < 16 ^ f → hexd (f + g) n = hexd f n
  | 0, g, n, h => by
    have : n = 0 := by simpa using h
    subst this
    cases g <;> simp [hexd]
  | f + 1, g, n, h => by
    rw [Nat.add_right_comm, hexd, hexd, hexd_more f g (n / 16) (Nat.div_lt_of_lt_mul (by rw [Nat.mul_comm, ← Nat.pow_succ]; exact h))]
noncomputable def rep (x : Nat) : Nat := (16 ^ 24 - 1) / (16 ^ x - 1)
theorem cut_base : ∀ x ∈ menu, ∀ of, of < 15 → hexd (25 - x) ((of + 1) * rep x) = lowN (pcsN (of + 1) 0 x) ∧ (of + 1) * rep x < 16 ^ (25 - x) ∧ (of + 1) * rep x ≠ 0 := by decide +kernel
theorem lowN_lead (of lead x : Nat) : lowN (pcsN of lead x) = List.replicate lead 65 ++ lowN (pcsN of 0 x) := by
  simp [lowN, pcsN, List.reverse_replicate]
theorem menu_le : ∀ x ∈ menu, x ≤ 24 := by decide
theorem cut_lead {x of m : Nat} (hx : x ∈ menu) (ho : of < 15) (hm : m < 2 * x) : hexd 60 (16 ^ m * ((of + 1) * rep x)) = lowN (pcsN (of + 1) m x) := by
  obtain ⟨h1, h2, h3⟩ := cut_base x hx of ho
  have hx24 := menu_le x hx
  have e : 60 = m + (25 - x + (35 + x - m)) := by omega
  rw [lowN_lead, e, hexd_shift _ _ h3, hexd_more _ _ _ h2, h1]
theorem cut_all : ∀ x ∈ menu, ∀ mk, mk < x → ∀ of, of < 15 → hexd 60 ((of + 1) * nm mk x) = lowN (pcsN (of + 1) mk x) ∧ hexd 60 ((of + 1) * nm mk x * 16 ^ x) = lowN (pcsN (of + 1) (mk + x) x) := fun x hx mk hk of ho => by
  have e1 : (of + 1) * nm mk x = 16 ^ mk * ((of + 1) * rep x) := Nat.mul_left_comm _ _ _
  have e2 : (of + 1) * nm mk x * 16 ^ x = 16 ^ (mk + x) * ((of + 1) * rep x) := by rw [e1, Nat.mul_right_comm, ← Nat.pow_add]
  rw [e2, e1]
  exact ⟨cut_lead hx ho (by omega), cut_lead hx ho (by omega)⟩
end Mine
end

section
open PySem PySem.W PyProof.Rows
set_option Elab.async false
namespace Mine
noncomputable def pcs (of lead x : Nat) : List (List UInt8) := (pcsN of lead x).map fun p => p.map UInt8.ofNat
theorem low_flat (ps : List (List Nat)) : ((lowN ps).reverse).map UInt8.ofNat = ((ps.map fun p => p.map UInt8.ofNat)).reverse.flatten := by
  unfold lowN
  rw [List.reverse_flatten, List.map_flatten]
  congr 1
  simp [List.map_reverse]
theorem told_even (of : Int) (nu : Nat) (h0 : 0 ≤ of) : ((1 + of) * (nu : Int)).natAbs = (of.toNat + 1) * nu := by
  obtain ⟨k, rfl⟩ := Int.eq_ofNat_of_zero_le h0
  rw [Int.natAbs_mul, Int.natAbs_natCast]
  congr 1
  omega
theorem told_odd (of : Int) (nu e : Nat) (h0 : 0 ≤ of) : (-((1 + of) * (nu : Int)) * 16 ^ e).natAbs = (of.toNat + 1) * nu * 16 ^ e := by
  rw [Int.natAbs_mul, Int.natAbs_neg, told_even of nu h0, Int.natAbs_pow]
  rfl
theorem told_lt {of nu : Nat} (h : of < 15) (hn : nu < 16 ^ 24) : (of + 1) * nu < 16 ^ 25 := by
  have : (of + 1) * nu ≤ 15 * nu := Nat.mul_le_mul_right _ (by omega)
  omega
theorem told_lt2 {of nu e : Nat} (h : of < 15) (hn : nu < 16 ^ 24) (he : e ≤ 24) : (of + 1) * nu * 16 ^ e < 16 ^ 49 := by
  have h1 := told_lt h hn
  have h2 : 16 ^ e ≤ 16 ^ 24 := Nat.pow_le_pow_right (by decide) he
  calc _ ≤ (of + 1) * nu * 16 ^ 24 := Nat.mul_le_mul_left _ h2
    _ < 16 ^ 25 * 16 ^ 24 := Nat.mul_lt_mul_of_pos_right h1 (by decide)
theorem p16_fits {x : Int} (h : x ≤ 24) : ((16 : Int) ^ x.toNat).natAbs < 2 ^ 300 := by
  rw [Int.natAbs_pow]
  have h2 : 16 ^ x.toNat ≤ 16 ^ 24 := Nat.pow_le_pow_right (n := 16) (by decide) (by omega)
  exact Nat.lt_of_le_of_lt h2 (by decide)
theorem cut_even {mk x of : Int} (hx : DvOk x) (h0 : 0 ≤ mk) (h1 : mk < x) (ho0 : 0 ≤ of) (ho1 : of < 15) :
    apL ((1 + of) * ((nm mk.toNat x.toNat : Nat) : Int)).natAbs = (pcs (of.toNat + 1) mk.toNat x.toNat).reverse.flatten := by
  have hn := nm_lt x.toNat hx.menu.1 mk.toNat (by omega)
  have hc := (cut_all x.toNat hx.menu.1 mk.toNat (by omega) of.toNat (by omega)).1
  rw [told_even of _ ho0, apL_hexd 60 _ (Nat.lt_trans (told_lt (by omega) hn) (by decide)), hc, low_flat]
  rfl
theorem cut_odd {mk x of : Int} (hx : DvOk x) (h0 : 0 ≤ mk) (h1 : mk < x) (ho0 : 0 ≤ of) (ho1 : of < 15) :
    apL (-((1 + of) * ((nm mk.toNat x.toNat : Nat) : Int)) * 16 ^ x.toNat).natAbs = (pcs (of.toNat + 1) (mk + x).toNat x.toNat).reverse.flatten := by
  have hn := nm_lt x.toNat hx.menu.1 mk.toNat (by omega)
  have hc := (cut_all x.toNat hx.menu.1 mk.toNat (by omega) of.toNat (by omega)).2
  have e : mk.toNat + x.toNat = (mk + x).toNat := by have := hx.rng; omega
  rw [told_odd of _ _ ho0, apL_hexd 60 _ (Nat.lt_trans (told_lt2 (by omega) hn (by have := hx.rng; omega)) (by decide)), hc, low_flat, e]
  rfl
theorem pcs_len (of lead x : Nat) : (pcs of lead x).length = 24 / x - 1 + 1 := by simp [pcs, pcsN]
theorem pcs_val {of lead x : Nat} (hx : 0 < x) : ∀ j p, (pcs of lead x)[j]? = some p → cutVal ((lead : Int) + 1) x j = p.length ∧ 0 < p.length := by
  intro j p h
  unfold pcs pcsN cutVal at *
  match j with
  | 0 =>
    simp at h
    subst h
    simp
  | j + 1 =>
    simp only [List.map_cons, List.getElem?_cons_succ, List.map_replicate] at h
    rw [List.getElem?_replicate] at h
    split at h
    · injection h with h
      subst h
      simp
      omega
    · cases h
end Mine
namespace Mine
open PySem PySem.W PyProof.Rows
theorem cut_spec_at {lead x : Int} {r : List Int} (h0 : 0 ≤ lead) (h1 : lead ≤ 60) (hx : DvOk x) : GSpec (cutVal (((lead.toNat : Nat) : Int) + 1) ((x.toNat : Nat) : Int)) false 100 100 ((lead + 1) :: x :: 0 :: r) none := by
  have := hx.rng
  rw [Int.toNat_of_nonneg h0, Int.toNat_of_nonneg (by omega)]
  exact cut_spec (by omega) (by omega) (by omega) (by omega)
theorem pcs_lt {of lead x : Nat} : (pcs of lead x).length < 100 := by
  rw [pcs_len]
  have := Nat.div_le_self 24 x
  omega
theorem pcs_ne {of lead x : Nat} : pcs of lead x ≠ [] := by simp [pcs, pcsN]
end Mine
namespace Mine
open PySem PySem.W PyProof.Rows
theorem rep_flat (c : UInt8) : ∀ k : Nat, (List.replicate k [c]).flatten = List.replicate k c
  | 0 => rfl
  | k + 1 => by rw [List.replicate_succ, List.flatten_cons, rep_flat c k]; rfl
theorem add_letter {prog : Program} {w : World} {A : Around} {E Q : Value → Shared → Prop} {s : Shared} {x c : UInt8} {t u : Tok} {k : Nat} (hk : k ≤ 100)
    (h : ∀ t' n, Q (.bytes (x :: List.replicate k c).toArray t') { s with toks := n }) : wpAny (model prog w) A (binaryOp .Add (.bytes #[x] t) (.bytes (List.replicate k [c]).flatten.toArray u)) Q E s := by
  rw [rep_flat]
  refine KBy.add_bytes (by simp; omega) fun t' n => ?_
  have e : #[x] ++ (List.replicate k c).toArray = (x :: List.replicate k c).toArray := by simp
  rw [e]
  exact h t' n
theorem dv_fdiv {x : Int} (h : DvOk x) : 1 ≤ Int.fdiv 24 x ∧ Int.fdiv 24 x ≤ 12 ∧ Int.fdiv 24 x = 24 / x ∧ (24 / x.toNat : Nat) = (24 / x).toNat := by
  unfold DvOk at h
  rcases h with rfl | rfl | rfl | rfl | rfl | rfl | rfl <;> decide
end Mine
namespace Mine
open PySem PySem.W PyProof.Rows PySem.SeqAt
section
variable {s : Shared} {A : Around}
theorem rcAt_bytes (a : Array UInt8) (t : Tok) (b : Array UInt8) (u : Tok) : RcAt A s (.bytes a t) (.bytes b u) (a.toList == b.toList) := fun prog w E Q h =>
  richCompare_gives (typeIs_bytes s a t) (typeIs_bytes s b u) FB.slot_bytes_eq FB.entry_bytes_eq (FB.args_bytes_eq_2 _ _) (gives_bytes_eq a b t u) (fun e => nomatch e) h
theorem eqAt_bytes (a : Array UInt8) (t : Tok) (b : Array UInt8) (u : Tok) : EqAt A s (.bytes a t) (.bytes b u) (a.toList == b.toList) := fun prog w E Q h => by
  unfold eqBool
  refine wpAny_holding ?_
  refine wpAny_ite_split (fun hab => ?_) (fun _ => ?_)
  · have e : a = b := by have := eq_of_beq hab; injection this
    subst e
    exact wpAny_bind (wpAny_rule (wpAny_pure (by simpa using h)))
  · exact wpAny_bind (rcAt_bytes a t b u prog w E _ (wpAny_truthy_bool h))
theorem BytesAre.get {p : List (List UInt8)} {us : List Value} (h : BytesAre us p) : us.length = p.length ∧ ∀ j (hj : j < us.length), ∃ q t, p[j]? = some q ∧ us[j] = .bytes q.toArray t := by
  induction h with
  | nil => exact ⟨rfl, fun j hj => nomatch hj⟩
  | cons q t _ ih =>
    refine ⟨by simp [ih.1], fun j hj => ?_⟩
    cases j with
    | zero => exact ⟨q, t, rfl, rfl⟩
    | succ j => exact ih.2 j (by simpa using hj)
theorem ne_bytes_lists {prog : Program} {w : World} {E Q : Value → Shared → Prop} {a b : Addr} {us vs : List Value} {ps : List (List UInt8)} (ha : s.heap.IsList a us.toArray) (hb : s.heap.IsList b vs.toArray) (hi : BytesAre us ps) (hj : BytesAre vs ps)
    (hu : A.units + 64 < cLine) (h : Q (.bool false) s) : wpAny (model prog w) A (compareOp .NotEq (.ref a) (.ref b)) Q E s := by
  have he : ∀ j (j1 : j < us.toArray.size) (j2 : j < vs.toArray.size), EqAt A.in1 s us.toArray[j] vs.toArray[j] ((fun _ => true) j) := fun j j1 j2 => by
    obtain ⟨q, t, e1, e2⟩ := hi.get.2 j (by simpa using j1)
    obtain ⟨q', t', e1', e2'⟩ := hj.get.2 j (by simpa using j2)
    have : q = q' := by rw [e1] at e1'; exact Option.some.inj e1'
    subst this
    simp only [List.getElem_toArray, e2, e2']
    have := eqAt_bytes (A := A.in1) (s := s) q.toArray t q.toArray t'
    simpa using this
  have := RcNeAt.lists ha hb (by simp [hi.get.1, hj.get.1]) (by omega) he prog w E Q (by
    have e : (List.range us.toArray.size).all (fun _ => true) = true := List.all_eq_true.mpr (fun _ _ => rfl)
    rw [e]; exact h)
  exact this
theorem bytes_rep {p : List UInt8} {t : Tok} : ∀ k : Nat, BytesAre (List.replicate k (.bytes p.toArray t)) (List.replicate k p)
  | 0 => .nil
  | k + 1 => by rw [List.replicate_succ, List.replicate_succ]; exact .cons p t (bytes_rep k)
theorem bytes_due {of lead x : Nat} {t u : Tok} {c : UInt8} (hc : c = UInt8.ofNat (65 + of)) {l1 l2 k : Nat} (h1 : l1 = lead) (h2 : l2 = x - 1) (h3 : k = 24 / x - 1) :
    BytesAre (.bytes (c :: List.replicate l1 65).toArray t :: List.replicate k (.bytes (c :: List.replicate l2 65).toArray u)) (pcs of lead x) := by
  subst hc h1 h2 h3
  have : pcs of l1 x = (UInt8.ofNat (65 + of) :: List.replicate l1 65) :: List.replicate (24 / x - 1) (UInt8.ofNat (65 + of) :: List.replicate (x - 1) 65) := by simp [pcs, pcsN]
  rw [this]
  exact .cons _ _ (bytes_rep _)
end
end Mine
namespace Mine
open PySem PySem.W PyProof.Rows
section
variable {prog : Program} {w : World} {A : Around} {E Q : Value → Shared → Prop} {s : Shared} {h₀ : Heap} {L l a b : Addr} {m : Str → Option Value} {news : List (Addr × Obj)} {v v1 : Value} {c c1 c2 : Nat}
theorem mul_one {x : Int} {u : Tok} (F : Fr h₀ L s.heap m) (N : News h₀ L s.heap news) (hl : (l, PySem.W.listOf #[v] c) ∈ news) (h0 : 0 ≤ x) (h1 : x ≤ 256)
    (h : ∀ D h', Fr h₀ L h' m → News h₀ L h' ((D, PySem.W.listOf (List.replicate x.toNat v).toArray 0) :: news) → AllLt D news → Q (.ref D) { s with heap := h' }) : wpAny (model prog w) A (binaryOp .Mult (.ref l) (.int x u)) Q E s :=
  KMa.mul (vs := [v]) F N ⟨_, (N _ hl).1, rfl, _, rfl⟩ (by omega) (by omega) (by simp; omega) (by
    generalize x.toNat = k
    induction k with
    | zero => rfl
    | succ k ih => rw [List.replicate_succ, List.flatten_cons, ih]; rfl) fun D h' F' N' hlt => h D h' F' N' (allLt_of hlt)
theorem add_one {k : Nat} (F : Fr h₀ L s.heap m) (N : News h₀ L s.heap news) (ha : (a, PySem.W.listOf #[v1] c1) ∈ news) (hb : (b, PySem.W.listOf (List.replicate k v).toArray c2) ∈ news) (hk : k ≤ 256)
    (h : ∀ D h', Fr h₀ L h' m → News h₀ L h' ((D, PySem.W.listOf (v1 :: List.replicate k v).toArray 0) :: news) → AllLt D news → Q (.ref D) { s with heap := h' }) : wpAny (model prog w) A (binaryOp .Add (.ref a) (.ref b)) Q E s :=
  kmk_add_lit F N ⟨_, (N _ ha).1, rfl, _, rfl⟩ ⟨_, (N _ hb).1, rfl, _, rfl⟩ (by simp) (fun D h' F' N' hlt => h D h' F' N' (allLt_of hlt)) (Nat.le_trans (m := 1000) (by simp; omega) (by decide))
end
end Mine
namespace Mine
open PySem PySem.W PyProof.Rows
noncomputable def J1 (base : Heap) (Lf : Addr) (m : PySem.Str → Option Value) (news : List (Addr × Obj)) (s₀ : Shared) (x : Int) (s' : Shared) : Prop :=
  ∃ (mk : Int) (t : Tok) (h : Heap) (tk : Tok), 0 ≤ mk ∧ mk < x ∧ s' = { s₀ with heap := h, toks := tk } ∧ Fr base Lf h (fun y => if y = Str.ofString "mark" then some (.int mk t) else m y) ∧ News base Lf h news
theorem if_mark {M : Model} {A : Around} {E : Value → Shared → Prop} {Q : Flow → Shared → Prop} {s : Shared} {st : Stmt} {env : Env} {base : Heap} {Lf : Addr} {m : PySem.Str → Option Value} {news : List (Addr × Obj)} {v : Option Value} (x : Int)
    (_F : Fr base Lf s.heap (fun y => if y = Str.ofString "mark" then v else m y)) (_N : News base Lf s.heap news)
    (h1 : wpAny M A (exec st env) (fun f s' => f = .next ∧ J1 base Lf m news s x s') E s)
    (h2 : ∀ (mk : Int) (t : Tok) (h : Heap) (tk : Tok), 0 ≤ mk → mk < x → Fr base Lf h (fun y => if y = Str.ofString "mark" then some (.int mk t) else m y) → News base Lf h news → Q .next { s with heap := h, toks := tk }) :
    wpAny M A (exec st env) Q E s :=
  wpAny_mono h1 (fun f s' hj => by obtain ⟨e, mk, t, h, tk, a, b, c, d, g⟩ := hj; subst e c; exact h2 mk t h tk a b d g) (fun _ _ h => h)
noncomputable def mT (m : PySem.Str → Option Value) (told : Int) (t1 : Tok) (R : Addr) (lead : Int) (t2 : Tok) : PySem.Str → Option Value := fun y => if y = Str.ofString "told" then some (.int told t1) else if y = Str.ofString "row" then some (.ref R) else if y = Str.ofString "lead" then some (.int lead t2) else m y
noncomputable def J2 (base : Heap) (Lf : Addr) (m : PySem.Str → Option Value) (news : List (Addr × Obj)) (s₀ : Shared) (of : Nat) (x : Int) (s' : Shared) : Prop :=
  ∃ (lead told : Int) (R : Addr) (vals : Array Value) (c : Nat) (r : List Int) (t1 t2 : Tok) (h : Heap) (tk : Tok), 0 ≤ lead ∧ lead ≤ 60 ∧ told.natAbs < 16 ^ 60 ∧ apL told.natAbs = (pcs of lead.toNat x.toNat).reverse.flatten ∧ IntsAre vals.toList ((lead + 1) :: x :: 0 :: r) ∧
    s' = { s₀ with heap := h, toks := tk } ∧ Fr base Lf h (mT m told t1 R lead t2) ∧ News base Lf h ((R, PySem.W.listOf vals c) :: news) ∧ AllLt R news
theorem if_odd {M : Model} {A : Around} {E : Value → Shared → Prop} {Q : Flow → Shared → Prop} {s : Shared} {st : Stmt} {env : Env} {base : Heap} {Lf : Addr} {m : PySem.Str → Option Value} {news : List (Addr × Obj)} {v1 v2 v3 : Option Value} {R : Addr × Obj} (of : Nat) (x : Int)
    (_F : Fr base Lf s.heap (fun y => if y = Str.ofString "told" then v1 else if y = Str.ofString "row" then v2 else if y = Str.ofString "lead" then v3 else m y)) (_N : News base Lf s.heap (R :: news))
    (h1 : wpAny M A (exec st env) (fun f s' => f = .next ∧ J2 base Lf m news s of x s') E s)
    (h2 : ∀ (lead told : Int) (R : Addr) (vals : Array Value) (c : Nat) (r : List Int) (t1 t2 : Tok) (h : Heap) (tk : Tok), 0 ≤ lead → lead ≤ 60 → told.natAbs < 16 ^ 60 → apL told.natAbs = (pcs of lead.toNat x.toNat).reverse.flatten → IntsAre vals.toList ((lead + 1) :: x :: 0 :: r) →
      Fr base Lf h (fun y => if y = Str.ofString "told" then some (.int told t1) else if y = Str.ofString "row" then some (.ref R) else if y = Str.ofString "lead" then some (.int lead t2) else m y) → News base Lf h ((R, PySem.W.listOf vals c) :: news) → AllLt R news → Q .next { s with heap := h, toks := tk }) :
    wpAny M A (exec st env) Q E s :=
  wpAny_mono h1 (fun f s' hj => by obtain ⟨e, lead, told, R, vals, c, r, t1, t2, h, tk, a1, a2, a3, a4, a5, a6, a7, a8, a9⟩ := hj; subst e a6; exact h2 lead told R vals c r t1 t2 h tk a1 a2 a3 a4 a5 a7 a8 a9) (fun _ _ h => h)
end Mine
namespace Mine
open PySem PySem.W PyProof.Rows
theorem J1.joined {base h : Heap} {Lf : Addr} {m : PySem.Str → Option Value} {news : List (Addr × Obj)} {s₀ s' : Shared} {x mk : Int} {t tk : Tok} {v : Option Value} (F : Fr base Lf h (fun y => if y = Str.ofString "mark" then some (.int mk t) else if y = Str.ofString "mark" then v else m y))
    (N : News base Lf h news) (h0 : 0 ≤ mk) (h1 : mk < x) (e : s' = { s₀ with heap := h, toks := tk }) : J1 base Lf m news s₀ x s' :=
  ⟨mk, t, h, tk, h0, h1, e, fr_ext F (fun y => by
    by_cases e : y = Str.ofString "mark"
    · subst e; rfl
    · simp only [e, if_false]), N⟩
theorem J2.odd {base h : Heap} {Lf : Addr} {m : PySem.Str → Option Value} {news : List (Addr × Obj)} {s₀ s' : Shared} {of : Nat} {x told lead : Int} {t1 t2 tk : Tok} {v1 v2 v3 : Option Value} {R : Addr} {R1 : Addr × Obj} {vals : Array Value} {c : Nat} {r : List Int}
    (F : Fr base Lf h (fun y => if y = Str.ofString "told" then some (.int told t1) else if y = Str.ofString "row" then some (.ref R) else if y = Str.ofString "lead" then some (.int lead t2) else
      if y = Str.ofString "told" then v1 else if y = Str.ofString "row" then v2 else if y = Str.ofString "lead" then v3 else m y))
    (N : News base Lf h ((R, PySem.W.listOf vals c) :: R1 :: news)) (l : AllLt R news) (i : IntsAre vals.toList ((lead + 1) :: x :: 0 :: r)) (h0 : 0 ≤ lead) (h1 : lead ≤ 60) (ht : told.natAbs < 16 ^ 60) (ha : apL told.natAbs = (pcs of lead.toNat x.toNat).reverse.flatten)
    (e : s' = { s₀ with heap := h, toks := tk }) : J2 base Lf m news s₀ of x s' :=
  ⟨lead, told, R, vals, c, r, t1, t2, h, tk, h0, h1, ht, ha, i, e, fr_ext F (fun y => by
    unfold mT
    by_cases e1 : y = Str.ofString "told"
    · subst e1; rfl
    by_cases e2 : y = Str.ofString "row"
    · subst e2; rfl
    by_cases e3 : y = Str.ofString "lead"
    · subst e3; rfl
    simp only [e1, e2, e3, if_false]), fun q hq => N q (by
      rcases List.mem_cons.mp hq with rfl | hq
      · exact .head _
      · exact .tail _ (.tail _ hq)), l⟩
theorem J2.even {base h : Heap} {Lf : Addr} {m : PySem.Str → Option Value} {news : List (Addr × Obj)} {s₀ s' : Shared} {of : Nat} {x told lead : Int} {t1 t2 tk : Tok} {R : Addr} {vals : Array Value} {c : Nat} {r : List Int}
    (F : Fr base Lf h (fun y => if y = Str.ofString "told" then some (.int told t1) else if y = Str.ofString "row" then some (.ref R) else if y = Str.ofString "lead" then some (.int lead t2) else m y))
    (N : News base Lf h ((R, PySem.W.listOf vals c) :: news)) (l : AllLt R news) (i : IntsAre vals.toList ((lead + 1) :: x :: 0 :: r)) (h0 : 0 ≤ lead) (h1 : lead ≤ 60) (ht : told.natAbs < 16 ^ 60) (ha : apL told.natAbs = (pcs of lead.toNat x.toNat).reverse.flatten)
    (e : s' = { s₀ with heap := h, toks := tk }) : J2 base Lf m news s₀ of x s' :=
  ⟨lead, told, R, vals, c, r, t1, t2, h, tk, h0, h1, ht, ha, i, e, F, N, l⟩
end Mine
end

section
open PySem PySem.W PyProof.Rows PySem.Calls PySem.Spec
set_option Elab.async false
namespace Mine
noncomputable abbrev mQ (mR : PySem.Str → Option Value) (total number mark step : Int) (t1 t2 t3 t4 : Tok) (P l D : Addr) : PySem.Str → Option Value := fun y =>
  if y = Str.ofString "total" then some (.int total t1) else if y = Str.ofString "number" then some (.int number t2) else if y = Str.ofString "mark" then some (.int mark t3) else if y = Str.ofString "step" then some (.int step t4) else
  if y = Str.ofString "pieces" then some (.ref P) else if y = Str.ofString "laid" then some (.ref l) else if y = Str.ofString "cells" then some (.ref D) else mR y
theorem fr_cut {base h : Heap} {Lf : Addr} {m : PySem.Str → Option Value} {total number mark step : Int} {t1 t2 t3 t4 : Tok} {P l D : Addr} (F : Fr base Lf h m)
    (e1 : m (Str.ofString "total") = some (.int total t1)) (e2 : m (Str.ofString "number") = some (.int number t2)) (e3 : m (Str.ofString "mark") = some (.int mark t3)) (e4 : m (Str.ofString "step") = some (.int step t4))
    (e5 : m (Str.ofString "pieces") = some (.ref P)) (e6 : m (Str.ofString "laid") = some (.ref l)) (e7 : m (Str.ofString "cells") = some (.ref D)) :
    ∃ (mR : PySem.Str → Option Value) (t1 t2 t3 t4 : Tok), Fr base Lf h (mQ mR total number mark step t1 t2 t3 t4 P l D) :=
  ⟨m, t1, t2, t3, t4, fr_ext F fun y => by
    unfold mQ
    by_cases c1 : y = Str.ofString "total"
    · rw [if_pos c1, c1, e1]
    by_cases c2 : y = Str.ofString "number"
    · rw [if_neg c1, if_pos c2, c2, e2]
    by_cases c3 : y = Str.ofString "mark"
    · rw [if_neg c1, if_neg c2, if_pos c3, c3, e3]
    by_cases c4 : y = Str.ofString "step"
    · rw [if_neg c1, if_neg c2, if_neg c3, if_pos c4, c4, e4]
    by_cases c5 : y = Str.ofString "pieces"
    · rw [if_neg c1, if_neg c2, if_neg c3, if_neg c4, if_pos c5, c5, e5]
    by_cases c6 : y = Str.ofString "laid"
    · rw [if_neg c1, if_neg c2, if_neg c3, if_neg c4, if_neg c5, if_pos c6, c6, e6]
    by_cases c7 : y = Str.ofString "cells"
    · rw [if_neg c1, if_neg c2, if_neg c3, if_neg c4, if_neg c5, if_neg c6, if_pos c7, c7, e7]
    rw [if_neg c1, if_neg c2, if_neg c3, if_neg c4, if_neg c5, if_neg c6, if_neg c7]⟩
theorem fr_mW {base h : Heap} {Lf : Addr} {m : PySem.Str → Option Value} {total gap : Int} {t1 t2 : Tok} {l D : Addr} (F : Fr base Lf h m)
    (e1 : m (Str.ofString "gap") = some (.int gap t2)) (e2 : m (Str.ofString "total") = some (.int total t1)) (e6 : m (Str.ofString "laid") = some (.ref l)) (e7 : m (Str.ofString "cells") = some (.ref D)) :
    ∃ (mR : PySem.Str → Option Value) (t1 t2 : Tok), Fr base Lf h (mW mR total gap t1 t2 l D) :=
  ⟨m, t1, t2, fr_ext F fun y => by
    unfold mW
    by_cases c1 : y = Str.ofString "gap"
    · rw [if_pos c1, c1, e1]
    by_cases c2 : y = Str.ofString "total"
    · rw [if_neg c1, if_pos c2, c2, e2]
    by_cases c6 : y = Str.ofString "laid"
    · rw [if_neg c1, if_neg c2, if_pos c6, c6, e6]
    by_cases c7 : y = Str.ofString "cells"
    · rw [if_neg c1, if_neg c2, if_neg c6, if_pos c7, c7, e7]
    rw [if_neg c1, if_neg c2, if_neg c6, if_neg c7]⟩
theorem gen_tok {α : Type} {M : Model} {A : Around} {x : Sem α} {Q : α → Shared → Prop} {E : Value → Shared → Prop} {h : Heap} {G : Array GenState} {dr : Drawn} {tk : Tok} {os : OsState}
    (H : ∀ tk, wpAny M A x Q E ⟨h, G, dr, tk, os⟩) : wpAny M A x Q E ⟨h, G, dr, tk, os⟩ := H tk
end Mine
end

section
open PySem PySem.W PyProof.Rows
set_option Elab.async false
namespace Mine
noncomputable def codes (rs : List Quad) : List Nat := (List.range 24).reverse.map fun (j : Nat) => 65 + cntAt rs (j : Int)
noncomputable def totOf (rs : List Quad) : Int := (rs.map fun (r : Quad) => r.2.2.2).sum
theorem told_len (rs : List Quad) : (told rs).length ≤ 24 := by
  unfold told
  rw [List.length_map]
  exact Nat.le_trans (List.dropWhile_sublist _).length_le (by simp)
noncomputable abbrev txt (rs : List Quad) : PySem.Str := ⟨(codes rs).toArray⟩
theorem two_le {k : Nat} (h : k ≤ 6) : (2 : Int) ^ k ≤ 64 := by
  have := Nat.pow_le_pow_right (n := 2) (by decide) h
  exact_mod_cast this
theorem ok_st {rs : List Quad} (h : ∀ r ∈ rs, okR r) : ∀ r ∈ rs, 2 ≤ r.2.1 ∧ r.2.1 ≤ 24 := fun r hr => (h r hr).1.rng
theorem ok_ct {rs : List Quad} (h : ∀ r ∈ rs, okR r) : ∀ r ∈ rs, 0 ≤ r.2.2.1 ∧ r.2.2.1 ≤ 12 := fun r hr => by
  obtain ⟨h1, _, _, h4, _⟩ := h r hr
  rw [h4]
  unfold DvOk at h1
  rcases h1 with e | e | e | e | e | e | e <;> rw [e] <;> decide
end Mine
end

section
open PySem PySem.W PyProof.Rows PySem.Calls PySem.Spec
set_option Elab.async false
namespace Mine
theorem laid_snoc {TT : List (Addr × Obj)} {items : Array Value} {rs : List Quad} {T : Addr} {c : Nat} {r : Quad} {t1 t2 t3 t4 : Tok} (h : LaidAt TT items rs) :
    LaidAt ((T, tupObj #[.int r.1 t1, .int r.2.1 t2, .int r.2.2.1 t3, .int r.2.2.2 t4] c) :: TT) (items.push (.ref T)) (rs ++ [r]) := by
  refine ⟨by simp [h.1], fun i q e => ?_⟩
  by_cases hi : i < rs.length
  · rw [List.getElem?_append_left hi] at e
    obtain ⟨U, c', a1, a2, a3, a4, h1, h2⟩ := h.2 i q e
    refine ⟨U, c', a1, a2, a3, a4, ?_, .tail _ h2⟩
    rw [Array.getElem?_push, if_neg (by rw [h.1]; omega)]
    exact h1
  · have : i = rs.length := by
      have := (List.getElem?_eq_some_iff.mp e).1
      simp at this
      omega
    subst this
    simp at e
    subst e
    refine ⟨T, c, t1, t2, t3, t4, ?_, .head _⟩
    rw [Array.getElem?_push, if_pos h.1.symm]
theorem append_led {prog : Program} {w : World} {A : Around} {E : Value → Shared → Prop} {s : Shared} {h₀ : Heap} {L l : Addr} {m : PySem.Str → Option Value} {T P I D : Addr × Obj} {TT : List (Addr × Obj)} {items : Array Value} {c : Nat} {x : Value} {Q : Value → Shared → Prop}
    (F : Fr h₀ L s.heap m) (N : News h₀ L s.heap (T :: P :: I :: (l, PySem.W.listOf items c) :: D :: TT)) (h1 : T.1 ≠ l) (h2 : I.1 ≠ l) (h3 : D.1 ≠ l) (h4 : ∀ p ∈ TT, p.1 ≠ l) (hsz : items.size ≤ sizeLine)
    (h : ∀ h', Fr h₀ L h' m → News h₀ L h' ((l, PySem.W.listOf (items.push x) (c + 1)) :: T :: I :: D :: TT) → Q .none { s with heap := h' }) :
    wpAny (model prog w) A (call (.builtin "list.append") [.ref l, x]) Q E s :=
  append_head (hsz := hsz) (rest := T :: I :: D :: TT) F (fun p hp => N p (by
    rcases List.mem_cons.mp hp with rfl | hp
    · exact .tail _ (.tail _ (.tail _ (.head _)))
    rcases List.mem_cons.mp hp with rfl | hp
    · exact .head _
    rcases List.mem_cons.mp hp with rfl | hp
    · exact .tail _ (.tail _ (.head _))
    rcases List.mem_cons.mp hp with rfl | hp
    · exact .tail _ (.tail _ (.tail _ (.tail _ (.head _))))
    · exact .tail _ (.tail _ (.tail _ (.tail _ (.tail _ hp)))))) (fun p hp => by
    rcases List.mem_cons.mp hp with rfl | hp
    · exact h1
    rcases List.mem_cons.mp hp with rfl | hp
    · exact h2
    rcases List.mem_cons.mp hp with rfl | hp
    · exact h3
    · exact h4 p hp) h
theorem law_key {base hB : Heap} {Lf TU I l D : Addr} {rs : List Quad} {items : Array Value} {c c2 : Nat} {TT : List (Addr × Obj)} {mk x total gap : Int} {nu i : Nat} {t1 t2 t3 t4 : Tok} {o oD : Obj}
    (hgood : Good rs total gap) (hrl : rs.length = i) (hlaid : LaidAt TT items rs) (hTT : ∀ q ∈ TT, @LT.lt Nat _ I q.1) (hTU : @LT.lt Nat _ I TU) (hdv : DvOk x) (hmk0 : 0 ≤ mk) (hmk1 : mk < x) (hnu : nm mk.toNat x.toNat = nu)
    (NB : News base Lf hB ((l, PySem.W.listOf (items.push (.ref TU)) c) :: (TU, tupObj #[.int mk t1, .int x t2, .int (24 / x) t3, .int (nu : Int) t4] c2) :: (I, o) :: (D, oD) :: TT)) :
    ∃ (rs' : List Quad) (items' : Array Value) (c'' : Nat) (TT' : List (Addr × Obj)), rs'.length = i + 1 ∧ (∀ r ∈ rs', okR r) ∧ total + (nu : Int) = totOf rs' ∧ LaidAt TT' items' rs' ∧ (∀ q ∈ TT', @LT.lt Nat _ I q.1) ∧
      News base Lf hB ((I, o) :: (l, PySem.W.listOf items' c'') :: (D, oD) :: TT') := by
  refine ⟨rs ++ [(mk, x, 24 / x, (nu : Int))], items.push (.ref TU), c, (TU, tupObj #[.int mk t1, .int x t2, .int (24 / x) t3, .int (nu : Int) t4] c2) :: TT, by simp [hrl], ?_, ?_, laid_snoc hlaid, ?_, fun p hp => NB p ?_⟩
  · intro r hr
    rcases List.mem_append.mp hr with hr | hr
    · exact hgood.1 r hr
    · rw [List.mem_singleton.mp hr]
      exact ⟨hdv, hmk0, hmk1, rfl, by rw [nm_int _ _ hdv, hnu]⟩
  · unfold totOf
    rw [List.map_append, List.sum_append, ← hgood.2.1]
    simp
  · intro q hq
    rcases List.mem_cons.mp hq with rfl | hq
    · exact hTU
    · exact hTT q hq
  · rcases List.mem_cons.mp hp with rfl | hp
    · exact .tail _ (.tail _ (.head _))
    rcases List.mem_cons.mp hp with rfl | hp
    · exact .head _
    rcases List.mem_cons.mp hp with rfl | hp
    · exact .tail _ (.tail _ (.tail _ (.head _)))
    rcases List.mem_cons.mp hp with rfl | hp
    · exact .tail _ (.head _)
    · exact .tail _ (.tail _ (.tail _ (.tail _ hp)))
end Mine
end

section
open PySem PySem.W PyProof.Rows PySem.Calls PySem.Spec
set_option Elab.async false
namespace Mine
open PyProof.Rows.LCg (NsObj ns_obj)
section
variable {prog : Program} {w : World} {A : Around} {E : Value → Shared → Prop} {s : Shared} {env : Env}
/-- over a list of texts, no test -/
theorem strs_src {h₀ : Heap} {L : Addr} {m : PySem.Str → Option Value} {a : PySem.Str} {pa : Pos} {elt : Expr} {scope : Scope} {cl : List (PySem.Str × Addr)} {Q : Value → Shared → Prop} {l : Addr} {vs : List Value} {ns : List PySem.Str} {lc : Nat} {news : List (Addr × Obj)} (f : PySem.Str → Int)
    (hh : A.handled = none) (F : Fr h₀ L s.heap m) (N : News h₀ L s.heap news) (hl : (l, PySem.W.listOf vs.toArray lc) ∈ news) (hi : StrsAre vs ns) (hsz : ns.length ≤ 1000) (ha : scope.names.lookup a = some .local) (hkind : scope.kind = .function)
    (elts : ∀ n ∈ ns, ∀ (t : Tok) (I : Addr) (oI : Obj) (C : Addr) (oC : Obj) (D : Addr) (oD : Obj) (mC : PySem.Str → Option Value) (s' : Shared), Fr h₀ L s'.heap m → News h₀ L s'.heap ((I, oI) :: (C, oC) :: (D, oD) :: news) → NsObj oC (fun y => if y = a then some (.str n t) else mC y) →
      wpAny (model prog w) A (eval elt (compEnvC scope cl C env)) (Stay h₀ L m ((I, oI) :: (C, oC) :: (D, oD) :: news) s' (fun v => ∃ t, v = .int (f n) t)) (fun _ _ => False) s')
    (hQ : ∀ (D : Addr) (ys : List Value) (c : Nat) (h' : Heap) (tk : Tok), IntsAre ys (ns.map f) → Fr h₀ L h' m → News h₀ L h' ((D, PySem.W.listOf ys.toArray c) :: news) → (∀ p ∈ news, p.1 < D) → Q (.ref D) { s with heap := h', toks := tk }) :
    CompSrc prog w A h₀ L m env (.Name a pa) elt [] scope cl Q (.ref l) s := by
  have at' : ∀ i x, vs.toArray[i]? = some x → ∃ n t, ns[i]? = some n ∧ n ∈ ns ∧ x = Value.str n t := fun i x e => by
    rw [List.getElem?_toArray] at e
    obtain ⟨y, t, rfl, e2⟩ := hi.item i x e
    exact ⟨y, t, e2, List.mem_of_getElem? e2, rfl⟩
  have hpick : ∀ (i : Nat) (n : PySem.Str), ns[i]? = some n → ns.getD i ⟨#[]⟩ = n := fun i r e => by rw [List.getD_eq_getElem?_getD, e]; rfl
  refine ⟨vs.toArray.size, _, _, _, news, fun i => true, fun i v => ∃ t, v = .int (f (ns.getD i ⟨#[]⟩)) t, _, listKind hh l vs.toArray, F, N, fun h _ Nh => ⟨_, (Nh _ hl).1, rfl, _, rfl⟩, by simpa [hi.len_eq] using hsz, name_turns ha hkind ?_ ?_, ?_⟩
  · intro i x hx I oI C oC D oD mC s' F' N' hn
    exact wpAny_pure ⟨_, _, rfl, F', N', rfl⟩
  · intro i x hx hp I oI C oC D oD mC s' F' N' hn
    obtain ⟨n, t, hr, hm, rfl⟩ := at' i x hx
    rw [hpick i n hr]
    exact elts n hm t I oI C oC D oD mC s' F' N' hn
  · intro D ys c h' tk hout F' N' hlt
    refine hQ D ys c h' tk ?_ F' N' hlt
    have := hout.ints (f := fun i => f (ns.getD i ⟨#[]⟩)) (fun i v h => h)
    have e : ((List.range vs.toArray.size).filter fun i => true).map (fun i => f (ns.getD i ⟨#[]⟩)) = ns.map f := by
      rw [List.filter_eq_self.mpr (fun _ _ => rfl), List.size_toArray, hi.len_eq]
      apply List.ext_getElem
      · simp
      · intro i h1 h2
        simp at h1
        simp [List.getD_eq_getElem?_getD, h1]
    rw [e] at this
    exact this
end
theorem if_none {M : Model} {A : Around} {E : Value → Shared → Prop} {Q : Flow → Shared → Prop} {s : Shared} {st : Stmt} {env : Env} {base : Heap} {Lf : Addr} {m : PySem.Str → Option Value} {news : List (Addr × Obj)}
    (_F : Fr base Lf s.heap m) (_N : News base Lf s.heap news)
    (h1 : wpAny M A (exec st env) (fun f s' => f = .next ∧ ∃ (h : Heap) (tk : Tok), s' = { s with heap := h, toks := tk } ∧ Fr base Lf h m ∧ News base Lf h news) E s)
    (h2 : ∀ (h : Heap) (tk : Tok), Fr base Lf h m → News base Lf h news → Q .next { s with heap := h, toks := tk }) :
    wpAny M A (exec st env) Q E s :=
  wpAny_mono h1 (fun f s' ⟨e, h, tk, c, d, g⟩ => by subst e c; exact h2 h tk d g) (fun _ _ h => h)
theorem rindex_some {prog : Program} {w : World} {A : Around} {E : Value → Shared → Prop} {s : Shared} {x y : PySem.Str} {t u : Tok} {i : Nat} {Q : Value → Shared → Prop} (h : Builtin.Str.lastOccurrence x y 0 x.length = some i) (hq : Q (.int i s.toks) { s with toks := s.toks + 1 }) :
    wpAny (model prog w) A (call (.builtin "str.rindex") [.str x t, .str y u]) Q E s :=
  call_gives F.slot_str_rindex (typeIs_str _ _ _) F.entry_str_rindex (F.args_str_rindex_2 _ _) (gives_str_rindex x y t u i h) hq
noncomputable def HoldOff : Prop := True
theorem good_end {c : ClaimW} {cl : PySem.Str → Option Addr} {mean : ExcName → Option Value} {args : List WData} {s₁ : Shared} {h : Heap} {g : Array GenState} {d : Drawn} {t : Nat} (k : ∀ b o, s₁.heap.get? b = some o → h.get? b = some o)
    (hr : ∀ cls, c.raises args cls = false) (hp : c.post args (.bool true) args = true) (hb : AllBare g) : GoodWG c cl mean args s₁ (.ok (.ret (.bool true))) ⟨h, g, d, t, s₁.os⟩ :=
  ⟨.inl ⟨_, _, [], rfl, hr, ReadsW.bool true, hp, fun _ => ⟨List.nodup_nil, fun _ hm => nomatch hm⟩⟩, .of_keep k, rfl, hb⟩
theorem gen_sub {M : Model} {A : Around} {Q E : Value → Shared → Prop} {value slice : PySem.Expr} {a : Value} {i : Int} {u : Tok} {h base : Heap} {L : Addr} {news : List (Addr × Obj)} {tk : Tok} (_N : News base L h news) (G : Array GenState) (dr : Drawn) (os : OsState)
    (H : ∀ u tk, wpAny M A (subscriptTail value slice a (.int i u)) Q E ⟨h, G, dr, tk, os⟩) : wpAny M A (subscriptTail value slice a (.int i u)) Q E ⟨h, G, dr, tk, os⟩ := H u tk
end Mine
end

section
open PySem PySem.W PyProof.Rows
set_option Elab.async false
namespace Mine
/-! the plain law: rulers as pairs (mark, step) of naturals -/
noncomputable abbrev Rul := Nat × Nat
noncomputable def full : Nat := 2 ^ 24 - 1
noncomputable def msk (mk x : Nat) : Nat := ((2 ^ 24 - 1) / (2 ^ x - 1)) * 2 ^ mk
noncomputable def cv (W : Nat) : Nat → Nat → Nat → Nat → Bool
  | 0, _, _, _ => true
  | f + 1, p, k, M => if M.testBit p then cv W f (p + 1) k M else match k with
    | 0 => decide (p < W)
    | k + 1 => decide (p < W) && menu.all fun x => cv W f (p + 1) k (M ||| msk (p % x) x)
theorem msk_bit : ∀ x ∈ menu, ∀ p, p < 24 → ∀ q, q < 24 → (msk (p % x) x).testBit q = decide (q % x = p % x) := by decide +kernel
set_option maxRecDepth 100000 in
theorem cv4 : cv 16 24 0 4 0 = true := by decide +kernel
set_option maxRecDepth 100000 in
theorem cv3 : cv 8 24 0 3 0 = true := by decide +kernel
theorem cv2 : cv 4 24 0 2 0 = true := by decide +kernel
theorem cv1 : cv 2 24 0 1 0 = true := by decide +kernel
noncomputable def bitOf (M p : Nat) : Bool := Nat.beq (Nat.land (Nat.shiftRight M p) 1) 1
noncomputable def rotU (U c : Nat) : Nat := Nat.land (Nat.lor (Nat.lor U (Nat.shiftLeft U c)) (Nat.shiftRight U (24 - c))) 16777215
noncomputable def zgo (ih : Nat → Nat → Nat → Nat → Bool) (p k U M x c b : Nat) : Bool :=
  cond (bitOf U (24 - c)) true (Nat.rec (cond (Nat.beq (Nat.lor M (Nat.shiftLeft b (p % x))) 16777215) false true) (fun _ _ => ih (p + 1) k (rotU U c) (Nat.lor M (Nat.shiftLeft b (p % x)))) k)
noncomputable def zh : Nat → Nat → Nat → Nat → Nat → Bool
  | 0, _, _, _, _ => false
  | f + 1, p, k, U, M => cond (bitOf M p) (zh f (p + 1) k U M) (Nat.rec true (fun k _ =>
    cond (zgo (zh f) p k U M 2 12 5592405) (cond (zgo (zh f) p k U M 3 8 2396745) (cond (zgo (zh f) p k U M 4 6 1118481) (cond (zgo (zh f) p k U M 6 4 266305) (cond (zgo (zh f) p k U M 8 3 65793) (cond (zgo (zh f) p k U M 12 2 4097) (zgo (zh f) p k U M 24 1 1) false) false) false) false) false) false) k)
set_option maxRecDepth 100000 in
theorem zh6 : zh 24 0 6 1 0 = true := by decide +kernel
set_option maxRecDepth 100000 in
theorem zh_le : ∀ k, k ≤ 6 → zh 24 0 k 1 0 = true := fun k hk => by
  match k, hk with
  | 0, _ => rfl
  | 1, _ => decide +kernel
  | 2, _ => decide +kernel
  | 3, _ => decide +kernel
  | 4, _ => decide +kernel
  | 5, _ => decide +kernel
  | 6, _ => exact zh6
noncomputable def mnOk (L : List Nat) : Bool := L.all fun G => (L.any fun x => decide (G < x)) || decide ((if G = 3 then 3 else 2) ≤ L.count G)
noncomputable def mn : Nat → Nat → Nat → Nat → List Nat → Bool
  | 0, _, k, _, L => k != 0 || mnOk L
  | f + 1, p, k, M, L => if M.testBit p then mn f (p + 1) k M L else match k with
    | 0 => true
    | k + 1 => menu.all fun x => (M &&& msk (p % x) x != 0) || mn f (p + 1) k (M ||| msk (p % x) x) (x :: L)
set_option maxRecDepth 100000 in
theorem mn6 : mn 24 0 6 0 [] = true := by decide +kernel
set_option maxRecDepth 100000 in
theorem mn_le : ∀ k, k ≤ 6 → mn 24 0 k 0 [] = true := fun k hk => by
  match k, hk with
  | 0, _ => rfl
  | 1, _ => decide +kernel
  | 2, _ => decide +kernel
  | 3, _ => decide +kernel
  | 4, _ => decide +kernel
  | 5, _ => decide +kernel
  | 6, _ => exact mn6
end Mine
end

section
open PySem PySem.W PyProof.Rows
set_option Elab.async false
namespace Mine
noncomputable def CovN (rs : List Rul) (q : Nat) : Prop := ∃ r ∈ rs, q % r.2 = r.1
theorem mem_erase {α : Type} : ∀ (rs : List α) (i : Nat) (hi : i < rs.length) (r : α), r ∈ rs ↔ r = rs[i] ∨ r ∈ rs.eraseIdx i
  | a :: t, 0, _, r => by simp
  | a :: t, i + 1, hi, r => by
    have := mem_erase t i (by simpa using hi) r
    simp only [List.mem_cons, List.getElem_cons_succ, List.eraseIdx_cons_succ, this]
    constructor
    · rintro (h | h | h)
      · exact .inr (.inl h)
      · exact .inl h
      · exact .inr (.inr h)
    · rintro (h | h | h)
      · exact .inr (.inl h)
      · exact .inl h
      · exact .inr (.inr h)
theorem cov_pick {rs : List Rul} {q : Nat} (h : CovN rs q) : ∃ (i : Nat) (hi : i < rs.length), q % rs[i].2 = rs[i].1 := by
  obtain ⟨r, hr, e⟩ := h
  obtain ⟨i, hi, rfl⟩ := List.getElem_of_mem hr
  exact ⟨i, hi, e⟩
theorem cov_split {rs : List Rul} {i : Nat} (hi : i < rs.length) (q : Nat) : CovN rs q ↔ q % rs[i].2 = rs[i].1 ∨ CovN (rs.eraseIdx i) q := by
  constructor
  · rintro ⟨r, hr, e⟩
    rcases (mem_erase rs i hi r).mp hr with rfl | h
    · exact .inl e
    · exact .inr ⟨r, h, e⟩
  · rintro (h | ⟨r, hr, e⟩)
    · exact ⟨rs[i], List.getElem_mem hi, h⟩
    · exact ⟨r, (mem_erase rs i hi r).mpr (.inr hr), e⟩
theorem erase_len {rs : List Rul} {i k : Nat} (hi : i < rs.length) (h : rs.length = k + 1) : (rs.eraseIdx i).length = k := by
  rw [List.length_eraseIdx, if_pos hi]; omega
theorem erase_menu {rs : List Rul} {i : Nat} (hi : i < rs.length) (h : ∀ r ∈ rs, r.2 ∈ menu) : ∀ r ∈ rs.eraseIdx i, r.2 ∈ menu := fun r hr => h r ((mem_erase rs i hi r).mpr (.inr hr))
theorem menu_lt : ∀ x ∈ menu, 0 < x ∧ x ≤ 24 := by decide
theorem or_msk {M x p q : Nat} (hx : x ∈ menu) (hp : p < 24) (hq : q < 24) : (M ||| msk (p % x) x).testBit q = true ↔ M.testBit q = true ∨ q % x = p % x := by
  rw [Nat.testBit_or, msk_bit x hx p hp q hq]
  simp
theorem cv_sound (W : Nat) : ∀ f p k M, p + f = 24 → cv W f p k M = true → ∀ rs : List Rul, rs.length = k → (∀ r ∈ rs, r.2 ∈ menu) → (∀ q, q < W → q < 24 → M.testBit q = true ∨ CovN rs q) → ∀ q, p ≤ q → q < 24 → M.testBit q = true ∨ CovN rs q
  | 0, p, k, M, hf, _, rs, _, _, _ => fun q h1 h2 => by omega
  | f + 1, p, k, M, hf, hc, rs, hk, hm, hW => fun q h1 h2 => by
    rw [cv.eq_def] at hc
    dsimp only at hc
    by_cases hb : M.testBit p = true
    · rw [if_pos hb] at hc
      by_cases hq : q = p
      · subst hq; exact .inl hb
      · exact cv_sound W f (p + 1) k M (by omega) hc rs hk hm hW q (by omega) h2
    · rw [if_neg hb] at hc
      match k, hk, hc with
      | 0, hk, hc =>
        have := of_decide_eq_true hc
        rcases hW p this (by omega) with h | ⟨r, hr, _⟩
        · exact absurd h hb
        · rw [List.length_eq_zero_iff.mp hk] at hr; cases hr
      | k + 1, hk, hc =>
        rw [Bool.and_eq_true] at hc
        have hp := of_decide_eq_true hc.1
        rcases hW p hp (by omega) with h | h
        · exact absurd h hb
        obtain ⟨i, hi, e⟩ := cov_pick h
        have hx := hm rs[i] (List.getElem_mem hi)
        have hgo := List.all_eq_true.mp hc.2 rs[i].2 hx
        have conv : ∀ q, q < 24 → ((M ||| msk (p % rs[i].2) rs[i].2).testBit q = true ∨ CovN (rs.eraseIdx i) q ↔ M.testBit q = true ∨ CovN rs q) := fun q hq => by
          rw [or_msk hx (by omega) hq, cov_split hi q, e, or_assoc]
        by_cases hq : q = p
        · subst hq; exact .inr h
        · exact (conv q h2).mp (cv_sound W f (p + 1) k _ (by omega) hgo (rs.eraseIdx i) (erase_len hi hk) (erase_menu hi hm) (fun q h3 h4 => (conv q h4).mpr (hW q h3 h4)) q (by omega) h2)
end Mine
end

section
open PySem PySem.W PyProof.Rows
set_option Elab.async false
namespace Mine
theorem bitOf_eq (M p : Nat) : bitOf M p = M.testBit p := by
  unfold bitOf
  show Nat.beq ((M >>> p) &&& 1) 1 = _
  rw [Nat.and_one_is_mod, Nat.shiftRight_eq_div_pow, Nat.testBit_eq_decide_div_mod_eq]
  cases h : decide (M / 2 ^ p % 2 = 1) with
  | true => rw [of_decide_eq_true h]; rfl
  | false =>
    have := of_decide_eq_false h
    have : M / 2 ^ p % 2 = 0 := by omega
    rw [this]; rfl
theorem rotU_lt (U c : Nat) : rotU U c < 2 ^ 24 := by
  unfold rotU
  exact Nat.lt_of_le_of_lt Nat.and_le_right (by decide)
theorem rotU_bit {U c u : Nat} (hU : U < 2 ^ 24) (hc : c ≤ 24) (hu : u < 24) (h : bitOf (rotU U c) u = true) : bitOf U u = true ∨ ∃ v, v < 24 ∧ bitOf U v = true ∧ (v + c) % 24 = u := by
  rw [bitOf_eq] at h
  unfold rotU at h
  have h' : (((U ||| U <<< c) ||| U >>> (24 - c)) &&& 16777215).testBit u = true := h
  rw [Nat.testBit_and, Nat.testBit_or, Nat.testBit_or, Nat.testBit_shiftLeft, Nat.testBit_shiftRight] at h'
  simp only [Bool.and_eq_true, Bool.or_eq_true, decide_eq_true_eq] at h'
  rcases h'.1 with (h1 | ⟨h1, h2⟩) | h1
  · exact .inl (by rw [bitOf_eq]; exact h1)
  · exact .inr ⟨u - c, by omega, by rw [bitOf_eq]; exact h2, by omega⟩
  · have hlt : 24 - c + u < 24 := by
      refine Nat.lt_of_not_le fun hge => ?_
      have : U < 2 ^ (24 - c + u) := Nat.lt_of_lt_of_le hU (Nat.pow_le_pow_right (by decide) hge)
      rw [Nat.testBit_lt_two_pow this] at h1
      cases h1
    refine .inr ⟨24 - c + u, hlt, by rw [bitOf_eq]; exact h1, by omega⟩
noncomputable def cnt24 (rs : List Rul) : Nat := (rs.map fun r => 24 / r.2).sum
theorem sub_ins : ∀ (rs : List Rul) (i : Nat) (hi : i < rs.length) (sub : List Rul), sub.Sublist (rs.eraseIdx i) → ∃ sub', sub'.Sublist rs ∧ sub' ≠ [] ∧ cnt24 sub' = 24 / rs[i].2 + cnt24 sub
  | a :: t, 0, _, sub, h => ⟨a :: sub, by simpa using h.cons_cons a, by simp, by simp [cnt24]⟩
  | a :: t, i + 1, hi, sub, h => by
    rw [List.eraseIdx_cons_succ] at h
    cases h with
    | cons _ h =>
      obtain ⟨s', h1, h2, h3⟩ := sub_ins t i (by simpa using hi) sub h
      exact ⟨s', h1.cons a, h2, by simpa using h3⟩
    | cons_cons _ h =>
      rename_i s0
      obtain ⟨s', h1, h2, h3⟩ := sub_ins t i (by simpa using hi) s0 h
      refine ⟨a :: s', h1.cons_cons a, by simp, ?_⟩
      simp only [cnt24, List.map_cons, List.sum_cons, List.getElem_cons_succ] at h3 ⊢
      omega
noncomputable def ZS (U : Nat) (rs : List Rul) : Prop := ∃ sub : List Rul, sub.Sublist rs ∧ sub ≠ [] ∧ ∃ u, u < 24 ∧ bitOf U u = true ∧ (u + cnt24 sub) % 24 = 0
theorem ZS.erase {U : Nat} {rs : List Rul} {i : Nat} (hi : i < rs.length) (hU : U < 2 ^ 24) (hx : rs[i].2 ∈ menu) (h : ZS (rotU U (24 / rs[i].2)) (rs.eraseIdx i)) : ZS U rs := by
  obtain ⟨sub, h1, h2, u, hu, hb, he⟩ := h
  have hc : 24 / rs[i].2 ≤ 24 := Nat.div_le_self _ _
  rcases rotU_bit hU hc hu hb with hb | ⟨v, hv, hb, e⟩
  · exact ⟨sub, h1.trans (List.eraseIdx_sublist ..), h2, u, hu, hb, he⟩
  · obtain ⟨sub', h3, h4, h5⟩ := sub_ins rs i hi sub h1
    exact ⟨sub', h3, h4, v, hv, hb, by rw [h5]; omega⟩
theorem ZS.one {U : Nat} {rs : List Rul} {i : Nat} (hi : i < rs.length) (hx : rs[i].2 ∈ menu) (h : bitOf U (24 - 24 / rs[i].2) = true) : ZS U rs := by
  have h1 := menu_lt _ hx
  have hc : 24 / rs[i].2 ≤ 24 := Nat.div_le_self _ _
  have hc0 : 0 < 24 / rs[i].2 := Nat.div_pos h1.2 h1.1
  refine ⟨[rs[i]], List.singleton_sublist.mpr (List.getElem_mem hi), by simp, 24 - 24 / rs[i].2, by omega, h, ?_⟩
  simp only [cnt24, List.map_cons, List.map_nil, List.sum_cons, List.sum_nil]
  omega
/-- the seven branches as one -/
theorem zh_branch {ih : Nat → Nat → Nat → Nat → Bool} {p k U M : Nat} (h : cond (zgo ih p k U M 2 12 5592405) (cond (zgo ih p k U M 3 8 2396745) (cond (zgo ih p k U M 4 6 1118481) (cond (zgo ih p k U M 6 4 266305) (cond (zgo ih p k U M 8 3 65793) (cond (zgo ih p k U M 12 2 4097) (zgo ih p k U M 24 1 1) false) false) false) false) false) false = true) :
    ∀ x ∈ menu, zgo ih p k U M x (24 / x) (full / (2 ^ x - 1)) = true := by
  have key : ∀ a b : Bool, cond a b false = true → a = true ∧ b = true := by decide
  obtain ⟨h2, h⟩ := key _ _ h
  obtain ⟨h3, h⟩ := key _ _ h
  obtain ⟨h4, h⟩ := key _ _ h
  obtain ⟨h6, h⟩ := key _ _ h
  obtain ⟨h8, h⟩ := key _ _ h
  obtain ⟨h12, h24⟩ := key _ _ h
  intro x hx
  simp only [menu, List.mem_cons, List.mem_nil_iff, or_false] at hx
  rcases hx with rfl | rfl | rfl | rfl | rfl | rfl | rfl
  · exact h2
  · exact h3
  · exact h4
  · exact h6
  · exact h8
  · exact h12
  · exact h24
theorem full_of {M : Nat} (hM : M < 2 ^ 24) (h : ∀ q, q < 24 → M.testBit q = true) : M = 16777215 := by
  apply Nat.eq_of_testBit_eq
  intro q
  by_cases hq : q < 24
  · rw [h q hq]
    have : (16777215 : Nat).testBit q = true := by
      have : ∀ q, q < 24 → (16777215 : Nat).testBit q = true := by decide
      exact this q hq
    rw [this]
  · have h2 : 2 ^ 24 ≤ 2 ^ q := Nat.pow_le_pow_right (by decide) (by omega)
    rw [Nat.testBit_lt_two_pow (Nat.lt_of_lt_of_le hM h2), Nat.testBit_lt_two_pow (Nat.lt_of_lt_of_le (by decide) h2)]
theorem msk_shift (x p : Nat) : (full / (2 ^ x - 1)) <<< (p % x) = msk (p % x) x := by
  rw [Nat.shiftLeft_eq]; rfl
theorem msk_lt : ∀ x ∈ menu, ∀ p, p < 24 → msk (p % x) x < 2 ^ 24 := by decide +kernel
theorem zh_sound : ∀ f p k U M, p + f = 24 → zh f p k U M = true → U < 2 ^ 24 → M < 2 ^ 24 → (∀ q, q < p → M.testBit q = true) → ∀ rs : List Rul, rs.length = k → (∀ r ∈ rs, r.2 ∈ menu) → (∀ q, q < 24 → M.testBit q = true ∨ CovN rs q) → ZS U rs
  | 0, p, k, U, M, hf, hc, _, _, _, rs, _, _, _ => by cases hc
  | f + 1, p, k, U, M, hf, hc, hU, hM, hP, rs, hk, hm, hW => by
    rw [zh.eq_def] at hc
    dsimp only at hc
    cases hb : bitOf M p with
    | true =>
      rw [hb] at hc
      refine zh_sound f (p + 1) k U M (by omega) hc hU hM (fun q hq => ?_) rs hk hm hW
      by_cases e : q = p
      · subst e; rw [← bitOf_eq]; exact hb
      · exact hP q (by omega)
    | false =>
      rw [hb] at hc
      have hcov : CovN rs p := by
        rcases hW p (by omega) with h | h
        · rw [bitOf_eq] at hb; rw [hb] at h; cases h
        · exact h
      match k, hk, hc with
      | 0, hk, _ =>
        obtain ⟨r, hr, _⟩ := hcov
        rw [List.length_eq_zero_iff.mp hk] at hr; cases hr
      | k + 1, hk, hc =>
        obtain ⟨i, hi, e⟩ := cov_pick hcov
        have hx := hm rs[i] (List.getElem_mem hi)
        have hgo := zh_branch hc rs[i].2 hx
        unfold zgo at hgo
        cases hz : bitOf U (24 - 24 / rs[i].2) with
        | true => exact ZS.one hi hx hz
        | false =>
          rw [hz] at hgo
          have hM' : Nat.lor M (Nat.shiftLeft (full / (2 ^ rs[i].2 - 1)) (p % rs[i].2)) = M ||| msk (p % rs[i].2) rs[i].2 := by
            rw [← msk_shift]; rfl
          rw [hM'] at hgo
          have hlt : (M ||| msk (p % rs[i].2) rs[i].2) < 2 ^ 24 := Nat.or_lt_two_pow hM (msk_lt _ hx p (by omega))
          have conv : ∀ q, q < 24 → ((M ||| msk (p % rs[i].2) rs[i].2).testBit q = true ∨ CovN (rs.eraseIdx i) q ↔ M.testBit q = true ∨ CovN rs q) := fun q hq => by
            rw [or_msk hx (by omega) hq, cov_split hi q, e, or_assoc]
          match k, hk, hgo with
          | 0, hk, hgo =>
            have he : rs.eraseIdx i = [] := List.length_eq_zero_iff.mp (erase_len hi hk)
            have hfull := full_of hlt (fun q hq => by
              rcases (conv q hq).mpr (hW q hq) with h | ⟨r, hr, _⟩
              · exact h
              · rw [he] at hr; cases hr)
            rw [hfull] at hgo
            cases hgo
          | k + 1, hk, hgo =>
            refine ZS.erase hi hU hx (zh_sound f (p + 1) (k + 1) _ _ (by omega) hgo (rotU_lt _ _) hlt (fun q hq => ?_) (rs.eraseIdx i) (erase_len hi hk) (erase_menu hi hm) (fun q hq => (conv q hq).mpr (hW q hq)))
            by_cases e2 : q = p
            · subst e2; exact (or_msk hx (by omega) (by omega)).mpr (.inr rfl)
            · exact (or_msk hx (by omega) (by omega)).mpr (.inl (hP q (by omega)))
end Mine
end

section
open PySem PySem.W PyProof.Rows
set_option Elab.async false
namespace Mine
noncomputable def cntN (rs : List Rul) (q : Nat) : Nat := (rs.map fun r => if q % r.2 = r.1 then 1 else 0).sum
theorem sum_erase {α : Type} (f : α → Nat) : ∀ (rs : List α) (i : Nat) (hi : i < rs.length), (rs.map f).sum = f rs[i] + ((rs.eraseIdx i).map f).sum
  | a :: t, 0, _ => by simp
  | a :: t, i + 1, hi => by
    have := sum_erase f t i (by simpa using hi)
    simp only [List.map_cons, List.sum_cons, List.eraseIdx_cons_succ, List.getElem_cons_succ]
    omega
theorem cnt_split {rs : List Rul} {i : Nat} (hi : i < rs.length) (q : Nat) : cntN rs q = (if q % rs[i].2 = rs[i].1 then 1 else 0) + cntN (rs.eraseIdx i) q := sum_erase _ rs i hi
theorem cnt_pos {rs : List Rul} {q : Nat} (h : 0 < cntN rs q) : CovN rs q := by
  induction rs with
  | nil => simp [cntN] at h
  | cons r t ih =>
    by_cases e : q % r.2 = r.1
    · exact ⟨r, .head _, e⟩
    · have : 0 < cntN t q := by simpa [cntN, e] using h
      obtain ⟨r', hr, e'⟩ := ih this
      exact ⟨r', .tail _ hr, e'⟩
theorem cov_cnt {rs : List Rul} {q : Nat} (h : CovN rs q) : 0 < cntN rs q := by
  obtain ⟨i, hi, e⟩ := cov_pick h
  rw [cnt_split hi, if_pos e]
  omega
noncomputable def least (G : Nat) : Nat := if G = 3 then 3 else 2
noncomputable def stepsN (rs : List Rul) (G : Nat) : Nat := (rs.map fun r => if r.2 = G then 1 else 0).sum
/-- what the leaf says, of the steps so far (L) and the rulers left -/
noncomputable def MNc (L : List Nat) (rs : List Rul) : Prop := ∀ G, (G ∈ L ∨ ∃ r ∈ rs, r.2 = G) → (∀ x ∈ L, x ≤ G) → (∀ r ∈ rs, r.2 ≤ G) → least G ≤ L.count G + stepsN rs G
theorem MNc.erase {L : List Nat} {rs : List Rul} {i : Nat} (hi : i < rs.length) (h : MNc (rs[i].2 :: L) (rs.eraseIdx i)) : MNc L rs := fun G hG h1 h2 => by
  have := h G (by
    rcases hG with hG | ⟨r, hr, e⟩
    · exact .inl (.tail _ hG)
    · rcases (mem_erase rs i hi r).mp hr with rfl | hr
      · exact .inl (by rw [e]; exact .head _)
      · exact .inr ⟨r, hr, e⟩) (fun x hx => by
    rcases List.mem_cons.mp hx with rfl | hx
    · exact h2 _ (List.getElem_mem hi)
    · exact h1 x hx) (fun r hr => h2 r ((mem_erase rs i hi r).mpr (.inr hr)))
  have e : stepsN rs G = (if rs[i].2 = G then 1 else 0) + stepsN (rs.eraseIdx i) G := sum_erase _ rs i hi
  rw [List.count_cons] at this
  rw [e]
  by_cases c : rs[i].2 = G
  · rw [if_pos c]
    rw [if_pos (by simpa using c)] at this
    omega
  · rw [if_neg c]
    rw [if_neg (by simpa using c)] at this
    omega
theorem mnOk_spec {L : List Nat} (h : mnOk L = true) : MNc L [] := fun G hG h1 _ => by
  have hG' : G ∈ L := by
    rcases hG with h | ⟨r, hr, _⟩
    · exact h
    · cases hr
  have := List.all_eq_true.mp h G hG'
  rw [Bool.or_eq_true] at this
  rcases this with h2 | h2
  · obtain ⟨x, hx, h3⟩ := List.any_eq_true.mp h2
    have := of_decide_eq_true h3
    have := h1 x hx
    omega
  · have := of_decide_eq_true h2
    unfold least
    omega
theorem mn_sound : ∀ f p k M L, p + f = 24 → mn f p k M L = true → M < 2 ^ 24 → (∀ q, q < p → M.testBit q = true) → ∀ rs : List Rul, rs.length = k → (∀ r ∈ rs, r.2 ∈ menu ∧ r.1 < r.2) → (∀ q, q < 24 → (M.testBit q).toNat + cntN rs q = 1) → MNc L rs
  | 0, p, k, M, L, hf, hc, hM, hP, rs, hk, hm, hW => by
    rw [mn.eq_def] at hc
    dsimp only at hc
    match rs, hk with
    | [], hk =>
      simp only [List.length_nil] at hk
      subst hk
      exact mnOk_spec (by simpa using hc)
    | r :: t, hk =>
      exfalso
      have h1 := hm r (.head _)
      have h2 := menu_lt _ h1.1
      have h3 := hW r.1 (by omega)
      have h4 : CovN (r :: t) r.1 := ⟨r, .head _, Nat.mod_eq_of_lt h1.2⟩
      have h5 := cov_cnt h4
      rw [hP r.1 (by omega)] at h3
      have : true.toNat = 1 := rfl
      omega
  | f + 1, p, k, M, L, hf, hc, hM, hP, rs, hk, hm, hW => by
    rw [mn.eq_def] at hc
    dsimp only at hc
    by_cases hb : M.testBit p = true
    · rw [if_pos hb] at hc
      refine mn_sound f (p + 1) k M L (by omega) hc hM (fun q hq => ?_) rs hk hm hW
      by_cases e : q = p
      · subst e; exact hb
      · exact hP q (by omega)
    · rw [if_neg hb] at hc
      have hcov : CovN rs p := cnt_pos (by
        have := hW p (by omega)
        rw [Bool.eq_false_iff.mpr hb] at this
        have : false.toNat = 0 := rfl
        omega)
      match k, hk, hc with
      | 0, hk, _ =>
        obtain ⟨r, hr, _⟩ := hcov
        rw [List.length_eq_zero_iff.mp hk] at hr; cases hr
      | k + 1, hk, hc =>
        obtain ⟨i, hi, e⟩ := cov_pick hcov
        have hx := (hm rs[i] (List.getElem_mem hi)).1
        have hgo := List.all_eq_true.mp hc rs[i].2 hx
        rw [Bool.or_eq_true] at hgo
        have hp : p < 24 := by omega
        rcases hgo with h | h
        · exfalso
          have hne : M &&& msk (p % rs[i].2) rs[i].2 ≠ 0 := by simpa using h
          obtain ⟨q, hq⟩ := Nat.exists_testBit_of_ne_zero hne
          rw [Nat.testBit_and, Bool.and_eq_true] at hq
          have hq24 : q < 24 := Nat.lt_of_not_le fun hge => by
            have := Nat.testBit_lt_two_pow (Nat.lt_of_lt_of_le hM (Nat.pow_le_pow_right (by decide) hge))
            rw [this] at hq
            cases hq.1
          have h2 := hq.2
          rw [msk_bit _ hx p hp q hq24] at h2
          have h3 := of_decide_eq_true h2
          have h4 := cov_cnt ⟨rs[i], List.getElem_mem hi, h3.trans e⟩
          have h5 := hW q hq24
          rw [hq.1] at h5
          have : true.toNat = 1 := rfl
          omega
        · have hlt : (M ||| msk (p % rs[i].2) rs[i].2) < 2 ^ 24 := Nat.or_lt_two_pow hM (msk_lt _ hx p hp)
          refine MNc.erase hi (mn_sound f (p + 1) k _ _ (by omega) h hlt (fun q hq => ?_) (rs.eraseIdx i) (erase_len hi hk) (fun r hr => hm r ((mem_erase rs i hi r).mpr (.inr hr))) (fun q hq => ?_))
          · by_cases e2 : q = p
            · subst e2; exact (or_msk hx hp hp).mpr (.inr rfl)
            · exact (or_msk hx hp (by omega)).mpr (.inl (hP q (by omega)))
          · have h5 := hW q hq
            rw [cnt_split hi] at h5
            have hbit : (M ||| msk (p % rs[i].2) rs[i].2).testBit q = (M.testBit q || decide (q % rs[i].2 = p % rs[i].2)) := by
              rw [Nat.testBit_or, msk_bit _ hx p hp q hq]
            rw [hbit]
            by_cases e2 : q % rs[i].2 = rs[i].1
            · rw [if_pos e2] at h5
              rw [e, decide_eq_true e2, Bool.or_true]
              cases hq2 : M.testBit q with
              | true =>
                rw [hq2] at h5
                have : true.toNat = 1 := rfl
                omega
              | false =>
                rw [hq2] at h5
                have : true.toNat = 1 := rfl
                have : false.toNat = 0 := rfl
                omega
            · rw [if_neg e2] at h5
              rw [e, decide_eq_false e2, Bool.or_false]
              omega
end Mine
end

section
open PySem PySem.W PyProof.Rows
set_option Elab.async false
namespace Mine
noncomputable def toRul (r : Quad) : Rul := (r.1.toNat, r.2.1.toNat)
theorem rul_ok {r : Quad} (h : okR r) : (toRul r).2 ∈ menu ∧ (toRul r).1 < (toRul r).2 ∧ r.2.1 = ((toRul r).2 : Nat) ∧ r.2.2.1 = (24 / (toRul r).2 : Nat) ∧ r.2.2.2 = (nm (toRul r).1 (toRul r).2 : Nat) := by
  obtain ⟨h1, h2, h3, h4, h5⟩ := h
  have hm := h1.menu
  have hr := h1.rng
  refine ⟨hm.1, ?_, hm.2.symm, ?_, ?_⟩
  · show r.1.toNat < r.2.1.toNat
    omega
  · show r.2.2.1 = ((24 / r.2.1.toNat : Nat) : Int)
    rw [h4, Int.natCast_ediv, hm.2]
    rfl
  · rw [h5, nm_int _ _ h1]
    rfl
theorem hit {r : Quad} (h : okR r) (j : Nat) : ((j : Int).fmod r.2.1 == r.1) = decide (j % (toRul r).2 = (toRul r).1) := by
  obtain ⟨h1, h2, h3, h4, h5⟩ := h
  have hm := h1.menu
  have hr := h1.rng
  have e1 : (j : Int).fmod r.2.1 = ((j % r.2.1.toNat : Nat) : Int) := by
    rw [Int.fmod_eq_emod_of_nonneg _ (by omega), Int.natCast_emod, hm.2]
  have e2 : r.1 = ((r.1.toNat : Nat) : Int) := by omega
  rw [e1]
  show _ = decide (j % r.2.1.toNat = r.1.toNat)
  by_cases c : j % r.2.1.toNat = r.1.toNat
  · rw [decide_eq_true c, c]
    exact beq_iff_eq.mpr (by omega)
  · rw [decide_eq_false c]
    exact beq_eq_false_iff_ne.mpr (by omega)
theorem cntAt_eq {rs : List Quad} (h : ∀ r ∈ rs, okR r) (j : Nat) : cntAt rs (j : Int) = cntN (rs.map toRul) j := by
  induction rs with
  | nil => rfl
  | cons r t ih =>
    have ih := ih fun q hq => h q (.tail _ hq)
    unfold cntAt cntN at *
    rw [List.filter_cons, hit (h r (.head _)) j, List.map_cons, List.map_cons, List.sum_cons, ← ih]
    by_cases c : j % (toRul r).2 = (toRul r).1
    · rw [decide_eq_true c, if_pos rfl, if_pos c, List.length_cons]; omega
    · rw [decide_eq_false c, if_neg (by decide), if_neg c]; omega
noncomputable def val : List Nat → Nat
  | [] => 0
  | d :: ds => d + 16 * val ds
theorem nm_val : ∀ x ∈ menu, ∀ mk, mk < x → nm mk x = val ((List.range 24).map fun j => if j % x = mk then 1 else 0) := by decide +kernel
theorem val_add (f g : Nat → Nat) : ∀ l : List Nat, val (l.map f) + val (l.map g) = val (l.map fun j => f j + g j)
  | [] => rfl
  | a :: l => by
    simp only [List.map_cons, val]
    rw [← val_add f g l]
    omega
theorem val_zero : ∀ l : List Nat, val (l.map fun _ => 0) = 0
  | [] => rfl
  | a :: l => by simp only [List.map_cons, val]; rw [val_zero l]
theorem tot_val {rs : List Quad} (h : ∀ r ∈ rs, okR r) : totOf rs = (val ((List.range 24).map (cntN (rs.map toRul))) : Nat) := by
  induction rs with
  | nil =>
    show (0 : Int) = _
    have : (cntN (List.map toRul [])) = fun _ => 0 := rfl
    rw [this, val_zero]; rfl
  | cons r t ih =>
    have ih := ih fun q hq => h q (.tail _ hq)
    obtain ⟨h1, h2, _, _, h5⟩ := rul_ok (h r (.head _))
    show r.2.2.2 + totOf t = _
    rw [ih, h5, nm_val _ h1 _ h2, ← Int.natCast_add, val_add]
    rfl
theorem val_lt : ∀ l : List Nat, (∀ d ∈ l, d < 16) → val l < 16 ^ l.length
  | [], _ => by decide
  | d :: l, h => by
    have := val_lt l fun e he => h e (.tail _ he)
    have := h d (.head _)
    simp only [val, List.length_cons, Nat.pow_succ]
    omega
noncomputable def strp : List Nat → List Nat
  | [] => []
  | d :: ds => if strp ds = [] ∧ d = 0 then [] else d :: strp ds
theorem strp_val : ∀ l : List Nat, strp l = [] ↔ val l = 0
  | [] => by simp [strp, val]
  | d :: l => by
    have := strp_val l
    simp only [strp, val]
    by_cases c : strp l = [] ∧ d = 0
    · rw [if_pos c]
      have := this.mp c.1
      simp [this, c.2]
    · rw [if_neg c]
      constructor
      · intro h; cases h
      · intro h
        exact absurd ⟨this.mpr (by omega), by omega⟩ c
theorem hexd_val : ∀ (f : Nat) (l : List Nat), l.length ≤ f → (∀ d ∈ l, d < 16) → hexd f (val l) = (strp l).map (65 + ·)
  | f, [], _, _ => by cases f <;> simp [hexd, strp, val]
  | f + 1, d :: l, hl, h => by
    have hd := h d (.head _)
    have ih := hexd_val f l (by simpa using hl) fun e he => h e (.tail _ he)
    show hexd (f + 1) (d + 16 * val l) = (if strp l = [] ∧ d = 0 then [] else d :: strp l).map (65 + ·)
    rw [hexd]
    have hs := strp_val l
    by_cases c : strp l = [] ∧ d = 0
    · rw [if_pos c, if_pos (by rw [hs.mp c.1, c.2])]
      rfl
    · rw [if_neg c, if_neg (fun e => c ⟨hs.mpr (by omega), by omega⟩)]
      rw [show (d + 16 * val l) % 16 = d by omega, show (d + 16 * val l) / 16 = val l by omega, ih]
      rfl
theorem drop_strp : ∀ l : List Nat, ((l.map (65 + ·)).reverse).dropWhile (· == 65) = ((strp l).map (65 + ·)).reverse
  | [] => rfl
  | d :: l => by
    have ih := drop_strp l
    rw [List.map_cons, List.reverse_cons, List.dropWhile_append, ih]
    simp only [strp]
    by_cases c : strp l = []
    · rw [c]
      by_cases d0 : d = 0
      · subst d0; simp
      · simp [d0]
    · have he : (((strp l).map (65 + ·)).reverse).isEmpty = false := by simp [c]
      rw [he, if_neg (by decide), if_neg (fun e => c e.1)]
      simp
theorem cntN_le (rs : List Rul) (j : Nat) : cntN rs j ≤ rs.length := by
  induction rs with
  | nil => exact Nat.le_refl _
  | cons r t ih =>
    unfold cntN at *
    rw [List.map_cons, List.sum_cons, List.length_cons]
    split <;> omega
theorem dig_lt {rs : List Quad} (hl : rs.length ≤ 6) : ∀ d ∈ (List.range 24).map (cntN (rs.map toRul)), d < 16 := fun d hd => by
  obtain ⟨j, _, rfl⟩ := List.mem_map.mp hd
  have := cntN_le (rs.map toRul) j
  rw [List.length_map] at this
  omega
theorem tot_lt' {rs : List Quad} (h : ∀ r ∈ rs, okR r) (hl : rs.length ≤ 6) : (totOf rs).natAbs < 16 ^ 24 := by
  rw [tot_val h, Int.natAbs_natCast]
  have := val_lt _ (dig_lt hl)
  rwa [List.length_map, List.length_range] at this
theorem codes_eq {rs : List Quad} (h : ∀ r ∈ rs, okR r) : codes rs = (((List.range 24).map (cntN (rs.map toRul))).map (65 + ·)).reverse := by
  unfold codes
  rw [List.map_reverse, List.map_map]
  congr 1
  apply List.map_congr_left
  intro j _
  show 65 + cntAt rs (j : Int) = 65 + cntN (rs.map toRul) j
  rw [cntAt_eq h]
theorem told_codes (rs : List Quad) : told rs = ((codes rs).dropWhile (· == 65)).map fun c => c.toUInt8 := rfl
theorem letters_eq' {rs : List Quad} (h : ∀ r ∈ rs, okR r) (hl : rs.length ≤ 6) : apL (totOf rs).natAbs = told rs := by
  have hlt := tot_lt' h hl
  rw [apL_hexd 24 _ hlt, tot_val h, Int.natAbs_natCast, hexd_val 24 _ (by simp) (dig_lt hl), told_codes, codes_eq h, drop_strp]
end Mine
end

section
open PySem PySem.W PyProof.Rows
set_option Elab.async false
namespace Mine
open Builtin.Str StrLaws
theorem strA : Str.ofString "A" = ⟨#[65]⟩ := by decide
theorem codes_len (rs : List Quad) : (codes rs).length = 24 := by simp [codes]
theorem codes_at (rs : List Quad) {i : Nat} (hi : i < 24) : (codes rs)[i]? = some (65 + cntAt rs ((23 - i : Nat) : Int)) := by
  unfold codes
  rw [List.getElem?_map, List.getElem?_reverse (by simpa using hi)]
  simp only [List.length_range]
  rw [List.getElem?_range (by omega)]
  rw [show 24 - 1 - i = 23 - i by omega]
  rfl
theorem codes_iff (rs : List Quad) : 65 ∈ codes rs ↔ ∃ j, j < 24 ∧ cntAt rs ((j : Nat) : Int) = 0 := by
  unfold codes
  rw [List.mem_map]
  constructor
  · rintro ⟨j, hj, e⟩
    exact ⟨j, by simpa using hj, by omega⟩
  · rintro ⟨j, hj, e⟩
    exact ⟨j, by simpa using hj, by omega⟩
theorem codes_ge (rs : List Quad) : ∀ c ∈ codes rs, 65 ≤ c := fun c hc => by
  obtain ⟨j, _, rfl⟩ := List.mem_map.mp hc
  omega
theorem codes_le {rs : List Quad} (hl : rs.length ≤ 6) : ∀ c ∈ codes rs, c ≤ 71 := fun c hc => by
  obtain ⟨j, _, rfl⟩ := List.mem_map.mp hc
  have : cntAt rs (j : Int) ≤ rs.length := List.length_filter_le _ _
  omega
theorem at_iff (rs : List Quad) (i : Nat) : At (txt rs) ⟨#[65]⟩ (txt rs).length i ↔ (codes rs)[i]? = some 65 := subAt_one _ _ _
theorem txt_len (rs : List Quad) : (txt rs).length = 24 := codes_len rs
theorem drop_nil : ∀ l : List Nat, l.dropWhile (· == 65) = [] → ∀ c ∈ l, c = 65
  | [], _, c, hc => nomatch hc
  | a :: l, h, c, hc => by
    rw [List.dropWhile_cons] at h
    by_cases e : a = 65
    · rw [if_pos (by simpa using e)] at h
      rcases List.mem_cons.mp hc with rfl | hc
      · exact e
      · exact drop_nil l h c hc
    · rw [if_neg (by simpa using e)] at h
      cases h
theorem told_ne' {rs : List Quad} (h : ∀ r ∈ rs, okR r) (hl : rs ≠ []) : ∃ c cs, told rs = c :: cs := by
  cases ht : told rs with
  | cons c cs => exact ⟨c, cs, rfl⟩
  | nil =>
    exfalso
    have h0 : (codes rs).dropWhile (· == 65) = [] := by
      have : ((codes rs).dropWhile (· == 65)).map (fun c => c.toUInt8) = [] := ht
      exact List.map_eq_nil_iff.mp this
    have h0 := drop_nil _ h0
    obtain ⟨r, t, e⟩ := List.exists_cons_of_ne_nil hl
    have hr : r ∈ rs := by rw [e]; exact .head _
    have ho := rul_ok (h r hr)
    have hm := menu_lt _ ho.1
    have hmem : 65 + cntAt rs (((toRul r).1 : Nat) : Int) ∈ codes rs := List.mem_map.mpr ⟨_, by simpa using (by omega : (toRul r).1 < 24), rfl⟩
    have := h0 _ hmem
    rw [cntAt_eq h] at this
    have hc : CovN (rs.map toRul) (toRul r).1 := ⟨toRul r, List.mem_map_of_mem hr, Nat.mod_eq_of_lt ho.2.1⟩
    have := cov_cnt hc
    simp at *
    omega
theorem told_ascii' {rs : List Quad} (hl : rs.length ≤ 6) : ∀ d ∈ told rs, d.toNat < 128 := fun d hd => by
  obtain ⟨c, hc, rfl⟩ := List.mem_map.mp hd
  have := codes_le hl c ((List.dropWhile_sublist _).subset hc)
  have e : (c.toUInt8).toNat = c % 256 := by simp
  omega
theorem drop_pad (l : List Nat) : List.replicate (l.length - (l.dropWhile (· == 65)).length) 65 ++ l.dropWhile (· == 65) = l := by
  induction l with
  | nil => rfl
  | cons a l ih =>
    rw [List.dropWhile_cons]
    by_cases e : a = 65
    · subst e
      have hle := (List.dropWhile_sublist (l := l) (· == 65)).length_le
      have : (65 :: l).length - (l.dropWhile (· == 65)).length = (l.length - (l.dropWhile (· == 65)).length) + 1 := by
        rw [List.length_cons]; omega
      rw [if_pos (by decide), this, List.replicate_succ, List.cons_append, ih]
    · rw [if_neg (by simpa using e)]
      simp
theorem told_nat {rs : List Quad} (hl : rs.length ≤ 6) : (told rs).map (fun d => d.toNat) = (codes rs).dropWhile (· == 65) := by
  unfold told
  rw [List.map_map]
  conv => rhs; rw [← List.map_id ((codes rs).dropWhile (· == 65))]
  apply List.map_congr_left
  intro c hc
  have := codes_le hl c ((List.dropWhile_sublist _).subset hc)
  show (c.toUInt8).toNat = c
  have e : (c.toUInt8).toNat = c % 256 := by simp
  omega
theorem told_rj' {rs : List Quad} (hl : rs.length ≤ 6) : Txt.rjustF ⟨((told rs).map fun d => d.toNat).toArray⟩ 24 65 = ⟨(codes rs).toArray⟩ := by
  apply PySem.Str.ext'
  apply Array.toList_inj.mp
  rw [rjustF_list, told_nat hl]
  have := drop_pad (codes rs)
  rw [codes_len] at this
  exact this
theorem occ_iff' (rs : List Quad) : (!(occurrences (txt rs) (Str.ofString "A") 0 (txt rs).length 1).isEmpty) = decide (65 ∈ codes rs) := by
  have h := found_iff (txt rs) (Str.ofString "A")
  rw [Bool.eq_iff_iff, h, strA, decide_eq_true_iff]
  constructor
  · rintro ⟨i, hi⟩
    exact List.mem_of_getElem? ((at_iff rs i).mp hi)
  · intro hm
    obtain ⟨i, hi⟩ := List.getElem?_of_mem hm
    exact ⟨i, (at_iff rs i).mpr hi⟩
theorem last_of' {rs : List Quad} (h0 : 65 ∈ codes rs) : ∃ i : Nat, lastOccurrence (txt rs) (Str.ofString "A") 0 (txt rs).length = some i ∧ i ≤ 23 := by
  rw [strA]
  obtain ⟨j, hj⟩ := List.getElem?_of_mem h0
  rcases last_spec (txt rs) ⟨#[65]⟩ with ⟨_, h⟩ | ⟨i, h1, h2, _⟩
  · exact absurd ((at_iff rs j).mpr hj) (h j)
  · refine ⟨i, h1, ?_⟩
    have := (List.getElem?_eq_some_iff.mp ((at_iff rs i).mp h2)).1
    rw [codes_len] at this
    omega
theorem parts_sub (x : PySem.Str) (w : Nat) : ∀ (cuts : List Nat) (a : Nat), ∀ p ∈ partsFrom x w a cuts, ∃ a' b', p = strSub x a' b'
  | [], a, p, hp => ⟨a, _, List.mem_singleton.mp hp⟩
  | c :: r, a, p, hp => by
    rcases List.mem_cons.mp hp with rfl | hp
    · exact ⟨a, c, rfl⟩
    · exact parts_sub x w r _ p hp
theorem split_sub (x y : PySem.Str) : ∀ p ∈ Txt.split x y, ∃ a b, p = strSub x a b := by
  intro p hp
  unfold Txt.split at hp
  split at hp
  · exact ⟨0, x.length, by rw [List.mem_singleton.mp hp, sub_whole]⟩
  · split at hp
    · exact ⟨0, x.length, by rw [List.mem_singleton.mp hp, sub_whole]⟩
    · rw [partsBetween_eq] at hp
      exact parts_sub x _ _ _ p hp
theorem parts_len (x : PySem.Str) (w : Nat) : ∀ (cuts : List Nat) (a : Nat), (partsFrom x w a cuts).length = cuts.length + 1
  | [], _ => rfl
  | c :: r, a => by
    show (partsFrom x w (c + w) r).length + 1 = _
    rw [parts_len x w r]
    rfl
theorem split_len (x y : PySem.Str) : 0 < (Txt.split x y).length ∧ (Txt.split x y).length ≤ x.length + 2 := by
  unfold Txt.split
  split
  · simp
  · split
    · simp
    · rw [partsBetween_eq, parts_len]
      have := occ_length_le_len x y 0 x.length (x.length + 1)
      omega
theorem split_few' (rs : List Quad) : (Txt.split (txt rs ++ txt rs) (Str.ofString "A")).length ≤ 1000 := by
  have := (split_len (txt rs ++ txt rs) (Str.ofString "A")).2
  rw [PySem.Str.length_append, txt_len] at this
  omega
theorem split_some' (rs : List Quad) : 0 < (Txt.split (txt rs ++ txt rs) (Str.ofString "A")).length := (split_len _ _).1
end Mine
end

section
open PySem PySem.W PyProof.Rows
set_option Elab.async false
namespace Mine
open Builtin.Str StrLaws
theorem cv_all : ∀ k, k ≤ 4 → cv (2 ^ k) 24 0 k 0 = true := fun k hk => by
  match k, hk with
  | 0, _ => rfl
  | 1, _ => exact cv1
  | 2, _ => exact cv2
  | 3, _ => exact cv3
  | 4, _ => exact cv4
noncomputable def shf (off : Nat) (r : Rul) : Rul := ((r.1 + (r.2 - off % r.2)) % r.2, r.2)
theorem menu_dvd : ∀ x ∈ menu, 24 % x = 0 := by decide
theorem shf_mod {m x j c : Nat} (hm : m < x) (hc : c < x) : j % x = (m + (x - c)) % x ↔ (c + j) % x = m := by
  constructor
  · intro h
    rw [Nat.add_mod, h, Nat.mod_eq_of_lt hc, Nat.add_mod_mod, show c + (m + (x - c)) = m + x by omega, Nat.add_mod_right, Nat.mod_eq_of_lt hm]
  · intro h
    rw [← h, Nat.mod_add_mod, show c + j + (x - c) = j + x by omega, Nat.add_mod_right]
theorem shf_hit {r : Rul} (hx : r.2 ∈ menu) (hm : r.1 < r.2) (off j : Nat) : j % (shf off r).2 = (shf off r).1 ↔ ((off + j) % 24) % r.2 = r.1 := by
  have h0 : 0 < r.2 := Nat.lt_of_le_of_lt (Nat.zero_le _) hm
  have e : ((off + j) % 24) % r.2 = (off % r.2 + j) % r.2 := by
    rw [Nat.mod_mod_of_dvd _ (Nat.dvd_of_mod_eq_zero (menu_dvd _ hx)), Nat.mod_add_mod]
  rw [e]
  exact shf_mod hm (Nat.mod_lt _ h0)
theorem cov_shf {R : List Rul} (h : ∀ r ∈ R, r.2 ∈ menu ∧ r.1 < r.2) (off j : Nat) : CovN (R.map (shf off)) j ↔ CovN R ((off + j) % 24) := by
  constructor
  · rintro ⟨r', hr', e⟩
    obtain ⟨r, hr, rfl⟩ := List.mem_map.mp hr'
    exact ⟨r, hr, (shf_hit (h r hr).1 (h r hr).2 off j).mp e⟩
  · rintro ⟨r, hr, e⟩
    exact ⟨shf off r, List.mem_map_of_mem hr, (shf_hit (h r hr).1 (h r hr).2 off j).mpr e⟩
/-- Crittenden, Vanden Eynden: 2 ^ k places in a row -/
theorem cve {R : List Rul} (h : ∀ r ∈ R, r.2 ∈ menu ∧ r.1 < r.2) (hk : R.length ≤ 4) (off : Nat) (hW : ∀ j, j < 2 ^ R.length → CovN R ((off + j) % 24)) : ∀ q, q < 24 → CovN R q := fun q hq => by
  have hs := cv_sound (2 ^ R.length) 24 0 R.length 0 rfl (cv_all _ hk) (R.map (shf off)) (by simp) (fun r hr => by
    obtain ⟨r', hr', rfl⟩ := List.mem_map.mp hr
    exact (h r' hr').1) (fun j hj _ => .inr ((cov_shf h off j).mpr (hW j hj)))
  have := hs ((q + 24 - off % 24) % 24) (Nat.zero_le _) (Nat.mod_lt _ (by decide))
  rcases this with h0 | h0
  · simp at h0
  · have := (cov_shf h off _).mp h0
    have e : (off + (q + 24 - off % 24) % 24) % 24 = q := by omega
    rwa [e] at this
theorem ruls_ok {rs : List Quad} (h : ∀ r ∈ rs, okR r) : ∀ r ∈ rs.map toRul, r.2 ∈ menu ∧ r.1 < r.2 := fun r hr => by
  obtain ⟨q, hq, rfl⟩ := List.mem_map.mp hr
  have := rul_ok (h q hq)
  exact ⟨this.1, this.2.1⟩
theorem dbl_at (rs : List Quad) {n : Nat} (hn : n < 48) : (codes rs ++ codes rs)[n]? = (codes rs)[n % 24]? := by
  by_cases h : n < 24
  · rw [List.getElem?_append_left (by rw [codes_len]; exact h), Nat.mod_eq_of_lt h]
  · rw [List.getElem?_append_right (by rw [codes_len]; omega), codes_len]
    congr 1
    omega
theorem o_r0 : ∀ t, t < 72 → 23 - t % 24 = (95 - t) % 24 := by decide +kernel
theorem o_r1 {K j L : Nat} (hj : j < K) (h : K ≤ L) : K - 1 - j < L := by omega
theorem o_r2 {a K j : Nat} (hj : j < K) (hK : K ≤ 16) (ha : a ≤ 48) : 23 - (a + (K - 1 - j)) % 24 = (72 + 24 - a - K + j) % 24 := by
  have e : 72 + 24 - a - K + j = 95 - (a + (K - 1 - j)) := by omega
  rw [e]
  exact o_r0 _ (by omega)
theorem o_r3 : ∀ a, a < 17 → ∀ j, j < 24 → 23 - (a + (23 - j + 48 - a) % 24) % 24 = j := by decide +kernel
theorem o_r4 {a L : Nat} (h : a + L ≤ 48) (h2 : 32 ≤ L) : a < 17 := by omega
theorem runs_lt' {rs : List Quad} (h : ∀ r ∈ rs, okR r) (h0 : 65 ∈ codes rs) : ∀ p ∈ Txt.split (txt rs ++ txt rs) (Str.ofString "A"), (p.length : Int) < 2 ^ rs.length := by
  intro p hp
  rw [strA] at hp
  have hfree := split_free _ _ p hp
  obtain ⟨a, b, rfl⟩ := split_sub _ _ p hp
  have hl : (strSub (txt rs ++ txt rs) a b).cps.toList = ((codes rs ++ codes rs).drop a).take (b - a) := by
    have hx : (txt rs ++ txt rs).cps.toList = codes rs ++ codes rs := by
      rw [PySem.Str.cps_append, Array.toList_append]
    rw [strSub_toList, hx]
  have hlen : (strSub (txt rs ++ txt rs) a b).length = (((codes rs ++ codes rs).drop a).take (b - a)).length := by
    rw [← hl]; simp [PySem.Str.length]
  rw [hl] at hfree
  generalize hL : (strSub (txt rs ++ txt rs) a b).length = L at hlen ⊢
  have hdbl : (codes rs ++ codes rs).length = 48 := by rw [List.length_append, codes_len]
  have hL48 : 0 < L → a + L ≤ 48 := by
    intro h
    rw [List.length_take, List.length_drop, hdbl] at hlen
    omega
  have hLb : L ≤ b - a := by rw [hlen, List.length_take]; exact Nat.min_le_left _ _
  -- each letter of the run is covered
  have hcov : ∀ i, i < L → CovN (rs.map toRul) (23 - (a + i) % 24) := fun i hi => by
    have ha := hL48 (Nat.lt_of_le_of_lt (Nat.zero_le _) hi)
    have h1 : (((codes rs ++ codes rs).drop a).take (b - a))[i]? = (codes rs)[(a + i) % 24]? := by
      rw [List.getElem?_take_of_lt (Nat.lt_of_lt_of_le hi hLb), List.getElem?_drop, dbl_at rs (Nat.lt_of_lt_of_le (Nat.add_lt_add_left hi a) ha)]
    rw [codes_at rs (Nat.mod_lt _ (by decide))] at h1
    have h2 := List.mem_of_getElem? h1
    rw [cntAt_eq h] at h2
    refine cnt_pos (Nat.pos_of_ne_zero fun e => ?_)
    rw [e] at h2
    exact hfree h2
  refine Int.lt_of_not_ge fun hge => ?_
  have hge' : 2 ^ rs.length ≤ L := by exact_mod_cast hge
  have hpos : 0 < 2 ^ rs.length := Nat.pow_pos (by decide)
  have ha := hL48 (Nat.lt_of_lt_of_le hpos hge')
  obtain ⟨j0, hj0, hc0⟩ := (codes_iff rs).mp h0
  rw [cntAt_eq h] at hc0
  have hno : ¬ CovN (rs.map toRul) j0 := fun hc => by
    have := cov_cnt hc
    omega
  by_cases hk : rs.length ≤ 4
  · refine hno (cve (ruls_ok h) (by simpa using hk) (72 + 24 - a - 2 ^ rs.length) (fun j hj => ?_) j0 hj0)
    rw [List.length_map] at hj
    have hW : 2 ^ rs.length ≤ 16 := Nat.pow_le_pow_right (n := 2) (by decide) hk
    have := hcov (2 ^ rs.length - 1 - j) (o_r1 hj hge')
    have e : 23 - (a + (2 ^ rs.length - 1 - j)) % 24 = (72 + 24 - a - 2 ^ rs.length + j) % 24 := o_r2 hj hW (Nat.le_trans (Nat.le_add_right a L) ha)
    rwa [e] at this
  · have hW : 32 ≤ 2 ^ rs.length := Nat.pow_le_pow_right (n := 2) (by decide) (Nat.lt_of_not_le hk : 5 ≤ rs.length)
    refine hno ?_
    have := hcov ((23 - j0 + 48 - a) % 24) (Nat.lt_of_lt_of_le (Nat.mod_lt _ (by decide)) (Nat.le_trans (by decide : 24 ≤ 32) (Nat.le_trans hW hge')))
    have e : 23 - (a + (23 - j0 + 48 - a) % 24) % 24 = j0 := o_r3 a (o_r4 ha (Nat.le_trans hW hge')) j0 hj0
    rwa [e] at this
theorem all_cov {rs : List Quad} (h : ∀ r ∈ rs, okR r) (h0 : ¬ 65 ∈ codes rs) : ∀ q, q < 24 → CovN (rs.map toRul) q := fun q hq => by
  refine cnt_pos (Nat.pos_of_ne_zero fun e => h0 ((codes_iff rs).mpr ⟨q, hq, ?_⟩))
  rw [cntAt_eq h]
  exact e
end Mine
end

section
open PySem PySem.W PyProof.Rows
set_option Elab.async false
namespace Mine
theorem sums_keep : ∀ (cs S : List Int) (n : Int), n ∈ S.drop 1 → n ∈ (cs.foldl (fun S c => S ++ S.map (· + c)) S).drop 1
  | [], _, _, h => h
  | c :: cs, S, n, h => by
    rw [List.foldl_cons]
    refine sums_keep cs _ n ?_
    rw [List.drop_append]
    exact List.mem_append.mpr (.inl h)
theorem sums_mem : ∀ (cs S : List Int) (s : Int) (sub : List Int), s ∈ S → sub.Sublist cs → sub ≠ [] → s + sub.sum ∈ (cs.foldl (fun S c => S ++ S.map (· + c)) S).drop 1
  | [], _, _, sub, _, h, hne => by
    cases h
    exact absurd rfl hne
  | c :: cs, S, s, sub, hs, h, hne => by
    rw [List.foldl_cons]
    cases h with
    | cons _ h => exact sums_mem cs _ s sub (List.mem_append.mpr (.inl hs)) h hne
    | cons_cons _ h =>
      rename_i s0
      have hS : s + c ∈ S.map (· + c) := List.mem_map_of_mem hs
      have hS' : s + c ∈ (S ++ S.map (· + c)).drop 1 := by
        have hp : 0 < S.length := List.length_pos_of_mem hs
        rw [List.drop_append]
        rw [show 1 - S.length = 0 by omega, List.drop_zero]
        exact List.mem_append.mpr (.inr hS)
      by_cases e : s0 = []
      · subst e
        have := sums_keep cs _ _ hS'
        simpa using this
      · have := sums_mem cs (S ++ S.map (· + c)) (s + c) s0 (List.mem_append.mpr (.inr hS)) h e
        rw [List.sum_cons, ← Int.add_assoc]
        exact this
theorem sub_counts {rs : List Quad} (h : ∀ r ∈ rs, okR r) : ∀ sub : List Rul, sub.Sublist (rs.map toRul) → ∃ cs : List Int, cs.Sublist (rs.map fun (r : Quad) => r.2.2.1) ∧ cs.length = sub.length ∧ cs.sum = (cnt24 sub : Nat) := by
  induction rs with
  | nil =>
    intro sub hs
    cases hs
    exact ⟨[], .slnil, rfl, rfl⟩
  | cons r t ih =>
    intro sub hs
    have ih := ih fun q hq => h q (.tail _ hq)
    rw [List.map_cons] at hs
    cases hs with
    | cons _ hs =>
      obtain ⟨cs, h1, h2, h3⟩ := ih sub hs
      exact ⟨cs, h1.cons _, h2, h3⟩
    | cons_cons _ hs =>
      rename_i s0
      obtain ⟨cs, h1, h2, h3⟩ := ih s0 hs
      refine ⟨r.2.2.1 :: cs, h1.cons_cons _, by simp [h2], ?_⟩
      have ho := rul_ok (h r (.head _))
      rw [List.sum_cons, h3, ho.2.2.2.1]
      simp [cnt24]
/-- Zhang: the counts of some rulers of a cover make a multiple of 24 -/
theorem zhang' {rs : List Quad} (h : ∀ r ∈ rs, okR r) (hl : rs.length ≤ 6) (h0 : ¬ 65 ∈ codes rs) : ∃ n ∈ (sumsOf (rs.map fun (r : Quad) => r.2.2.1)).drop 1, n % 24 = 0 := by
  have hcov := all_cov h h0
  have hr := ruls_ok h
  -- as many as six: the rest are laid over the first place
  have key : ∀ k, k ≤ 6 → ∀ R : List Rul, R.length = k → (∀ r ∈ R, r.2 ∈ menu) → (∀ q, q < 24 → CovN R q) → ZS 1 R := by
    intro k hk R hR hm hc
    exact zh_sound 24 0 k 1 0 rfl (zh_le k hk) (by decide) (by decide) (fun q hq => absurd hq (Nat.not_lt_zero _)) R hR hm (fun q hq => .inr (hc q hq))
  obtain ⟨sub, h1, h2, u, hu, hb, he⟩ := key rs.length hl (rs.map toRul) (by simp) (fun r hr' => (hr r hr').1) hcov
  have hu0 : u = 0 := by
    have : ∀ u, u < 24 → bitOf 1 u = true → u = 0 := by decide +kernel
    exact this u hu hb
  subst hu0
  obtain ⟨cs, h3, h4, h5⟩ := sub_counts h sub h1
  refine ⟨0 + cs.sum, sums_mem _ [0] 0 cs (.head _) h3 (fun e => h2 ?_), ?_⟩
  · rw [e] at h4
    exact List.length_eq_zero_iff.mp h4.symm
  · rw [h5]
    omega
end Mine
end

section
open PySem PySem.W PyProof.Rows
set_option Elab.async false
namespace Mine
theorem b24 : Txt.mul (Str.ofString "B") 24 = ⟨(List.replicate 24 66).toArray⟩ := by decide
theorem one_each {rs : List Quad} (h : ∀ r ∈ rs, okR r) (ht : txt rs = Txt.mul (Str.ofString "B") 24) : ∀ q, q < 24 → cntN (rs.map toRul) q = 1 := fun q hq => by
  rw [b24] at ht
  have he : codes rs = List.replicate 24 66 := by
    have := congrArg (fun x : PySem.Str => x.cps.toList) ht
    exact this
  have hm : 65 + cntAt rs (q : Int) ∈ codes rs := List.mem_map.mpr ⟨q, by simpa using hq, rfl⟩
  rw [he] at hm
  have := (List.mem_replicate.mp hm).2
  rw [cntAt_eq h] at this
  omega
noncomputable def sumC (R : List Rul) : Nat := ((List.range 24).map (cntN R)).sum
theorem sum_two (f g : Nat → Nat) : ∀ l : List Nat, (l.map fun j => f j + g j).sum = (l.map f).sum + (l.map g).sum
  | [] => rfl
  | a :: l => by
    simp only [List.map_cons, List.sum_cons]
    rw [sum_two f g l]
    omega
theorem sum_none : ∀ l : List Nat, (l.map fun _ => 0).sum = 0
  | [] => rfl
  | a :: l => by simp only [List.map_cons, List.sum_cons]; rw [sum_none l]
theorem one_sum : ∀ x ∈ menu, ∀ m, m < x → ((List.range 24).map fun j => if j % x = m then 1 else 0).sum = 24 / x := by decide +kernel
theorem sumC_eq : ∀ R : List Rul, (∀ r ∈ R, r.2 ∈ menu ∧ r.1 < r.2) → sumC R = cnt24 R
  | [], _ => sum_none _
  | r :: t, h => by
    have h1 := h r (.head _)
    have ih := sumC_eq t fun q hq => h q (.tail _ hq)
    have e : sumC (r :: t) = ((List.range 24).map fun j => (if j % r.2 = r.1 then 1 else 0) + cntN t j).sum := rfl
    rw [e, sum_two, one_sum _ h1.1 _ h1.2]
    show 24 / r.2 + sumC t = 24 / r.2 + cnt24 t
    rw [ih]
theorem sum_count (f : Nat → Nat) : ∀ l : List Nat, (∀ j ∈ l, f j ≤ 1) → (l.map f).sum = (l.filter fun j => decide (0 < f j)).length
  | [], _ => rfl
  | a :: l, h => by
    have ih := sum_count f l fun j hj => h j (.tail _ hj)
    have ha := h a (.head _)
    rw [List.map_cons, List.sum_cons, List.filter_cons, ih]
    by_cases c : 0 < f a
    · rw [decide_eq_true c, if_pos rfl, List.length_cons]; omega
    · rw [decide_eq_false c, if_neg (by decide)]; omega
theorem filter_drop : ∀ l : List Nat, (l.dropWhile (· == 65)).filter (fun c => decide (65 < c)) = l.filter fun c => decide (65 < c)
  | [] => rfl
  | a :: l => by
    rw [List.dropWhile_cons]
    by_cases e : a = 65
    · subst e
      rw [if_pos (by decide), filter_drop l]
      rfl
    · rw [if_neg (by simpa using e)]
theorem told_count {rs : List Quad} (h : ∀ r ∈ rs, okR r) (hl : rs.length ≤ 6) : ((told rs).filter fun c => decide (65 < c.toNat)).length = ((List.range 24).filter fun j => decide (0 < cntN (rs.map toRul) j)).length := by
  have h1 : ((told rs).filter fun c => decide (65 < c.toNat)).length = (((told rs).map fun d => d.toNat).filter fun c => decide (65 < c)).length := by
    rw [List.filter_map, List.length_map]
    rfl
  rw [h1, told_nat hl, filter_drop]
  unfold codes
  rw [List.filter_map, List.length_map, List.filter_reverse, List.length_reverse]
  congr 1
  apply List.filter_congr
  intro j _
  show decide (65 < 65 + cntAt rs (j : Int)) = _
  rw [cntAt_eq h]
  congr 1
  exact propext ⟨fun h => by omega, fun h => by omega⟩
theorem cntN_sub (R S : List Rul) (h : R.Sublist S) (q : Nat) : cntN R q ≤ cntN S q := by
  induction h with
  | slnil => exact Nat.le_refl _
  | cons a _ ih =>
    unfold cntN at *
    rw [List.map_cons, List.sum_cons]
    omega
  | cons_cons a _ ih =>
    unfold cntN at *
    rw [List.map_cons, List.map_cons, List.sum_cons, List.sum_cons]
    omega
theorem cnt24_same (g : Nat) : ∀ R : List Rul, (∀ r ∈ R, r.2 = g) → cnt24 R = R.length * (24 / g)
  | [], _ => by simp [cnt24]
  | r :: t, h => by
    have ih := cnt24_same g t fun q hq => h q (.tail _ hq)
    have e := h r (.head _)
    show 24 / r.2 + cnt24 t = _
    rw [ih, e, List.length_cons, Nat.add_mul]
    omega
theorem steps_filter {rs : List Quad} (h : ∀ r ∈ rs, okR r) (g : Nat) : (rs.filter fun (r : Quad) => r.2.1 == (g : Int)).length = stepsN (rs.map toRul) g := by
  induction rs with
  | nil => rfl
  | cons r t ih =>
    have ih := ih fun q hq => h q (.tail _ hq)
    have ho := rul_ok (h r (.head _))
    rw [List.filter_cons]
    have e : stepsN ((r :: t).map toRul) g = (if (toRul r).2 = g then 1 else 0) + stepsN (t.map toRul) g := rfl
    rw [e, ← ih, ho.2.2.1]
    by_cases c : (toRul r).2 = g
    · rw [if_pos (by rw [c]; exact beq_self_eq_true _), if_pos c, List.length_cons]; omega
    · rw [if_neg (by simp; omega), if_neg c]; omega
/-- Mirsky, Newman: of an exact cover -/
theorem mirsky' {rs : List Quad} (h : ∀ r ∈ rs, okR r) (hl : rs.length ≤ 6) : txt rs = Txt.mul (Str.ofString "B") 24 → ∀ G ∈ rs.map (fun (r : Quad) => r.2.1), (∀ x ∈ rs.map (fun (r : Quad) => r.2.1), x ≤ G) → (((rs.filter fun (r : Quad) => r.2.1 == G).map fun (r : Quad) => r.2.2.2).sum).natAbs < 16 ^ 60 ∧ (if G = 3 then 3 else 2) * (24 / G) ≤ (((apL (((rs.filter fun (r : Quad) => r.2.1 == G).map fun (r : Quad) => r.2.2.2).sum).natAbs).filter fun c => decide (65 < c.toNat)).length : Int) := by
  intro ht G hG hmax
  have hone := one_each h ht
  have hr := ruls_ok h
  obtain ⟨r0, hr0, e0⟩ := List.mem_map.mp hG
  have ho0 := rul_ok (h r0 hr0)
  obtain ⟨g, hg⟩ : ∃ g : Nat, G = (g : Int) := ⟨_, by rw [← e0]; exact ho0.2.2.1⟩
  subst hg
  have hsub : (rs.filter fun (r : Quad) => r.2.1 == (g : Int)).Sublist rs := List.filter_sublist
  have hokG : ∀ r ∈ rs.filter (fun (r : Quad) => r.2.1 == (g : Int)), okR r := fun r hr => h r (hsub.subset hr)
  have hlG : (rs.filter fun (r : Quad) => r.2.1 == (g : Int)).length ≤ 6 := Nat.le_trans hsub.length_le hl
  have hlt := tot_lt' hokG hlG
  have hle := letters_eq' hokG hlG
  unfold totOf at hlt hle
  refine ⟨Nat.lt_trans hlt (by decide), ?_⟩
  rw [hle, told_count hokG hlG, ← sum_count _ _ (fun j hj => by
    have h1 := cntN_sub _ _ (hsub.map toRul) j
    have h2 := hone j (by simpa using hj)
    omega)]
  have hS := sumC_eq ((rs.filter fun (r : Quad) => r.2.1 == (g : Int)).map toRul) (ruls_ok hokG)
  unfold sumC at hS
  rw [hS, cnt24_same g _ (fun r hr => by
    obtain ⟨q, hq, rfl⟩ := List.mem_map.mp hr
    have h1 := (List.mem_filter.mp hq).2
    have h2 := (rul_ok (hokG q hq)).2.2.1
    have h3 : q.2.1 = (g : Int) := by simpa using h1
    omega), List.length_map, steps_filter h]
  have hmn := mn_sound 24 0 rs.length 0 [] rfl (mn_le _ hl) (by decide) (fun q hq => absurd hq (Nat.not_lt_zero _)) (rs.map toRul) (by simp) hr (fun q hq => by
    rw [hone q hq]
    simp)
  have hleast := hmn g (.inr ⟨toRul r0, List.mem_map_of_mem hr0, by omega⟩) (fun x hx => nomatch hx) (fun r hr => by
    obtain ⟨q, hq, rfl⟩ := List.mem_map.mp hr
    have h1 := hmax q.2.1 (List.mem_map_of_mem (f := fun (r : Quad) => r.2.1) hq)
    have h2 := (rul_ok (h q hq)).2.2.1
    rw [h2] at h1
    exact Int.ofNat_le.mp h1)
  clear hmn hlt hle hS
  have h5 : least g * (24 / g) ≤ stepsN (rs.map toRul) g * (24 / g) := Nat.mul_le_mul_right _ (by simpa using hleast)
  have h6 : (if (g : Int) = 3 then (3 : Int) else 2) * (24 / (g : Int)) = ((least g * (24 / g) : Nat) : Int) := by
    rw [Int.natCast_mul, Int.natCast_ediv]
    congr 1
    unfold least
    by_cases c : g = 3
    · subst c; rfl
    · rw [if_neg (by omega), if_neg c]; rfl
  rw [h6]
  exact_mod_cast h5
end Mine
end

section
open PySem PySem.W PyProof.Rows
set_option Elab.async false
namespace Mine
theorem tot_lt {rs : List Quad} (h : ∀ r ∈ rs, okR r) (hl : rs.length ≤ 6) : (totOf rs).natAbs < 16 ^ 60 := Nat.lt_trans (tot_lt' h hl) (by decide)
theorem letters_eq {rs : List Quad} (h : ∀ r ∈ rs, okR r) (hl : rs.length ≤ 6) : apL (totOf rs).natAbs = told rs := letters_eq' h hl
theorem told_ne {rs : List Quad} (h : ∀ r ∈ rs, okR r) (hl : rs ≠ []) : ∃ c cs, told rs = c :: cs := told_ne' h hl
theorem told_ascii {rs : List Quad} (hl : rs.length ≤ 6) : ∀ d ∈ told rs, d.toNat < 128 := told_ascii' hl
theorem told_rj {rs : List Quad} (hl : rs.length ≤ 6) : Txt.rjustF ⟨((told rs).map fun d => d.toNat).toArray⟩ 24 65 = ⟨(codes rs).toArray⟩ := told_rj' hl
theorem occ_iff (rs : List Quad) : (!(Builtin.Str.occurrences (txt rs) (Str.ofString "A") 0 (txt rs).length 1).isEmpty) = decide (65 ∈ codes rs) := occ_iff' rs
theorem runs_lt {rs : List Quad} (h : ∀ r ∈ rs, okR r) (hl : rs.length ≤ 6) (h0 : 65 ∈ codes rs) : ∀ p ∈ Txt.split (txt rs ++ txt rs) (Str.ofString "A"), (p.length : Int) < 2 ^ rs.length := runs_lt' h h0
theorem split_few (rs : List Quad) : (Txt.split (txt rs ++ txt rs) (Str.ofString "A")).length ≤ 1000 := split_few' rs
theorem split_some (rs : List Quad) : 0 < (Txt.split (txt rs ++ txt rs) (Str.ofString "A")).length := split_some' rs
theorem last_of {rs : List Quad} (h0 : 65 ∈ codes rs) : ∃ i : Nat, Builtin.Str.lastOccurrence (txt rs) (Str.ofString "A") 0 (txt rs).length = some i ∧ i ≤ 23 := last_of' h0
theorem zhang {rs : List Quad} (h : ∀ r ∈ rs, okR r) (hl : rs.length ≤ 6) (h0 : ¬ 65 ∈ codes rs) : ∃ n ∈ (sumsOf (rs.map fun (r : Quad) => r.2.2.1)).drop 1, n % 24 = 0 := zhang' h hl h0
theorem mirsky {rs : List Quad} (h : ∀ r ∈ rs, okR r) (hl : rs.length ≤ 6) : txt rs = Txt.mul (Str.ofString "B") 24 → ∀ G ∈ rs.map (fun (r : Quad) => r.2.1), (∀ x ∈ rs.map (fun (r : Quad) => r.2.1), x ≤ G) → (((rs.filter fun (r : Quad) => r.2.1 == G).map fun (r : Quad) => r.2.2.2).sum).natAbs < 16 ^ 60 ∧ (if G = 3 then 3 else 2) * (24 / G) ≤ (((apL (((rs.filter fun (r : Quad) => r.2.1 == G).map fun (r : Quad) => r.2.2.2).sum).natAbs).filter fun c => decide (65 < c.toNat)).length : Int) := mirsky' h hl
end Mine
end

section
open PySem PySem.W PyProof.Rows PySem.Calls PySem.Spec
set_option Elab.async false
namespace Mine
noncomputable def MarkT1 : Prop := True
local macro_rules | `(tactic| ke_room) => `(tactic| ktr_units)
local macro_rules | `(tactic| walk_at "eval Name") => `(tactic| (k_here; (have hmk : MarkT1 := by assumption); clear hmk; k_dflt (refine' LCgL.ld_own ?N ?m ?C ?x ?_; (case N => k_asm); (case m => k_mem); (case C => assumption); (case x => exact rfl); k_whole)))
set_option maxRecDepth 100000 in
set_option maxHeartbeats 8000000 in
theorem law0 : PySem.Challenge.rw_xj0005_01.Holds := Mine.hd (by
  k_with_none
  (k_with "storeName" => (k_here; (try dsimp only); k_dflt (first   | ((with_reducible show wpAny _ _ (storeName _ _ (Value.int _ _)) _ _ _); (refine' Mine.storeI ?topF ?topN ?topA ?_; (case topA => exact rfl); (case topF => k_asm); (case topN => k_asm); k_whole); intro _ _ _ _ _)   | ((refine' Mine.storeG ?topF ?topN ?topA ?_; (case topA => exact rfl); (case topF => k_asm); (case topN => k_asm); k_whole); intro _ _ _ _)); (try k_sweep)))
  (k_with "eval Name" => (k_here; k_dflt (refine' Mine.nameL ?topF ?topA ?topV ?_; (case topF => k_asm); (case topA => exact rfl); (case topV => exact Mine.nameAt_rfl _ _); k_whole)))
  (k_with "eval Constant int" => (k_here; (try dsimp only); refine Mine.constI ?_))
  (k_with "call builtin:len" => (k_here; refine hold ?_))
  (k_with "exec If" => (k_here; (with_reducible show wpAny _ _ (exec (Stmt.If (Expr.Compare (Expr.BinOp _ Operator.Mod _ _) _ _ _) _ _ _) _) _ _ _); refine hold ?_))
  (k_with "binaryOp Mult ref int" => (k_here; refine hold ?_))
  (k_with "binaryOp Add ref ref" => (k_here; refine hold ?_))
  (k_with "compareOp NotEq ref ref" => (k_here; refine hold ?_))
  (k_with "compareOp NotEq bytes bytes" => (k_here; refine hold ?_))
  (k_with "binaryOp Add bytes bytes" => (k_here; refine add_letter (by omega) ?_; intro _ _))
  (k_with "call ref" => (k_here; refine hold ?_))
  (k_with "exec For Name Call cons nil" => (k_here; refine hold ?_))
  (k_with "call type:range" => (k_here; refine hold ?_))
  (k_with "subscriptTail" => (k_here; (fail_if_success (rename HoldOff => hoffX)); (with_reducible show wpAny _ _ (subscriptTail (Expr.List _ _) _ _ _) _ _ _); refine hold ?_))
  (k_with "call builtin:str.rjust" => (k_here; refine hold ?_))
  (k_with "compareOp In str str" => (k_here; refine hold ?_))
  (k_with "exec If" => (k_here; (have hmk : MarkT1 := by assumption); clear hmk; refine hold ?_))
  (k_with "eval ListComp" => (k_here; (have hmk : MarkT1 := by assumption); clear hmk; refine hold ?_))
  (k_with "call builtin:str.split" => (k_here; refine hold ?_))
  (k_with "compareOp GtE int int" => (k_here; refine hold ?_))
  (k_with "compareOp NotIn str str" => (k_here; refine hold ?_))
  k_fill
  intro w s₀ s₁ mg mb G Y fa o pm cd doc dV kV ho hd hcd hD hmg hg args vals as hpre hlay hrd hwl hlo
  have KX := kIn_of Y
  have X := (Ground.X G).1
  have V := (Ground.X G).2
  have GL := glob_more (Ground.glob G (by first | k_qdec | decide +kernel) (by first | k_qdec | decide +kernel)) V
  refine Ground.open G ?_
  intro T B D TE TW
  try (refine guard_noD D (by decide +kernel) ?_; clear D)
  obtain ⟨_, _, M⟩ := bmod_of_top T
  have TA := at_of_top T
  obtain ⟨_, _, he, B0⟩ := based_of_top T rfl hmg ho hd
  have he' : cd = _ := he
  subst he'
  clear he
  clear hmg
  wrow_args hpre hlay hrd hwl hlo
  refine enter_call ?_
  w_top on
  have K0 := below_caller (Top.heap T)
  w_call any ho hd hcd hD T F
  clear hd TA
  k_drop
  (show wpAny _ _ _ _ _ _); k_fold
  k_with "exec Assign" => (k_here; k_fold)
  k_with "exec If" => (k_here; k_fold)
  k_steps
  refine unhold ?_
  rename Fr _ _ _ _ => F0
  rename News _ _ _ _ => N0
  rename IntsAre _ _ => hI
  rename Below _ _ _ _ => B0
  k_dflt (refine' cells_call _ _ _ _ _ _ _ _ _ _ _ _ _ _ _ _ _ _ _ _ _ _ ?k1 ?k2 ?k3 ?k4 ?k5 ?k6 ?kd ?ku _ _ _ ?kL ?kI ?kf ?_; (case k1 => exact B0); (case k2 => k_asm); (case k3 => k_asm); (case k4 => k_asm); (case k5 => k_asm); (case k6 => exact rfl); (case kL => k_asm); (case kI => exact hI); (case kd => ktr_room); (case ku => ktr_units); (case kf => omega))
  intro D us ks c h' tk' hks hk6 F1 N1 hlt1
  clear F0 N0
  k_steps
  refine unhold ?_
  refine wpAny_For ?_ (by intro _; rfl)
  k_steps
  refine unhold ?_
  rename Fr _ _ _ _ => FA
  rename News _ _ _ _ => NA
  refine range1_rows FA NA ?_
  intro hh tkA t1 u1 v1 hR hF hN keepR
  refine wpAny_pyIter_range hR (by decide) ?_
  rename_i l hA2 hDl tkA0 hA1
  rename Shared => s1
  rename Shared.gens _ = _ => hg
  have hLh : s1.heap.objs.size < hh.objs.size := by obtain ⟨o, _, _, e, _⟩ := hF.ns; exact Heap.lt_size e
  have hIl : @LT.lt Nat _ l hh.objs.size := Heap.lt_size (hN _ (.head _)).1
  have hDl' : @LT.lt Nat _ D l := hDl
  have F3 := hF.push (riObj 0 6)
  have N3 := News.push hF hN (riObj 0 6)
  try dsimp only
  generalize hh.objs.size = I at *
  refine for_own (fun _ _ => LawInv s1.heap s1.heap.objs.size I D l us c s1) 6 ?_ (LawInv.all ?_)
  · exact LawInv.mk (i := 0) (rs := []) (items := #[]) (total := 0) (gap := 0) (TT := []) (by decide) (by rw [hg]; exact fun y hy => absurd hy (by simp)) ⟨by simp, by simp, by decide, by decide⟩ rfl ⟨rfl, by simp⟩ (by simp) (fr_ext F3 (fun y => by
      by_cases e1 : y = Str.ofString "gap"
      · subst e1; rfl
      by_cases e2 : y = Str.ofString "total"
      · subst e2; rfl
      by_cases e3 : y = Str.ofString "laid"
      · subst e3; rfl
      by_cases e4 : y = Str.ofString "cells"
      · subst e4; rfl
      simp only [mW, e1, e2, e3, e4, if_false]
      rfl)) N3
  clear F3 N3 hF hN hR FA NA keepR
  intro i rs items c' total gap tt tg TT m0 h tk4 G hi hb hgood hrl hlaid hTT F4 N4
  (show wpAny _ _ _ _ _ _); k_fold
  have hne : ∀ q ∈ ((l, PySem.W.listOf items c') :: (D, PySem.W.listOf us.toArray c) :: TT), q.1 ≠ I := fun q hq => by
    rcases List.mem_cons.mp hq with rfl | hq
    · exact Nat.ne_of_lt hIl
    rcases List.mem_cons.mp hq with rfl | hq
    · exact Nat.ne_of_lt (Nat.lt_trans hDl' hIl)
    · exact Nat.ne_of_gt (hTT q hq)
  by_cases hi6 : i < 6
  · refine range_item F4 N4 hLh hne (o_left hi6) (fun h5 F5 N5 => ?_)
    clear F4 N4
    (try k_unfold)
    try dsimp only
    (show wpAny _ _ _ _ _ _); k_fold
    k_steps
    refine unhold ?_
    rename News s1.heap _ _ _ => Nx
    refine gen_sub Nx G s1.drawn s1.os ?_
    intro ux tkx
    have hoff : HoldOff := trivial
    k_steps
    · exfalso
      rename (List.getD _ _ _ : Int) = 0 => e0
      have := (menu_dv (ks.getD (i : Int).toNat 0)).rng
      rw [e0] at this
      omega
    refine unhold ?_
    rename Fr s1.heap _ _ _ => F6
    rename News s1.heap _ _ _ => N6
    rename _ ≠ (0 : Int) => hx0
    have hdv := menu_dv (ks.getD (i : Int).toNat 0)
    generalize ks.getD (i : Int).toNat 0 = ce at *
    generalize [(2 : Int), 3, 4, 6, 8, 12, 24].getD (ce.fmod 7).toNat 0 = x at *
    obtain ⟨hx2, hx24⟩ := hdv.rng
    have hwy0 : 0 ≤ (ce.fdiv 7).fmod 3 := Int.fmod_nonneg_of_pos _ (by decide)
    have hwy1 : (ce.fdiv 7).fmod 3 < 3 := Int.fmod_lt_of_pos _ (by decide)
    have hof0 : 0 ≤ (ce.fdiv 7).fmod 15 := Int.fmod_nonneg_of_pos _ (by decide)
    have hof1 : (ce.fdiv 7).fmod 15 < 15 := Int.fmod_lt_of_pos _ (by decide)
    have hxp : 0 < x := Int.lt_of_lt_of_le (by decide) hx2
    refine if_mark x F6 N6 ?_ ?_
    · refine wpAny_If ?_
      k_steps
      · refine' J1.joined ?F ?N ?ga ?gb ?gc
        case F => assumption
        case N => assumption
        case gc => exact rfl
        case ga => exact Int.fmod_nonneg_of_pos _ hxp
        case gb => exact Int.fmod_lt_of_pos _ hxp
      · exact ⟨_, _, _, _, Int.fmod_nonneg_of_pos _ hxp, Int.fmod_lt_of_pos _ hxp, rfl, F6, N6⟩
    · intro mk tm h6 tk6 hmk0 hmk1 F6' N6'
      clear F6 N6
      try dsimp only
      k_steps
      refine unhold ?_
      k_dflt (refine' divided_call _ _ _ _ _ _ _ _ _ _ _ _ _ _ _ _ _ _ _ _ _ _ ?k1 ?k2 ?k3 ?k4 ?k5 ?k6 ?kd ?ku _ _ _ _ _ _ (by assumption) (by assumption) hdv hwy0 hwy1 ?_; (case k1 => exact B0); (case k2 => k_asm); (case k3 => k_asm); (case k4 => k_asm); (case k5 => k_asm); (case k6 => exact rfl); (case kd => ktr_room); (case ku => ktr_units))
      intro D7 t7 c7 h7 tk7 F7 N7 hlt7
      clear F6' N6'
      dsimp only [tupObj] at N7
      simp only [AllLt] at hlt7
      rw [nm_int _ _ hdv] at N7
      have hnl := nm_lt x.toNat hdv.menu.1 mk.toNat (o_tnlt hxp hmk1)
      have hP16 : ((16 : Int) ^ x.toNat).natAbs < 2 ^ 300 := p16_fits hx24
      have hT1 : ((1 + (ce.fdiv 7).fmod 15) * ((nm mk.toNat x.toNat : Nat) : Int)).natAbs < 16 ^ 60 := by
        rw [told_even _ _ hof0]; exact Nat.lt_trans (told_lt (o_tnlt (by decide) hof1) hnl) (by decide)
      have hT2 : (-((1 + (ce.fdiv 7).fmod 15) * ((nm mk.toNat x.toNat : Nat) : Int)) * 16 ^ x.toNat).natAbs < 16 ^ 60 := by
        rw [told_odd _ _ _ hof0]; exact Nat.lt_trans (told_lt2 (o_tnlt (by decide) hof1) hnl (o_tnle hx24)) (by decide)
      have hT3 : (-((1 + (ce.fdiv 7).fmod 15) * ((nm mk.toNat x.toNat : Nat) : Int))).natAbs < 2 ^ 300 := by
        rw [Int.natAbs_neg]; exact Nat.lt_trans hT1 (by decide)
      have hA1 := cut_even hdv (by assumption) (by assumption) hof0 hof1 (mk := mk)
      have hA2 := cut_odd hdv (by assumption) (by assumption) hof0 hof1 (mk := mk)
      generalize hnu : nm mk.toNat x.toNat = nu at *
      obtain ⟨hq0, hq1, hqe, hqn⟩ := dv_fdiv hdv
      have hMul := mul_ok hT3 hP16
      k_steps
      refine unhold ?_
      rename Fr _ _ _ _ => F8
      rename News _ _ _ _ => N8
      refine if_odd (((ce.fdiv 7).fmod 15).toNat + 1) x F8 N8 ?_ ?_
      · refine wpAny_If ?_
        k_steps
        · refine' J2.odd ?F ?N ?gl ?gi ?ga ?gb ?gt ?gh ?gc
          case F => assumption
          case N => assumption
          case gc => exact rfl
          case gi => exact .cons _ _ (.cons _ _ (.cons _ _ (.cons _ _ .nil)))
          case gl => (first | assumption | exact And.right (by assumption))
          case ga => omega
          case gb => omega
          case gt => exact hT2
          case gh => exact hA2
        · refine' J2.even ?F ?N ?gl ?gi ?ga ?gb ?gt ?gh ?gc
          case F => assumption
          case N => assumption
          case gc => exact rfl
          case gi => exact .cons _ _ (.cons _ _ (.cons _ _ .nil))
          case gl => (first | assumption | exact And.right (by assumption))
          case ga => omega
          case gb => omega
          case gt => exact hT1
          case gh => exact hA1
      · intro lead told R vals cR rR t81 t82 h8 tk8 hld0 hld1 hT hA hi8 F9 N9 hlt9
        clear F8 N8
        try dsimp only
        k_steps
        refine unhold ?_
        rename Fr _ _ _ _ => F8
        rename News _ _ _ _ => N8
        k_dflt (refine' int2ap_call _ _ _ _ _ _ _ _ _ _ _ _ _ _ _ _ _ _ _ _ _ _ ?k1 ?k2 ?k3 ?k4 ?k5 ?k6 ?kd ?ku _ _ hT ?_; (case k1 => k_asm); (case k2 => k_asm); (case k3 => k_asm); (case k4 => k_asm); (case k5 => k_asm); (case k6 => exact rfl); (case kd => ktr_room); (case ku => ktr_units))
        intro t9 h9 tk9 F9' N9'
        clear F8 N8
        simp only [AllLt] at hlt9
        k_steps
        refine unhold ?_
        rename Fr _ _ _ _ => F8
        rename News _ _ _ _ => N8
        have hwl := Nat.le_trans (apL_len 60 _ hT) (by decide : 60 ≤ 16777216)
        k_dflt (refine' cut_call _ _ _ _ _ _ _ _ _ _ _ _ _ _ _ _ _ _ _ _ _ _ ?k1 ?k2 ?k3 ?k4 ?k5 ?k6 ?kd ?ku _ _ _ _ hi8 (.head _) _ 100 (cut_spec_at hld0 hld1 hdv) ?kG _ _ _ pcs_ne pcs_lt (by decide) hA hwl (pcs_val (o_tnp hxp)) ?_; (case k1 => k_asm); (case k2 => k_asm); (case k3 => k_asm); (case k4 => k_asm); (case k5 => k_asm); (case k6 => exact rfl); (case kd => ktr_room); (case ku => ktr_units); (case kG => exact hb))
        intro D10 us10 c10 h10 tk10 G10 hBA hb10 F10 N10 hlt10
        clear F8 N8
        simp only [AllLt] at hlt10
        k_steps
        refine unhold ?_
        rename Fr _ _ _ _ => F8
        rename News _ _ _ _ => N8
        refine mul_one F8 N8 (.head _) (Int.sub_nonneg_of_le hq0) (Int.le_trans (Int.sub_le_self _ (by decide)) (Int.le_trans hq1 (by decide))) ?_
        intro D12 h12 F12 N12 hlt12
        clear F8 N8
        simp only [AllLt] at hlt12
        k_steps
        refine unhold ?_
        rename Fr _ _ _ _ => F8
        rename News _ _ _ _ => N8
        refine add_one F8 N8 (.tail _ (.tail _ (.head _))) (.head _) (o_tnsle (Int.le_trans hq1 (by decide))) ?_
        intro D13 h13 F13 N13 hlt13
        clear F8 N8
        simp only [AllLt] at hlt13
        k_steps
        refine unhold ?_
        rename Fr _ _ _ _ => F8
        rename News _ _ _ _ => N8
        have hk3 : (Int.fdiv 24 x - 1).toNat = 24 / x.toNat - 1 := by rw [hqn, ← hqe]; exact o_tnsub hq0
        refine ne_bytes_lists (by is_list) ⟨_, (N8 _ (.head _)).1, rfl, _, rfl⟩ hBA (bytes_due (congrArg UInt8.ofNat (o_lett hof0)) rfl (o_tnsub (Int.le_trans (by decide) hx2)) hk3) (by first | decide | ktr_units) ?_
        k_steps
        refine unhold ?_
        k_dflt (refine' stepped_call _ _ _ _ _ _ _ _ _ _ _ _ _ _ _ _ _ _ _ _ _ _ ?k1 ?k2 ?k3 ?k4 ?k5 ?k6 ?kd ?ku _ _ hx2 hx24 ?_; (case k1 => k_asm); (case k2 => k_asm); (case k3 => k_asm); (case k4 => k_asm); (case k5 => k_asm); (case k6 => exact rfl); (case kd => ktr_room); (case ku => ktr_units))
        intro h14 tk14 F14 N14
        clear F8 N8
        k_steps
        refine unhold ?_
        k_dflt (refine' ended_call _ _ _ _ _ _ _ _ _ _ _ _ _ _ _ _ _ _ ?k2 ?k3 ?k4 ?k5 ?k6 ?kd ?ku _ _ _ _ hmk0 hmk1 hx2 hx24 ?kG ?_; (case k2 => k_asm); (case k3 => k_asm); (case k4 => k_asm); (case k5 => k_asm); (case k6 => exact rfl); (case kd => ktr_room); (case ku => ktr_units); (case kG => exact hb10))
        intro h15 tk15 G15 hb15 F15 N15
        clear F14 N14
        k_steps
        rename Fr _ _ _ _ => F8
        rename News _ _ _ _ => N8
        refine unhold ?_
        have hpl : us10.length = 24 / x.toNat - 1 + 1 := by rw [hBA.get.1, pcs_len]
        have hpl2 : (us10.length : Int) = 24 / x := o_pieces hq0 hqe (by rw [hpl, hqn])
        obtain ⟨mR, tq1, tq2, tq3, tq4, F9⟩ := fr_cut F8 rfl rfl rfl rfl rfl rfl rfl
        have N9 : News _ _ _ ((D10, PySem.W.listOf us10.toArray c10) :: (I, riObj (i + 1 : Int) (6 - (i : Int) - 1)) :: (l, PySem.W.listOf items c') :: (D, PySem.W.listOf us.toArray c) :: TT) := fun p hp => N8 p (by
          rcases List.mem_cons.mp hp with rfl | hp
          · repeat (first | exact .head _ | refine .tail _ ?_)
          rcases List.mem_cons.mp hp with rfl | hp
          · repeat (first | exact .head _ | refine .tail _ ?_)
          rcases List.mem_cons.mp hp with rfl | hp
          · repeat (first | exact .head _ | refine .tail _ ?_)
          rcases List.mem_cons.mp hp with rfl | hp
          · repeat (first | exact .head _ | refine .tail _ ?_)
          repeat (first | exact hp | refine List.mem_cons_of_mem _ ?_))
        have hl9 : @LT.lt Nat _ I D10 ∧ @LT.lt Nat _ l D10 ∧ @LT.lt Nat _ D D10 ∧ AllLt D10 TT := hlt10.2.2.2
        refine gen_tok ?_
        intro tk16
        clear F8 N8 hlt7 hlt9 hlt10 hlt12 hlt13 hA hT hT1 hT2 hT3 hA1 hA2 hMul hP16 hwl hBA hb10 hk3 hi8 hwy0 hwy1 hof0 hof1 hld0 hld1 hpl hb
        have hT1 : MarkT1 := trivial
        rename Fr _ _ _ _ => F9
        refine len_list (items := us10.toArray) (by is_list) (by simp; omega) ?_
        try dsimp only
        have hes : ((us10.toArray.size : Nat) : Int) = 24 / x := by simpa using hpl2
        rw [hes]
        have hisz : items.size ≤ sizeLine := Nat.le_trans (m := 1000) (by rw [hlaid.1]; omega) (by decide)
        k_steps
        rename_i TU hA8 FA NA hlTU
        refine append_led FA NA (Nat.ne_of_gt hlTU.2.2.1) (Nat.ne_of_gt hIl) (Nat.ne_of_lt hDl') (fun p hp => Nat.ne_of_gt (Nat.lt_trans hIl (hTT p hp))) hisz ?_
        intro hB FB NB
        obtain ⟨rs', items', c'', TT', hrl', hok', htot', hlaid', hTT', NC⟩ := law_key hgood hrl hlaid hTT hlTU.2.1 hdv hmk0 hmk1 hnu NB
        clear NB FA NA hlTU hisz hes hl9 hTT hlaid hrl hgood hne hpl2
        have hTlt := tot_lt hok' (by omega)
        have hlet := letters_eq hok' (by omega)
        have hrne : rs' ≠ [] := by intro e; rw [e] at hrl'; simp at hrl'
        rw [← htot'] at hTlt hlet
        generalize total + (nu : Int) = tot at *
        k_steps
        refine unhold ?_
        k_dflt (refine' int2ap_call _ _ _ _ _ _ _ _ _ _ _ _ _ _ _ _ _ _ _ _ _ _ ?k1 ?k2 ?k3 ?k4 ?k5 ?k6 ?kd ?ku _ _ hTlt ?_; (case k1 => k_asm); (case k2 => k_asm); (case k3 => k_asm); (case k4 => k_asm); (case k5 => k_asm); (case k6 => exact rfl); (case kd => ktr_room); (case ku => ktr_units))
        intro t17 h17 tk17 F17 N17
        clear FB NC
        obtain ⟨tc, tcs, htc⟩ := told_ne hok' hrne
        have htA := told_ascii (rs := rs') (by omega)
        have htL := told_len rs'
        have htR := told_rj (rs := rs') (by omega)
        rw [hlet]
        rw [htc] at htA htL htR ⊢
        k_steps
        refine decode_ascii htA (Nat.le_trans htL (by decide)) (fun t18 k18 => ?_)
        k_steps
        refine unhold ?_
        refine rjust_fill (by decide) (by decide) (fun t19 k19 => ?_)
        rw [show (Str.ofString "A").cps.getD 0 0 = 65 from rfl, htR]
        k_steps
        refine unhold ?_
        rename Fr _ _ _ _ => F20
        rename News _ _ _ _ => N20
        refine if_none F20 N20 ?_ ?_
        · refine wpAny_If ?_
          k_steps
          refine unhold ?_
          refine in_str ?_
          rw [occ_iff]
          by_cases h65 : 65 ∈ codes rs'
          · rw [decide_eq_true h65]
            k_steps
            refine unhold ?_
            refine comp_at F20 rfl (by decide) rfl (by decide) ?_ (by intro _; rfl)
            k_steps
            refine unhold ?_
            refine KSpl.split1 F20 N20 (by decide) (fun D21 l21 h21 k21 e21 i21 F21 N21 hlt21 => ?_) (Nat.le_trans (m := 1000) (by rw [PySem.Str.length_append]; simp [PySem.Str.length, codes]) (by decide))
            rw [e21] at i21
            try dsimp only
            refine strs_src (fun q => (q.length : Int)) rfl F21 N21 (.head _) i21 (split_few rs') rfl rfl ?_ ?_
            · intro q hq t22 I2 oI2 C2 oC2 D2 oD2 mC2 s2 F22 N22 hn22
              clear F21 N21 F20 N20
              k_steps
              refine unhold ?_
              have hq6 := runs_lt hok' (by omega) h65 q hq
              have hq7 := two_le (k := rs'.length) (by omega)
              refine len_str (x := q) (by omega) ?_
              k_steps
              exact ⟨_, _, rfl, F22, N22, _, rfl⟩
            · intro D22 ys22 c22 h22 tk22 i22 F22 N22 hlt22
              clear F21 N21 F20 N20
              have hrun := runs_lt hok' (by omega) h65
              have hrun0 := split_some rs'
              k_steps
              refine unhold ?_
              rename Fr _ _ _ _ => F23
              rename News _ _ _ _ => N23
              refine len_list (items := items') (by is_list) (by rw [hlaid'.1]; omega) ?_
              try dsimp only
              rw [hlaid'.1, hrl']
              k_steps
              refine unhold ?_
              refine PyProof.Rows.ge_int ?_
              rename _ ∈ List.map _ _ => hM23
              rw [decide_eq_false (by
                obtain ⟨q, hq, e⟩ := List.mem_map.mp hM23
                have := hrun q hq
                rw [hrl', e] at this
                simpa using this)]
              rename Fr _ _ _ _ => F23
              rename News _ _ _ _ => N23
              k_steps
              · exact F23
              · exact fun p hp => N23 p (.tail _ (.tail _ hp))
          · rw [decide_eq_false h65]
            k_steps
            all_goals assumption
        · intro h23 tk23 F23 N23
          clear F20 N20
          clear hT1
          k_steps
          refine unhold ?_
          k_dflt (refine' letters_call _ _ _ _ _ _ _ _ _ _ _ _ _ _ _ _ _ _ _ _ _ _ ?k1 ?k2 ?k3 ?k4 ?k5 ?k6 ?kd ?ku l items' c'' ?kl rs' ?km (by omega) (fun r hr => (hok' r hr).1.rng.1) ?_; (case k1 => k_asm); (case k2 => k_asm); (case k3 => k_asm); (case k4 => k_asm); (case k5 => k_asm); (case kl => exact .tail _ (.head _)); (case km => exact hlaid'.mono fun p hp => .tail _ (.tail _ (.tail _ hp))); (case k6 => exact rfl); (case kd => ktr_room); (case ku => ktr_units))
          intro t24 h24 tk24 F24 N24
          clear F23 N23
          rw [htc]
          k_steps
          refine unhold ?_
          refine ne_bytes ?_
          rw [bne_self_eq_false]
          k_steps
          refine unhold ?_
          refine notIn_str ?_
          rw [occ_iff]
          by_cases h65 : 65 ∈ codes rs'
          · rw [decide_eq_true h65]
            k_steps
            obtain ⟨p65, hp65, hp23⟩ := last_of h65
            refine rindex_some hp65 ?_
            k_steps
            · exact o_dec hi6
            · rename Fr _ _ _ _ => F26
              rename News _ _ _ _ => N26
              obtain ⟨mR2, tz1, tz2, F27⟩ := fr_mW F26 rfl rfl rfl rfl
              refine LawInv.mk (i := i + 1) (c := c'') hi6 hb15 ⟨hok', htot', by omega, by omega⟩ hrl' hlaid' hTT' F27 ?_
              have e1 : ((i + 1 : Nat) : Int) = (i : Int) + 1 := by omega
              have e2 : (6 : Int) - ((i : Int) + 1) = 6 - (i : Int) - 1 := by omega
              rw [e1, e2]
              exact N26
          · rw [decide_eq_false h65]
            k_steps
            refine unhold ?_
            k_dflt (refine' shares_call _ _ _ _ _ _ _ _ _ _ _ _ _ _ _ _ _ _ _ _ _ _ ?k1 ?k2 ?k3 ?k4 ?k5 ?k6 ?kd ?ku l items' c'' ?kl rs' ?km (by omega) (ok_st hok') (ok_ct hok') _ _ (zhang hok' (by omega) h65) hrne (mirsky hok' (by omega)) ?_; (case k1 => k_asm); (case k2 => k_asm); (case k3 => k_asm); (case k4 => k_asm); (case k5 => k_asm); (case kl => exact .tail _ (.head _)); (case km => exact hlaid'.mono fun p hp => .tail _ (.tail _ (.tail _ hp))); (case k6 => exact rfl); (case kd => ktr_room); (case ku => ktr_units))
            intro h25 tk25 F25 N25
            k_steps
            exact good_end F25.keep (fun _ => rfl) (by wrow_post) hb15
  · have hi6' : i = 6 := o_end hi hi6
    subst hi6'
    refine range_end rfl F4 N4 hLh hne (by decide) (fun h5 F5 N5 => ?_)
    clear F4 N4
    try dsimp only
    k_steps
    exact good_end F5.keep (fun _ => rfl) (by wrow_post) hb)
end Mine

theorem Mine.reset_L1 : True := by
  k_with_none
  trivial
end

end
end
set_option maxRecDepth 100000 in
theorem PySem.Challenge.cw_xj0005_01_holds : PySem.Challenge.rw_xj0005_01.Holds :=
  Mine.law0
