import PyProof.Rows.All
import Wide.All
import OpenK.AllK
import Wide.FinOn
import PySem.Challenge.RW_pe0076_01
open PySem PySem.W PyProof.Rows
set_option Elab.async false
set_option linter.unusedVariables false
set_option maxRecDepth 100000
-- part T0
set_option maxHeartbeats 8000000
namespace Mine
open_top hd for PySem.Challenge.rw_pe0076_01
end Mine
-- part PG
set_option maxHeartbeats 1000000
namespace Mine
theorem fresh_PG : True := by
  w_top off
  trivial
section
variable {prog : Program} {w : World} {A : Around} {R : GenEnd} {Y : Protocol} {n : Nat} {s₀ : Shared} {c : Code} {fs : List Frame} {s : Shared} {env : Env}
  {K : Flow → Sem Fin} {H : Value → Sem Fin} {gd : Bool → Bool} {lv : List Value → List Value}
theorem seg_If {test : Expr} {body orelse : List Stmt} {pos : Pos}
    (h : wpAny (model prog w) (A.over c fs) (isTrue test env (eval test env)) (fun b s' => Seg (model prog w) A R Y n s₀ c ((execs (if b = true then body else orelse) env).wrap K H gd lv) fs s')
      (fun x s' => Seg (model prog w) A R Y n s₀ c (H x) fs s') s) :
    Seg (model prog w) A R Y n s₀ c ((exec (.If test body orelse pos) env).wrap K H gd lv) fs s := by
  show Seg (model prog w) A R Y n s₀ c (.at pos fun _ => (isTrue test env (eval test env) >>= fun b => if b = true then execs body env else execs orelse env).wrap K H gd lv) fs s
  refine seg_at ?_
  rw [Sem.bind_eq_wrap', Sem.wrap_wrap]
  refine seg_wrap (wpAny_mono h (fun b s' hb => ?_) fun x s' hx => hx)
  cases b with
  | true => exact hb
  | false => exact hb
theorem seg_holding {α : Type} {vs : List Value} {m : Sem α} {f : α → Sem Flow}
    (h : wpAny (model prog w) (A.over c fs) m (fun a s' => Seg (model prog w) A R Y n s₀ c ((f a).wrap K H gd lv) fs s') (fun x s' => Seg (model prog w) A R Y n s₀ c (H x) fs s') s) :
    Seg (model prog w) A R Y n s₀ c ((holding vs m >>= f).wrap K H gd lv) fs s := by
  rw [Sem.bind_eq_wrap']
  unfold holding
  split
  · rw [Sem.wrap_wrap]; exact seg_wrap h
  · rw [Sem.keep_eq_wrap, Sem.wrap_wrap, Sem.wrap_wrap]; exact seg_wrap h
theorem seg_For {target iter : Expr} {body orelse : List Stmt} {pos : Pos} (hs : ∀ x, foldedSetIterable iter env x = pure x)
    (h : wpAny (model prog w) (A.over c fs) (eval iter env) (fun x s₁ => wpAny (model prog w) (A.over c fs) (pyIter x) (fun it s₂ => ∀ p, Seg (model prog w) A R Y n s₀ (.forLoop target it body orelse env) ((model prog w).den (.forLoop target it body orelse env))
        (.ret (fun r => ((match r with | .ok f => (.pure f : Sem Flow) | .error e => .raise e).onRaise fun (x : Value) => do
          if (← field x 1) == Value.none then unsupported "frame.own-activation:exception-without-traceback"
          setFlight x env.frame).wrap K H gd lv) none (gd false) (lv []) c p [] :: fs) s₂)
        (fun x s' => Seg (model prog w) A R Y n s₀ c (H x) fs s') s₁) (fun x s' => Seg (model prog w) A R Y n s₀ c (H x) fs s') s) :
    Seg (model prog w) A R Y n s₀ c ((exec (.For target iter body orelse pos) env).wrap K H gd lv) fs s := by
  rw [exec_For]
  show Seg (model prog w) A R Y n s₀ c (.at pos fun _ => (eval iter env >>= fun x => foldedSetIterable iter env x >>= fun x => (standAt iter.pos >>= fun _ => holding [x] (pyIter x) >>= fun it => runOwn (.forLoop target it body orelse env) env)).wrap K H gd lv) fs s
  refine seg_at ?_
  rw [Sem.bind_eq_wrap', Sem.wrap_wrap]
  refine seg_wrap (wpAny_mono h (fun x s₁ h₁ => ?_) fun x s' hx => hx)
  rw [hs x]
  show Seg (model prog w) A R Y n s₀ c (.at iter.pos fun _ => (holding [x] (pyIter x) >>= fun it => runOwn (.forLoop target it body orelse env) env).wrap K H gd lv) fs s₁
  refine seg_at (seg_holding (wpAny_mono h₁ (fun it s₂ h₂ => ?_) fun x s' hx => hx))
  exact seg_call h₂
theorem seg_forLoop {target : Expr} {it : Value} {body orelse : List Stmt}
    (h : wpAny (model prog w) (A.over (.forLoop target it body orelse env) fs) (pyNext it) (fun r s' => match r with
        | none => Seg (model prog w) A R Y n s₀ (.forLoop target it body orelse env) (.pure (.again (.block orelse env))) fs s'
        | some v => wpAny (model prog w) (A.over (.forLoop target it body orelse env) fs) (letOwnedTupleGo target it v) (fun _ s₁ => wpAny (model prog w) (A.over (.forLoop target it body orelse env) fs) (assign target env v) (fun _ s₂ =>
            Seg (model prog w) A R Y n s₀ (.forLoop target it body orelse env) ((execs body env).wrap (fun f => match f with
              | .next | .cont => .pure (.again (.forLoop target it body orelse env))
              | .brk => .pure (.done .next)
              | .ret v => .pure (.done (.ret v))) (fun e => (do noteFrame e env; theTreesLotGoes e : Sem Unit).wrap (fun _ => .raise e) .raise id id) id id) fs s₂) (fun _ _ => False) s₁) (fun _ _ => False) s') (fun _ _ => False) s) :
    Seg (model prog w) A R Y n s₀ (.forLoop target it body orelse env) ((model prog w).den (.forLoop target it body orelse env)) fs s := by
  show Seg _ A R Y n s₀ _ ((forTurn target it body orelse env).onRaise (fun x => do noteFrame x env; theTreesLotGoes x)) fs s
  unfold forTurn
  rw [Sem.onRaise_eq_wrap]
  show Seg _ A R Y n s₀ _ (.at target.pos fun _ => (((pyNext it).onRaise (fun _ => standAt { target.pos with line := 0 })) >>= _).wrap _ _ _ _) fs s
  refine seg_at ?_
  rw [Sem.bind_eq_wrap', Sem.wrap_wrap]
  refine seg_wrap (wpAny_onRaise (wpAny_mono h (fun r s' hr => ?_) fun _ _ hx => hx.elim))
  cases r with
  | none => exact hr
  | some v =>
    show Seg _ A R Y n s₀ _ ((letOwnedTupleGo target it v >>= fun _ => assign target env v >>= fun _ => execs body env >>= _).wrap _ _ _ _) fs s'
    rw [Sem.bind_eq_wrap', Sem.wrap_wrap]
    refine seg_wrap (wpAny_mono hr (fun _ s₁ h₁ => ?_) fun _ _ hx => hx.elim)
    rw [Sem.bind_eq_wrap', Sem.wrap_wrap]
    refine seg_wrap (wpAny_mono h₁ (fun _ s₂ h₂ => ?_) fun _ _ hx => hx.elim)
    rw [Sem.bind_eq_wrap', Sem.wrap_wrap]
    rw [Sem.wrap_congr (execs body env) _ _ (K' := fun f => match f with
              | .next | .cont => .pure (.again (.forLoop target it body orelse env))
              | .brk => .pure (.done .next)
              | .ret v => .pure (.done (.ret v))) (H' := (fun e => (do noteFrame e env; theTreesLotGoes e : Sem Unit).wrap (fun _ => .raise e) .raise id id))
        (fun f => by cases f <;> rfl)
        (fun e => by first | exact Sem.bind_eq_wrap _ _ | (show (do noteFrame e env; theTreesLotGoes e : Sem Unit).bind (fun _ => .raise e) = _; rw [Sem.bind_eq_wrap]))]
    exact h₂
end
end Mine
-- part PG2
namespace Mine
theorem fresh_PG2 : True := by
  w_top off
  trivial
structure GPriv (x : Str) (t : Tok) (xe : Str) (Lg it En : Addr) (i : Nat) (h : Heap) : Prop where
  ns : ∃ m, h.Ns Lg m ∧ m xe = some (.bool false)
  en : ∃ old, IsEnum h En it i old
  si : h.IsStrIter it "str_ascii_iterator" x t i
structure Pres (Lg it : Addr) (s₀ s : Shared) : Prop where
  keep : ∀ b o, b < it → b ≠ Lg → s₀.heap.get? b = some o → s.heap.get? b = some o
  gens : s.gens = s₀.gens
  drawn : s.drawn = s₀.drawn
  os : s.os = s₀.os
theorem Pres.refl (Lg it : Addr) (s : Shared) : Pres Lg it s s := ⟨fun _ _ _ _ e => e, rfl, rfl, rfl⟩
def GY (x : Str) (t : Tok) (xe : Str) (Lg it En : Addr) : Protocol := fun n s₀ v s' kap =>
  ∃ (i c : Nat) (T : Addr) (t1 t2 : Tok), n + (i + 1) = x.cps.size ∧ x.cps[i]? = some c ∧ v = .ref T ∧ s₀.heap.objs.size ≤ T ∧
    s'.heap.get? T = some { cls := .type "tuple", data := .seq #[.int i t1, .str ⟨#[c]⟩ t2] } ∧ Pres Lg it s₀ s' ∧ GPriv x t xe Lg it En (i + 1) s'.heap ∧
    ∀ s'', GPriv x t xe Lg it En (i + 1) s''.heap → kap (.send .none) s''
def GP (Lg it : Addr) : Nat → Shared → Shared → Prop := fun n s₀ s₁ => n = 0 ∧ Pres Lg it s₀ s₁
abbrev GR (Lg it : Addr) : GenEnd := fun n s₀ r s₁ => r = .ok (.ret .none) ∧ GP Lg it n s₀ s₁
theorem gen_turn {prog : Program} {w : World} {A : Around} {fs : List Frame} {env : Env} {x : Str} {t : Tok} {xp xc xe bs : Str} {it En : Addr}
    {p1 p2 pt pe pc pk pm pi pj q1 q2 qt qy qx : Pos} {k1 k2 k3 : Nat} {B1 B2 : List Stmt} {c : Code}
    (hc : c = .forLoop (.Tuple [.Name xp p1, .Name xc p2] k1 pt) (.ref En) [.If (.Name xe pe) B1 [.If (.Compare (.Name xc pc) [.Eq] [.Constant (.str bs) k2 pk] pm) B2 [.Expr (.Yield (some (.Tuple [.Name xp q1, .Name xc q2] k3 qt)) qy) qx] pj] pi] [] env)
    (hkf : env.scope.kind = .function) (hxp : env.kindOf xp = some .local) (hxc : env.kindOf xc = some .local) (hxe : env.kindOf xe = some .local)
    (hde : (xe == ("__debug__" : Str)) = false) (hdc : (xc == ("__debug__" : Str)) = false) (hdp : (xp == ("__debug__" : Str)) = false)
    (hep : xe ≠ xp) (hec : xe ≠ xc) (hpc : xp ≠ xc) (hco : env.scope.isCoroutine = false) (hin : interactive env = false)
    (hLi : env.locals < it) (hie : it < En)
    (hh : (A.over c fs).handled = none) (hfs : splitAtGen fs = none) (hfg : fs.any Frame.guarded = false)
    (hbs : ∀ (i : Nat) (ch : Nat), x.cps[i]? = some ch → ((⟨#[ch]⟩ : Str) == bs) = false)
    (hend : ∀ s₀ s, Pres env.locals it s₀ s → (∃ m, s.heap.Ns env.locals m ∧ m xe = some (.bool false)) → Seg (model prog w) A (GR env.locals it) (GY x t xe env.locals it En) 0 s₀ c (.pure (.again (.block [] env))) fs s) :
    ∀ n i s₀ s, n + i = x.cps.size → Pres env.locals it s₀ s → s₀.heap.objs.size ≤ s.heap.objs.size → GPriv x t xe env.locals it En i s.heap →
      Seg (model prog w) A (GR env.locals it) (GY x t xe env.locals it En) n s₀ c ((model prog w).den c) fs s := by
  have hLE : env.locals < En := Nat.lt_trans hLi hie
  have hcl : (env.scope.kind == .class || (env.scope.kind == .module && env.locals != env.globals)) = false := by rw [hkf]; rfl
  intro n
  induction n with
  | zero =>
    intro i s₀ s hn hP hz hG
    obtain ⟨m, hns, hme⟩ := hG.ns
    obtain ⟨old, hen⟩ := hG.en
    have hi : i = x.cps.size := by omega
    subst hi
    have D := Draws.strAscii (prog := prog) (w := w) (A := (A.over c fs).in1) hh it x t
    rw [hc] at D hend ⊢
    refine seg_forLoop ?_
    refine wpAny_pyNext_enum_endD D hen hG.si fun h' hx => ?_
    exact hend s₀ _ ⟨fun b o hb hbL e => hx b o (Nat.ne_of_lt hb) (hP.keep b o hb hbL e), hP.gens, hP.drawn, hP.os⟩ ⟨m, hns.extBut hx (Nat.ne_of_lt hLi), hme⟩
  | succ n ih =>
    intro i s₀ s hn hP hz hG
    obtain ⟨H, g, d, tk, os⟩ := s
    obtain ⟨m, hns, hme⟩ := hG.ns
    obtain ⟨old, hen⟩ := hG.en
    have hlt : i < x.cps.size := by omega
    have D := Draws.strAscii (prog := prog) (w := w) (A := (A.over c fs).in1) hh it x t
    have heH : En < H.objs.size := Heap.lt_size hen
    have hLH : env.locals < H.objs.size := hns.lt
    obtain ⟨oi, hoi, _⟩ := id hG.si
    have hiH : it < H.objs.size := Heap.lt_size hoi
    have goal : Seg (model prog w) A (GR env.locals it) (GY x t xe env.locals it En) (n + 1) s₀ c ((model prog w).den c) fs ⟨H, g, d, tk, os⟩ := by
      rw [hc]
      refine seg_forLoop ?_
      rw [← hc]
      refine wpAny_pyNext_enum_itemD D hen hG.si hlt (Nat.ne_of_gt hie) (by simp; exact Nat.ne_of_gt hie) fun v h₁ tk₁ hv heo hit₁ ht₁ hz₁ hk₁ => ?_
      obtain ⟨ch, u, hch, rfl⟩ := hv
      refine wpAny_letOwnedTupleGo_enum heo fun h₂ he₂ hs₂ => ?_
      replace hs₂ : Heap.SameBut En h₁ h₂ := hs₂
      have ht₂ : h₂.IsTuple H.objs.size #[.int i tk₁, .str ⟨#[ch]⟩ u] := ⟨_, (hs₂.2 _ (Nat.ne_of_gt heH)).trans ht₁, rfl, _, rfl⟩
      have hz₂ : h₂.objs.size = H.objs.size + 1 := hs₂.1.trans hz₁
      refine wpAny_assign_Tuple hh ht₂ rfl rfl fun h₃ hx₃ => ?_
      replace hx₃ : Heap.ExtBut h₂.objs.size h₂ h₃ := hx₃
      have old₃ : ∀ b o, b < H.objs.size → h₂.get? b = some o → h₃.get? b = some o := fun b o hb y => hx₃ b o (by rw [hz₂]; exact Nat.ne_of_lt (Nat.lt_succ_of_lt hb)) y
      have ht₃ : ∃ o, h₃.get? H.objs.size = some o := ⟨_, hx₃ _ _ (by rw [hz₂]; exact Nat.ne_of_lt (Nat.lt_succ_self _)) ((hs₂.2 _ (Nat.ne_of_gt heH)).trans ht₁)⟩
      have hz₃ : H.objs.size < h₃.objs.size := let ⟨_, e⟩ := ht₃; Heap.lt_size e
      have hn₃ : h₃.Ns env.locals m := (hns.at fun o y => hk₁ _ o (Nat.ne_of_lt hLE) (Nat.ne_of_lt hLi) y).sameBut hs₂ (Nat.ne_of_lt hLE) |>.at fun o y => old₃ _ o hLH y
      show wpAny _ _ (do holding [.str ⟨#[ch]⟩ u] (assign (.Name xp p1) env (.int i tk₁)); do holding [] (assign (.Name xc p2) env (.str ⟨#[ch]⟩ u)); pure ()) _ _ _
      refine wpAny_bind (wpAny_holding (wpAny_assign_Name (wpAny_storeName_local hxp hn₃ (fun h₄ hn₄ hs₄ => ?_) hcl)))
      replace hs₄ : Heap.SameBut env.locals h₃ h₄ := hs₄
      refine wpAny_bind (wpAny_holding (wpAny_assign_Name (wpAny_storeName_local hxc hn₄ (fun h₅ hn₅ hs₅ => wpAny_pure ?_) hcl)))
      replace hs₅ : Heap.SameBut env.locals h₄ h₅ := hs₅
      have hz₅ : H.objs.size < h₅.objs.size := by rw [hs₅.1, hs₄.1]; exact hz₃
      have up : ∀ b o, b ≠ env.locals → b < H.objs.size → h₂.get? b = some o → h₅.get? b = some o := fun b o hbL hb y => hs₅.extBut b o hbL (hs₄.extBut b o hbL (old₃ b o hb y))
      refine seg_execs_cons (seg_If (wpAny_isTrue_value (wpAny_Name (wpAny_loadName_local hkf hxe hn₅ (v := .bool false) (by simp [hep, hec, hme]) (wpAny_truthy_bool ?_)) hde)))
      refine seg_execs_cons (seg_If (wpAny_isTrue_Compare1 (wpAny_Name (wpAny_loadName_local hkf hxc hn₅ (v := .str ⟨#[ch]⟩ u) (by simp) (wpAny_Constant_str (PyProof.Rows.eq_str (wpAny_truthy_bool ?_)))) hdc)))
      rw [hbs i ch hch]
      refine seg_execs_cons (seg_Expr_Yield hfs rfl hfg ?_ hco hin)
      refine PyProof.Rows.Tuple_ (Calls.spliced_cons (wpAny_Name (wpAny_loadName_local hkf hxp hn₅ (v := .int i tk₁) (by simp [hpc]) ?_) hdp))
      refine Calls.spliced_cons (wpAny_Name (wpAny_loadName_local hkf hxc hn₅ (v := .str ⟨#[ch]⟩ u) (by simp) (Calls.spliced_nil ?_)) hdc)
      refine wpAny_newTuple ?_
      intro kap hkap
      have hTE : h₅.objs.size ≠ En := Nat.ne_of_gt (Nat.lt_trans heH hz₅)
      have hG' : GPriv x t xe env.locals it En (i + 1) (h₅.push { cls := .type "tuple", data := .seq #[.int i tk₁, .str ⟨#[ch]⟩ u] }) := by
        refine ⟨⟨_, hn₅.push _, by simp [hep, hec, hme]⟩, ⟨.str ⟨#[ch]⟩ u, ?_⟩, ?_⟩
        · have : ((i + 1 : Nat) : Int) = (i : Int) + 1 := by push_cast; rfl
          rw [this]
          exact Heap.get?_push_of_some _ (up En _ (Nat.ne_of_gt hLE) heH he₂)
        · obtain ⟨oi', hoi', r⟩ := hit₁
          exact ⟨oi', Heap.get?_push_of_some _ (up it _ (Nat.ne_of_gt hLi) hiH (hs₂.extBut it _ (Nat.ne_of_lt hie) hoi')), r⟩
      refine ⟨i, ch, h₅.objs.size, tk₁, u, by omega, hch, rfl, Nat.le_of_lt (Nat.lt_of_le_of_lt hz hz₅), Heap.get?_push_size _ rfl, ?_, hG', fun s'' hs'' => hkap .none s'' ?_⟩
      · refine ⟨fun b o hb hbL e => ?_, hP.gens, hP.drawn, hP.os⟩
        have e1 : H.get? b = some o := hP.keep b o hb hbL e
        have hbE : b ≠ En := Nat.ne_of_lt (Nat.lt_trans hb hie)
        exact Heap.get?_push_of_some _ (up b o hbL (Heap.lt_size e1) (hs₂.extBut b o hbE (hk₁ b o hbE (Nat.ne_of_lt hb) e1)))
      · show Seg (model prog w) A (GR env.locals it) (GY x t xe env.locals it En) n s'' c (.pure (.again _)) fs s''
        refine seg_again (by rw [hc]; rfl) ?_
        exact ih (i + 1) s'' s'' (by omega) (Pres.refl _ _ _) (Nat.le_refl _) hs''
    exact goal
end Mine
-- part PG3
namespace Mine
theorem fresh_PG3 : True := by
  w_top off
  trivial
/-- the body of a generator of the make of the one that walks a text -/
abbrev genStmts (xa xp xc xe en bs : Str) (B1 B2 B3 : List Stmt) (k0 k1 k2 k3 k4 : Nat) (a1 a2 a3 b1 b2 b3 p1 p2 pt pe pc pk pm pi pj q1 q2 qt qy qx pn pa pcall pfor pe2 pi2 : Pos) : List Stmt :=
  [.Assign [.Name xp a1] (.Constant (.int 0) k0 a2) a3, .Assign [.Name xe b1] (.Constant (.bool false) k4 b2) b3,
   .For (.Tuple [.Name xp p1, .Name xc p2] k1 pt) (.Call (.Name en pn) [.Name xa pa] [] pcall)
     [.If (.Name xe pe) B1 [.If (.Compare (.Name xc pc) [.Eq] [.Constant (.str bs) k2 pk] pm) B2 [.Expr (.Yield (some (.Tuple [.Name xp q1, .Name xc q2] k3 qt)) qy) qx] pj] pi] [] pfor,
   .If (.Name xe pe2) B3 [] pi2]
theorem gen_first {prog : Program} {w : World} {A : Around} {env : Env} {x : Str} {t : Tok} {xa xp xc xe en bs : Str} {B1 B2 B3 : List Stmt} {k0 k1 k2 k3 k4 : Nat} {a1 a2 a3 b1 b2 b3 p1 p2 pt pe pc pk pm pi pj q1 q2 qt qy qx pn pa pcall pfor pe2 pi2 : Pos}
    {c : Code} (hc : c = .func (genStmts xa xp xc xe en bs B1 B2 B3 k0 k1 k2 k3 k4 a1 a2 a3 b1 b2 b3 p1 p2 pt pe pc pk pm pi pj q1 q2 qt qy qx pn pa pcall pfor pe2 pi2) env)
    (hkf : env.scope.kind = .function) (hxa : env.kindOf xa = some .local) (hxp : env.kindOf xp = some .local) (hxc : env.kindOf xc = some .local) (hxe : env.kindOf xe = some .local) (hen : env.kindOf en = some .globalImplicit)
    (hde : (xe == ("__debug__" : Str)) = false) (hdc : (xc == ("__debug__" : Str)) = false) (hdp : (xp == ("__debug__" : Str)) = false) (hda : (xa == ("__debug__" : Str)) = false) (hdn : (en == ("__debug__" : Str)) = false)
    (hep : xe ≠ xp) (hec : xe ≠ xc) (hpc : xp ≠ xc) (hap : xa ≠ xp) (hae : xa ≠ xe) (hco : env.scope.isCoroutine = false) (hin : interactive env = false)
    (hasc : x.cps.all (· < 128) = true)
    (hh : A.handled = none)
    (hbs : ∀ (i : Nat) (ch : Nat), x.cps[i]? = some ch → ((⟨#[ch]⟩ : Str) == bs) = false)
    {s : Shared} {m mg mb : Str → Option Value} (hns : s.heap.Ns env.locals m) (hma : m xa = some (.str x t)) (hLs : env.locals < s.heap.objs.size)
    (hg : s.heap.Ns env.globals mg) (hgn : mg en = none) (hb : s.heap.Ns env.builtins mb) (hbn : mb en = some (.type "enumerate")) (hgl : env.globals ≠ env.locals) (hbl : env.builtins ≠ env.locals) {sz : Nat} (hsz : s.heap.objs.size = sz) :
    Seg (model prog w) A (GR env.locals sz) (GY x t xe env.locals sz (sz + 1)) x.cps.size s c ((model prog w).den c) [] s := by
  have hcl : (env.scope.kind == .class || (env.scope.kind == .module && env.locals != env.globals)) = false := by rw [hkf]; rfl
  subst hc hsz
  refine seg_func ?_
  obtain ⟨H, g, d, tk, os⟩ := s
  refine seg_execs_cons (seg_wrap (wpAny_Assign_Name (wpAny_Constant_int (wpAny_storeName_local hxp hns (fun h₁ hn₁ hs₁ => ?_) hcl))))
  replace hs₁ : Heap.SameBut env.locals H h₁ := hs₁
  refine seg_execs_cons (seg_wrap (wpAny_Assign_Name (wpAny_Constant_bool (wpAny_storeName_local hxe hn₁ (fun h₂ hn₂ hs₂ => ?_) hcl))))
  replace hs₂ : Heap.SameBut env.locals h₁ h₂ := hs₂
  refine seg_execs_cons (seg_For (fun _ => rfl) ?_)
  have hg₂ : h₂.Ns env.globals mg := (hg.sameBut hs₁ hgl).sameBut hs₂ hgl
  have hb₂ : h₂.Ns env.builtins mb := (hb.sameBut hs₁ hbl).sameBut hs₂ hbl
  have hz₂ : h₂.objs.size = H.objs.size := hs₂.1.trans hs₁.1
  refine Call_Name1 (Calls.Name_function_global hkf hen (Calls.loadGlobal_builtin hg₂ hgn hb₂ hbn ?_) hdn)
  refine PyProof.Rows.callWith_type rfl (Calls.evalArgs_plain (Calls.spliced_cons (wpAny_Name (wpAny_loadName_local hkf hxa hn₂ (v := .str x t) (by simp [hap, hae, hma]) (Calls.spliced_nil ?_)) hda)))
  refine call_enumerate_str fun h₃ he₃ hi₃ hz₃ hk₃ => ?_
  refine wpAny_pyIter_enum he₃ fun p => ?_
  have hst : strIterType x = "str_ascii_iterator" := by unfold strIterType; rw [if_pos hasc]
  rw [hst] at hi₃
  have hL₂ : env.locals < h₂.objs.size := hn₂.lt
  have hk₀ : ∀ b o, b < h₂.objs.size → b ≠ env.locals → H.get? b = some o → h₃.get? b = some o := fun b o _ hb e => hk₃ b o (hs₂.extBut b o hb (hs₁.extBut b o hb e))
  show Seg _ A (GR env.locals H.objs.size) (GY x t xe env.locals H.objs.size (H.objs.size + 1)) _ _ _ _ _ _
  rw [← hz₂]
  refine gen_turn rfl hkf hxp hxc hxe hde hdc hdp hep hec hpc hco hin hL₂ (Nat.lt_succ_self _) ?hh rfl rfl hbs ?hend x.cps.size 0 _ _ (by omega) ⟨hk₀, rfl, rfl, rfl⟩ ?hsz ⟨⟨_, hn₂.keeps hk₃, by simp⟩, ⟨_, he₃⟩, hi₃⟩
  case hh => exact hh
  case hsz => show H.objs.size ≤ h₃.objs.size; rw [show h₃.objs.size = h₂.objs.size + 2 from hz₃, hz₂]; exact Nat.le_add_right _ _
  case hend =>
    intro s₀ s hP hm
    obtain ⟨m', hm', he'⟩ := hm
    refine seg_again rfl ?_
    show Seg _ A _ _ 0 s₀ _ (leafOf (.ok .next)) _ s
    refine seg_leaf (.ok .next) ?_
    show Seg _ A _ _ 0 s₀ _ ((execs [.If (.Name xe pe2) B3 [] pi2] env).wrap _ _ _ _) _ s
    refine seg_execs_cons (seg_If (wpAny_isTrue_value (wpAny_Name (wpAny_loadName_local hkf hxe hm' he' (wpAny_truthy_bool ?_)) hde)))
    show Seg _ A _ _ 0 s₀ _ (leafOf (.ok (.ret .none))) [] s
    exact seg_end _ ⟨rfl, rfl, hP⟩
end Mine
-- part PG4
namespace Mine
theorem fresh_PG4 : True := by
  w_top off
  trivial
/-- a call of a generator function -/
theorem gen_call {prog : Program} {w : World} {A : Around} {E : Value → Shared → Prop} {s : Shared} {h₀ : Heap} {L : Addr} {m : Str → Option Value} {news : List (Addr × Obj)} {K : Frag}
    {Q : Value → Shared → Prop} {name qual : Str} {params : Arguments} {body : List Stmt} {scope : Scope} {dV kV doc pm cdv ct oc : Value} {an od : Option Addr} {osl : Array (Option Value)} {f : Addr} {args : List Value} {binds : List (Str × Value)}
    (F : Fr h₀ L s.heap m) (N : News h₀ L s.heap news) (X : K.In h₀) (hlim : h₀.NoLimit)
    (ho : K.lookup f = some ⟨oc, od, .func (fnOf name qual params body scope dV kV doc pm an cdv ct), osl⟩) (hcd : codeIn K cdv qual = true) (hroom : A.depth < recursionLimit)
    (hbind : BindsTo s (fnOf name qual params body scope dV kV doc pm an cdv ct) ⟨args, []⟩ binds) (hloc : ∀ y ∈ binds, scope.names.lookup y.1 = some .local)
    (h : ∀ (h' : Heap) (G Lg : Addr) (tk : Nat), Fr h₀ L h' m → News h₀ L h' news → s.heap.objs.size = Lg → Lg < G → h'.objs.size = G + 1 → h'.Ns Lg (fun y => binds.reverse.lookup y) → h'.IsGen G s.gens.size → (∀ b o, s.heap.get? b = some o → h'.get? b = some o) →
      Q (.ref G) { s with heap := h', toks := tk, gens := s.gens.push (.fresh (.func body (envOf qual scope Lg f cdv))) })
    (hco : scope.isCoroutine = false) (hgen : scope.isGenerator = true) (hk : scope.kind = .function)
    (hcell : ∀ x ∈ scope.names, x.2 ≠ .cell) : wpAny (model prog w) A (call (.ref f) args) Q E s := by
  have X' : K.In s.heap := X.keeps F.keep
  refine wpAny_call ?_
  refine codeAny_call_generator (fd := fnOf name qual params body scope dV kV doc pm an cdv ct) (body := body) hroom (X' _ _ ho) rfl hco hgen rfl (codeRec_of X' hcd) (hbind _ _ _ _ ?_)
  refine wpAny_newFunctionEnv hcell hloc (fun h₁ hns hs => ?_) hk
  have k₁ : ∀ b o, s.heap.get? b = some o → h₁.get? b = some o := fun b o e => hs.extBut b o (Nat.ne_of_lt (Heap.lt_size e)) (Heap.get?_push_of_some _ e)
  have hz₁ : h₁.objs.size = s.heap.objs.size + 1 := by rw [hs.1, Heap.size_push]
  refine ⟨(hlim.keeps F.keep).keeps k₁, ?_⟩
  have kk : ∀ o', ∀ b o, s.heap.get? b = some o → (h₁.push o').get? b = some o := fun o' b o e => Heap.get?_push_of_some _ (k₁ b o e)
  refine h _ _ _ _ ⟨F.ns.keeps (kk _), fun b o e => kk _ b o (F.keep b o e), F.above⟩ (fun p hp => ⟨kk _ _ _ (N p hp).1, (N p hp).2⟩) rfl (by show s.heap.objs.size < h₁.objs.size; rw [hz₁]; exact Nat.lt_succ_self _) (Heap.size_push ..) (hns.push _) ⟨_, _, _, Heap.get?_push_size _ rfl, rfl, rfl, rfl⟩ (kk _)
def GEnd (h₀ : Heap) (L : Addr) (J : (Str → Option Value) → List (Addr × Obj) → Prop) (own : List (Addr × Obj)) (adr : List Addr) (s₁ s₂ : Shared) : Prop :=
  ∃ h' tk m' news' nx, s₂ = { s₁ with heap := h', toks := tk } ∧ Fr h₀ L h' m' ∧ News h₀ L h' news' ∧ (∀ p ∈ nx, p ∈ news') ∧ (∀ p ∈ own, p ∈ news') ∧ nx.map (·.1) = adr ∧ J m' nx
def GPost (h₀ : Heap) (L : Addr) (J : (Str → Option Value) → List (Addr × Obj) → Prop) (own : List (Addr × Obj)) (adr : List Addr) (s₁ : Shared) (Q : Flow → Shared → Prop) (f : Flow) (s₂ : Shared) : Prop :=
  match f with
  | .ret v => Q (.ret v) s₂
  | .brk => Q .next s₂
  | _ => GEnd h₀ L J own adr s₁ s₂
theorem letGo_gen {prog : Program} {w : World} {A : Around} {E : Value → Shared → Prop} {s : Shared} {elts : List Expr} {k : Nat} {pos : Pos} {G : Addr} {g : Nat} {T : Addr} {Q : Unit → Shared → Prop} (hg : s.heap.IsGen G g) (h : Q () s) :
    wpAny (model prog w) A (letOwnedTupleGo (.Tuple elts k pos) (.ref G) (.ref T)) Q E s := by
  obtain ⟨⟨c, d, dt, sl⟩, nm, qn, ho, hc, hd, hsl⟩ := hg
  dsimp only at hc hd
  subst hc hd
  unfold letOwnedTupleGo
  refine wpAny_bind (wpAny_load ho ?_)
  exact wpAny_pure h
/-- the next item of a generator function's generator, what it leaves being bare -/
theorem pyNext_gen {prog : Program} {w : World} {A : Around} {E : Value → Shared → Prop} {s : Shared} {a : Addr} {g n : Nat} {gs : GenState} {P : Nat → Shared → Shared → Prop} {Y : Protocol} {Q : Option Value → Shared → Prop} (hh : A.handled = none)
    (hl : s.heap.NoLimit) (hroom : A.depth < recursionLimit) (hg : s.heap.IsGen a g) (hgs : s.gens[g]? = some gs)
    (hgo : gs.Goes (model prog w) A.in1 (fun n s₀ r s₁ => r = .ok (.ret .none) ∧ P n s₀ s₁) Y n (.send .none) (s.setGen g .running))
    (hY : ∀ v s₁ gs', gs'.bare = true → Y (n - 1) (s.setGen g .running) v s₁ (fun r' s'' => match n with
        | 0 => False
        | m + 1 => gs'.Goes (model prog w) A.in1 (fun n s₀ r s₁ => r = .ok (.ret .none) ∧ P n s₀ s₁) Y m r' s'') → Q (some v) (s₁.setGen g gs'))
    (hP : ∀ s₁, P n (s.setGen g .running) s₁ → ∀ h', (∀ b o, s₁.heap.get? b = some o → h'.get? b = some o) → Q none { s₁.setGen g .finished with heap := h' }) :
    wpAny (model prog w) A (pyNext (.ref a)) Q E s := by
  unfold pyNext
  refine wpAny_bind (wpAny_attempt (wpAny_callSpecial?_slot (name := Str.ofString "__next__") hg.typeIs slot_gen_next (wpAny_call_entry slot_gen_next hg.typeIs entry_gen_next ?_ (args_gen_next _))))
  show wpAny _ A.in1 (Builtin.Generator.genWake (.ref a) (.send .none)) _ _ s
  unfold Builtin.Generator.genWake
  refine wpAny_bind (wpAny_holding (wpAny_genNumber hg (wpAny_bind (wpAny_genState hgs ?_))))
  cases gs with
  | running => exact hgo.elim
  | finished => exact hgo.elim
  | _ =>
    refine wpAny_bind (wpAny_roomToWake hl hroom ?_)
    refine wpAny_resumeQ hgs hgo (fun x s₁ hx => ?_) (fun v s₁ gs' hb hv => wpAny_pure ⟨v, rfl, wpAny_pure (hY v s₁ gs' hb hv)⟩)
    obtain ⟨rfl, hp⟩ := hx
    show wpAny _ A.in1 (newExc (.type "StopIteration") [] >>= _) _ _ _
    refine wpAny_bind ?_
    simp only [newExc, newTuple]
    refine wpAny_bind (wpAny_newObj_type ?_ (by size_fits))
    refine wpAny_bind (m := firstArgMember _ _) (wpAny_of_eq (a := Value.none) (by first | rfl | (simp only [firstArgMember]; rfl)) ?_)
    refine wpAny_newObj_type ?_ (by size_fits)
    simp only [raiseNew]
    refine wpAny_bind (wpAny_bind (wpAny_handled ?_))
    rw [show A.in1.handled = none from hh]
    refine wpAny_throw (wpAny_bind (wpAny_isInstance (T := "StopIteration") (b := true) ⟨_, Heap.get?_push_size _ rfl, rfl⟩ isSubtype_stop ?_))
    exact wpAny_pure (hP s₁ hp _ fun b o hb => Heap.get?_push_of_some _ (Heap.get?_push_of_some _ hb))
theorem bare_set {gs : Array GenState} {g : Nat} {y : GenState} (h : AllBare gs) (hy : y.bare = true) : AllBare (gs.setIfInBounds g y) := by
  intro z hz
  rcases Array.mem_or_eq_of_mem_setIfInBounds hz with h1 | h1
  · exact h z h1
  · exact h1 ▸ hy
theorem gen_loop {prog : Program} {w : World} {A : Around} {s : Shared} {env : Env} {h₀ : Heap} {x : Str} {t : Tok} {xe : Str} {xp xc : Str} {p1 p2 pt : Pos} {k : Nat} {body : List Stmt} {Q : Flow → Shared → Prop} {R : Result → Shared → Prop}
    {m₀ : Str → Option Value} {news : List (Addr × Obj)} {G Lg : Addr} {g : Nat} {gst : GenState} (J : Nat → (Str → Option Value) → List (Addr × Obj) → Prop)
    (hR : ∀ f s', Q f s' → R (.ok f) s')
    (hh : A.handled = none) (hroom : A.depth < recursionLimit) (hlim : h₀.NoLimit)
    (hxp : env.kindOf xp = some .local) (hxc : env.kindOf xc = some .local) (hkf : env.scope.kind = .function)
    (F : Fr h₀ env.locals s.heap m₀) (N : News h₀ env.locals s.heap news) (hj : J 0 m₀ news)
    (hLL : env.locals < Lg) (hLG : Lg < G) (hadr : ∀ p ∈ news, p.1 < Lg)
    (hG : s.heap.IsGen G g) (hgs : s.gens[g]? = some gst) (hbare : AllBare s.gens)
    (hgo : ∃ it En, gst.Goes (model prog w) A.in1 (GR Lg it) (GY x t xe Lg it En) x.cps.size (.send .none) (s.setGen g .running) ∧ G < it ∧ it < En)
    (turn : ∀ (i c : Nat) (u1 u2 : Tok) (m₁ : Str → Option Value) (nx own : List (Addr × Obj)) (h : Heap) (tk : Nat) (gs : Array GenState), x.cps[i]? = some c → nx.map (·.1) = news.map (·.1) → OwnOff own (news.map (·.1)) → J i m₁ nx → AllBare gs →
      Fr h₀ env.locals h (fun y => if y = xc then some (.str ⟨#[c]⟩ u2) else if y = xp then some (.int i u1) else m₁ y) → News h₀ env.locals h (nx ++ own) →
      wpAny (model prog w) A (execs body env) (GPost h₀ env.locals (J (i + 1)) own (news.map (·.1)) { s with heap := h, toks := tk, gens := gs } Q) (fun _ _ => False) { s with heap := h, toks := tk, gens := gs })
    (done : ∀ m₁ nx h tk gs, J x.cps.size m₁ nx → Fr h₀ env.locals h m₁ → News h₀ env.locals h nx → AllBare gs → nx.map (·.1) = news.map (·.1) → Q .next { s with heap := h, toks := tk, gens := gs }) :
    codeAny (model prog w) A (.forLoop (.Tuple [.Name xp p1, .Name xc p2] k pt) (.ref G) body [] env) R s := by
  have hcl : (env.scope.kind == .class || (env.scope.kind == .module && env.locals != env.globals)) = false := by rw [hkf]; rfl
  have above : h₀.objs.size ≤ env.locals := F.above
  obtain ⟨it, En, hgo, hGi, hie⟩ := hgo
  have hLi : Lg < it := Nat.lt_trans hLG hGi
  refine codeAny_forLoop_any (fun q s' => ∃ i h tk gs gst m₁ nx, i ≤ x.cps.size ∧ q = x.cps.size + 1 - i ∧ s' = { s with heap := h, toks := tk, gens := gs } ∧ Fr h₀ env.locals h m₁ ∧ News h₀ env.locals h nx ∧ nx.map (·.1) = news.map (·.1) ∧ J i m₁ nx ∧ h.IsGen G g ∧ gs[g]? = some gst ∧ AllBare gs ∧
      gst.Goes (model prog w) A.in1 (GR Lg it) (GY x t xe Lg it En) (x.cps.size - i) (.send .none) (({ s with heap := h, toks := tk, gens := gs } : Shared).setGen g .running)) ?_ (x.cps.size + 1)
    ⟨0, s.heap, s.toks, s.gens, gst, m₀, news, Nat.zero_le _, rfl, rfl, F, N, rfl, hj, hG, hgs, hbare, hgo⟩
  rintro q s' ⟨i, H, tk, gs, gst, m₁, nx, hi, rfl, rfl, F₁, N₁, hmap, hJ, hG₁, hgs₁, hb₁, hgo₁⟩
  have hadr₁ : ∀ p ∈ nx, p.1 < Lg := fun p hp => by
    have : p.1 ∈ news.map (·.1) := hmap ▸ List.mem_map_of_mem hp
    obtain ⟨q, hq, e⟩ := List.mem_map.mp this
    rw [← e]; exact hadr q hq
  have hgsz : g < gs.size := (Array.getElem?_eq_some_iff.mp hgs₁).1
  have below : ∀ {h' : Heap}, (∀ b o, b < it → b ≠ Lg → H.get? b = some o → h'.get? b = some o) → Fr h₀ env.locals h' m₁ ∧ News h₀ env.locals h' nx := fun {h'} hk => by
    obtain ⟨oL, es, ep, e1, r⟩ := F₁.ns
    have hk' : ∀ b o, b < Lg → H.get? b = some o → h'.get? b = some o := fun b o hb e => hk b o (Nat.lt_trans hb hLi) (Nat.ne_of_lt hb) e
    refine ⟨⟨⟨oL, es, ep, hk' _ _ hLL e1, r⟩, fun b o e => hk' b o ?_ (F₁.keep b o e), above⟩, fun p hp => ⟨hk' _ _ (hadr₁ p hp) (N₁ p hp).1, (N₁ p hp).2⟩⟩
    exact Nat.lt_trans (Nat.lt_of_lt_of_le (Heap.lt_size e) above) hLL
  have new : ∀ {b : Addr}, Lg ≤ b → h₀.get? b = none := fun {b} hb => by
    cases e : h₀.get? b with
    | none => rfl
    | some o => exact absurd (Nat.lt_of_lt_of_le (Nat.lt_trans (Nat.lt_of_lt_of_le (Heap.lt_size e) above) hLL) hb) (Nat.lt_irrefl _)
  refine pyNext_gen hh (hlim.keeps F₁.keep) hroom hG₁ hgs₁ hgo₁ (fun v s₁ gs' hb' hY => ?_) (fun s₁ hp h' hk' => ?_)
  · obtain ⟨i', c, T, t1, t2, hn, hc, rfl, hT, hTo, hP, hPriv, hkap⟩ := hY
    have hpos : 0 < x.cps.size - i := by
      cases hz : x.cps.size - i with
      | zero => simp only [hz] at hkap; exact (hkap s₁ hPriv).elim
      | succ n => exact Nat.succ_pos _
    have hii : i' = i := by omega
    subst hii
    obtain ⟨r, hr⟩ : ∃ r, x.cps.size - i' = r + 1 := ⟨x.cps.size - i' - 1, by omega⟩
    simp only [hr] at hkap
    obtain ⟨H₁, g₁, d₁, tk₁, os₁⟩ := s₁
    have e1 : d₁ = s.drawn := hP.drawn
    have e2 : os₁ = s.os := hP.os
    have e3 : g₁ = gs.setIfInBounds g .running := hP.gens
    subst e1 e2 e3
    have hk₁ : ∀ b o, b < it → b ≠ Lg → H.get? b = some o → H₁.get? b = some o := hP.keep
    obtain ⟨F₂, N₂⟩ := below (h' := H₁) hk₁
    have hTo₁ : H₁.get? T = some { cls := .type "tuple", data := .seq #[.int i' t1, .str ⟨#[c]⟩ t2] } := hTo
    have hT₁ : H.objs.size ≤ T := hT
    obtain ⟨oG, nm, qn, hoG, rG⟩ := id hG₁
    have hGL : G ≠ Lg := Nat.ne_of_gt hLG
    have hG₂ : H₁.IsGen G g := ⟨oG, nm, qn, hk₁ _ _ hGi hGL hoG, rG⟩
    obtain ⟨mg, hnsg, hmg⟩ := hPriv.ns
    obtain ⟨oLg, esg, epg, hoLg, rLg⟩ := id hnsg
    obtain ⟨old, hen⟩ := hPriv.en
    obtain ⟨oit, hoit, rit⟩ := id hPriv.si
    obtain ⟨oEn, hoEn, rEn⟩ : ∃ o, H₁.get? En = some o ∧ ∀ h' : Heap, h'.get? En = some o → IsEnum h' En it ((i' + 1 : Nat) : Int) old := ⟨_, hen, fun _ e => e⟩
    have hLE : Lg < En := Nat.lt_trans hLi hie
    have hoff : OwnOff [(G, oG), (Lg, oLg), (it, oit), (En, oEn)] (news.map (·.1)) := by
      intro p hp b hb e
      obtain ⟨q, hq, rfl⟩ := List.mem_map.mp hb
      have h1 := hadr q hq
      simp only [List.mem_cons, List.not_mem_nil, or_false] at hp
      rcases hp with rfl | rfl | rfl | rfl
      · rw [← e] at h1; exact Nat.lt_irrefl _ (Nat.lt_trans h1 hLG)
      · rw [← e] at h1; exact Nat.lt_irrefl _ h1
      · rw [← e] at h1; exact Nat.lt_irrefl _ (Nat.lt_trans h1 hLi)
      · rw [← e] at h1; exact Nat.lt_irrefl _ (Nat.lt_trans h1 hLE)
    have N₃ : News h₀ env.locals H₁ (nx ++ [(G, oG), (Lg, oLg), (it, oit), (En, oEn)]) := by
      intro p hp
      rcases List.mem_append.mp hp with hp | hp
      · exact N₂ p hp
      · simp only [List.mem_cons, List.not_mem_nil, or_false] at hp
        rcases hp with rfl | rfl | rfl | rfl
        · exact ⟨hk₁ _ _ hGi hGL hoG, Nat.ne_of_gt (Nat.lt_trans hLL hLG), new (Nat.le_of_lt hLG)⟩
        · exact ⟨hoLg, Nat.ne_of_gt hLL, new (Nat.le_refl _)⟩
        · exact ⟨hoit, Nat.ne_of_gt (Nat.lt_trans hLL hLi), new (Nat.le_of_lt hLi)⟩
        · exact ⟨hoEn, Nat.ne_of_gt (Nat.lt_trans hLL hLE), new (Nat.le_of_lt hLE)⟩
    show wpAny _ A (letOwnedTupleGo _ _ _) _ _ (⟨H₁, (gs.setIfInBounds g .running).setIfInBounds g gs', s.drawn, tk₁, s.os⟩ : Shared)
    refine letGo_gen hG₂ ?_
    refine wpAny_assign_Tuple hh (items := #[.int i' t1, .str ⟨#[c]⟩ t2]) ⟨_, hTo₁, rfl, _, rfl⟩ rfl rfl fun h₃ hx₃ => ?_
    replace hx₃ : Heap.ExtBut H₁.objs.size H₁ h₃ := hx₃
    have keep₃ : ∀ b o, H₁.get? b = some o → h₃.get? b = some o := fun b o e => hx₃ b o (Nat.ne_of_lt (Heap.lt_size e)) e
    have F₃ : Fr h₀ env.locals h₃ m₁ := ⟨F₂.ns.keeps keep₃, fun b o e => keep₃ b o (F₂.keep b o e), above⟩
    have N₃' : News h₀ env.locals h₃ (nx ++ [(G, oG), (Lg, oLg), (it, oit), (En, oEn)]) := fun p hp => ⟨keep₃ _ _ (N₃ p hp).1, (N₃ p hp).2⟩
    show wpAny _ _ (do holding [.str ⟨#[c]⟩ t2] (assign (.Name xp p1) env (.int i' t1)); do holding [] (assign (.Name xc p2) env (.str ⟨#[c]⟩ t2)); pure ()) _ _ _
    refine wpAny_bind (wpAny_holding (wpAny_assign_Name (wpAny_storeName_local hxp F₃.ns (fun h₄ hn₄ hs₄ => ?_) hcl)))
    replace hs₄ : Heap.SameBut env.locals h₃ h₄ := hs₄
    refine wpAny_bind (wpAny_holding (wpAny_assign_Name (wpAny_storeName_local hxc hn₄ (fun h₅ hn₅ hs₅ => wpAny_pure ?_) hcl)))
    replace hs₅ : Heap.SameBut env.locals h₄ h₅ := hs₅
    have F₅ := (F₃.set hn₄ hs₄).set hn₅ hs₅
    have N₅ := (N₃'.set hs₄).set hs₅
    have hb₂ : AllBare ((gs.setIfInBounds g .running).setIfInBounds g gs') := bare_set (bare_set hb₁ rfl) hb'
    refine wpAny_mono (turn i' c t1 t2 m₁ nx _ h₅ _ _ hc hmap hoff hJ hb₂ F₅ N₅) (fun f s₂ hf => ?_) fun _ _ hx => hx.elim
    cases f with
    | ret v => exact hR _ _ hf
    | brk => exact hR _ _ hf
    | _ =>
      obtain ⟨h', tk', m', news', nx', rfl, F', N', hn', ho', ha', hJ'⟩ := hf
      have g1 := (N' _ (ho' (G, oG) (.head _))).1
      have g2 := (N' _ (ho' (Lg, oLg) (.tail _ (.head _)))).1
      have g3 := (N' _ (ho' (it, oit) (.tail _ (.tail _ (.head _))))).1
      have g4 := (N' _ (ho' (En, oEn) (.tail _ (.tail _ (.tail _ (.head _)))))).1
      refine ⟨x.cps.size + 1 - (i' + 1), by omega, i' + 1, h', tk', _, gs', m', nx', by omega, rfl, rfl, F', fun p hp => N' p (hn' p hp), ha', hJ', ⟨oG, nm, qn, g1, rG⟩, ?_, hb₂, ?_⟩
      · simp [hgsz]
      · rw [show x.cps.size - (i' + 1) = r by omega]
        exact hkap _ ⟨⟨mg, ⟨oLg, esg, epg, g2, rLg⟩, hmg⟩, ⟨old, rEn _ g4⟩, ⟨oit, g3, rit⟩⟩
  · obtain ⟨hz, hP⟩ := hp
    have hi' : i = x.cps.size := by omega
    subst hi'
    refine wpAny_execs_nil (hR _ _ ?_)
    obtain ⟨F₂, N₂⟩ := below (h' := h') fun b o hb hbL e => hk' b o (hP.keep b o hb hbL e)
    obtain ⟨H₁, g₁, d₁, tk₁, os₁⟩ := s₁
    have e1 : d₁ = s.drawn := hP.drawn
    have e2 : os₁ = s.os := hP.os
    have e3 : g₁ = gs.setIfInBounds g .running := hP.gens
    subst e1 e2 e3
    exact done m₁ nx h' tk₁ _ hJ F₂ N₂ (bare_set (bare_set hb₁ rfl) rfl) hmap
end Mine
-- part S2
set_option maxHeartbeats 8000000
namespace Mine
theorem fresh_S2 : True := by
  w_top off
  trivial
/-- texts that the walk over signs takes as they are -/
def Plain (x : Str) : Prop := ∀ c ∈ x.cps, c < 128 ∧ c ≠ 92
theorem Plain.ascii {x : Str} (h : Plain x) : x.cps.all (· < 128) = true := by
  rw [Array.all_eq_true_iff_forall_mem]
  intro c hc
  simpa using (h c hc).1
theorem Plain.bs {x : Str} (h : Plain x) : ∀ (i : Nat) (ch : Nat), x.cps[i]? = some ch → ((⟨#[ch]⟩ : Str) == Str.ofString "\\") = false := by
  intro i ch hi
  have h1 := (h ch (Array.mem_of_getElem? hi)).2
  have e : Str.ofString "\\" = ⟨#[92]⟩ := by decide +kernel
  rw [e]
  exact Bool.eq_false_iff.mpr fun q => h1 (by have := eq_of_beq q; simpa using this)
theorem iter_for {w : World} {p : Program} {loose : List Str} {mean : ExcName → Option Value} {mg mb : Str → Option Value} {A : Around} {E : Value → Shared → Prop} {s : Shared} {h₀ : Heap} {L : Addr} {m : Str → Option Value} {news : List (Addr × Obj)}
    {name : Str} {scope : Scope} {f : Addr} {cd : Value} {x : Str} {t : Tok} {xa xp xc : Str} {p1 p2 pt pn pa pc pos : Pos} {k : Nat} {body : List Stmt} {Q : Flow → Shared → Prop}
    (J : Nat → (Str → Option Value) → List (Addr × Obj) → Prop)
    (F : Fr h₀ L s.heap m) (X : (hd.heap_39 w.params).In h₀) (N : News h₀ L s.heap news) (T : Top p loose mean mg mb h₀)
    (hh : A.handled = none) (hroom : A.depth < recursionLimit) (hx : Plain x) (hbare : AllBare s.gens)
    (hma : m xa = some (.str x t)) (hj : J 0 m news)
    (turn : ∀ (i c : Nat) (u1 u2 : Tok) (m₁ : Str → Option Value) (nx own : List (Addr × Obj)) (h : Heap) (tk : Nat) (gs : Array GenState), x.cps[i]? = some c → nx.map (·.1) = news.map (·.1) → OwnOff own (news.map (·.1)) → J i m₁ nx → AllBare gs →
      Fr h₀ L h (fun y => if y = xc then some (.str ⟨#[c]⟩ u2) else if y = xp then some (.int i u1) else m₁ y) → News h₀ L h (nx ++ own) →
      wpAny (model Challenge.rw_pe0076_01.row.prog w) A (execs body (envOf name scope L f cd)) (GPost h₀ L (J (i + 1)) own (news.map (·.1)) { s with heap := h, toks := tk, gens := gs } Q) (fun _ _ => False) { s with heap := h, toks := tk, gens := gs })
    (done : ∀ m₁ nx h tk gs, J x.cps.size m₁ nx → Fr h₀ L h m₁ → News h₀ L h nx → AllBare gs → nx.map (·.1) = news.map (·.1) → Q .next { s with heap := h, toks := tk, gens := gs })
    (hkf : scope.kind = .function) (hxa : (envOf name scope L f cd).kindOf xa = some .local) (hxp : (envOf name scope L f cd).kindOf xp = some .local) (hxc : (envOf name scope L f cd).kindOf xc = some .local) (hfn : (envOf name scope L f cd).kindOf (Str.ofString "_iter_escaped_chars") = some .globalImplicit)
    (hda : (xa == ("__debug__" : Str)) = false) :
    wpAny (model Challenge.rw_pe0076_01.row.prog w) A (exec (.For (.Tuple [.Name xp p1, .Name xc p2] k pt) (.Call (.Name (Str.ofString "_iter_escaped_chars") pn) [.Name xa pa] [] pc) body [] pos) (envOf name scope L f cd)) Q E s := by
  revert X; k_fill; intro X
  refine wpAny_For ?_ (fun _ => rfl)
  have hfn70 : mg (Str.ofString "_iter_escaped_chars") = some (.ref 70) := mg_of X T.g (by kernel_rfl)
  have hen : mg (Str.ofString "enumerate") = none := mg_none_of X T.g (by kernel_rfl)
  refine Call_Name1 (Calls.Name_function_global hkf hfn (Calls.loadGlobal_global (T.g.keeps F.keep) hfn70 ?_))
  refine callWith_of (P := fun h => (hd.heap_39 w.params).In h) rfl (fun h X' => keeps_K (by kernel_rfl) h X') (Calls.evalArgs_plain ?_)
  refine Calls.spliced_cons (wpAny_Name (wpAny_loadName_local hkf hxa F.ns hma (Calls.spliced_nil ⟨X.keeps F.keep, ?_⟩)) hda)
  refine' gen_call (K := hd.heap_39 w.params) (f := 70) (binds := [(Str.ofString "addr", .str x t)]) F N X T.nolimit ?k6 ?k7 hroom ?k9 ?kB ?_ ?c2 ?c3 ?c4 ?c5
  case k6 => k_is
  case k7 => k_is
  case k9 => exact BindsTo.of_eq rfl
  case kB => exact locs rfl
  case c2 => exact rfl
  case c3 => exact rfl
  case c4 => exact rfl
  case c5 => decide
  intro h' G Lg tk F' N' hLg hLG hz hns hG hk'
  refine wpAny_pyIter_gen hG ?_
  have hlt : ∀ {b o}, s.heap.get? b = some o → b < Lg := fun {b o} e => hLg ▸ Heap.lt_size e
  obtain ⟨oL, _, _, hoL, _⟩ := id F.ns
  refine gen_loop (x := x) (t := t) (xe := Str.ofString "escape") (Lg := Lg) (g := s.gens.size) J (fun f s' hq => hq) hh hroom T.nolimit hxp hxc hkf F' N' hj (hlt hoL) hLG (fun q hq => hlt (N q hq).1) hG (Array.getElem?_push_size ..) (hbare.push rfl) ?_ ?_ ?_
  · refine ⟨h'.objs.size, h'.objs.size + 1, ⟨rfl, ?_⟩, by rw [hz]; exact Nat.lt_succ_self _, Nat.lt_succ_self _⟩
    refine' gen_first (A := A.in1) (env := envOf (Str.ofString "_iter_escaped_chars") _ Lg 70 _) (x := x) (t := t) (xa := Str.ofString "addr") (xp := Str.ofString "pos") (xc := Str.ofString "ch") (xe := Str.ofString "escape") (en := Str.ofString "enumerate") (bs := Str.ofString "\\") (m := fun y => [(Str.ofString "addr", Value.str x t)].reverse.lookup y) (mg := mg) (mb := mb) ?q1 ?q2 ?q3 ?q4 ?q5 ?q6 ?q7 ?d1 ?d2 ?d3 ?d4 ?d5 ?d6 ?d7 ?d8 ?d9 ?d10 ?q8 ?q9 hx.ascii ?n0 hx.bs ?n1 ?n2 ?n3 ?n4 hen ?n5 ?n6 ?n7 ?n8 ?n9
    case q1 => exact rfl
    case q2 => exact rfl
    case q3 => exact rfl
    case q4 => exact rfl
    case q5 => exact rfl
    case q6 => exact rfl
    case q7 => exact rfl
    case q8 => exact rfl
    case q9 => exact rfl
    case n1 => exact hns
    case n2 => rfl
    case n3 => exact hns.lt
    case n4 => exact T.g.keeps F'.keep
    case n5 => exact T.b.keeps F'.keep
    case n6 => exact (T.builtins _ (by decide)).trans boot_enumerate
    case n7 => exact Nat.ne_of_lt (Nat.lt_trans (Nat.lt_of_lt_of_le T.g.lt F.above) (hlt hoL))
    case n8 => exact Nat.ne_of_lt (Nat.lt_trans (Nat.lt_of_lt_of_le T.b.lt F.above) (hlt hoL))
    case n0 => exact hh
    case n9 => exact rfl
    all_goals decide +kernel
  · intro i c u1 u2 m₁ nx own h tk gs h1 h2 h3 h4 h5 h6 h7
    exact turn i c u1 u2 m₁ nx own h tk gs h1 h2 h3 h4 h5 h6 h7
  · intro m₁ nx h tk gs h1 h2 h3 h4 h5
    exact done m₁ nx h tk gs h1 h2 h3 h4 h5
end Mine
-- part S3
namespace Mine
theorem fresh_S3 : True := by
  w_top off
  trivial
def stripStep (x : Str) (st : Nat × Option Nat × List Str) (i c : Nat) : Nat × Option Nat × List Str :=
  if c = 34 then match st.2.1 with
    | none => (st.1, some i, st.2.2)
    | some o => (i + 1, none, if st.1 = o then st.2.2 else st.2.2 ++ [Txt.slice x (some (st.1 : Int)) (some (o : Int))])
  else st
def stripAt (x : Str) : Nat → Nat × Option Nat × List Str
  | 0 => (0, none, [])
  | i + 1 => match x.cps[i]? with
    | some c => stripStep x (stripAt x i) i c
    | none => stripAt x i
def stripEnd (x : Str) (st : Nat × Option Nat × List Str) : List Str := if st.1 < x.length then st.2.2 ++ [Txt.slice x (some (st.1 : Int)) none] else st.2.2
def stripF (x : Str) : Str := if (Builtin.Str.occurrences x (Str.ofString "\"") 0 x.length 1).isEmpty = true then x else Txt.join (Str.ofString "") (stripEnd x (stripAt x x.cps.size))
def opV : Option Nat → Value → Prop
  | none, v => v = .none
  | some o, v => ∃ t, v = .int o t
def stripJ (x : Str) (t : Tok) (r : Addr) (news : List (Addr × Obj)) (i : Nat) (m : Str → Option Value) (nx : List (Addr × Obj)) : Prop :=
  ∃ (ts : Tok) (ov : Value) (vs : List Value) (n : Nat) (mm : Str → Option Value), opV (stripAt x i).2.1 ov ∧ StrsAre vs (stripAt x i).2.2 ∧
    m = (fun y => if y = Str.ofString "open_pos" then some ov else if y = Str.ofString "start" then some (.int ((stripAt x i).1 : Int) ts) else if y = Str.ofString "result" then some (.ref r) else if y = Str.ofString "addr" then some (.str x t) else mm y) ∧
    nx = (r, listOf vs.toArray n) :: news
theorem norm4 {m : Str → Option Value} {a b c d : Str} {va vb vc vd : Value} (ha : m a = some va) (hb : m b = some vb) (hc : m c = some vc) (hd : m d = some vd) :
    m = fun y => if y = a then some va else if y = b then some vb else if y = c then some vc else if y = d then some vd else m y := by
  funext y
  by_cases h1 : y = a
  · rw [if_pos h1, h1, ha]
  · rw [if_neg h1]
    by_cases h2 : y = b
    · rw [if_pos h2, h2, hb]
    · rw [if_neg h2]
      by_cases h3 : y = c
      · rw [if_pos h3, h3, hc]
      · rw [if_neg h3]
        by_cases h4 : y = d
        · rw [if_pos h4, h4, hd]
        · rw [if_neg h4]
theorem sub1 {α : Type} {a : α} {l k : List α} : ∀ p ∈ a :: l, p ∈ a :: (l ++ k) := fun p hp => by
  rcases List.mem_cons.mp hp with rfl | hp
  · exact .head _
  · exact .tail _ (List.mem_append.mpr (.inl hp))
theorem sub2 {α : Type} {a : α} {l k : List α} : ∀ p ∈ k, p ∈ a :: (l ++ k) := fun p hp => .tail _ (List.mem_append.mpr (.inr hp))
theorem stripJ_mk {x : Str} {t : Tok} {r : Addr} {news nx : List (Addr × Obj)} {i n : Nat} {m : Str → Option Value} {vs : List Value} {st : Nat} {op : Option Nat} {res : List Str} {ov : Value} {ts : Tok} (e : stripAt x i = (st, op, res))
    (h1 : m (Str.ofString "open_pos") = some ov) (h2 : m (Str.ofString "start") = some (.int (st : Int) ts)) (h3 : m (Str.ofString "result") = some (.ref r)) (h4 : m (Str.ofString "addr") = some (.str x t))
    (hop : opV op ov) (hcar : StrsAre vs res) (hnx : nx = (r, listOf vs.toArray n) :: news) : stripJ x t r news i m nx := by
  unfold stripJ
  rw [e]
  exact ⟨ts, ov, vs, n, m, hop, hcar, norm4 h1 h2 h3 h4, hnx⟩
theorem strip_len (x : Str) : ∀ i, (stripAt x i).2.2.length ≤ i
  | 0 => by simp [stripAt]
  | i + 1 => by
    have h := strip_len x i
    unfold stripAt
    split
    · unfold stripStep
      split
      · split
        · exact Nat.le_succ_of_le h
        · split
          · exact Nat.le_succ_of_le h
          · simp; exact h
      · exact Nat.le_succ_of_le h
    · exact Nat.le_succ_of_le h
theorem strip_each (x : Str) : ∀ i, ∀ y ∈ (stripAt x i).2.2, y.length ≤ x.length
  | 0 => by simp [stripAt]
  | i + 1 => by
    have h := strip_each x i
    unfold stripAt
    split
    · unfold stripStep
      split
      · split
        · exact h
        · split
          · exact h
          · intro y hy
            rcases List.mem_append.mp hy with hy | hy
            · exact h y hy
            · rw [List.mem_singleton.mp hy]; exact Txt.slice_le ..
      · exact h
    · exact h
theorem strip_sum (x : Str) (hx : x.length < 1000) : ((stripEnd x (stripAt x x.cps.size)).map (·.length)).sum + (stripEnd x (stripAt x x.cps.size)).length * (Str.ofString "").length ≤ 16777216 := by
  have h1 : ∀ y ∈ stripEnd x (stripAt x x.cps.size), y.length ≤ 1000 := by
    intro y hy
    unfold stripEnd at hy
    have h0 := strip_each x x.cps.size
    split at hy
    · rcases List.mem_append.mp hy with hy | hy
      · exact Nat.le_trans (h0 y hy) (Nat.le_of_lt hx)
      · rw [List.mem_singleton.mp hy]; exact Nat.le_trans (Txt.slice_le ..) (Nat.le_of_lt hx)
    · exact Nat.le_trans (h0 y hy) (Nat.le_of_lt hx)
  have h2 := StrLaws.sumLen_le _ h1
  have h3 : (stripEnd x (stripAt x x.cps.size)).length ≤ 1001 := by
    have h4 := strip_len x x.cps.size
    have h5 : x.length = x.cps.size := rfl
    unfold stripEnd
    split
    · simp only [List.length_append, List.length_singleton]; omega
    · omega
  have h6 : (Str.ofString "").length = 0 := by decide +kernel
  rw [h6]
  omega
theorem strip_c {w : World} {p : Program} {loose : List Str} {mean : ExcName → Option Value} {mg mb : Str → Option Value}
    {dp un : Nat} {gd : Option (List Code)} {cn : Str} {cs : Scope} {a : Addr} {ccd : Value} {cl : List (Str × Addr)} {outer : List Env} {A₀ : Around} {base h₀ : Heap} {L : Addr} {m : Str → Option Value} {s : Shared} {Q E : Value → Shared → Prop}
    {news : List (Addr × Obj)} {x : Str} {t : Tok}
    (B : Below A₀ base outer h₀) (F : Fr h₀ L s.heap m) (X : (hd.heap_39 w.params).In h₀) (N : News h₀ L s.heap news)
    (T : Top p loose mean mg mb h₀) (hk : cs.kind = .function) (hdp : dp + 1 < recursionLimit) (hun : un + 8 < cLine)
    (hb : AllBare s.gens) (hlen : x.length < 1000) (hx : Plain x)
    (hret : ∀ (t' : Tok) (h' : Heap) (tk' : Nat) (gs : Array GenState), AllBare gs → Fr h₀ L h' m → News h₀ L h' news → Q (.str (stripF x) t') { s with heap := h', toks := tk', gens := gs }) :
    wpAny (model Challenge.rw_pe0076_01.row.prog w) (ktrTop dp un gd cn cs L a ccd cl outer) (call (.ref 77) [.str x t]) Q E s := by
  revert X; k_fill; intro X
  refine wpAny_call ?_
  k_dflt cell_enter
  k_steps
  · rename (Builtin.Str.occurrences x _ _ _ _).isEmpty = true => hocc
    have e : stripF x = x := by unfold stripF; rw [if_pos hocc]
    have hr := hret t
    rw [e] at hr
    exact hr _ _ _ hb (by assumption) (by assumption)
  · rename_i hocc _ _ _ r _ hl1 _ F' N'
    refine iter_for (x := x) (t := t) (stripJ x t r news) F' (by assumption) N' (by assumption) rfl ?hroom hx hb ?hma ?hj ?turn ?done rfl rfl rfl rfl rfl (by decide +kernel)
    case hroom => dsimp only [Around.deeper]; omega
    case hma => rfl
    case hj => exact ⟨_, _, [], 0, _, rfl, .nil, norm4 rfl rfl rfl rfl, rfl⟩
    case turn =>
      intro i c u1 u2 m₁ nx own h tk gs hc hmap hoff hJ hbare F₁ N₁
      obtain ⟨ts, ov, vs, n, mm, hov, hcar, rfl, rfl⟩ := hJ
      have hne : ∀ q ∈ news ++ own, q.1 ≠ r := by
        intro q hq
        rcases List.mem_append.mp hq with hq | hq
        · exact Nat.ne_of_lt (hl1 q hq)
        · exact hoff q hq r (.head _)
      have hvl : vs.length ≤ 1000 := by
        have := hcar.len_eq
        have h2 := strip_len x i
        have h3 : i < x.cps.size := (Array.getElem?_eq_some_iff.mp hc).1
        have h4 : x.length = x.cps.size := rfl
        omega
      have hvz : vs.toArray.size ≤ sizeLine := by rw [List.size_toArray, sizeLine_eq]; omega
      rw [List.cons_append] at N₁
      by_cases hc34 : c = 34
      · subst hc34
        cases hop : (stripAt x i).2.1 with
        | none =>
          rw [hop] at hov
          obtain rfl : ov = .none := hov
          have hst : stripAt x (i + 1) = ((stripAt x i).1, some i, (stripAt x i).2.2) := by simp only [stripAt, hc, stripStep, if_true, hop]
          k_steps
          refine ⟨_, _, _, _, (r, listOf vs.toArray n) :: news, rfl, by assumption, by assumption, sub1, sub2, rfl, ?_⟩
          exact stripJ_mk hst rfl rfl rfl rfl ⟨_, rfl⟩ hcar rfl
        | some o =>
          rw [hop] at hov
          obtain ⟨to, rfl⟩ : ∃ to, ov = .int o to := hov
          k_steps
          · have hst : stripAt x (i + 1) = (i + 1, none, (stripAt x i).2.2 ++ [Txt.slice x (some ((stripAt x i).1 : Int)) (some (o : Int))]) := by simp only [stripAt, hc, stripStep, if_true, hop, if_neg (show ¬ (stripAt x i).1 = o by omega)]
            rename News _ _ _ _ => N₂
            rw [List.push_toArray] at N₂
            refine ⟨_, _, _, _, (r, listOf (vs ++ [_]).toArray (n + 1)) :: news, rfl, by assumption, by assumption, sub1, sub2, rfl, ?_⟩
            exact stripJ_mk hst rfl rfl rfl rfl rfl (hcar.append' (.cons _ _ .nil)) rfl
          · have hst : stripAt x (i + 1) = (i + 1, none, (stripAt x i).2.2) := by simp only [stripAt, hc, stripStep, if_true, hop, if_pos (show (stripAt x i).1 = o by omega)]
            refine ⟨_, _, _, _, (r, listOf vs.toArray n) :: news, rfl, by assumption, by assumption, sub1, sub2, rfl, ?_⟩
            exact stripJ_mk hst rfl rfl rfl rfl rfl hcar rfl
      · have hne : ((⟨#[c]⟩ : Str) == Str.ofString "\"") = false := by
          have e : Str.ofString "\"" = ⟨#[34]⟩ := by decide +kernel
          rw [e]
          exact Bool.eq_false_iff.mpr fun q => hc34 (by have := eq_of_beq q; simpa using this)
        have hst : stripAt x (i + 1) = stripAt x i := by simp only [stripAt, hc, stripStep, if_neg hc34]
        k_steps
        refine ⟨_, _, _, _, (r, listOf vs.toArray n) :: news, rfl, by assumption, by assumption, sub1, sub2, rfl, ?_⟩
        exact stripJ_mk hst rfl rfl rfl rfl hov hcar rfl
    case done =>
      intro m₁ nx h tk gs hJ F₁ N₁ hbare hmap
      obtain ⟨ts, ov, vs, n, mm, hov, hcar, rfl, rfl⟩ := hJ
      have hne : ∀ q ∈ news, q.1 ≠ r := fun q hq => Nat.ne_of_lt (hl1 q hq)
      have hlen' : x.length = x.cps.size := rfl
      have hvl : vs.length ≤ 1000 := by
        have := hcar.len_eq
        have h2 := strip_len x x.cps.size
        omega
      have hvz : vs.toArray.size ≤ sizeLine := by rw [List.size_toArray, sizeLine_eq]; omega
      have hF : stripF x = Txt.join (Str.ofString "") (stripEnd x (stripAt x x.cps.size)) := by unfold stripF; rw [if_neg (by rw [hocc]; exact Bool.false_ne_true)]
      k_steps
      · have he : stripEnd x (stripAt x x.cps.size) = (stripAt x x.cps.size).2.2 ++ [Txt.slice x (some ((stripAt x x.cps.size).1 : Int)) none] := by unfold stripEnd; rw [if_pos (by omega)]
        rename News _ _ _ _ => N₂
        rw [List.push_toArray] at N₂
        refine join_list (ys := stripEnd x (stripAt x x.cps.size)) (News.isList N₂ (.head _)) (by rw [he]; exact hcar.append' (.cons _ _ .nil)) (strip_sum x hlen) fun t' k => ?_
        k_steps
        rename News _ _ _ _ => kN
        rw [← hF]
        exact hret _ _ _ _ hbare (by assumption) (fun q hq => kN q (.tail _ hq))
      · have he : stripEnd x (stripAt x x.cps.size) = (stripAt x x.cps.size).2.2 := by unfold stripEnd; rw [if_neg (by omega)]
        refine join_list (ys := stripEnd x (stripAt x x.cps.size)) (News.isList N₁ (.head _)) (by rw [he]; exact hcar) (strip_sum x hlen) fun t' k => ?_
        k_steps
        rename News _ _ _ _ => kN
        rw [← hF]
        exact hret _ _ _ _ hbare (by assumption) (fun q hq => kN q (.tail _ hq))
end Mine
-- part S4
namespace Mine
theorem fresh_S4 : True := by
  w_top off
  trivial
def parenStep (n : Int) (c : Nat) : Option Int := if c = 40 then some (n + 1) else if c = 41 then (if n - 1 < 0 then none else some (n - 1)) else some n
def parenAt (y : Str) : Nat → Option Int
  | 0 => some 0
  | i + 1 => match y.cps[i]? with
    | some c => (parenAt y i).bind fun n => parenStep n c
    | none => parenAt y i
def checkF (x : Str) : Bool := decide (parenAt (stripF x) (stripF x).cps.size = some 0)
theorem paren_none {y : Str} {i : Nat} (h : parenAt y i = none) : ∀ k, parenAt y (i + k) = none
  | 0 => h
  | k + 1 => by
    have ih := paren_none h k
    show parenAt y (i + k + 1) = none
    unfold parenAt
    split
    · rw [ih]; rfl
    · exact ih
def checkJ (y : Str) (news : List (Addr × Obj)) (i : Nat) (m : Str → Option Value) (nx : List (Addr × Obj)) : Prop :=
  ∃ (n : Int) (tn t : Tok) (mm : Str → Option Value), parenAt y i = some n ∧ m = (fun z => if z = Str.ofString "opens" then some (.int n tn) else if z = Str.ofString "addr" then some (.str y t) else mm z) ∧ nx = news
theorem norm2 {m : Str → Option Value} {a b : Str} {va vb : Value} (ha : m a = some va) (hb : m b = some vb) :
    m = fun y => if y = a then some va else if y = b then some vb else m y := by
  funext y
  by_cases h1 : y = a
  · rw [if_pos h1, h1, ha]
  · rw [if_neg h1]
    by_cases h2 : y = b
    · rw [if_pos h2, h2, hb]
    · rw [if_neg h2]
theorem sign_ne {c k : Nat} {b : Str} (hb : b = ⟨#[k]⟩) (h : c ≠ k) : ((⟨#[c]⟩ : Str) == b) = false := by
  subst hb
  exact Bool.eq_false_iff.mpr fun q => h (by have := eq_of_beq q; simpa using this)
local macro_rules | `(tactic| walk_at "call ref") => `(tactic| (k_here; (with_reducible show wpAny _ _ (call (Value.ref 77) [Value.str _ _]) _ _ _); k_dflt (refine' strip_c ?kB ?kF ?kX ?kN ?kT ?kk ?kd ?ku ?hb ?hl ?hx ?_; (case kB => k_asm); (case kF => k_asm); (case kX => k_asm); (case kN => k_asm); (case kT => k_asm); (case kk => first | exact rfl | assumption); (case kd => ktr_room); (case ku => ktr_units); (case hb => assumption); (case hl => assumption); (case hx => assumption); k_whole; intro t9 h9 tk9 gs9 hb9 F9 N9; (try dsimp only); (try k_fold))))
theorem check_c {w : World} {p : Program} {loose : List Str} {mean : ExcName → Option Value} {mg mb : Str → Option Value}
    {dp un : Nat} {gd : Option (List Code)} {cn : Str} {cs : Scope} {a : Addr} {ccd : Value} {cl : List (Str × Addr)} {outer : List Env} {A₀ : Around} {base h₀ : Heap} {L : Addr} {m : Str → Option Value} {s : Shared} {Q E : Value → Shared → Prop}
    {news : List (Addr × Obj)} {x : Str} {t : Tok}
    (B : Below A₀ base outer h₀) (F : Fr h₀ L s.heap m) (X : (hd.heap_39 w.params).In h₀) (N : News h₀ L s.heap news)
    (T : Top p loose mean mg mb h₀) (hk : cs.kind = .function) (hdp : dp + 2 < recursionLimit) (hun : un + 16 < cLine)
    (hb : AllBare s.gens) (hlen : x.length < 1000) (hx : Plain x) (hy : Plain (stripF x)) (hylen : (stripF x).length < 1000)
    (hret : ∀ (h' : Heap) (tk' : Nat) (gs : Array GenState), AllBare gs → Fr h₀ L h' m → News h₀ L h' news → Q (.bool (checkF x)) { s with heap := h', toks := tk', gens := gs }) :
    wpAny (model Challenge.rw_pe0076_01.row.prog w) (ktrTop dp un gd cn cs L a ccd cl outer) (call (.ref 84) [.str x t]) Q E s := by
  revert X; k_fill; intro X
  refine wpAny_call ?_
  k_dflt cell_enter
  k_steps
  rename AllBare _ => hb9
  rename Fr _ _ _ _ => F'
  rename News _ _ _ _ => N'
  refine' iter_for (x := stripF x) (checkJ (stripF x) news) F' (by assumption) N' (by assumption) rfl ?hroom hy hb9 ?hma ?hj ?turn ?done rfl rfl rfl rfl rfl ?hda
  case hda => decide +kernel
  case hma => exact rfl
  case hroom => dsimp only [Around.deeper]; omega
  case hj => exact ⟨0, _, _, _, rfl, norm2 rfl rfl, rfl⟩
  case turn =>
    intro i c u1 u2 m₁ nx own h tk gs hc hmap hoff hJ hbare F₁ N₁
    obtain ⟨n, tn, t1, mm, hp, rfl, rfl⟩ := hJ
    have hlt : i < (stripF x).cps.size := (Array.getElem?_eq_some_iff.mp hc).1
    have hst : parenAt (stripF x) (i + 1) = parenStep n c := by simp only [parenAt, hc, hp, Option.bind_some]
    by_cases h40 : c = 40
    · subst h40
      have hst' : parenAt (stripF x) (i + 1) = some (n + 1) := hst
      k_steps
      exact ⟨_, _, _, _, nx, rfl, by assumption, by assumption, fun q hq => List.mem_append_left _ hq, fun q hq => List.mem_append_right _ hq, rfl, n + 1, _, _, _, hst', norm2 rfl rfl, rfl⟩
    · have e40 : ((⟨#[c]⟩ : Str) == Str.ofString "(") = false := sign_ne (k := 40) (by decide +kernel) h40
      by_cases h41 : c = 41
      · subst h41
        k_steps
        · have hst' : parenAt (stripF x) (i + 1) = none := by
            rw [hst]
            unfold parenStep
            rw [if_neg (by decide), if_pos rfl, if_pos (by assumption)]
          have hF : checkF x = false := by
            have h1 := paren_none hst' ((stripF x).cps.size - (i + 1))
            rw [show i + 1 + ((stripF x).cps.size - (i + 1)) = (stripF x).cps.size by omega] at h1
            unfold checkF
            rw [h1]; rfl
          rename Fr _ _ _ _ => F3
          rename News _ _ _ _ => N3
          dsimp only [GPost]
          rw [hF] at hret
          exact leaveK_ F3 N3 fun F2 N2 => hret _ _ _ hbare F2 fun q hq => N2 q (List.mem_append_left _ hq)
        · have hst' : parenAt (stripF x) (i + 1) = some (n - 1) := by
            rw [hst]
            unfold parenStep
            rw [if_neg (by decide), if_pos rfl, if_neg (by assumption)]
          exact ⟨_, _, _, _, nx, rfl, by assumption, by assumption, fun q hq => List.mem_append_left _ hq, fun q hq => List.mem_append_right _ hq, rfl, n - 1, _, _, _, hst', norm2 rfl rfl, rfl⟩
      · have e41 : ((⟨#[c]⟩ : Str) == Str.ofString ")") = false := sign_ne (k := 41) (by decide +kernel) h41
        have hst' : parenAt (stripF x) (i + 1) = some n := by
          rw [hst]
          unfold parenStep
          rw [if_neg h40, if_neg h41]
        k_steps
        exact ⟨_, _, _, _, nx, rfl, by assumption, by assumption, fun q hq => List.mem_append_left _ hq, fun q hq => List.mem_append_right _ hq, rfl, n, _, _, _, hst', norm2 rfl rfl, rfl⟩
  case done =>
    intro m₁ nx h tk gs hJ F₁ N₁ hbare hmap
    obtain ⟨n, tn, t1, mm, hp, rfl, rfl⟩ := hJ
    have hF : checkF x = (n == 0) := by
      unfold checkF
      rw [hp]
      by_cases h0 : n = 0
      · subst h0; rfl
      · rw [decide_eq_false (by simpa using h0)]
        exact (beq_eq_false_iff_ne.mpr h0).symm
    rw [hF] at hret
    k_steps
    exact hret _ _ _ hbare (by assumption) (by assumption)
end Mine
-- part LL
set_option maxHeartbeats 1000000
namespace Mine
theorem fresh_LL : True := by
  w_top off
  trivial
def LEnd (h₀ : Heap) (L : Addr) (J : (Str → Option Value) → List (Addr × Obj) → Prop) (own : List (Addr × Obj)) (s₁ s₂ : Shared) : Prop :=
  ∃ h' tk gs m' news' nx, s₂ = { s₁ with heap := h', toks := tk, gens := gs } ∧ AllBare gs ∧ Fr h₀ L h' m' ∧ News h₀ L h' news' ∧ (∀ p ∈ nx, p ∈ news') ∧ (∀ p ∈ own, p ∈ news') ∧ OwnOff own (nx.map (·.1)) ∧ J m' nx
def LPost (h₀ : Heap) (L : Addr) (J : (Str → Option Value) → List (Addr × Obj) → Prop) (own : List (Addr × Obj)) (s₁ : Shared) (Q : Flow → Shared → Prop) (f : Flow) (s₂ : Shared) : Prop :=
  match f with
  | .ret v => Q (.ret v) s₂
  | .brk => Q .next s₂
  | _ => LEnd h₀ L J own s₁ s₂
/-- a for over a list of the ledger's, by an invariant over the frame's names and the ledger -/
theorem list_loop {prog : Program} {w : World} {A : Around} {E : Value → Shared → Prop} {s : Shared} {env : Env} {h₀ : Heap} {xv : Str} {p1 : Pos} {body : List Stmt} {Q : Flow → Shared → Prop}
    {m₀ : Str → Option Value} {news : List (Addr × Obj)} {l : Addr} {vs : List Value} {n : Nat} (J : Nat → (Str → Option Value) → List (Addr × Obj) → Prop)
    (hh : A.handled = none) (hxv : env.kindOf xv = some .local) (hkf : env.scope.kind = .function)
    (F : Fr h₀ env.locals s.heap m₀) (N : News h₀ env.locals s.heap news) (hj : J 0 m₀ news) (hbare : AllBare s.gens)
    (hl : ∀ i m nx, J i m nx → (l, listOf vs.toArray n) ∈ nx)
    (turn : ∀ (i : Nat) (v : Value) (m₁ : Str → Option Value) (nx own : List (Addr × Obj)) (h : Heap) (tk : Nat) (gs : Array GenState), vs[i]? = some v → OwnOff own (nx.map (·.1)) → J i m₁ nx → AllBare gs →
      Fr h₀ env.locals h (fun y => if y = xv then some v else m₁ y) → News h₀ env.locals h (nx ++ own) →
      wpAny (model prog w) A (execs body env) (LPost h₀ env.locals (J (i + 1)) own { s with heap := h, toks := tk, gens := gs } Q) (fun _ _ => False) { s with heap := h, toks := tk, gens := gs })
    (done : ∀ m₁ nx h tk gs, J vs.length m₁ nx → Fr h₀ env.locals h m₁ → News h₀ env.locals h nx → AllBare gs → Q .next { s with heap := h, toks := tk, gens := gs }) :
    wpAny (model prog w) A (pyIter (.ref l)) (fun it s₂ => codeAny (model prog w) A (.forLoop (.Name xv p1) it body [] env) (fun r s' => match r with | .ok f => Q f s' | .error e => cameBackBy (model prog w) A env E e s') s₂) E s := by
  have hcl : (env.scope.kind == .class || (env.scope.kind == .module && env.locals != env.globals)) = false := by rw [hkf]; rfl
  have hl₀ : s.heap.IsList l vs.toArray := ⟨_, (N _ (hl _ _ _ hj)).1, rfl, _, rfl⟩
  refine wpAny_pyIter_list hl₀ ?_
  generalize hit : s.heap.objs.size = it
  have new : h₀.get? it = none := by
    cases e : h₀.get? it with
    | none => rfl
    | some o => exact absurd (Heap.lt_size (F.keep _ _ e)) (by rw [hit]; exact Nat.lt_irrefl _)
  have hLi : it ≠ env.locals := by rw [← hit]; exact Nat.ne_of_gt F.ns.lt
  refine codeAny_forLoop (fun q s' => ∃ i h tk gs m₁ nx, i ≤ vs.length ∧ q = vs.length + 1 - i ∧ s' = { s with heap := h, toks := tk, gens := gs } ∧ AllBare gs ∧ Fr h₀ env.locals h m₁ ∧ News h₀ env.locals h nx ∧ (∀ p ∈ nx, p.1 ≠ it) ∧ J i m₁ nx ∧ h.IsListIter it l i) ?_ (vs.length + 1)
    ⟨0, _, s.toks, s.gens, m₀, news, Nat.zero_le _, rfl, rfl, hbare, F.push _, fun p hp => ⟨Heap.get?_push_of_some _ (N p hp).1, (N p hp).2⟩, fun p hp => Nat.ne_of_lt (hit ▸ Heap.lt_size (N p hp).1), hj, ⟨_, hit ▸ Heap.get?_push_size _ rfl, rfl, rfl⟩⟩
  rintro q s' ⟨i, H, tk, gs, m₁, nx, hi, rfl, rfl, hb, F₁, N₁, hoff, hJ, hI⟩
  have hL : H.IsList l vs.toArray := ⟨_, (N₁ _ (hl _ _ _ hJ)).1, rfl, _, rfl⟩
  cases hv : vs[i]? with
  | none =>
    have hi' : i = vs.length := Nat.le_antisymm hi (by simpa using hv)
    subst hi'
    refine wpAny_pyNext_list_end hh hI hL (by simp) fun h' hx => wpAny_execs_nil ?_
    have F₂ : Fr h₀ env.locals h' m₁ := ⟨F₁.ns.extBut hx (Ne.symm hLi), fun b o e => hx b o (fun q => by rw [q, new] at e; cases e) (F₁.keep b o e), F₁.above⟩
    exact done m₁ nx h' tk gs hJ F₂ (fun p hp => ⟨hx _ _ (hoff p hp) (N₁ p hp).1, (N₁ p hp).2⟩) hb
  | some v =>
    have hlt : i < vs.length := (List.getElem?_eq_some_iff.mp hv).1
    refine wpAny_pyNext_list_item hI hL (x := v) (by simpa using hv) fun h₁ hI₁ hs₁ => ?_
    replace hs₁ : Heap.SameBut it H h₁ := hs₁
    obtain ⟨oI, hoI, rI⟩ := id hI₁
    have F₂ : Fr h₀ env.locals h₁ m₁ := ⟨F₁.ns.sameBut hs₁ (Ne.symm hLi), fun b o e => (hs₁.2 b (fun q => by rw [q, new] at e; cases e)).trans (F₁.keep b o e), F₁.above⟩
    have N₂ : News h₀ env.locals h₁ (nx ++ [(it, oI)]) := fun p hp => by
      rcases List.mem_append.mp hp with hp | hp
      · exact ⟨(hs₁.2 _ (hoff p hp)).trans (N₁ p hp).1, (N₁ p hp).2⟩
      · rw [List.mem_singleton.mp hp]; exact ⟨hoI, hLi, new⟩
    refine wpAny_assign_Name (wpAny_storeName_local hxv F₂.ns (fun h₂ hn₂ hs₂ => ?_) hcl)
    have hown : OwnOff [(it, oI)] (nx.map (·.1)) := by
      intro p hp b hb e
      obtain ⟨q, hq, rfl⟩ := List.mem_map.mp hb
      rw [List.mem_singleton.mp hp] at e
      exact hoff q hq e.symm
    refine wpAny_mono (turn i v m₁ nx [(it, oI)] h₂ _ gs hv hown hJ hb (F₂.set hn₂ hs₂) (N₂.set hs₂)) (fun f s₂ hf => ?_) fun _ _ hx => hx.elim
    cases f with
    | ret v => exact hf
    | brk => exact hf
    | _ =>
      obtain ⟨h', tk', gs', m', news', nx', rfl, hb', F', N', hn', ho', hoff', hJ'⟩ := hf
      refine ⟨vs.length + 1 - (i + 1), by omega, i + 1, h', tk', gs', m', nx', hlt, rfl, rfl, hb', F', fun p hp => N' p (hn' p hp), fun p hp e => hoff' (it, oI) (.head _) p.1 (List.mem_map_of_mem hp) e.symm, hJ', ⟨oI, (N' _ (ho' _ (.head _))).1, rI⟩⟩
end Mine
-- part S5
set_option maxHeartbeats 8000000
namespace Mine
theorem fresh_S5 : True := by
  w_top off
  trivial
def Halt (P : Prop) : Prop := P
theorem halt_out {P : Prop} (h : Halt P) : P := h
def validF (x : Str) : Str := if checkF x = true then x else Str.ofString "('', '')"
/-- what the check asks of a text -/
structure Fine (x : Str) : Prop where
  len : x.length < 1000
  plain : Plain x
  plainS : Plain (stripF x)
  lenS : (stripF x).length < 1000
def preJ (fl r : Addr) (vs : List Value) (n : Nat) (xs : List Str) (news : List (Addr × Obj)) (i : Nat) (m : Str → Option Value) (nx : List (Addr × Obj)) : Prop :=
  ∃ (ws : List Value) (k : Nat) (mm : Str → Option Value), StrsAre ws ((xs.take i).map validF) ∧ m = (fun z => if z = Str.ofString "accepted_values" then some (.ref r) else if z = Str.ofString "email_header_fields" then some (.ref fl) else mm z) ∧ nx = (r, listOf ws.toArray k) :: news
local macro_rules | `(tactic| walk_at "exec For Name Name cons nil") => `(tactic| (k_here; refine halt_out ?_))
local macro_rules | `(tactic| walk_at "call ref") => `(tactic| (k_here; (with_reducible show wpAny _ _ (call (Value.ref 84) [Value.str _ _]) _ _ _); k_dflt (refine' check_c ?kB ?kF ?kX ?kN ?kT ?kk ?kd ?ku ?hb (Fine.len ?hf) (Fine.plain ?hf) (Fine.plainS ?hf) (Fine.lenS ?hf) ?_; (case kB => k_asm); (case kF => k_asm); (case kX => k_asm); (case kN => k_asm); (case kT => k_asm); (case kk => first | exact rfl | assumption); (case kd => ktr_room); (case ku => ktr_units); (case hb => assumption); (case hf => assumption); k_whole; intro h9 tk9 gs9 hb9 F9 N9; (try dsimp only); (try k_fold))))
theorem pre_c {w : World} {p : Program} {loose : List Str} {mean : ExcName → Option Value} {mg mb : Str → Option Value}
    {dp un : Nat} {gd : Option (List Code)} {cn : Str} {cs : Scope} {a : Addr} {ccd : Value} {cl : List (Str × Addr)} {outer : List Env} {A₀ : Around} {base h₀ : Heap} {L : Addr} {m : Str → Option Value} {s : Shared} {Q E : Value → Shared → Prop}
    {news : List (Addr × Obj)} {fl : Addr} {vs : List Value} {n : Nat} {xs : List Str}
    (B : Below A₀ base outer h₀) (F : Fr h₀ L s.heap m) (X : (hd.heap_39 w.params).In h₀) (N : News h₀ L s.heap news)
    (T : Top p loose mean mg mb h₀) (hk : cs.kind = .function) (hdp : dp + 3 < recursionLimit) (hun : un + 24 < cLine)
    (hb : AllBare s.gens) (hfl : (fl, listOf vs.toArray n) ∈ news) (hvs : StrsAre vs xs) (hxs : ∀ x ∈ xs, Fine x) (hlen : xs.length < 1000)
    (hret : ∀ (r : Addr) (ws : List Value) (k : Nat) (h' : Heap) (tk' : Nat) (gs : Array GenState), AllBare gs → Fr h₀ L h' m → News h₀ L h' ((r, listOf ws.toArray k) :: news) → (∀ p ∈ news, p.1 < r) → StrsAre ws (xs.map validF) → Q (.ref r) { s with heap := h', toks := tk', gens := gs }) :
    wpAny (model Challenge.rw_pe0076_01.row.prog w) (ktrTop dp un gd cn cs L a ccd cl outer) (call (.ref 91) [.ref fl]) Q E s := by
  revert X; k_fill; intro X
  refine wpAny_call ?_
  k_dflt cell_enter
  k_steps
  rename_i r _ hl1 _ F' N'
  unfold Halt
  refine wpAny_For (ld F' (v := .ref fl) rfl ?_) (fun _ => rfl)
  refine list_loop (env := envOf _ _ _ _ _) (vs := vs) (n := n) (preJ fl r vs n xs news) rfl rfl rfl F' N' ?hj hb ?hl ?turn ?done
  case hj => exact ⟨[], 0, _, .nil, norm2 rfl rfl, rfl⟩
  case hl => rintro i m nx ⟨ws, k, mm, _, _, rfl⟩; exact .tail _ hfl
  case turn =>
    intro i v m₁ nx own h tk gs hv hoff hJ hbare F₁ N₁
    obtain ⟨ws, k, mm, hws, rfl, rfl⟩ := hJ
    obtain ⟨x, t, rfl, hx⟩ := hvs.item i v hv
    have hf : Fine x := hxs x (List.mem_of_getElem? hx)
    have hne : ∀ q ∈ news ++ own, q.1 ≠ r := by
      intro q hq
      rcases List.mem_append.mp hq with hq | hq
      · exact Nat.ne_of_lt (hl1 q hq)
      · exact hoff q hq r (.head _)
    have hwl : ws.length ≤ 1000 := by
      have h1 := hws.len_eq
      rw [List.length_map, List.length_take] at h1
      omega
    have hwz : ws.toArray.size ≤ sizeLine := by rw [List.size_toArray, sizeLine_eq]; omega
    have htk : (xs.take (i + 1)).map validF = (xs.take i).map validF ++ [validF x] := by rw [List.take_add_one, hx]; simp
    rw [List.cons_append] at N₁
    have hoff' : ∀ o : Obj, OwnOff own (((r, o) :: news).map (·.1)) := fun o => hoff
    k_steps
    · have hv' : validF x = x := by unfold validF; rw [if_pos (by assumption)]
      rename News _ _ _ _ => N₂
      rw [List.push_toArray] at N₂
      refine ⟨_, _, _, _, _, (r, listOf (ws ++ [_]).toArray (k + 1)) :: news, rfl, by assumption, by assumption, N₂, sub1, sub2, hoff' _, ?_⟩
      exact ⟨ws ++ [_], k + 1, _, by rw [htk, hv']; exact hws.append' (.cons _ _ .nil), norm2 rfl rfl, rfl⟩
    · have hv' : validF x = Str.ofString "('', '')" := by
        unfold validF
        rw [if_neg]
        simp_all
      rename News _ _ _ _ => N₂
      rw [List.push_toArray] at N₂
      refine ⟨_, _, _, _, _, (r, listOf (ws ++ [_]).toArray (k + 1)) :: news, rfl, by assumption, by assumption, N₂, sub1, sub2, hoff' _, ?_⟩
      exact ⟨ws ++ [_], k + 1, _, by rw [htk, hv']; exact hws.append' (.cons _ _ .nil), norm2 rfl rfl, rfl⟩
  case done =>
    intro m₁ nx h tk gs hJ F₁ N₁ hbare
    obtain ⟨ws, k, mm, hws, rfl, rfl⟩ := hJ
    rw [hvs.len_eq, List.take_length] at hws
    k_steps
    exact hret _ _ _ _ _ _ hbare (by assumption) (by assumption) hl1 hws
end Mine
-- part S6
namespace Mine
theorem fresh_S6 : True := by
  w_top off
  trivial
def innerF (b : Int) : Str := if b = 0 then Str.ofString "x" else if b = 1 then Str.ofString "(x)" else if b = 2 then Str.ofString ")" else Str.ofString "\")\""
def fieldF (x : Int) : Str := Str.ofString "\"" ++ Txt.mul (Str.ofString "a") (1 + (x.fdiv 4).fmod 4) ++ Str.ofString "\" (" ++ innerF (x.fmod 4) ++ Str.ofString ")"
def restF (x : Int) : Str := if x.fmod 4 = 0 then Str.ofString " (x)" else if x.fmod 4 = 1 then Str.ofString " ((x))" else if x.fmod 4 = 2 then Str.ofString "('', '')" else Str.ofString " ()"
theorem four (y : Int) : y.fmod 4 = 0 ∨ y.fmod 4 = 1 ∨ y.fmod 4 = 2 ∨ y.fmod 4 = 3 := by
  have h1 := Int.fmod_nonneg_of_pos y (b := 4) (by decide)
  have h2 := Int.fmod_lt_of_pos y (b := 4) (by decide)
  omega
theorem rest_c {w : World} {p : Program} {loose : List Str} {mean : ExcName → Option Value} {mg mb : Str → Option Value}
    {dp un : Nat} {gd : Option (List Code)} {cn : Str} {cs : Scope} {a : Addr} {ccd : Value} {cl : List (Str × Addr)} {outer : List Env} {A₀ : Around} {base h₀ : Heap} {L : Addr} {m : Str → Option Value} {s : Shared} {Q E : Value → Shared → Prop}
    {news : List (Addr × Obj)} {x : Int} {t : Tok}
    (B : Below A₀ base outer h₀) (F : Fr h₀ L s.heap m) (X : (hd.heap_39 w.params).In h₀) (N : News h₀ L s.heap news)
    (T : Top p loose mean mg mb h₀) (hk : cs.kind = .function) (hdp : dp + 1 < recursionLimit) (hun : un + 8 < cLine)
    (hret : ∀ (t' : Tok) (h' : Heap) (tk' : Nat), Fr h₀ L h' m → News h₀ L h' news → Q (.str (restF x) t') { s with heap := h', toks := tk' }) :
    wpAny (model Challenge.rw_pe0076_01.row.prog w) (ktrTop dp un gd cn cs L a ccd cl outer) (call (.ref 105) [.int x t]) Q E s := by
  revert X; k_fill; intro X
  refine wpAny_call ?_
  k_dflt cell_enter
  k_steps
  unfold restF at hret
  rcases four x with hb | hb | hb | hb <;> rw [hb] at hret ⊢ <;> k_steps
  all_goals (rename News _ _ _ (_ :: _) => kN; exact hret _ _ _ (by assumption) fun q hq => kN q (.tail _ hq))
theorem field_c {w : World} {p : Program} {loose : List Str} {mean : ExcName → Option Value} {mg mb : Str → Option Value}
    {dp un : Nat} {gd : Option (List Code)} {cn : Str} {cs : Scope} {a : Addr} {ccd : Value} {cl : List (Str × Addr)} {outer : List Env} {A₀ : Around} {base h₀ : Heap} {L : Addr} {m : Str → Option Value} {s : Shared} {Q E : Value → Shared → Prop}
    {news : List (Addr × Obj)} {x : Int} {t : Tok}
    (B : Below A₀ base outer h₀) (F : Fr h₀ L s.heap m) (X : (hd.heap_39 w.params).In h₀) (N : News h₀ L s.heap news)
    (T : Top p loose mean mg mb h₀) (hk : cs.kind = .function) (hdp : dp + 1 < recursionLimit) (hun : un + 8 < cLine)
    (hret : ∀ (t' : Tok) (h' : Heap) (tk' : Nat), Fr h₀ L h' m → News h₀ L h' news → Q (.str (fieldF x) t') { s with heap := h', toks := tk' }) :
    wpAny (model Challenge.rw_pe0076_01.row.prog w) (ktrTop dp un gd cn cs L a ccd cl outer) (call (.ref 98) [.int x t]) Q E s := by
  revert X; k_fill; intro X
  have h4 := four (x.fdiv 4)
  have hm1 : (Txt.mul (Str.ofString "a") (1 + (x.fdiv 4).fmod 4)).length ≤ 4 := by
    rcases h4 with h | h | h | h <;> rw [h] <;> decide +kernel
  refine wpAny_call ?_
  k_dflt cell_enter
  k_steps
  unfold fieldF innerF at hret
  rcases four x with hb | hb | hb | hb <;> rw [hb] at hret ⊢ <;> k_steps
  all_goals (rename News _ _ _ (_ :: _) => kN; exact hret _ _ _ (by assumption) fun q hq => kN q (.tail _ hq))
end Mine
-- part L3
namespace Mine
theorem fresh_L3 : True := by
  w_top off
  trivial
/-- what the law's call is to end in -/
def LawPost (tabs : List (Addr × Addr)) (s₁ : Shared) (r : Result) (s' : Shared) : Prop :=
  r = .ok (.ret (.bool true)) ∧ (∀ b o, (ghostOf s₁.heap tabs).get? b = some o → s'.heap.get? b = some o) ∧ s'.os = s₁.os ∧ AllBare s'.gens ∧ GrownAll tabs s'.heap
theorem law_post {M : Model} {A : Around} {cd : Code} {s s₁ : Shared} {cw : ClaimW} {cl : Str → Option Addr} {mean : ExcName → Option Value} {args : List WData} {tabs : List (Addr × Addr)} (hT : TabsAt tabs s₁.heap)
    (hr : ∀ x, cw.raises args x = false) (hp : cw.post args (.bool true) args = true)
    (h : codeAny M A cd (LawPost tabs s₁) s) : codeAny M A cd (GoodWG cw cl mean args s₁) s := by
  refine codeAny_mono h fun r s' ⟨e, hk, hos, hg, hgr⟩ => ?_
  subst e
  have keep : ∀ b o, b ∉ tabs.map (·.2) → s₁.heap.get? b = some o → s'.heap.get? b = some o := fun b o hb e => hk b o (ghost_ne e hb)
  have grown : ∀ b o, b ∈ tabs.map (·.2) → s₁.heap.get? b = some o → isCodeTable s₁.heap b ∧ o = tabObj #[] ∧ ∃ ps, s'.heap.get? b = some (tabObj ps) := fun b o hb e => by
    obtain ⟨q, hq, rfl⟩ := List.mem_map.mp hb
    have e2 := (hT q hq).2
    rw [e] at e2
    exact ⟨((hT q hq).1.tab (hT q hq).2).isCodeTable, Option.some.inj e2, hgr.get q hq⟩
  refine ⟨.inl ⟨_, _, [], rfl, hr, ReadsW.bool true, hp, fun _ => ⟨List.nodup_nil, fun _ hm => (nomatch hm)⟩⟩, ⟨fun b o e => ?_, fun b o e => ?_⟩, hos, hg⟩
  · by_cases hb : b ∈ tabs.map (·.2)
    · obtain ⟨ht, rfl, ps, hP⟩ := grown b o hb e
      exact .inr (.inl ⟨ht, rfl, #[], ps, rfl, by rw [Array.empty_append]; exact hP⟩)
    · exact .inl (keep b o hb e)
  · by_cases hb : b ∈ tabs.map (·.2)
    · obtain ⟨_, _, ps, hP⟩ := grown b o hb e
      exact ⟨_, hP⟩
    · exact ⟨o, keep b o hb e⟩
/-- the items of a comprehension, by an invariant over what is made and the ledger -/
theorem comp_rest {prog : Program} {w : World} {A : Around} {h₀ : Heap} {L : Addr} {m : Str → Option Value} {env : Env} {elt : Expr} {x : Str} {scope : Scope} {cl : List (Str × Addr)} {s : Shared} {S : List (Addr × Obj) → Prop} {P : Nat → Value → Prop} {Fin : List Value → List (Addr × Obj) → Prop} {news : List (Addr × Obj)}
    {n : Nat} (J : Nat → List Value → List (Addr × Obj) → Prop) (hj : J 0 [] news)
    (turn : ∀ i v I oI C oC D m₂ ys nw h tk (E' : Value → Shared → Prop), i < n → P i v → J i ys nw → LCg.NsObj oC m₂ → m₂ x = some v → Fr h₀ L h m → News h₀ L h ((I, oI) :: (C, oC) :: (D, LCg.lst ys) :: nw) → LCg.Off3 I C D nw → ((@Ne Nat I C) ∧ (@Ne Nat I D) ∧ (@Ne Nat C D)) →
      wpAny (model prog w) A (eval elt (compEnvC scope cl C env)) (LCg.CompEnd h₀ L m { s with heap := h, toks := tk } I oI C oC D (LCg.lst ys) S (fun y nw' => J (i + 1) (ys ++ [y]) nw')) E' { s with heap := h, toks := tk })
    (fin : ∀ ys nw, J n ys nw → Fin ys nw) : LCg.CompRest prog w A h₀ L m env elt x scope cl s S P Fin n 0 [] news := by
  have key : ∀ (j i : Nat) (ys : List Value) nw, i + j = n → J i ys nw → LCg.CompRest prog w A h₀ L m env elt x scope cl s S P Fin j i ys nw := by
    intro j
    induction j with
    | zero =>
      intro i ys nw hi hy
      obtain rfl : i = n := by omega
      exact LCg.CompRest.zero (fin ys nw hy)
    | succ j ih =>
      intro i ys nw hi hy
      refine LCg.CompRest.succ ?_
      intro v I oI C oC D m₂ h tk E' hv hC hx F N off ne
      refine wpAny_mono (turn i v I oI C oC D m₂ ys nw h tk E' (by omega) hv hy hC hx F N off ne) (fun y s₂ hq => ?_) fun _ _ e => e
      obtain ⟨h', tk', nw', e, F', N', off', hS, hn⟩ := hq
      exact ⟨h', tk', nw', e, F', N', off', hS, ih (i + 1) _ nw' (by omega) hn⟩
  exact key n 0 [] news (by omega) hj
end Mine
-- part A1
set_option maxHeartbeats 1000000
namespace Mine
theorem fresh_A1 : True := by
  w_top off
  trivial
theorem store_function : StoreFacts "function" [.type "function", .type "object"] "object.__setattr__" "object" where
  mro := by kernel_rfl
  slot := .of (owner := "object") (n := "__setattr__") (by rw [typeLookup_type, builtinLookup_eq_fast]; kernel_rfl) (by decide +kernel) (by decide +kernel) (by decide +kernel)
    (by first | exact .inl (by decide +kernel) | exact .inr (by decide +kernel)) (by rw [isSubtype_type]; kernel_rfl)
  entry := F.entry_object_sa
  kind := by decide +kernel
  split := by decide +kernel
  hasOwner := by decide +kernel
  args := fun a b c => by unfold argsOk; kernel_rfl
  passes := fun self => by kernel_rfl
theorem fn_write : typeLookup (.type "function") (Str.ofString "write") = pure none := by rw [typeLookup_type, builtinLookup_eq_fast]; kernel_rfl
theorem fn_ga : typeLookup (.type "function") "__getattribute__" = pure (some (.builtin "object.__getattribute__")) := by rw [typeLookup_type, builtinLookup_eq_fast]; kernel_rfl
theorem fn_gas : Slot "function" "__getattribute__" "object.__getattribute__" :=
  .of (owner := "object") (n := "__getattribute__") (by rw [typeLookup_type, builtinLookup_eq_fast]; kernel_rfl) (by decide +kernel) (by decide +kernel) (by decide +kernel)
    (by first | exact .inl (by decide +kernel) | exact .inr (by decide +kernel)) (by rw [isSubtype_type]; kernel_rfl)
theorem fn_gat : typeLookup (.type "function") "__getattr__" = pure none := by rw [typeLookup_type, builtinLookup_eq_fast]; kernel_rfl
open PySem.Builtin PySem.Builtin.ObjectAttr
section
variable {prog : Program} {w : World} {A : Around} {E : Value → Shared → Prop} {s : Shared} {x L : Addr} {h₀ : Heap} {m : Str → Option Value} {news : List (Addr × Obj)} {g : Obj → List (Addr × Obj)} {fd : FuncData} {v : Value}
/-- the object of a function with this dict -/
abbrev fnO (fd : FuncData) (d : Option Addr) : Obj := { cls := .type "function", dict := d, data := .func fd }
abbrev wrE (w : World) (tk : Tok) (v : Value) : DictEntry := ⟨PyData.keyHash w.params (Str.ofString "write"), .str (Str.ofString "write") tk, v⟩
theorem fn_set {Q : Unit → Shared → Prop} (F : Fr h₀ L s.heap m) (N : News h₀ L s.heap news) (U : UpdF x (fnO fd none) news g)
    (h : ∀ d tk h', Fr h₀ L h' m → News h₀ L h' ((d, dictOf [wrE w tk v] 1) :: g (fnO fd (some d))) → (∀ p ∈ news, p.1 < d) → Q () { s with heap := h', toks := s.toks + 2 }) :
    wpAny (model prog w) A (setAttr (.ref x) (Str.ofString "write") v) Q E s := by
  obtain ⟨pre, post, rfl, hg, a, b⟩ := U.split
  have SF := store_function
  have hx : s.heap.get? x = some (fnO fd none) := (N (x, fnO fd none) (by simp)).1
  have hT : ∀ tk, ({ s with toks := tk } : Shared).TypeIs (.ref x) "function" := fun tk => ⟨_, hx, rfl⟩
  refine wpAny_bind (wpAny_mkText (wpAny_bind (wpAny_bind (wpAny_bind (wpAny_typeOf (hT _) ?_)))))
  rw [SF.slot.lookup]
  refine wpAny_pure (wpAny_holding ?_)
  rw [SF.slot.bind]
  refine wpAny_bind (wpAny_pure (wpAny_bind (wpAny_call ?_)))
  refine codeAny_call_builtin SF.slot.plain SF.entry (SF.slot.check _ _ _ _ _ _ _ _ (hT _) (SF.args _ _ _) ?_)
  rw [List.singleton_append, osa_eq, refuse_eq]
  refine wpAny_bind (wpAny_bind (wpAny_typeOf (hT _) ?_))
  rw [SF.mro]
  refine wpAny_bind (wpAny_pure ?_)
  rw [SF.passes]
  refine wpAny_pure (wpAny_bind (wpAny_typeOf (hT _) ?_))
  rw [fn_write]
  refine wpAny_bind (wpAny_pure (wpAny_bind (wpAny_pure ?_)))
  show wpAny _ _ (storeInOwnDict _ _ _ _ _ _) _ _ _
  unfold storeInOwnDict
  refine wpAny_bind (wpAny_of_eq (show ownStreamTells (.ref x) (.type "function") = pure () from rfl) ?_)
  show wpAny _ _ (instanceDict x true >>= _) _ _ _
  unfold instanceDict
  refine wpAny_bind (wpAny_bind (wpAny_loadPart hx ?_))
  dsimp only [fnO]
  have e4 : typeHasDict (.type "function") = true := by decide +kernel
  rw [e4]
  simp only [Bool.not_true, Bool.or_self, Bool.false_eq_true, if_false]
  have hlt : ∀ p ∈ pre ++ (x, fnO fd none) :: post, p.1 < s.heap.objs.size := fun p hp => Heap.lt_size (N p hp).1
  have hdx : s.heap.objs.size ≠ x := Nat.ne_of_gt (hlt (x, fnO fd none) (by simp))
  have F1 := F.push (dictOf [] 0)
  have N1 : News h₀ L (s.heap.push (dictOf [] 0)) (((s.heap.objs.size, dictOf [] 0) :: pre) ++ (x, fnO fd none) :: post) := News.push F N (dictOf [] 0) rfl
  refine wpAny_bind (wpAny_alloc ?_)
  obtain ⟨F2, N2⟩ := news_upd (f := fun o => { o with dict := some s.heap.objs.size }) (o' := fnO fd (some s.heap.objs.size)) F1 N1 (fun p hp => by rcases List.mem_cons.mp hp with rfl | hp; exact hdx; exact a p hp) b rfl rfl
  refine wpAny_bind (wpAny_update (N1 (x, fnO fd none) (by simp)).1 ?_)
  have e5 : dictMade (.type "function") x s.heap.objs.size = pure (some s.heap.objs.size) := by
    have : finalisedInACycleAlone "function" = false := by decide +kernel
    unfold dictMade
    simp only [this, Bool.false_eq_true, if_false]
  rw [e5]
  refine wpAny_pure (wpAny_bind (wpAny_pure (wpAny_bind ?_)))
  unfold nsSet
  generalize hd : s.heap.objs.size = d at *
  have D := (N2 (d, dictOf [] 0) (by simp)).1
  obtain ⟨F3, N3⟩ := news_upd (pre := []) (o' := dictOf [wrE w (s.toks + 1) v] 1) (f := Obj.putName (Str.ofString "write") (PyData.keyHash w.params (Str.ofString "write")) (.str (Str.ofString "write") (s.toks + 1)) v) F2 N2 (fun _ h => nomatch h) (fun p hp => by
    rcases List.mem_append.mp hp with hp | hp
    · exact Nat.ne_of_lt (hlt p (List.mem_append_left _ hp))
    · rcases List.mem_cons.mp hp with rfl | hp
      · exact hdx.symm
      · exact Nat.ne_of_lt (hlt p (by simp [hp]))) (by rw [putName_dict]; rfl) rfl
  have D' := (N3 (d, dictOf [wrE w (s.toks + 1) v] 1) (by simp)).1
  refine wpAny_bind (wpAny_bind (wpAny_askSetting (wpAny_pure (wpAny_bind (wpAny_mkText (wpAny_bind (wpAny_loadPart D ?_)))))))
  dsimp only
  have c : ∀ (es : Array DictEntry) (name : Str), es = #[] → (!es.any (·.key.isStr name) && es.any (·.refKey)) = false := by rintro _ _ rfl; simp
  rw [aRefKeyMayBeTheName_at, c _ _ rfl]
  refine wpAny_updatePart D ?_
  refine wpAny_bind (wpAny_lookBehind D' (pastItsLine_dict (by rw [List.size_toArray, sizeLine_eq]; show 1 ≤ 16777216 + 1; decide)) ?_)
  refine wpAny_pure ?_
  exact wpAny_pure (wpAny_pure (h d (s.toks + 1) _ F3 (by rw [hg]; exact N3) hlt))
theorem fn_method {pl : Sem Bool} {Q : Value × List Value → Shared → Prop} {d f : Addr} {tk : Tok} {od : Obj} (hod : od = dictOf [wrE w tk (.ref f)] 1) (hx : s.heap.get? x = some (fnO fd (some d))) (hd : s.heap.get? d = some od)
    (h : Q (.ref f, []) { s with toks := s.toks + 1 }) : wpAny (model prog w) A (getMethod (.ref x) (Str.ofString "write") pl) Q E s := by
  have hlk := fn_gas.lookup
  have hcan : (Manifest.canonical "object.__getattribute__" != "object.__getattribute__") = false := by decide +kernel
  have hT : ∀ tk, ({ s with toks := tk } : Shared).TypeIs (.ref x) "function" := fun tk => ⟨_, hx, rfl⟩
  unfold getMethod
  refine wpAny_bind (wpAny_specialOf (hT _) hlk ?_)
  show wpAny _ _ (if (Manifest.canonical "object.__getattribute__" != "object.__getattribute__") = true then _ else _) _ _ _
  rw [if_neg (by rw [hcan]; decide)]
  refine wpAny_bind (wpAny_specialOf (hT _) fn_gat ?_)
  rw [if_neg (by decide)]
  refine wpAny_bind (wpAny_specialOf (hT _) fn_write ?_)
  dsimp only
  unfold getAttr getAttrBy
  refine wpAny_bind (wpAny_bind (wpAny_mkText (wpAny_holding (wpAny_bind (wpAny_typeOf (hT _) (wpAny_bind (wpAny_of_eq hlk ?_)))))))
  show wpAny _ _ (getAttrByItsOwn (.ref x) (.str (Str.ofString "write") s.toks) (.type "function") (.builtin "object.__getattribute__") true false) _ _ _
  unfold getAttrByItsOwn hookBefore callGetattribute boundAndCalled
  refine wpAny_bind (wpAny_of_eq (show (if onTheHeap (.type "function") then typeLookup (.type "function") "__getattr__" else pure none) = pure none from rfl) ?_)
  refine wpAny_bind (wpAny_attempt (wpAny_holding ?_))
  show wpAny _ _ (bindSpecial (.builtin "object.__getattribute__") (.ref x) >>= _) _ _ _
  refine wpAny_bind (wpAny_of_eq (fn_gas.bind _) ?_)
  refine wpAny_call_entry fn_gas (hT _) F.entry_object_getattribute ?_ (F.args_object_getattribute_2 _ _)
  show wpAny _ _ («object.__getattribute__» ⟨[.ref x, .str (Str.ofString "write") s.toks], []⟩) _ _ _
  unfold «object.__getattribute__»
  refine wpAny_bind (wpAny_of_eq (show slotArgs "__getattribute__" 1 ⟨[.ref x, .str (Str.ofString "write") s.toks], []⟩ = pure (.ref x, [.str (Str.ofString "write") s.toks]) from rfl) ?_)
  dsimp only
  refine wpAny_bind (wpAny_of_eq (show attrName (.str (Str.ofString "write") s.toks) = pure (Str.ofString "write") from rfl) ?_)
  refine wpAny_bind (wpAny_typeOf (hT _) (wpAny_bind ?_))
  unfold find
  rw [fn_write]
  refine wpAny_bind (wpAny_pure (wpAny_bind (wpAny_pure (wpAny_bind (wpAny_pure ?_)))))
  show wpAny _ _ (ownThenClass _ _ _ _) _ _ _
  unfold ownThenClass
  refine wpAny_bind ?_
  show wpAny _ _ (ObjectAttr.ownDict x >>= inDict (Str.ofString "write")) _ _ _
  unfold ObjectAttr.ownDict
  show wpAny _ _ ((loadPart x (some headPart) >>= _) >>= _) _ _ _
  refine wpAny_bind (wpAny_bind (wpAny_loadPart hx ?_))
  show wpAny _ _ (instanceDict x false) _ _ _
  unfold instanceDict
  refine wpAny_bind (wpAny_loadPart hx ?_)
  dsimp only [fnO]
  refine wpAny_pure ?_
  show wpAny _ _ (nsGet d _) _ _ _
  unfold nsGet
  refine wpAny_bind (wpAny_loadPart hd ?_)
  rw [nsLook_of (r := some (.ref f)) (by rw [hod, lookIn_dict]; rfl)]
  refine wpAny_pure ?_
  refine wpAny_bind (wpAny_rule (wpAny_pure ?_))
  refine wpAny_pure ⟨_, rfl, ?_⟩
  exact wpAny_pure (wpAny_pure h)
end
end Mine
-- part A2
set_option maxHeartbeats 8000000
namespace Mine
theorem fresh_A2 : True := by
  w_top off
  trivial
local macro_rules | `(tactic| walk_at "call builtin:list.extend") => `(tactic| (k_here; refine halt_out ?_))
theorem str_empty_of_len {x : Str} (h : x.length = 0) : x = Str.empty := by
  obtain ⟨c⟩ := x
  have : c = #[] := Array.eq_empty_of_size_eq_zero h
  rw [this]; rfl
theorem updF_upd {d : Addr} {o o' : Obj} : ∀ {l : List (Addr × Obj)} {g : Obj → List (Addr × Obj)}, UpdF d o l g → Upd d o o' l (g o')
  | _, _, .head h => .head h
  | _, _, .tail h r => .tail h (updF_upd r)
theorem taken_c {w : World} {p : Program} {loose : List Str} {mean : ExcName → Option Value} {mg mb : Str → Option Value}
    {dp un : Nat} {gd : Option (List Code)} {cn : Str} {cs : Scope} {a : Addr} {ccd : Value} {cl : List (Str × Addr)} {outer : List Env} {A₀ : Around} {base h₀ : Heap} {L : Addr} {m : Str → Option Value} {s : Shared} {Q E : Value → Shared → Prop}
    {news : List (Addr × Obj)} {g : Obj → List (Addr × Obj)} {sg : Addr} {x : Str} {k : Int} {t tk₀ : Tok} {vs : List Value} {n : Nat}
    (B : Below A₀ base outer h₀) (F : Fr h₀ L s.heap m) (X : (hd.heap_39 w.params).In h₀) (N : News h₀ L s.heap news)
    (T : Top p loose mean mg mb h₀) (hk : cs.kind = .function) (hdp : dp + 1 < recursionLimit) (hun : un + 8 < cLine)
    (U : UpdF sg (listOf vs.toArray n) news g) (hmem : (sg, listOf vs.toArray n) ∈ news) (hx : x ≠ Str.empty) (hx1 : x.length < 1000) (hk2 : 2 ≤ k) (hk7 : k < 7) (hvl : vs.length ≤ 1000)
    (hret : ∀ (ws : List Value) (c : Nat) (t' : Tok) (h' : Heap) (tk' : Nat), Fr h₀ L h' m → News h₀ L h' (g (listOf (vs ++ ws).toArray c)) → StrsAre ws (signs (Txt.slice x none (some k))) → Q (.int (Txt.slice x none (some k)).length t') { s with heap := h', toks := tk' }) :
    wpAny (model Challenge.rw_pe0076_01.row.prog w) (ktrTop dp un gd cn cs L a ccd cl outer) (call (.ref 112) [.ref sg, .str x t, .int k tk₀]) Q E s := by
  revert X; k_fill; intro X
  refine wpAny_call ?_
  k_dflt cell_enter
  k_steps
  unfold Halt
  rename NewPlain _ _ _ _ => P
  rename CarriedAll _ _ => hC
  rename Fr _ _ _ _ => F₁
  rename News _ _ _ _ => N₁
  rename Heap.get? _ _ = none => hn
  obtain ⟨gnC, gnN, gnA⟩ := gn_enter P F₁ N₁ hn
  have hxl : 1 ≤ x.length := by
    rcases Nat.eq_zero_or_pos x.length with h0 | h0
    · exact absurd (str_empty_of_len h0) hx
    · exact h0
  have hlen := hC.len_eq
  rw [List.length_map, signs_length] at hlen
  have hpos := slice_ns_cases x k (by omega)
  refine kl_extend F₁ gnN (.head _) (Eq.refl _) ?_ (Upd.tail (Ne.symm (P.2 (sg, _) hmem)) (updF_upd U)) ?_ ?_ ?_ ?_
  · rw [List.toList_toArray]; omega
  · rw [Bool.and_eq_true]; rintro ⟨_, h2⟩; rw [List.size_toArray, List.size_toArray] at h2; unfold Builtin.List.listTooLong at h2; simp [sizeLine_eq] at h2; omega
  · rw [List.toList_toArray, sizeLine_eq]; omega
  · rw [List.size_toArray, List.size_toArray, sizeLine_eq]; omega
  intro h₂ F₂ N₂
  have N₃ : News _ _ h₂ (g _) := fun q hq => N₂ q (.tail _ hq)
  clear N₂ P gnN F₁ N₁
  rw [List.toList_toArray, List.toList_toArray] at N₃
  dsimp only
  k_steps
  rename Fr _ _ _ _ => F₅
  rename News _ _ _ _ => N₅
  have hS := hC.strsOf
  rw [List.map_id'] at hS
  exact hret _ _ _ _ _ F₅ N₅ hS
end Mine
-- part C1
set_option maxHeartbeats 1000000
namespace Mine
theorem fresh_C1 : True := by
  w_top off
  trivial
theorem ints_item {vs : List Value} {ns : List Int} (h : IntsAre vs ns) : ∀ (i : Nat) (v : Value), vs[i]? = some v → ∃ x t, v = .int x t ∧ ns[i]? = some x := by
  induction h with
  | nil => intro i v h; simp at h
  | cons n t r ih =>
    intro i v h
    cases i with
    | zero => simp at h; exact ⟨n, t, h.symm, rfl⟩
    | succ i => exact ih i v (by simpa using h)
theorem news_skip {h₀ h : Heap} {L : Addr} {a b : Addr × Obj} {r : List (Addr × Obj)} (N : News h₀ L h (a :: b :: r)) : News h₀ L h (a :: r) := fun q hq => N q (by rcases List.mem_cons.mp hq with rfl | hq; exact .head _; exact .tail _ (.tail _ hq))
theorem news_tail {h₀ h : Heap} {L : Addr} {a : Addr × Obj} {r : List (Addr × Obj)} (N : News h₀ L h (a :: r)) : News h₀ L h r := fun q hq => N q (.tail _ hq)
theorem strs_get : ∀ {ys : List Value} {xs : List Str}, ys.length = xs.length → (∀ (j : Nat) (y : Value), ys[j]? = some y → ∃ x t, y = .str x t ∧ xs[j]? = some x) → StrsAre ys xs
  | [], [], _, _ => .nil
  | [], _ :: _, h, _ => by cases h
  | _ :: _, [], h, _ => by cases h
  | y :: ys, x :: xs, h, hj => by
    obtain ⟨x', t, rfl, e⟩ := hj 0 y rfl
    obtain rfl : x = x' := by simpa using e
    exact .cons _ _ (strs_get (by simpa using h) fun j y e => hj (j + 1) y (by simpa using e))
theorem ints_get : ∀ {ys : List Value} {xs : List Int}, ys.length = xs.length → (∀ (j : Nat) (y : Value), ys[j]? = some y → ∃ x t, y = .int x t ∧ xs[j]? = some x) → IntsAre ys xs
  | [], [], _, _ => .nil
  | [], _ :: _, h, _ => by cases h
  | _ :: _, [], h, _ => by cases h
  | y :: ys, x :: xs, h, hj => by
    obtain ⟨x', t, rfl, e⟩ := hj 0 y rfl
    obtain rfl : x = x' := by simpa using e
    exact .cons _ _ (ints_get (by simpa using h) fun j y e => hj (j + 1) y (by simpa using e))
/-- a comprehension over a list of the ledger's whose items leave the ledger as it is -/
theorem comp_same {prog : Program} {w : World} {A : Around} {h₀ : Heap} {L : Addr} {m : Str → Option Value} {env : Env} {elt : Expr} {x : Str} {scope : Scope} {cl : List (Str × Addr)} {s₁ : Shared} {Fin : Shared → List Value → List (Addr × Obj) → Prop} {news : List (Addr × Obj)}
    {ax : Addr} {vs : List Value} {k : Nat} (R : Nat → Value → Prop) (hh : A.handled = none) (F : Fr h₀ L s₁.heap m) (N : News h₀ L s₁.heap news) (hm : (ax, listOf vs.toArray k) ∈ news) (hsz : vs.length ≤ 1000)
    (turn : ∀ i v I oI C oC D m₂ ys h tk (E' : Value → Shared → Prop), vs[i]? = some v → LCg.NsObj oC m₂ → m₂ x = some v → Fr h₀ L h m → News h₀ L h ((I, oI) :: (C, oC) :: (D, LCg.lst ys) :: news) → LCg.Off3 I C D news → ((@Ne Nat I C) ∧ (@Ne Nat I D) ∧ (@Ne Nat C D)) →
      wpAny (model prog w) A (eval elt (compEnvC scope cl C env)) (LCg.CompEnd h₀ L m { s₁ with heap := h, toks := tk } I oI C oC D (LCg.lst ys) (LCg.SrcAt h₀ ax vs.toArray) (fun y nw' => R i y ∧ nw' = news)) E' { s₁ with heap := h, toks := tk })
    (fin : ∀ g ys, ys.length = vs.length → (∀ (j : Nat) (y : Value), ys[j]? = some y → R j y) → Fin { s₁ with heap := g } ys news) : LCg.CompSrc prog w A h₀ L m env elt x scope cl Fin (.ref ax) s₁ := by
  refine LCg.CompSrc.ledger hh F N hm (by rw [List.size_toArray, sizeLine_eq]; omega) fun g => ?_
  refine comp_rest (fun i ys nw => nw = news ∧ ys.length = i ∧ ∀ (j : Nat) (y : Value), ys[j]? = some y → R j y) ⟨rfl, rfl, by simp⟩ ?_ ?_
  · rintro i v I oI C oC D m₂ ys _ h tk E' hi hv ⟨rfl, hl, hR⟩ hC hx F' N' off ne
    refine wpAny_mono (turn i v I oI C oC D m₂ ys h tk E' (by simpa using hv) hC hx F' N' off ne) (fun y s₂ hq => ?_) fun _ _ e => e
    obtain ⟨h', tk', nw', e, F'', N'', off'', hS, hr, rfl⟩ := hq
    refine ⟨h', tk', _, e, F'', N'', off'', hS, rfl, by simp [hl], fun j y' e' => ?_⟩
    rw [List.getElem?_append] at e'
    split at e'
    · exact hR j y' e'
    · rename_i hj
      rw [hl] at e' hj
      obtain rfl : j = i := by
        have := List.getElem?_eq_some_iff.mp e'
        obtain ⟨hlt, _⟩ := this
        simp at hlt; omega
      simp at e'
      rw [← e']; exact hr
  · rintro ys nw ⟨rfl, hl, hR⟩
    exact fin g ys (by simpa using hl) hR
theorem comp_range {prog : Program} {w : World} {A : Around} {h₀ : Heap} {L : Addr} {m : Str → Option Value} {env : Env} {elt : Expr} {x : Str} {scope : Scope} {cl : List (Str × Addr)} {s₁ : Shared} {Fin : Shared → List Value → List (Addr × Obj) → Prop} {news : List (Addr × Obj)}
    {r : Addr} {a b : Int} {t u v : Tok} {n : Nat} (R : Nat → Value → Prop) (hh : A.handled = none) (F : Fr h₀ L s₁.heap m) (N : News h₀ L s₁.heap news) (hr : IsRange s₁.heap r a b 1 t u v) (hsm : Builtin.Range.small a b 1 = true) (hn : Builtin.Range.rangeSize a b 1 = ((n : Nat) : Int)) (hsz : n ≤ 1000)
    (turn : ∀ (i : Nat) t I oI C oC D m₂ ys h tk (E' : Value → Shared → Prop), i < n → LCg.NsObj oC m₂ → m₂ x = some (.int (a + (i : Int)) t) → Fr h₀ L h m → News h₀ L h ((I, oI) :: (C, oC) :: (D, LCg.lst ys) :: news) → LCg.Off3 I C D news → ((@Ne Nat I C) ∧ (@Ne Nat I D) ∧ (@Ne Nat C D)) →
      wpAny (model prog w) A (eval elt (compEnvC scope cl C env)) (LCg.CompEnd h₀ L m { s₁ with heap := h, toks := tk } I oI C oC D (LCg.lst ys) (fun _ => True) (fun y nw' => R i y ∧ nw' = news)) E' { s₁ with heap := h, toks := tk })
    (fin : ∀ g ys, ys.length = n → (∀ (j : Nat) (y : Value), ys[j]? = some y → R j y) → Fin { s₁ with heap := g } ys news) : LCg.CompSrc prog w A h₀ L m env elt x scope cl Fin (.ref r) s₁ := by
  refine LCg.CompSrc.range hh F N hr hsm hn (by rw [sizeLine_eq]; omega) fun g => ?_
  refine comp_rest (fun i ys nw => nw = news ∧ ys.length = i ∧ ∀ (j : Nat) (y : Value), ys[j]? = some y → R j y) ⟨rfl, rfl, by simp⟩ ?_ ?_
  · rintro i v I oI C oC D m₂ ys _ h tk E' hi ⟨tv, rfl⟩ ⟨rfl, hl, hR⟩ hC hx F' N' off ne
    refine wpAny_mono (turn i tv I oI C oC D m₂ ys h tk E' hi hC hx F' N' off ne) (fun y s₂ hq => ?_) fun _ _ e => e
    obtain ⟨h', tk', nw', e, F'', N'', off'', hS, hr, rfl⟩ := hq
    refine ⟨h', tk', _, e, F'', N'', off'', hS, rfl, by simp [hl], fun j y' e' => ?_⟩
    rw [List.getElem?_append] at e'
    split at e'
    · exact hR j y' e'
    · rename_i hj
      rw [hl] at e' hj
      obtain rfl : j = i := by
        have := List.getElem?_eq_some_iff.mp e'
        obtain ⟨hlt, _⟩ := this
        simp at hlt; omega
      simp at e'
      rw [← e']; exact hr
  · rintro ys nw ⟨rfl, hl, hR⟩
    exact fin g ys hl hR
end Mine
-- part N0
namespace Mine
theorem fresh_N0 : True := by
  w_top off
  trivial
/-- a list put together from the places of another one, and its rest -/
def pick {α : Type} (l : List α) (is : List Nat) (n : Nat) : List α := (is.filterMap fun i => l[i]?) ++ l.drop n
theorem pick_mem {α : Type} {l l' : List α} (is : List Nat) (n : Nat) (e : pick l is n = l') : ∀ p ∈ l', p ∈ l := by
  subst e
  intro p hp
  rcases List.mem_append.mp hp with h | h
  · obtain ⟨i, _, hi⟩ := List.mem_filterMap.mp h
    exact List.mem_of_getElem? hi
  · exact List.mem_of_mem_drop h
theorem news_pick {h₀ h : Heap} {L : Addr} {l l' : List (Addr × Obj)} (N : News h₀ L h l) (is : List Nat) (n : Nat) (e : pick l is n = l') : News h₀ L h l' := fun q hq => N q (pick_mem is n e q hq)
end Mine
-- part P1
namespace Mine
theorem fresh_P1 : True := by
  w_top off
  trivial
def drawnF (x : Int) : Str := if x.fmod 4 = 2 then Str.ofString "('', '')" else fieldF x
def fld (a b : Int) : Str := Str.ofString "\"" ++ Txt.mul (Str.ofString "a") (1 + a) ++ Str.ofString "\" (" ++ innerF b ++ Str.ofString ")"
theorem fld_of (x : Int) : fieldF x = fld ((x.fdiv 4).fmod 4) (x.fmod 4) := rfl
def okF (y : Str) (b : Int) : Bool := decide (y.length < 1000) && decide ((stripF y).length < 1000) && (y.cps.toList.all fun c => c < 128 && c != 92) && ((stripF y).cps.toList.all fun c => c < 128 && c != 92) && decide (validF y = if b = 2 then Str.ofString "('', '')" else y)
theorem fld_ok : ∀ a ∈ [(0 : Int), 1, 2, 3], ∀ b ∈ [(0 : Int), 1, 2, 3], okF (fld a b) b = true := by decide +kernel
theorem mem4 (x : Int) : x.fmod 4 ∈ [(0 : Int), 1, 2, 3] := by
  rcases four x with h | h | h | h <;> rw [h] <;> decide
theorem plain_of {y : Str} (h : (y.cps.toList.all fun c => c < 128 && c != 92) = true) : Plain y := by
  intro c hc
  have := List.all_eq_true.mp h c (by simpa using hc)
  simpa using this
theorem field_ok (x : Int) : okF (fieldF x) (x.fmod 4) = true := by
  rw [fld_of]
  exact fld_ok _ (mem4 _) _ (mem4 _)
theorem field_fine (x : Int) : Fine (fieldF x) := by
  have h := field_ok x
  unfold okF at h
  simp only [Bool.and_eq_true, decide_eq_true_eq] at h
  obtain ⟨⟨⟨⟨h1, h2⟩, h3⟩, h4⟩, _⟩ := h
  exact ⟨h1, plain_of h3, plain_of h4, h2⟩
theorem valid_field (x : Int) : validF (fieldF x) = drawnF x := by
  have h := field_ok x
  unfold okF at h
  simp only [Bool.and_eq_true, decide_eq_true_eq] at h
  exact h.2
def drw (a b : Int) : Str := if b = 2 then Str.ofString "('', '')" else fld a b
def rst (b : Int) : Str := if b = 0 then Str.ofString " (x)" else if b = 1 then Str.ofString " ((x))" else if b = 2 then Str.ofString "('', '')" else Str.ofString " ()"
def okD (y : Str) (b : Int) : Bool := decide (1 ≤ y.length) && decide (y.length ≤ 20) && (y.cps.toList.all fun c => c < 128 && c != 92) && decide (stripF y = rst b)
theorem drw_ok : ∀ a ∈ [(0 : Int), 1, 2, 3], ∀ b ∈ [(0 : Int), 1, 2, 3], okD (drw a b) b = true := by decide +kernel
theorem drawn_ok (x : Int) : okD (drawnF x) (x.fmod 4) = true := drw_ok _ (mem4 (x.fdiv 4)) _ (mem4 x)
theorem drawn_len (x : Int) : 1 ≤ (drawnF x).length ∧ (drawnF x).length ≤ 20 := by
  have h := drawn_ok x
  unfold okD at h
  simp only [Bool.and_eq_true, decide_eq_true_eq] at h
  exact h.1.1
theorem drawn_plain (x : Int) : Plain (drawnF x) := by
  have h := drawn_ok x
  unfold okD at h
  simp only [Bool.and_eq_true, decide_eq_true_eq] at h
  exact plain_of h.1.2
theorem drawn_strip (x : Int) : stripF (drawnF x) = restF x := by
  have h := drawn_ok x
  unfold okD at h
  simp only [Bool.and_eq_true, decide_eq_true_eq] at h
  exact h.2
end Mine
-- part A3
set_option maxHeartbeats 8000000
namespace Mine
theorem fresh_A3 : True := by
  w_top off
  trivial
def tapeLam : Stmt → Option (Arguments × Expr × Scope)
  | .FunctionDef _ _ [_, .Assign _ (.Lambda a b s _) _, _] _ _ _ _ _ _ _ => some (a, b, s)
  | _ => none
/-- the lambda that the tape writes by -/
def lamP : Arguments × Expr × Scope := (Challenge.rw_pe0076_01.row.prog.main.body.findSome? tapeLam).getD default
theorem lam_call : ∃ f a k p, lamP.2.1 = Expr.Call f a k p := ⟨_, _, _, _, rfl⟩
abbrev wrO (qual : Str) (c1 c2 : Addr) (pm : Value) (cW : Addr) (ctW : Value) : Obj :=
  kla_obj (Str.ofString "<lambda>") qual lamP.1 lamP.2.1 lamP.2.2 [(Str.ofString "size", c2), (Str.ofString "signs", c1)] pm cW ctW
local macro_rules | `(tactic| walk_at "eval Name") => `(tactic| (k_here; k_dflt (refine' nameX_F ?N ?c ?m ?d ?_ ?a ?b; (case a => rfl); (case b => rfl); (case N => k_asm); (case c => rfl); (case m => k_mem); (case d => k_asm); k_whole)))
local macro_rules | `(tactic| walk_at "call ref") => `(tactic| (k_here; (with_reducible show wpAny _ _ (call (Value.ref 112) _) _ _ _); refine halt_out ?_))
theorem lam_c {w : World} {p : Program} {loose : List Str} {mean : ExcName → Option Value} {mg mb : Str → Option Value}
    {dp un : Nat} {gd : Option (List Code)} {cn : Str} {cs : Scope} {a : Addr} {ccd : Value} {cl : List (Str × Addr)} {outer : List Env} {A₀ : Around} {base h₀ : Heap} {L : Addr} {m : Str → Option Value} {s : Shared} {Q E : Value → Shared → Prop}
    {rest : List (Addr × Obj)} {sg wr cW c1 c2 : Addr} {oc o1 o2 : Obj} {vsW : Array Value} {qual : Str} {pm ctW : Value} {tq : Tok} {x : Str} {k : Int} {t tk₀ : Tok} {vs : List Value} {n : Nat}
    (B : Below A₀ base outer h₀) (F : Fr h₀ L s.heap m) (X : (hd.heap_39 w.params).In h₀)
    (N : News h₀ L s.heap ((sg, listOf vs.toArray n) :: (wr, wrO qual c1 c2 pm cW ctW) :: (cW, oc) :: (c1, o1) :: (c2, o2) :: rest))
    (T : Top p loose mean mg mb h₀) (hk : cs.kind = .function) (hdp : dp + 2 < recursionLimit) (hun : un + 16 < cLine)
    (d1 : oc.data = .fields vsW) (d2 : vsW[1]? = some (.str qual tq)) (e1 : o1.data = .cell (some (.ref sg))) (e2 : o2.data = .cell (some (.int k tk₀)))
    (ne : (@Ne Nat wr sg) ∧ (@Ne Nat cW sg) ∧ (@Ne Nat c1 sg) ∧ (@Ne Nat c2 sg)) (hr : ∀ q ∈ rest, q.1 ≠ sg) (hx : x ≠ Str.empty) (hx1 : x.length < 1000) (hk2 : 2 ≤ k) (hk7 : k < 7) (hvl : vs.length ≤ 1000)
    (hret : ∀ (ws : List Value) (c : Nat) (t' : Tok) (h' : Heap) (tk' : Nat), Fr h₀ L h' m → News h₀ L h' ((sg, listOf (vs ++ ws).toArray c) :: (wr, wrO qual c1 c2 pm cW ctW) :: (cW, oc) :: (c1, o1) :: (c2, o2) :: rest) → StrsAre ws (signs (Txt.slice x none (some k))) → Q (.int (Txt.slice x none (some k)).length t') { s with heap := h', toks := tk' }) :
    wpAny (model Challenge.rw_pe0076_01.row.prog w) (ktrTop dp un gd cn cs L a ccd cl outer) (call (.ref wr) [.str x t]) Q E s := by
  revert X; k_fill; intro X
  refine wpAny_call ?_
  k_dflt (refine' kla_code B F X N T ?kA ?kF ?kK (.tail _ (.head _)) ?k7 ?k8 ?k9 ?kB ?_ ?c2 ?c3 ?c4 ?c5)
  case kA => exact rfl
  case kF => exact rfl
  case kK => exact hk
  case k7 => exact codeRec_news N (.tail _ (.tail _ (.head _))) d1 d2
  case k8 => show dp < recursionLimit; omega
  case k9 => exact rfl
  case c5 => decide
  case kB => exact locs rfl
  case c2 => exact rfl
  case c3 => exact rfl
  case c4 => exact rfl
  k_whole
  intro g' L' h' FG' F' N' B' X' T'
  (try dsimp only); (try k_lift B'); (try k_fold)
  show wpAny _ _ (eval (Expr.Call _ _ _ _) (envX _ ⟨_, _, _, _, _⟩ _ _ _ _)) _ _ _
  k_steps
  unfold Halt
  have hne : ∀ q ∈ ((wr, wrO qual c1 c2 pm cW ctW) :: (cW, oc) :: (c1, o1) :: (c2, o2) :: rest), q.1 ≠ sg := by
    intro q hq
    rcases List.mem_cons.mp hq with rfl | hq; exact ne.1
    rcases List.mem_cons.mp hq with rfl | hq; exact ne.2.1
    rcases List.mem_cons.mp hq with rfl | hq; exact ne.2.2.1
    rcases List.mem_cons.mp hq with rfl | hq; exact ne.2.2.2
    exact hr q hq
  k_dflt (refine' taken_c ?kB F' X' N' T' ?kk ?kd ?ku (UpdF.head hne) (.head _) hx hx1 hk2 hk7 hvl ?_)
  case kB => k_asm
  case kk => exact rfl
  case kd => ktr_room
  case ku => ktr_units
  intro ws c t' h'' tk' F'' N'' hws
  refine leaveK_ F'' N'' ?_
  intro F3 N3
  exact hret _ _ _ _ _ F3 N3 hws
end Mine
-- part A4
namespace Mine
theorem fresh_A4 : True := by
  w_top off
  trivial
local macro_rules | `(tactic| walk_at "spare 0") => `(tactic| skip)
abbrev fpE (w : World) (t : Tok) (v : Value) : DictEntry := ⟨PyData.keyHash w.params (Str.ofString "fp"), .str (Str.ofString "fp") t, v⟩
abbrev ofE (w : World) (t : Tok) (a : Int) (ta : Tok) : DictEntry := ⟨PyData.keyHash w.params (Str.ofString "offset"), .str (Str.ofString "offset") t, .int a ta⟩
abbrev telD (w : World) (t1 : Tok) (v : Value) (t2 : Tok) (a : Int) (ta : Tok) : Obj := dictOf [fpE w t1 v, ofE w t2 a ta] 2
/-- the parts of the tape and of the lower counter that stay -/
structure Dev where
  sg : Addr
  ld : Addr
  lo : Addr
  tp : Addr
  td : Addr
  wr : Addr
  cW : Addr
  c1 : Addr
  c2 : Addr
  fdT : FuncData
  oc : Obj
  o1 : Obj
  o2 : Obj
  vsW : Array Value
  qual : Str
  pm : Value
  ctW : Value
  tq : Tok
  tk₀ : Tok
  tw : Tok
  tf : Tok
  to : Tok
  k : Int
def Dev.low (d : Dev) (w : World) (vs : List Value) (n : Nat) (a : Int) (ta : Tok) (rest : List (Addr × Obj)) : List (Addr × Obj) :=
  (d.sg, listOf vs.toArray n) :: (d.ld, telD w d.tf (.ref d.tp) d.to a ta) :: (d.lo, instObj 59 d.ld) :: (d.tp, fnO d.fdT (some d.td)) :: (d.td, dictOf [wrE w d.tw (.ref d.wr)] 1) ::
    (d.wr, wrO d.qual d.c1 d.c2 d.pm d.cW d.ctW) :: (d.cW, d.oc) :: (d.c1, d.o1) :: (d.c2, d.o2) :: rest
structure Dev.Ok (d : Dev) (rest : List (Addr × Obj)) : Prop where
  d1 : d.oc.data = .fields d.vsW
  d2 : d.vsW[1]? = some (.str d.qual d.tq)
  e1 : d.o1.data = .cell (some (.ref d.sg))
  e2 : d.o2.data = .cell (some (.int d.k d.tk₀))
  hk2 : 2 ≤ d.k
  hk7 : d.k < 7
  ne1 : (@Ne Nat d.ld d.sg) ∧ (@Ne Nat d.lo d.sg) ∧ (@Ne Nat d.tp d.sg) ∧ (@Ne Nat d.td d.sg) ∧ (@Ne Nat d.wr d.sg) ∧ (@Ne Nat d.cW d.sg) ∧ (@Ne Nat d.c1 d.sg) ∧ (@Ne Nat d.c2 d.sg)
  ne2 : (@Ne Nat d.lo d.ld) ∧ (@Ne Nat d.tp d.ld) ∧ (@Ne Nat d.td d.ld) ∧ (@Ne Nat d.wr d.ld) ∧ (@Ne Nat d.cW d.ld) ∧ (@Ne Nat d.c1 d.ld) ∧ (@Ne Nat d.c2 d.ld)
  r1 : ∀ q ∈ rest, q.1 ≠ d.sg
  r2 : ∀ q ∈ rest, q.1 ≠ d.ld
local macro_rules | `(tactic| walk_at "getMethod ref") => `(tactic| (k_here; refine halt_out ?_))
local macro_rules | `(tactic| walk_at "call ref") => `(tactic| (k_here; (with_reducible show wpAny _ _ (call (Value.ref _) [Value.str _ _]) _ _ _); refine halt_out ?_))
theorem news_sub {h₀ h : Heap} {L : Addr} {l l' : List (Addr × Obj)} (N : News h₀ L h l) (hs : ∀ q ∈ l', q ∈ l) : News h₀ L h l' := fun q hq => N q (hs q hq)
theorem low_c {w : World} {p : Program} {loose : List Str} {mean : ExcName → Option Value} {mg mb : Str → Option Value}
    {dp un : Nat} {gd : Option (List Code)} {cn : Str} {cs : Scope} {a : Addr} {ccd : Value} {cl : List (Str × Addr)} {outer : List Env} {A₀ : Around} {base h₀ : Heap} {L : Addr} {m : Str → Option Value} {s : Shared} {Q E : Value → Shared → Prop}
    {rest : List (Addr × Obj)} {d : Dev} {x : Str} {t : Tok} {vs : List Value} {n : Nat} {b : Int} {tb : Tok}
    (B : Below A₀ base outer h₀) (F : Fr h₀ L s.heap m) (X : (hd.heap_39 w.params).In h₀)
    (N : News h₀ L s.heap (d.low w vs n b tb rest))
    (T : Top p loose mean mg mb h₀) {hC : Heap} (CH : CodeHd hC 118 114) (hk : cs.kind = .function) (hdp : dp + 3 < recursionLimit) (hun : un + 24 < cLine)
    (ok : d.Ok rest) (hx : x ≠ Str.empty) (hx1 : x.length < 1000) (hvl : vs.length ≤ 1000)
    (hret : ∀ (ws : List Value) (c : Nat) (t' tb' : Tok) (h' : Heap) (tk' : Nat), Fr h₀ L h' m → News h₀ L h' (d.low w (vs ++ ws) c (b + (Txt.slice x none (some d.k)).length) tb' rest) → StrsAre ws (signs (Txt.slice x none (some d.k))) → Q (.int (Txt.slice x none (some d.k)).length t') { s with heap := h', toks := tk' }) :
    wpAny (model Challenge.rw_pe0076_01.row.prog w) (ktrTop dp un gd cn cs L a ccd cl outer) (call (.ref 35) [.ref d.lo, .str x t]) Q E s := by
  revert X; k_fill; intro X
  obtain ⟨sg, ld, lo, tp, td, wr, cW, c1, c2, fdT, oc, o1, o2, vsW, qual, pm, ctW, tq, tk₀, tw, tf, to, k⟩ := d
  obtain ⟨d1, d2, e1, e2, hk2, hk7, ne1, ne2, r1, r2⟩ := ok
  unfold Dev.low at N hret
  dsimp only at *
  refine wpAny_call ?_
  k_dflt cell_enter
  k_steps
  unfold Halt
  rename Fr _ _ _ _ => F₁
  rename News _ _ _ _ => N₁
  refine fn_method (tk := tw) rfl (N₁ (tp, _) (.tail _ (.tail _ (.tail _ (.head _))))).1 (N₁ (td, _) (.tail _ (.tail _ (.tail _ (.tail _ (.head _)))))).1 ?_
  dsimp only
  k_steps
  unfold Halt
  have N₂ : News _ _ _ ((sg, listOf vs.toArray n) :: (wr, wrO qual c1 c2 pm cW ctW) :: (cW, oc) :: (c1, o1) :: (c2, o2) :: (ld, telD w tf (.ref tp) to b tb) :: (lo, instObj 59 ld) :: (tp, fnO fdT (some td)) :: (td, dictOf [wrE w tw (.ref wr)] 1) :: rest) := news_pick N₁ [0, 5, 6, 7, 8, 1, 2, 3, 4] 9 rfl
  k_dflt (refine' lam_c ?kB F₁ ?kX N₂ ?kT ?kk ?kd ?ku d1 d2 e1 e2 ⟨ne1.2.2.2.2.1, ne1.2.2.2.2.2.1, ne1.2.2.2.2.2.2.1, ne1.2.2.2.2.2.2.2⟩ ?hr hx hx1 hk2 hk7 hvl ?_)
  case kB => k_asm
  case kX => k_asm
  case kT => k_asm
  case kk => exact rfl
  case kd => ktr_room
  case ku => ktr_units
  case hr =>
    intro q hq
    rcases List.mem_cons.mp hq with rfl | hq; exact ne1.1
    rcases List.mem_cons.mp hq with rfl | hq; exact ne1.2.1
    rcases List.mem_cons.mp hq with rfl | hq; exact ne1.2.2.1
    rcases List.mem_cons.mp hq with rfl | hq; exact ne1.2.2.2.1
    exact r1 q hq
  intro ws c t' h'' tk' F₃ N₃ hws
  have N₄ : News _ _ _ ((sg, listOf (vs ++ ws).toArray c) :: (ld, telD w tf (.ref tp) to b tb) :: (lo, instObj 59 ld) :: (tp, fnO fdT (some td)) :: (td, dictOf [wrE w tw (.ref wr)] 1) :: (wr, wrO qual c1 c2 pm cW ctW) :: (cW, oc) :: (c1, o1) :: (c2, o2) :: rest) := news_pick N₃ [0, 5, 6, 7, 8, 1, 2, 3, 4] 9 rfl
  clear N₃ N₂ N₁ F₁
  dsimp only
  k_steps
  have hld : ∀ q ∈ ((lo, instObj 59 ld) :: (tp, fnO fdT (some td)) :: (td, dictOf [wrE w tw (.ref wr)] 1) :: (wr, wrO qual c1 c2 pm cW ctW) :: (cW, oc) :: (c1, o1) :: (c2, o2) :: rest), q.1 ≠ ld := by
    intro q hq
    rcases List.mem_cons.mp hq with rfl | hq; exact ne2.1
    rcases List.mem_cons.mp hq with rfl | hq; exact ne2.2.1
    rcases List.mem_cons.mp hq with rfl | hq; exact ne2.2.2.1
    rcases List.mem_cons.mp hq with rfl | hq; exact ne2.2.2.2.1
    rcases List.mem_cons.mp hq with rfl | hq; exact ne2.2.2.2.2.1
    rcases List.mem_cons.mp hq with rfl | hq; exact ne2.2.2.2.2.2.1
    rcases List.mem_cons.mp hq with rfl | hq; exact ne2.2.2.2.2.2.2
    exact r2 q hq
  k_dflt (refine' set_dict ?k1 ?k2 ?k3 ?k4 ?k5 ?k6 ?k7 ?k8 ?k9 ?k10 ?k11 ?k12 ?k13 ?_)
  case k1 => k_asm
  case k2 => k_asm
  case k3 => k_asm
  case k4 => k_inst
  case k5 => exact rfl
  case k6 => k_is
  case k7 => k_is
  case k8 => k_is
  case k9 => k_is
  case k10 => k_get
  case k11 => k_put
  case k12 => exact Upd.tail (Ne.symm ne1.1) (Upd.head hld)
  case k13 => exact Nat.le_of_ble_eq_true rfl
  intro h₅ F₅ N₅
  dsimp only
  k_steps
  exact hret _ _ _ _ _ _ (by assumption) (by assumption) hws
end Mine
-- part A5
namespace Mine
theorem fresh_A5 : True := by
  w_top off
  trivial
local macro_rules | `(tactic| walk_at "call ref") => `(tactic| (k_here; (with_reducible show wpAny _ _ (call (Value.ref 35) _) _ _ _); refine halt_out ?_))
/-- the ledger with the upper counter -/
def Dev.all (d : Dev) (w : World) (ud up : Addr) (uf uo : Tok) (vs : List Value) (n : Nat) (a : Int) (ta : Tok) (b : Int) (tb : Tok) (rest : List (Addr × Obj)) : List (Addr × Obj) :=
  d.low w vs n a ta ((ud, telD w uf (.ref d.lo) uo b tb) :: (up, instObj 59 ud) :: rest)
structure Dev.OkU (d : Dev) (ud up : Addr) (rest : List (Addr × Obj)) : Prop where
  ok : d.Ok rest
  n1 : (@Ne Nat ud d.sg) ∧ (@Ne Nat ud d.ld) ∧ (@Ne Nat up d.sg) ∧ (@Ne Nat up d.ld)
  n2 : (@Ne Nat d.lo ud) ∧ (@Ne Nat d.tp ud) ∧ (@Ne Nat d.td ud) ∧ (@Ne Nat d.wr ud) ∧ (@Ne Nat d.cW ud) ∧ (@Ne Nat d.c1 ud) ∧ (@Ne Nat d.c2 ud) ∧ (@Ne Nat up ud)
  r3 : ∀ q ∈ rest, q.1 ≠ ud
theorem Dev.OkU.low {d : Dev} {ud up : Addr} {rest : List (Addr × Obj)} (h : d.OkU ud up rest) (o₁ o₂ : Obj) : d.Ok ((ud, o₁) :: (up, o₂) :: rest) where
  d1 := h.ok.d1
  d2 := h.ok.d2
  e1 := h.ok.e1
  e2 := h.ok.e2
  hk2 := h.ok.hk2
  hk7 := h.ok.hk7
  ne1 := h.ok.ne1
  ne2 := h.ok.ne2
  r1 := fun q hq => by
    rcases List.mem_cons.mp hq with rfl | hq; exact h.n1.1
    rcases List.mem_cons.mp hq with rfl | hq; exact h.n1.2.2.1
    exact h.ok.r1 q hq
  r2 := fun q hq => by
    rcases List.mem_cons.mp hq with rfl | hq; exact h.n1.2.1
    rcases List.mem_cons.mp hq with rfl | hq; exact h.n1.2.2.2
    exact h.ok.r2 q hq
theorem up_c {w : World} {p : Program} {loose : List Str} {mean : ExcName → Option Value} {mg mb : Str → Option Value}
    {dp un : Nat} {gd : Option (List Code)} {cn : Str} {cs : Scope} {a : Addr} {ccd : Value} {cl : List (Str × Addr)} {outer : List Env} {A₀ : Around} {base h₀ : Heap} {L : Addr} {m : Str → Option Value} {s : Shared} {Q E : Value → Shared → Prop}
    {rest : List (Addr × Obj)} {d : Dev} {ud up : Addr} {uf uo : Tok} {x : Str} {t : Tok} {vs : List Value} {n : Nat} {b : Int} {tb : Tok} {b₂ : Int} {tb₂ : Tok}
    (B : Below A₀ base outer h₀) (F : Fr h₀ L s.heap m) (X : (hd.heap_39 w.params).In h₀)
    (N : News h₀ L s.heap (d.all w ud up uf uo vs n b tb b₂ tb₂ rest))
    (T : Top p loose mean mg mb h₀) {hC : Heap} (CH : CodeHd hC 118 114) (hk : cs.kind = .function) (hdp : dp + 4 < recursionLimit) (hun : un + 32 < cLine)
    (ok : d.OkU ud up rest) (hx : x ≠ Str.empty) (hx1 : x.length < 1000) (hvl : vs.length ≤ 1000)
    (hret : ∀ (ws : List Value) (c : Nat) (t' tb' tb₂' : Tok) (h' : Heap) (tk' : Nat), Fr h₀ L h' m → News h₀ L h' (d.all w ud up uf uo (vs ++ ws) c (b + (Txt.slice x none (some d.k)).length) tb' (b₂ + (Txt.slice x none (some d.k)).length) tb₂' rest) → StrsAre ws (signs (Txt.slice x none (some d.k))) → Q (.int (Txt.slice x none (some d.k)).length t') { s with heap := h', toks := tk' }) :
    wpAny (model Challenge.rw_pe0076_01.row.prog w) (ktrTop dp un gd cn cs L a ccd cl outer) (call (.ref 35) [.ref up, .str x t]) Q E s := by
  revert X; k_fill; intro X
  unfold Dev.all Dev.low at N
  refine wpAny_call ?_
  k_dflt cell_enter
  k_steps
  unfold Halt
  rename Fr _ _ _ _ => F₁
  rename News _ _ _ _ => N₁
  k_dflt (refine' low_c (d := d) ?kB F₁ ?kX N₁ ?kT ?kC ?kk ?kd ?ku (ok.low _ _) hx hx1 hvl ?_)
  case kB => k_asm
  case kX => k_asm
  case kT => k_asm
  case kC => exact CH
  case kk => exact rfl
  case kd => ktr_room
  case ku => ktr_units
  intro ws c t' tb' h'' tk' F₃ N₃ hws
  unfold Dev.low at N₃
  clear N₁ F₁
  dsimp only
  k_steps
  have hud : ∀ q ∈ ((up, instObj 59 ud) :: rest), q.1 ≠ ud := by
    intro q hq
    rcases List.mem_cons.mp hq with rfl | hq; exact ok.n2.2.2.2.2.2.2.2
    exact ok.r3 q hq
  k_dflt (refine' set_dict ?k1 ?k2 ?k3 ?k4 ?k5 ?k6 ?k7 ?k8 ?k9 ?k10 ?k11 ?k12 ?k13 ?_)
  case k1 => k_asm
  case k2 => k_asm
  case k3 => k_asm
  case k4 => k_inst
  case k5 => exact rfl
  case k6 => k_is
  case k7 => k_is
  case k8 => k_is
  case k9 => k_is
  case k10 => k_get
  case k11 => k_put
  case k12 => exact Upd.tail (Ne.symm ok.n1.1) (Upd.tail (Ne.symm ok.n1.2.1) (Upd.tail ok.n2.1 (Upd.tail ok.n2.2.1 (Upd.tail ok.n2.2.2.1 (Upd.tail ok.n2.2.2.2.1 (Upd.tail ok.n2.2.2.2.2.1 (Upd.tail ok.n2.2.2.2.2.2.1 (Upd.tail ok.n2.2.2.2.2.2.2.1 (Upd.head hud)))))))))
  case k13 => exact Nat.le_of_ble_eq_true rfl
  intro h₅ F₅ N₅
  dsimp only
  k_steps
  exact hret _ _ _ _ _ _ _ (by assumption) (by assumption) hws
end Mine
-- part P2
set_option maxHeartbeats 1000000
namespace Mine
theorem fresh_P2 : True := by
  w_top off
  trivial
/-- what is left of a text -/
def dropS (x : Str) (j : Nat) : Str := ⟨(x.cps.toList.drop j).toArray⟩
def takeS (x : Str) (j : Nat) : Str := ⟨(x.cps.toList.take j).toArray⟩
/-- how many signs are taken at a time -/
def chk (k : Nat) : Nat → Nat → List Int
  | 0, _ => []
  | f + 1, n => if n = 0 then [] else ((min k n : Nat) : Int) :: chk k f (n - min k n)
theorem chk_fuel (k : Nat) (hk : 1 ≤ k) : ∀ f n, n ≤ f → chk k f n = chk k n n := by
  intro f
  induction f using Nat.strongRecOn with
  | _ f ih =>
    intro n hn
    cases f with
    | zero =>
      have h0 : n = 0 := by omega
      rw [h0]
    | succ f =>
      cases n with
      | zero => rfl
      | succ n =>
        unfold chk
        rw [if_neg (by omega), if_neg (by omega), ih f (by omega) (n + 1 - min k (n + 1)) (by omega), ih n (by omega) (n + 1 - min k (n + 1)) (by omega)]
theorem chk_step (k r : Nat) (hk : 1 ≤ k) (hr : 1 ≤ r) : chk k r r = ((min k r : Nat) : Int) :: chk k (r - min k r) (r - min k r) := by
  obtain ⟨n, rfl⟩ : ∃ n, r = n + 1 := ⟨r - 1, by omega⟩
  rw [chk, if_neg (by omega), chk_fuel k hk n _ (by omega)]
theorem takeS_len (x : Str) (j : Nat) : (takeS x j).length = min j x.length := by unfold takeS Str.length; simp
theorem slice_take (y : Str) (k : Int) (hk : 0 ≤ k) : Txt.slice y none (some k) = takeS y (min k.toNat y.length) := by
  by_cases h : k ≤ y.length
  · have e := eq_of_beq (slice_closes_toL hk h)
    rw [e]
    unfold takeS
    simp
    omega
  · rw [slice_to_beyond (by omega)]
    have e := eq_of_beq (slice_closes_toL (x := y) (j := y.length) (by omega) (by omega))
    rw [e]
    unfold takeS
    simp
    omega
theorem slice_drop (y : Str) (g : Nat) (hg : g ≤ y.length) : Txt.slice y (some (g : Int)) none = dropS y g := by
  have e := eq_of_beq (slice_closes_fromL (x := y) (i := g) (b := y.length) (by omega) (by omega) rfl)
  rw [e]
  unfold dropS
  simp only [Int.toNat_natCast]
  rw [List.take_of_length_le (by rw [List.length_drop]; simp [Str.length])]
theorem dropS_dropS (x : Str) (j g : Nat) : dropS (dropS x j) g = dropS x (j + g) := by unfold dropS; simp
theorem dropS_zero (x : Str) : dropS x 0 = x := by unfold dropS; simp
theorem takeS_zero (x : Str) : signs (takeS x 0) = [] := by unfold takeS signs; simp
theorem dropS_len (x : Str) (j : Nat) : (dropS x j).length = x.length - j := by unfold dropS Str.length; simp
theorem takeS_all (x : Str) {j : Nat} (h : x.length ≤ j) : takeS x j = x := by
  unfold takeS
  rw [List.take_of_length_le (by simpa [Str.length] using h)]
theorem signs_add (x : Str) (j g : Nat) : signs (takeS x (j + g)) = signs (takeS x j) ++ signs (takeS (dropS x j) g) := by
  unfold signs takeS dropS
  simp [List.take_add]
end Mine
-- part A6
set_option maxHeartbeats 8000000
namespace Mine
theorem fresh_A6 : True := by
  w_top off
  trivial
def sentJ (w : World) (d : Dev) (x : Str) (vs : List Value) (a : Int) (tl : Addr) (rest : List (Addr × Obj)) (r : Nat) (m : Str → Option Value) (nx : List (Addr × Obj)) : Prop :=
  ∃ (j : Nat) (ts ws : List Value) (dn : List Int) (c q : Nat) (t ta : Tok) (mm : Str → Option Value), j + r = x.length ∧ dn ++ chk d.k.toNat r r = chk d.k.toNat x.length x.length ∧ IntsAre ts dn ∧ dn.length ≤ j ∧ StrsAre ws (signs (takeS x j)) ∧
    m = (fun z => if z = Str.ofString "text" then some (.str (dropS x j) t) else if z = Str.ofString "taken" then some (.ref tl) else if z = Str.ofString "counter" then some (.ref d.lo) else mm z) ∧
    nx = d.low w (vs ++ ws) c (a + j) ta ((tl, listOf ts.toArray q) :: rest)
local macro_rules | `(tactic| walk_at "call ref") => `(tactic| (k_here; (with_reducible show wpAny _ _ (call (Value.ref 35) _) _ _ _); refine halt_out ?_))
local macro_rules | `(tactic| walk_at "call builtin:list.append") => `(tactic| (k_here; refine halt_out ?_))
local macro_rules | `(tactic| walk_at "exec While") => `(tactic| (k_here; refine halt_out ?_))
theorem allLt_mem {d : Addr} : ∀ {l : List (Addr × Obj)}, AllLt d l → ∀ q ∈ l, q.1 < d
  | [], _, _, h => nomatch h
  | p :: r, h, q, hq => by
    rcases List.mem_cons.mp hq with rfl | hq
    · exact h.1
    · exact allLt_mem h.2 q hq
theorem norm3 {m : Str → Option Value} {a b c : Str} {va vb vc : Value} (h1 : m a = some va) (h2 : m b = some vb) (h3 : m c = some vc) :
    m = fun z => if z = a then some va else if z = b then some vb else if z = c then some vc else m z := by
  funext z
  by_cases h : z = a
  · rw [if_pos h, h, h1]
  · by_cases h' : z = b
    · rw [if_neg h, if_pos h', h', h2]
    · by_cases h'' : z = c
      · rw [if_neg h, if_neg h', if_pos h'', h'', h3]
      · rw [if_neg h, if_neg h', if_neg h'']
theorem Dev.Ok.cons {d : Dev} {rest : List (Addr × Obj)} (h : d.Ok rest) {tl : Addr} {o : Obj} (h1 : tl ≠ d.sg) (h2 : tl ≠ d.ld) : d.Ok ((tl, o) :: rest) where
  d1 := h.d1
  d2 := h.d2
  e1 := h.e1
  e2 := h.e2
  hk2 := h.hk2
  hk7 := h.hk7
  ne1 := h.ne1
  ne2 := h.ne2
  r1 := fun q hq => by
    rcases List.mem_cons.mp hq with rfl | hq; exact h1
    exact h.r1 q hq
  r2 := fun q hq => by
    rcases List.mem_cons.mp hq with rfl | hq; exact h2
    exact h.r2 q hq
theorem ints_snoc {vs : List Value} {ns : List Int} {g : Int} {t : Tok} (h : IntsAre vs ns) : IntsAre (vs ++ [.int g t]) (ns ++ [g]) := by
  induction h with
  | nil => exact .cons _ _ .nil
  | cons n t r ih => exact .cons _ _ ih
theorem sentL_c {w : World} {p : Program} {loose : List Str} {mean : ExcName → Option Value} {mg mb : Str → Option Value}
    {dp un : Nat} {gd : Option (List Code)} {cn : Str} {cs : Scope} {a : Addr} {ccd : Value} {cl : List (Str × Addr)} {outer : List Env} {A₀ : Around} {base h₀ : Heap} {L : Addr} {m : Str → Option Value} {s : Shared} {Q E : Value → Shared → Prop}
    {rest : List (Addr × Obj)} {d : Dev} {x : Str} {t : Tok} {vs : List Value} {n : Nat} {b : Int} {tb : Tok}
    (B : Below A₀ base outer h₀) (F : Fr h₀ L s.heap m) (X : (hd.heap_39 w.params).In h₀)
    (N : News h₀ L s.heap (d.low w vs n b tb rest))
    (T : Top p loose mean mg mb h₀) {hC : Heap} (CH : CodeHd hC 118 114) (hk : cs.kind = .function) (hdp : dp + 4 < recursionLimit) (hun : un + 32 < cLine)
    (ok : d.Ok rest) (hx1 : x.length < 100) (hvl : vs.length ≤ 900)
    (hret : ∀ (tl : Addr) (ts ws : List Value) (c q : Nat) (tb' : Tok) (h' : Heap) (tk' : Nat), Fr h₀ L h' m → News h₀ L h' (d.low w (vs ++ ws) c (b + x.length) tb' ((tl, listOf ts.toArray q) :: rest)) → (∀ q ∈ d.low w (vs ++ ws) c (b + x.length) tb' rest, q.1 < tl) → StrsAre ws (signs x) → IntsAre ts (chk d.k.toNat x.length x.length) → Q (.ref tl) { s with heap := h', toks := tk' }) :
    wpAny (model Challenge.rw_pe0076_01.row.prog w) (ktrTop dp un gd cn cs L a ccd cl outer) (call (.ref 126) [.ref d.lo, .str x t]) Q E s := by
  revert X; k_fill; intro X
  unfold Dev.low at N
  refine wpAny_call ?_
  k_dflt cell_enter
  k_steps
  unfold Halt
  rename Fr _ _ _ _ => F₁
  rename News _ _ _ _ => N₁
  rename_i tl hp1 l1 hp2
  have l2 := allLt_mem l1.2.2.2.2.2.2.2.2.2
  have hsub : ∀ (q : Addr × Obj), q ∈ d.low w vs n b tb ((tl, listOf #[] 0) :: rest) → q ∈ (tl, listOf #[] 0) :: d.low w vs n b tb rest := pick_mem [1, 2, 3, 4, 5, 6, 7, 8, 9, 0] 10 rfl
  refine While_inv (sentJ w d x vs b tl rest) (n₀ := x.length) F₁ (news_sub N₁ hsub) ?hj ?turn
  case hj => exact ⟨0, [], [], [], n, 0, _, tb, _, Nat.zero_add _, rfl, .nil, Nat.le_refl _, by rw [takeS_zero]; exact .nil, norm3 (by rw [dropS_zero]; rfl) rfl rfl, by simp⟩
  case turn =>
    intro r m₁ nx h₁ tk₁ F₂ N₂ hJ
    obtain ⟨j, ts, ws, dn, c, q, t2, ta, mm, hj, hch, hts, hdl, hws, rfl, rfl⟩ := hJ
    have N₃ := N₂
    unfold Dev.low at N₃
    clear F₁ N₁
    k_steps
    · unfold Halt
      rename (dropS x j != Str.ofString "") = true => hne
      have hdr : dropS x j ≠ Str.empty := by
        intro h
        rw [h] at hne
        exact absurd hne (by decide)
      have hvw : (vs ++ ws).length ≤ 1000 := by
        have h1 := hws.len_eq
        rw [signs_length] at h1
        have h2 : (takeS x j).length ≤ j := by unfold takeS Str.length; simp; omega
        rw [List.length_append]; omega
      k_dflt (refine' low_c (d := d) ?kB F₂ ?kX N₂ ?kT ?kC ?kk ?kd ?ku (ok.cons (Nat.ne_of_gt l1.1) (Nat.ne_of_gt l1.2.1)) hdr ?hx1 hvw ?_)
      case kB => k_asm
      case kX => k_asm
      case kT => k_asm
      case kC => exact CH
      case kk => exact rfl
      case kd => ktr_room
      case ku => ktr_units
      case hx1 => rw [dropS_len]; omega
      intro ws' c' t' tb' h₃ tk' F₄ N₄ hws'
      unfold Dev.low at N₄
      clear N₃ N₂ F₂
      dsimp only
      k_steps
      unfold Halt
      have htl := hts.length
      refine append_K F₄ N₄ (Upd.tail (Nat.ne_of_lt l1.1) (Upd.tail (Nat.ne_of_lt l1.2.1) (Upd.tail (Nat.ne_of_lt l1.2.2.1) (Upd.tail (Nat.ne_of_lt l1.2.2.2.1) (Upd.tail (Nat.ne_of_lt l1.2.2.2.2.1) (Upd.tail (Nat.ne_of_lt l1.2.2.2.2.2.1) (Upd.tail (Nat.ne_of_lt l1.2.2.2.2.2.2.1) (Upd.tail (Nat.ne_of_lt l1.2.2.2.2.2.2.2.1) (Upd.tail (Nat.ne_of_lt l1.2.2.2.2.2.2.2.2.1) (Upd.head fun q hq => Nat.ne_of_lt (l2 q hq))))))))))) ?_ (by rw [List.size_toArray, sizeLine_eq]; omega)
      intro h₅ F₅ N₅
      rw [List.push_toArray] at N₅
      clear N₄ F₄
      generalize hlen : (Txt.slice (dropS x j) none (some d.k)).length = g at *
      have hts' : IntsAre (ts ++ [Value.int (g : Int) t']) (dn ++ [(g : Int)]) := ints_snoc hts
      have hdl2 : (dropS x j).length < 1000 := by rw [dropS_len]; omega
      have hr1 : 1 ≤ r := by
        rcases Nat.eq_zero_or_pos r with h0 | h0
        · exact absurd (str_empty_of_len (by rw [dropS_len]; omega)) hdr
        · exact h0
      have hK : (2 : Int) ≤ d.k := ok.hk2
      rw [slice_take _ _ (by omega), dropS_len] at hws' hlen
      have hrj : x.length - j = r := by omega
      rw [hrj] at hws' hlen
      have hg : g = min d.k.toNat r := by rw [← hlen, takeS_len, dropS_len]; omega
      rw [← hg] at hws'
      have hgr : g ≤ r := by omega
      have hg1 : 1 ≤ g := by omega
      dsimp only
      k_steps
      rename Fr _ _ _ _ => F₆
      rename News _ _ _ _ => N₆
      rw [slice_drop _ _ (by rw [dropS_len]; omega), dropS_dropS] at F₆
      refine WhileStep.intro F₆ N₆ (n' := r - g) (by omega) ?_
      refine ⟨j + g, ts ++ [Value.int (g : Int) t'], ws ++ ws', dn ++ [(g : Int)], c', q + 1, _, tb', _, by omega, ?_, hts', ?_, ?_, norm3 rfl rfl rfl, ?_⟩
      · rw [← hch, chk_step _ r (by omega) hr1, ← hg, List.append_assoc, List.singleton_append]
      · rw [List.length_append, List.length_singleton]; omega
      · rw [signs_add]; exact hws.append' hws'
      · unfold Dev.low
        rw [List.append_assoc, Int.add_assoc, Int.natCast_add]
    · rename (dropS x j != Str.ofString "") = false => hne
      rename Fr _ _ _ _ => F₆
      rename News _ _ _ _ => N₆
      have hr0 : r = 0 := by
        have h1 : dropS x j = Str.ofString "" := by simpa using hne
        have h2 := dropS_len x j
        rw [h1] at h2
        have h3 : (Str.ofString "").length = 0 := by decide
        omega
      subst hr0
      have hjx : j = x.length := by omega
      subst hjx
      rw [takeS_all x (Nat.le_refl _)] at hws
      have hdn : dn = chk d.k.toNat x.length x.length := by rw [← hch]; simp [chk]
      rw [hdn] at hts
      refine hret tl ts ws c q ta _ _ F₆ N₆ ?_ hws hts
      intro z hz
      unfold Dev.low at hz
      simp only [List.mem_cons] at hz
      rcases hz with rfl | rfl | rfl | rfl | rfl | rfl | rfl | rfl | rfl | hz
      · exact l1.1
      · exact l1.2.1
      · exact l1.2.2.1
      · exact l1.2.2.2.1
      · exact l1.2.2.2.2.1
      · exact l1.2.2.2.2.2.1
      · exact l1.2.2.2.2.2.2.1
      · exact l1.2.2.2.2.2.2.2.1
      · exact l1.2.2.2.2.2.2.2.2.1
      · exact l2 z hz
end Mine
-- part A7
namespace Mine
theorem fresh_A7 : True := by
  w_top off
  trivial
local macro_rules | `(tactic| walk_at "spare 0") => `(tactic| skip)
def sentJU (w : World) (d : Dev) (ud up : Addr) (uf uo : Tok) (x : Str) (vs : List Value) (a a₂ : Int) (tl : Addr) (rest : List (Addr × Obj)) (r : Nat) (m : Str → Option Value) (nx : List (Addr × Obj)) : Prop :=
  ∃ (j : Nat) (ts ws : List Value) (dn : List Int) (c q : Nat) (t ta ta₂ : Tok) (mm : Str → Option Value), j + r = x.length ∧ dn ++ chk d.k.toNat r r = chk d.k.toNat x.length x.length ∧ IntsAre ts dn ∧ dn.length ≤ j ∧ StrsAre ws (signs (takeS x j)) ∧
    m = (fun z => if z = Str.ofString "text" then some (.str (dropS x j) t) else if z = Str.ofString "taken" then some (.ref tl) else if z = Str.ofString "counter" then some (.ref up) else mm z) ∧
    nx = d.all w ud up uf uo (vs ++ ws) c (a + j) ta (a₂ + j) ta₂ ((tl, listOf ts.toArray q) :: rest)
local macro_rules | `(tactic| walk_at "call ref") => `(tactic| (k_here; (with_reducible show wpAny _ _ (call (Value.ref 35) _) _ _ _); refine halt_out ?_))
local macro_rules | `(tactic| walk_at "call builtin:list.append") => `(tactic| (k_here; refine halt_out ?_))
local macro_rules | `(tactic| walk_at "exec While") => `(tactic| (k_here; refine halt_out ?_))
theorem Dev.OkU.cons {d : Dev} {ud up : Addr} {rest : List (Addr × Obj)} (h : d.OkU ud up rest) {tl : Addr} {o : Obj} (h1 : tl ≠ d.sg) (h2 : tl ≠ d.ld) (h3 : tl ≠ ud) : d.OkU ud up ((tl, o) :: rest) where
  ok := h.ok.cons h1 h2
  n1 := h.n1
  n2 := h.n2
  r3 := fun q hq => by
    rcases List.mem_cons.mp hq with rfl | hq; exact h3
    exact h.r3 q hq
theorem sentU_c {w : World} {p : Program} {loose : List Str} {mean : ExcName → Option Value} {mg mb : Str → Option Value}
    {dp un : Nat} {gd : Option (List Code)} {cn : Str} {cs : Scope} {a : Addr} {ccd : Value} {cl : List (Str × Addr)} {outer : List Env} {A₀ : Around} {base h₀ : Heap} {L : Addr} {m : Str → Option Value} {s : Shared} {Q E : Value → Shared → Prop}
    {rest : List (Addr × Obj)} {d : Dev} {ud up : Addr} {uf uo : Tok} {x : Str} {t : Tok} {vs : List Value} {n : Nat} {b : Int} {tb : Tok} {b₂ : Int} {tb₂ : Tok}
    (B : Below A₀ base outer h₀) (F : Fr h₀ L s.heap m) (X : (hd.heap_39 w.params).In h₀)
    (N : News h₀ L s.heap (d.all w ud up uf uo vs n b tb b₂ tb₂ rest))
    (T : Top p loose mean mg mb h₀) {hC : Heap} (CH : CodeHd hC 118 114) (hk : cs.kind = .function) (hdp : dp + 5 < recursionLimit) (hun : un + 40 < cLine)
    (ok : d.OkU ud up rest) (hx1 : x.length < 100) (hvl : vs.length ≤ 900)
    (hret : ∀ (tl : Addr) (ts ws : List Value) (c q : Nat) (tb' tb₂' : Tok) (h' : Heap) (tk' : Nat), Fr h₀ L h' m → News h₀ L h' (d.all w ud up uf uo (vs ++ ws) c (b + x.length) tb' (b₂ + x.length) tb₂' ((tl, listOf ts.toArray q) :: rest)) → (∀ q ∈ d.all w ud up uf uo (vs ++ ws) c (b + x.length) tb' (b₂ + x.length) tb₂' rest, q.1 < tl) → StrsAre ws (signs x) → IntsAre ts (chk d.k.toNat x.length x.length) → Q (.ref tl) { s with heap := h', toks := tk' }) :
    wpAny (model Challenge.rw_pe0076_01.row.prog w) (ktrTop dp un gd cn cs L a ccd cl outer) (call (.ref 126) [.ref up, .str x t]) Q E s := by
  revert X; k_fill; intro X
  unfold Dev.all Dev.low at N
  refine wpAny_call ?_
  k_dflt cell_enter
  k_steps
  unfold Halt
  rename Fr _ _ _ _ => F₁
  rename News _ _ _ _ => N₁
  rename_i tl hp1 l1 hp2
  have l2 := allLt_mem l1.2.2.2.2.2.2.2.2.2.2.2
  have hsub : ∀ (q : Addr × Obj), q ∈ d.all w ud up uf uo vs n b tb b₂ tb₂ ((tl, listOf #[] 0) :: rest) → q ∈ (tl, listOf #[] 0) :: d.all w ud up uf uo vs n b tb b₂ tb₂ rest := pick_mem [1, 2, 3, 4, 5, 6, 7, 8, 9, 10, 11, 0] 12 rfl
  refine While_inv (sentJU w d ud up uf uo x vs b b₂ tl rest) (n₀ := x.length) F₁ (news_sub N₁ hsub) ?hj ?turn
  case hj => exact ⟨0, [], [], [], n, 0, _, tb, tb₂, _, Nat.zero_add _, rfl, .nil, Nat.le_refl _, by rw [takeS_zero]; exact .nil, norm3 (by rw [dropS_zero]; rfl) rfl rfl, by simp⟩
  case turn =>
    intro r m₁ nx h₁ tk₁ F₂ N₂ hJ
    obtain ⟨j, ts, ws, dn, c, q, t2, ta, ta₂, mm, hj, hch, hts, hdl, hws, rfl, rfl⟩ := hJ
    have N₃ := N₂
    unfold Dev.all Dev.low at N₃
    clear F₁ N₁
    k_steps
    · unfold Halt
      rename (dropS x j != Str.ofString "") = true => hne
      have hdr : dropS x j ≠ Str.empty := by
        intro h
        rw [h] at hne
        exact absurd hne (by decide)
      have hvw : (vs ++ ws).length ≤ 1000 := by
        have h1 := hws.len_eq
        rw [signs_length] at h1
        have h2 : (takeS x j).length ≤ j := by unfold takeS Str.length; simp; omega
        rw [List.length_append]; omega
      k_dflt (refine' up_c (d := d) ?kB F₂ ?kX N₂ ?kT ?kC ?kk ?kd ?ku (ok.cons (Nat.ne_of_gt l1.1) (Nat.ne_of_gt l1.2.1) (Nat.ne_of_gt l1.2.2.2.2.2.2.2.2.2.1)) hdr ?hx1 hvw ?_)
      case kB => k_asm
      case kX => k_asm
      case kT => k_asm
      case kC => exact CH
      case kk => exact rfl
      case kd => ktr_room
      case ku => ktr_units
      case hx1 => rw [dropS_len]; omega
      intro ws' c' t' tb' tb₂' h₃ tk' F₄ N₄ hws'
      unfold Dev.all Dev.low at N₄
      clear N₃ N₂ F₂
      dsimp only
      k_steps
      unfold Halt
      have htl := hts.length
      refine append_K F₄ N₄ (Upd.tail (Nat.ne_of_lt l1.1) (Upd.tail (Nat.ne_of_lt l1.2.1) (Upd.tail (Nat.ne_of_lt l1.2.2.1) (Upd.tail (Nat.ne_of_lt l1.2.2.2.1) (Upd.tail (Nat.ne_of_lt l1.2.2.2.2.1) (Upd.tail (Nat.ne_of_lt l1.2.2.2.2.2.1) (Upd.tail (Nat.ne_of_lt l1.2.2.2.2.2.2.1) (Upd.tail (Nat.ne_of_lt l1.2.2.2.2.2.2.2.1) (Upd.tail (Nat.ne_of_lt l1.2.2.2.2.2.2.2.2.1) (Upd.tail (Nat.ne_of_lt l1.2.2.2.2.2.2.2.2.2.1) (Upd.tail (Nat.ne_of_lt l1.2.2.2.2.2.2.2.2.2.2.1) (Upd.head fun q hq => Nat.ne_of_lt (l2 q hq))))))))))))) ?_ (by rw [List.size_toArray, sizeLine_eq]; omega)
      intro h₅ F₅ N₅
      rw [List.push_toArray] at N₅
      clear N₄ F₄
      generalize hlen : (Txt.slice (dropS x j) none (some d.k)).length = g at *
      have hts' : IntsAre (ts ++ [Value.int (g : Int) t']) (dn ++ [(g : Int)]) := ints_snoc hts
      have hdl2 : (dropS x j).length < 1000 := by rw [dropS_len]; omega
      have hr1 : 1 ≤ r := by
        rcases Nat.eq_zero_or_pos r with h0 | h0
        · exact absurd (str_empty_of_len (by rw [dropS_len]; omega)) hdr
        · exact h0
      have hK : (2 : Int) ≤ d.k := ok.ok.hk2
      rw [slice_take _ _ (by omega), dropS_len] at hws' hlen
      have hrj : x.length - j = r := by omega
      rw [hrj] at hws' hlen
      have hg : g = min d.k.toNat r := by rw [← hlen, takeS_len, dropS_len]; omega
      rw [← hg] at hws'
      have hgr : g ≤ r := by omega
      have hg1 : 1 ≤ g := by omega
      dsimp only
      k_steps
      rename Fr _ _ _ _ => F₆
      rename News _ _ _ _ => N₆
      rw [slice_drop _ _ (by rw [dropS_len]; omega), dropS_dropS] at F₆
      refine WhileStep.intro F₆ N₆ (n' := r - g) (by omega) ?_
      refine ⟨j + g, ts ++ [Value.int (g : Int) t'], ws ++ ws', dn ++ [(g : Int)], c', q + 1, _, tb', tb₂', _, by omega, ?_, hts', ?_, ?_, norm3 rfl rfl rfl, ?_⟩
      · rw [← hch, chk_step _ r (by omega) hr1, ← hg, List.append_assoc, List.singleton_append]
      · rw [List.length_append, List.length_singleton]; omega
      · rw [signs_add]; exact hws.append' hws'
      · unfold Dev.all Dev.low
        rw [List.append_assoc, Int.add_assoc, Int.add_assoc, Int.natCast_add]
    · rename (dropS x j != Str.ofString "") = false => hne
      rename Fr _ _ _ _ => F₆
      rename News _ _ _ _ => N₆
      have hr0 : r = 0 := by
        have h1 : dropS x j = Str.ofString "" := by simpa using hne
        have h2 := dropS_len x j
        rw [h1] at h2
        have h3 : (Str.ofString "").length = 0 := by decide
        omega
      subst hr0
      have hjx : j = x.length := by omega
      subst hjx
      rw [takeS_all x (Nat.le_refl _)] at hws
      have hdn : dn = chk d.k.toNat x.length x.length := by rw [← hch]; simp [chk]
      rw [hdn] at hts
      refine hret tl ts ws c q ta ta₂ _ _ F₆ N₆ ?_ hws hts
      intro z hz
      unfold Dev.all Dev.low at hz
      simp only [List.mem_cons] at hz
      rcases hz with rfl | rfl | rfl | rfl | rfl | rfl | rfl | rfl | rfl | rfl | rfl | hz
      · exact l1.1
      · exact l1.2.1
      · exact l1.2.2.1
      · exact l1.2.2.2.1
      · exact l1.2.2.2.2.1
      · exact l1.2.2.2.2.2.1
      · exact l1.2.2.2.2.2.2.1
      · exact l1.2.2.2.2.2.2.2.1
      · exact l1.2.2.2.2.2.2.2.2.1
      · exact l1.2.2.2.2.2.2.2.2.2.1
      · exact l1.2.2.2.2.2.2.2.2.2.2.1
      · exact l2 z hz
end Mine
-- part M1
set_option maxHeartbeats 1000000
namespace Mine
theorem fresh_M1 : True := by
  w_top off
  trivial
theorem low_pull {d : Dev} {w : World} {h₀ h : Heap} {L : Addr} {vs : List Value} {n : Nat} {a : Int} {ta : Tok} {p : Addr × Obj} {R : List (Addr × Obj)} (N : News h₀ L h (d.low w vs n a ta (p :: R))) : News h₀ L h (p :: d.low w vs n a ta R) := news_pick N [9, 0, 1, 2, 3, 4, 5, 6, 7, 8] 10 rfl
theorem low_push {d : Dev} {w : World} {h₀ h : Heap} {L : Addr} {vs : List Value} {n : Nat} {a : Int} {ta : Tok} {p : Addr × Obj} {R : List (Addr × Obj)} (N : News h₀ L h (p :: d.low w vs n a ta R)) : News h₀ L h (d.low w vs n a ta (p :: R)) := news_pick N [1, 2, 3, 4, 5, 6, 7, 8, 9, 0] 10 rfl
/-- what else stands on the law's ledger -/
def lawRest (L D2 r NU : Addr) (ys2 ws nws : List Value) (kr : Nat) (oN oD oK oS : Obj) (ps : Array Value) : List (Addr × Obj) :=
  (D2, LCg.lst ys2) :: (r, listOf ws.toArray kr) :: (NU, listOf nws.toArray 0) :: (L + 1 + 1 + 1 + 1, oN) :: (L + 1 + 1 + 1, oD) :: (L + 1 + 1, oK) :: (L + 1, oS) :: (114, tabObj ps) :: []
/-- the law's state ahead of the first sending -/
structure LawSt (w : World) (h₀ : Heap) (L : Addr) (h : Heap) (m : Str → Option Value) (ns : List Int) (d : Dev) (ud up : Addr) (uf uo : Tok) (D2 r NU : Addr) (ys2 ws nws : List Value) (kr : Nat) (oN oD oK oS : Obj) (ps : Array Value) (ta tb : Tok) : Prop where
  F : Fr h₀ L h (fun y => if y = Str.ofString "upper" then some (.ref up) else if y = Str.ofString "lower" then some (.ref d.lo) else if y = Str.ofString "stands" then some (.ref r) else if y = Str.ofString "numbers" then some (.ref NU) else m y)
  N : News h₀ L h (d.all w ud up uf uo [] 0 0 ta 0 tb (lawRest L D2 r NU ys2 ws nws kr oN oD oK oS ps))
  ok : d.OkU ud up (lawRest L D2 r NU ys2 ws nws kr oN oD oK oS ps)
  cN : ∃ v, oN.data = .cell v
  cD : oD.data = .cell (some (.ref D2))
  cK : oK.data = .cell (some (.int d.k d.tk₀))
  cS : oS.data = .cell (some (.ref d.sg))
  sY : StrsAre ys2 (ns.map drawnF)
  sW : StrsAre ws (ns.map drawnF)
  sN : IntsAre nws ns
  n8 : ns.length ≤ 8
  neN : (@Ne Nat d.sg (L + 1 + 1 + 1 + 1)) ∧ (@Ne Nat d.ld (L + 1 + 1 + 1 + 1)) ∧ (@Ne Nat d.lo (L + 1 + 1 + 1 + 1)) ∧ (@Ne Nat d.tp (L + 1 + 1 + 1 + 1)) ∧ (@Ne Nat d.td (L + 1 + 1 + 1 + 1)) ∧ (@Ne Nat d.wr (L + 1 + 1 + 1 + 1)) ∧ (@Ne Nat d.cW (L + 1 + 1 + 1 + 1)) ∧ (@Ne Nat d.c1 (L + 1 + 1 + 1 + 1)) ∧ (@Ne Nat d.c2 (L + 1 + 1 + 1 + 1)) ∧ (@Ne Nat ud (L + 1 + 1 + 1 + 1)) ∧ (@Ne Nat up (L + 1 + 1 + 1 + 1)) ∧ (@Ne Nat D2 (L + 1 + 1 + 1 + 1)) ∧ (@Ne Nat r (L + 1 + 1 + 1 + 1)) ∧ (@Ne Nat NU (L + 1 + 1 + 1 + 1)) ∧ (@Ne Nat 114 (L + 1 + 1 + 1 + 1))
theorem LawSt.open' {w : World} {h₀ : Heap} {L : Addr} {h : Heap} {m : Str → Option Value} {ns : List Int} {d : Dev} {ud up : Addr} {uf uo : Tok} {D2 r NU : Addr} {ys2 ws nws : List Value} {kr : Nat} {oN oD oK oS : Obj} {ps : Array Value} {ta tb : Tok} (hs : LawSt w h₀ L h m ns d ud up uf uo D2 r NU ys2 ws nws kr oN oD oK oS ps ta tb) :
    ∃ (d' : Dev) (m' : Str → Option Value) (ns' : List Int), d'.lo = d.lo ∧ LawSt w h₀ L h m' ns' d' ud up uf uo D2 r NU ys2 ws nws kr oN oD oK oS ps ta tb := ⟨d, m, ns, rfl, hs⟩
/-- no address of the list is d -/
def NoNe (d : Nat) : List Nat → Prop
  | [] => True
  | p :: r => (@Ne Nat p d) ∧ NoNe d r
theorem NoNe.mem {d : Nat} : ∀ {l : List Nat}, NoNe d l → ∀ q ∈ l, q ≠ d
  | [], _, _, h => nomatch h
  | p :: r, h, q, hq => by
    rcases List.mem_cons.mp hq with rfl | hq
    · exact h.1
    · exact NoNe.mem h.2 q hq
theorem law_st {w : World} {h₀ : Heap} {L : Addr} {h : Heap} {m : Str → Option Value} {ns : List Int} {sg ld lo tp td wr cW c1 c2 cT ud up D2 r NU : Addr} {fdT : FuncData} {oc ocT o1 o2 oN oD oK oS : Obj} {vsW ps : Array Value} {qual : Str} {pm ctW : Value} {tq tk₀ tw tf to uf uo ta tb : Tok} {k : Int} {ys2 ws nws : List Value} {kr : Nat}
    (F : Fr h₀ L h (fun y => if y = Str.ofString "upper" then some (.ref up) else if y = Str.ofString "lower" then some (.ref lo) else if y = Str.ofString "stands" then some (.ref r) else if y = Str.ofString "numbers" then some (.ref NU) else m y))
    (N : News h₀ L h [(up, instObj 59 ud), (ud, telD w uf (.ref lo) uo 0 tb), (lo, instObj 59 ld), (ld, telD w tf (.ref tp) to 0 ta), (td, dictOf [wrE w tw (.ref wr)] 1), (wr, wrO qual c1 c2 pm cW ctW), (cW, oc), (tp, fnO fdT (some td)), (cT, ocT), (c2, o2), (c1, o1), (D2, LCg.lst ys2), (r, listOf ws.toArray kr), (sg, listOf #[] 0), (NU, listOf nws.toArray 0), (L + 1 + 1 + 1 + 1, oN), (L + 1 + 1 + 1, oD), (L + 1 + 1, oK), (L + 1, oS), (114, tabObj ps)])
    (d1 : oc.data = .fields vsW) (d2 : vsW[1]? = some (.str qual tq)) (e1 : o1.data = .cell (some (.ref sg))) (e2 : o2.data = .cell (some (.int k tk₀))) (hk2 : 2 ≤ k) (hk7 : k < 7)
    (cN : ∃ v, oN.data = .cell v) (cD : oD.data = .cell (some (.ref D2))) (cK : oK.data = .cell (some (.int k tk₀))) (cS : oS.data = .cell (some (.ref sg)))
    (sY : StrsAre ys2 (ns.map drawnF)) (sW : StrsAre ws (ns.map drawnF)) (sN : IntsAre nws ns) (n8 : ns.length ≤ 8)
    (h1 : NoNe sg [ld, lo, tp, td, wr, cW, c1, c2, ud, up, D2, r, NU, L + 1 + 1 + 1 + 1, L + 1 + 1 + 1, L + 1 + 1, L + 1, 114])
    (h2 : NoNe ld [lo, tp, td, wr, cW, c1, c2, ud, up, D2, r, NU, L + 1 + 1 + 1 + 1, L + 1 + 1 + 1, L + 1 + 1, L + 1, 114])
    (h3 : NoNe ud [lo, tp, td, wr, cW, c1, c2, up, D2, r, NU, L + 1 + 1 + 1 + 1, L + 1 + 1 + 1, L + 1 + 1, L + 1, 114])
    (h4 : NoNe (L + 1 + 1 + 1 + 1) [lo, tp, td, wr, cW, c1, c2, up, D2, r, NU, 114]) :
    LawSt w h₀ L h m ns ⟨sg, ld, lo, tp, td, wr, cW, c1, c2, fdT, oc, o1, o2, vsW, qual, pm, ctW, tq, tk₀, tw, tf, to, k⟩ ud up uf uo D2 r NU ys2 ws nws kr oN oD oK oS ps ta tb where
  F := F
  N := news_pick N [13, 3, 2, 7, 4, 5, 6, 10, 9, 1, 0, 11, 12, 14, 15, 16, 17, 18, 19] 20 rfl
  ok := by
    obtain ⟨a_ld, a_lo, a_tp, a_td, a_wr, a_cW, a_c1, a_c2, a_ud, a_up, a_D2, a_r, a_NU, a_N, a_D, a_K, a_S, a_T, _⟩ := h1
    obtain ⟨b_lo, b_tp, b_td, b_wr, b_cW, b_c1, b_c2, b_ud, b_up, b_D2, b_r, b_NU, b_N, b_D, b_K, b_S, b_T, _⟩ := h2
    obtain ⟨c_lo, c_tp, c_td, c_wr, c_cW, c_c1, c_c2, c_up, c_D2, c_r, c_NU, c_N, c_D, c_K, c_S, c_T, _⟩ := h3
    refine ⟨⟨d1, d2, e1, e2, hk2, hk7, ⟨a_ld, a_lo, a_tp, a_td, a_wr, a_cW, a_c1, a_c2⟩, ⟨b_lo, b_tp, b_td, b_wr, b_cW, b_c1, b_c2⟩, ?_, ?_⟩, ⟨a_ud, b_ud, a_up, b_up⟩, ⟨c_lo, c_tp, c_td, c_wr, c_cW, c_c1, c_c2, c_up⟩, ?_⟩
    · intro q hq
      unfold lawRest at hq
      simp only [List.mem_cons, List.not_mem_nil, or_false] at hq
      rcases hq with rfl | rfl | rfl | rfl | rfl | rfl | rfl | rfl
      · exact a_D2
      · exact a_r
      · exact a_NU
      · exact a_N
      · exact a_D
      · exact a_K
      · exact a_S
      · exact a_T
    · intro q hq
      unfold lawRest at hq
      simp only [List.mem_cons, List.not_mem_nil, or_false] at hq
      rcases hq with rfl | rfl | rfl | rfl | rfl | rfl | rfl | rfl
      · exact b_D2
      · exact b_r
      · exact b_NU
      · exact b_N
      · exact b_D
      · exact b_K
      · exact b_S
      · exact b_T
    · intro q hq
      unfold lawRest at hq
      simp only [List.mem_cons, List.not_mem_nil, or_false] at hq
      rcases hq with rfl | rfl | rfl | rfl | rfl | rfl | rfl | rfl
      · exact c_D2
      · exact c_r
      · exact c_NU
      · exact c_N
      · exact c_D
      · exact c_K
      · exact c_S
      · exact c_T
  cN := cN
  cD := cD
  cK := cK
  cS := cS
  sY := sY
  sW := sW
  sN := sN
  n8 := n8
  neN := by
    obtain ⟨_, _, _, _, _, _, _, _, _, _, _, _, _, a_N, _⟩ := h1
    obtain ⟨_, _, _, _, _, _, _, _, _, _, _, _, b_N, _⟩ := h2
    obtain ⟨_, _, _, _, _, _, _, _, _, _, _, c_N, _⟩ := h3
    obtain ⟨e_lo, e_tp, e_td, e_wr, e_cW, e_c1, e_c2, e_up, e_D2, e_r, e_NU, e_T, _⟩ := h4
    exact ⟨Ne.symm a_N, Ne.symm b_N, e_lo, e_tp, e_td, e_wr, e_cW, e_c1, e_c2, Ne.symm c_N, e_up, e_D2, e_r, e_NU, e_T⟩
end Mine
-- part L4
set_option maxHeartbeats 8000000
namespace Mine
theorem fresh_L4 : True := by
  w_top off
  trivial
local macro_rules | `(tactic| walk_at "call ref") => `(tactic| (k_here; (with_reducible show wpAny _ _ (call (Value.ref 98) [Value.int _ _]) _ _ _); k_dflt (refine' field_c ?kB ?kF ?kX ?kN ?kT ?kk ?kd ?ku ?_; (case kB => k_asm); (case kF => k_asm); (case kX => k_asm); (case kN => k_asm); (case kT => k_asm); (case kk => first | exact rfl | assumption); (case kd => ktr_room); (case ku => ktr_units); k_whole; intro t9 h9 tk9 F9 N9; (try dsimp only); (try k_fold))))
local macro_rules | `(tactic| walk_at "eval ListComp") => `(tactic| (k_here; refine halt_out ?_))
local macro_rules | `(tactic| walk_at "exec Assign cons ListComp") => `(tactic| (k_here; refine halt_out ?_))
noncomputable def ck1 : PSigma fun P : Prop => P → PySem.Challenge.rw_pe0076_01.Holds := by
  refine' ⟨_, fun hP => hd _⟩
  rotate_left
  · have hP' : True → _ := fun _ => hP
    clear hP
    k_fill
    intro w s₀ s₁ mg mb G Y fa o pm cd doc dV kV ho hd hcd hD hmg hg args vals as hpre hlay hrd hwl hlo
    have KX := km_in_of Y
    km_tabs Y
    have X := (Ground.X G).1
    have V := (Ground.X G).2
    refine Ground.open G ?_
    intro T B D TE TW
    try (refine guard_noD D (by decide +kernel) ?_; clear D)
    km_lay T hmg ho hd cd
    clear hmg
    wrow_args hpre hlay hrd hwl hlo
    all_goals (
      first | refine callC_kw (enter_call ?_) | refine enter_call ?_
      w_top on
      refine law_post hT9 (fun _ => rfl) (by first | wrow_post | kernel_rfl) ?_
      w_call any ho hd hcd hD T F
      clear hd
      kn_ghosts F T
      k_drop
      skip)
    all_goals try k_fold
    k_steps
    unfold Halt
    revert w
    try revert s₀
    try revert s₁
    try revert mg
    try revert mb
    try revert fa
    try revert o
    try revert pm
    try revert cd
    try revert doc
    try revert dV
    try revert kV
    try revert args
    try revert vals
    try revert as
    repeat (first | (rename_i z; revert z) | fail "x")
    try revert tk
    exact hP' trivial
end Mine
-- part L5
namespace Mine
theorem fresh_L5 : True := by
  w_top off
  trivial
local macro_rules | `(tactic| walk_at "call ref") => `(tactic| (k_here; (with_reducible show wpAny _ _ (call (Value.ref 98) [Value.int _ _]) _ _ _); k_dflt (refine' field_c ?kB ?kF ?kX ?kN ?kT ?kk ?kd ?ku ?_; (case kB => k_asm); (case kF => k_asm); (case kX => k_asm); (case kN => k_asm); (case kT => k_asm); (case kk => first | exact rfl | assumption); (case kd => ktr_room); (case ku => ktr_units); k_whole; intro t9 h9 tk9 F9 N9; (try dsimp only); (try k_fold))))
local macro_rules | `(tactic| walk_at "call ref") => `(tactic| (k_here; (with_reducible show wpAny _ _ (call (Value.ref 91) [Value.ref _]) _ _ _); refine halt_out ?_))
local macro_rules | `(tactic| walk_at "call ref") => `(tactic| (k_here; (with_reducible show wpAny _ _ (call (Value.ref 126) _) _ _ _); refine halt_out ?_))
local macro_rules | `(tactic| walk_at "setAttr ref") => `(tactic| (k_here; k_dflt (refine' fn_set ?F ?N ?U ?_; (case F => k_asm); (case N => k_asm); (case U => k_updF); k_whole); intro d' tk' h' F' N' l'; k_lt l'; (try dsimp only at N'); (try k_sweep)))
local macro_rules | `(tactic| walk_at "eval ListComp") => `(tactic| (k_here; k_dflt (refine LCg.ListComp_U (F₀ := by k_asm) (by with_unfolding_all rfl) (by decide) (by rfl) (by decide) (by rfl) ?_)))
local macro_rules | `(tactic| walk_at "exec Assign cons ListComp") => `(tactic| (k_here; k_dflt (refine LCg.Assign_ListComp_U (F₀ := by k_asm) (by rfl) (by with_unfolding_all rfl) (by with_unfolding_all rfl) (by decide) (by rfl) (by decide) (by rfl) (by rfl) (by rfl) ?_)))
local macro_rules | `(tactic| walk_at "CompSrc") => `(tactic| (k_here; refine halt_out ?_))
noncomputable def ck2 : PSigma fun P : Prop => P → ck1.1 := by
  refine' ⟨_, fun hP => _⟩
  rotate_left
  · have hP' : True → _ := fun _ => hP
    clear hP
    unfold ck1
    dsimp only
    k_fill
    intros
    rename Fr _ _ _ _ => F₁
    rename News _ _ _ _ => N₁
    rename IntsAre _ ([6, 15, 8, 1] ++ _) => hI
    rename List Int => zs
    rename ¬(63 : Int) < _ => h63
    rename _ = #[] => hg
    have hbare := AllBare.of_eq hg
    have N₂ : News _ _ _ [_, _, _, _, _, _, _] := fun q hq => N₁ q (by
      rcases List.mem_cons.mp hq with rfl | hq; exact .tail _ (.tail _ (.head _))
      rcases List.mem_cons.mp hq with rfl | hq; exact .tail _ (.tail _ (.tail _ (.head _)))
      exact .tail _ (.tail _ (.tail _ (.tail _ (.tail _ (.tail _ hq))))))
    clear N₁
    have hlen := hI.length
    have hl8 : ([6, 15, 8, 1] ++ zs.take 4).length ≤ 8 := by simp; omega
    k_steps
    unfold Halt
    refine comp_same (fun i y => ∃ x t, y = Value.str x t ∧ (([6, 15, 8, 1] ++ zs.take 4).map fieldF)[i]? = some x) rfl F₁ N₂ (.tail _ (.head _)) (by omega) ?turn ?fin
    case turn =>
      intro i v I oI C oC D m₂ ys h tk E' hv hC hx F N off ne
      obtain ⟨x, t, rfl, hxi⟩ := ints_item hI i v hv
      dsimp only
      k_steps
      rename Fr _ _ _ _ => F9
      rename News _ _ _ _ => N9
      exact ⟨_, _, _, rfl, F9, N9, off, .inr ⟨_, .tail _ (.head _), rfl, _, rfl⟩, ⟨_, _, rfl, by rw [List.getElem?_map, hxi]; rfl⟩, rfl⟩
    case fin =>
      intro g ys hl hR D h tk F N off
      have hS : StrsAre ys (([6, 15, 8, 1] ++ zs.take 4).map fieldF) := strs_get (by rw [hl, hlen]; simp) hR
      simp only [LCg.Off1, and_true] at off
      clear hR F₁ N₂
      k_steps
      unfold Halt
      k_dflt (refine' pre_c (vs := ys) (n := ys.length) (xs := ([6, 15, 8, 1] ++ zs.take 4).map fieldF) ?kB ?kF ?kX ?kN ?kT ?kk ?kd ?ku ?hb ?hm ?hv ?hx ?hl ?_)
      case kB => k_asm
      case kF => k_asm
      case kX => k_asm
      case kN => k_asm
      case kT => k_asm
      case kk => first | exact rfl | assumption
      case kd => ktr_room
      case ku => ktr_units
      case hb => exact hbare
      case hm => exact .head _
      case hv => exact hS
      case hx => intro x hx; obtain ⟨y, _, rfl⟩ := List.mem_map.mp hx; exact field_fine y
      case hl => rw [List.length_map]; omega
      intro r ws k h' tk' gs hb' F' N' hlt hws
      rw [List.map_map, show validF ∘ fieldF = drawnF from funext valid_field] at hws
      clear F N
      replace N' := news_skip N'
      k_lt hlt
      dsimp only
      k_steps
      unfold Halt
      rename Fr _ _ _ _ => F₃
      rename News _ _ _ _ => N₃
      refine comp_same (fun i y => ∃ x t, y = Value.str x t ∧ (([6, 15, 8, 1] ++ zs.take 4).map drawnF)[i]? = some x) rfl F₃ N₃ (.tail _ (.tail _ (.head _))) (by omega) ?turn ?fin
      case turn =>
        intro i v I oI C oC D m₂ ys h tk E' hv hC hx F N off ne
        obtain ⟨x, t, rfl, hxi⟩ := ints_item hI i v hv
        dsimp only
        k_steps
        · rename Fr _ _ _ _ => F9
          rename News _ _ _ _ => N9
          exact ⟨_, _, _, rfl, F9, N9, off, .inr ⟨_, .tail _ (.tail _ (.head _)), rfl, _, rfl⟩, ⟨_, _, rfl, by rw [List.getElem?_map, hxi]; simp only [Option.map_some, drawnF]; rw [if_pos (by assumption)]⟩, rfl⟩
        · rename Fr _ _ _ _ => F9
          rename News _ _ _ _ => N9
          exact ⟨_, _, _, rfl, F9, N9, off, .inr ⟨_, .tail _ (.tail _ (.head _)), rfl, _, rfl⟩, ⟨_, _, rfl, by rw [List.getElem?_map, hxi]; simp only [Option.map_some, drawnF]; rw [if_neg (by assumption)]⟩, rfl⟩
      case fin =>
        intro g ys2 hl2 hR D2 h tk F N off2
        have hS2 : StrsAre ys2 (([6, 15, 8, 1] ++ zs.take 4).map drawnF) := strs_get (by rw [hl2, hlen]; simp) hR
        simp only [LCg.Off1, and_true] at off2
        clear hR F₃ N₃
        dsimp only
        k_steps
        unfold Halt
        try clear qk
        try clear ek
        try clear qk
        try clear ek
        try clear hl
        try clear hl2
        try clear off
        try revert zs
        try revert w
        try revert s₀
        try revert s₁
        try revert mg
        try revert mb
        try revert fa
        try revert o
        try revert pm
        try revert cd
        try revert doc
        try revert dV
        try revert kV
        try revert args
        try revert vals
        try revert as
        try revert tk
        try revert g
        try revert ys
        try revert D
        try revert h
        try revert r
        try revert ws
        try revert k
        try revert h'
        try revert tk'
        try revert gs
        try revert ys2
        try revert D2
        try revert qk
        try revert ek
        try revert zs
        try revert w
        try revert s₀
        try revert s₁
        try revert mg
        try revert mb
        try revert fa
        try revert o
        try revert pm
        try revert cd
        try revert doc
        try revert dV
        try revert kV
        try revert args
        try revert vals
        try revert as
        try revert tk
        try revert g
        try revert ys
        try revert D
        try revert h
        try revert r
        try revert ws
        try revert k
        try revert h'
        try revert tk'
        try revert gs
        try revert ys2
        try revert D2
        try revert qk
        try revert ek
        repeat (first | (rename_i z; revert z) | fail "x")
        try revert zs
        try revert w
        try revert s₀
        try revert s₁
        try revert mg
        try revert mb
        try revert fa
        try revert o
        try revert pm
        try revert cd
        try revert doc
        try revert dV
        try revert kV
        try revert args
        try revert vals
        try revert as
        try revert tk
        try revert g
        try revert ys
        try revert D
        try revert h
        try revert r
        try revert ws
        try revert k
        try revert h'
        try revert tk'
        try revert gs
        try revert ys2
        try revert D2
        try revert qk
        try revert ek
        exact hP' trivial
end Mine
-- part L6
namespace Mine
theorem fresh_L6 : True := by
  w_top off
  trivial
theorem size_lo (z : Int) : 2 ≤ 2 + z.fmod 5 := by
  have := Int.fmod_nonneg_of_pos z (b := 5) (by decide)
  omega
theorem size_hi (z : Int) : 2 + z.fmod 5 < 7 := by
  have := Int.fmod_lt_of_pos z (b := 5) (by decide)
  omega
noncomputable def ck3 : PSigma fun P : Prop => P → ck2.1 := by
  refine' ⟨_, fun hP => _⟩
  rotate_left
  · have hP' : True → _ := fun _ => hP
    clear hP
    unfold ck2
    dsimp only
    k_fill
    intros
    rename Fr (ghostOf _ _) _ _ _ => F₁
    rename News (ghostOf _ _) _ _ _ => N₁
    rename IntsAre _ ([6, 15, 8, 1] ++ _) => hI
    have hLS := law_st (ns := [6, 15, 8, 1] ++ _) F₁ N₁ (by assumption) (by assumption) (by assumption) (by assumption) (size_lo _) (size_hi _) ⟨_, by assumption⟩ (by assumption) (by assumption) (by assumption) (by assumption) (by assumption) hI (by assumption) (by refine ⟨?_, ?_, ?_, ?_, ?_, ?_, ?_, ?_, ?_, ?_, ?_, ?_, ?_, ?_, ?_, ?_, ?_, ?_, trivial⟩ <;> k_ne) (by refine ⟨?_, ?_, ?_, ?_, ?_, ?_, ?_, ?_, ?_, ?_, ?_, ?_, ?_, ?_, ?_, ?_, ?_, trivial⟩ <;> k_ne) (by refine ⟨?_, ?_, ?_, ?_, ?_, ?_, ?_, ?_, ?_, ?_, ?_, ?_, ?_, ?_, ?_, ?_, trivial⟩ <;> k_ne) (by refine ⟨?_, ?_, ?_, ?_, ?_, ?_, ?_, ?_, ?_, ?_, ?_, ?_, trivial⟩ <;> k_ne)
    obtain ⟨d, m, ns, hlo, hL⟩ := hLS.open'
    dsimp only at hlo
    rw [← hlo]
    have hall := And.intro (show Below callerA (ghostOf _ _) [] (ghostOf _ _) by assumption) (And.intro (show Frag.In _ (ghostOf _ _) by assumption) (And.intro (show Top topProg _ _ _ _ (ghostOf _ _) by assumption) (And.intro (show CodeHd (ghostOf _ _) 118 114 by assumption) (And.intro (show AllBare _ by assumption) hL))))
    clear hL hLS hlo hI F₁ N₁
    revert hall
    revert ns m d
    repeat (first | (rename_i z; first | clear z | revert z) | fail "x")
    exact hP' trivial
end Mine
-- part G1
set_option maxHeartbeats 1000000
namespace Mine
theorem fresh_G1 : True := by
  w_top off
  trivial
/-- how a comprehension's own name is kept: the frame's objects, of which Fv speaks -/
structure CompVar (M : Model) (A : Around) (cenv : Env) (x : Str) (Fv : Option Value → List (Addr × Obj) → Prop) (VA : List Addr) : Prop where
  addr : ∀ o fr, Fv o fr → ∀ p ∈ fr, p.1 ∈ VA
  cov : ∀ o fr, Fv o fr → ∀ b ∈ VA, ∃ p ∈ fr, p.1 = b
  store : ∀ (o : Option Value) (fr : List (Addr × Obj)) (v : Value) (s : Shared) (E : Value → Shared → Prop) (Q : Unit → Shared → Prop), Fv o fr → (∀ p ∈ fr, s.heap.get? p.1 = some p.2) →
    (∀ h' tk fr', Fv (some v) fr' → (∀ p ∈ fr', h'.get? p.1 = some p.2) → (∀ b, b ∉ VA → h'.get? b = s.heap.get? b) → Q () { s with heap := h', toks := tk }) → wpAny M A (storeName cenv x v) Q E s
def OffA (I D : Addr) (VA : List Addr) (nx : List (Addr × Obj)) : Prop := ∀ p ∈ nx, p.1 ≠ I ∧ p.1 ≠ D ∧ p.1 ∉ VA
/-- the end of an item -/
def OwnEnd (h₀ : Heap) (L : Addr) (m : Str → Option Value) (s₁ : Shared) (I : Addr) (oI : Obj) (D : Addr) (oD : Obj) (fr : List (Addr × Obj)) (VA : List Addr) (J : Value → List (Addr × Obj) → Prop) (y : Value) (s₂ : Shared) : Prop :=
  ∃ h' tk gs nx, s₂ = { s₁ with heap := h', toks := tk, gens := gs } ∧ AllBare gs ∧ Fr h₀ L h' m ∧ News h₀ L h' ((I, oI) :: (D, oD) :: (fr ++ nx)) ∧ OffA I D VA nx ∧ J y nx
section
variable {prog : Program} {w : World} {A : Around} {s : Shared} {h₀ : Heap} {L : Addr} {m : Str → Option Value}
theorem own_block {elt iter : Expr} {x : Str} {px : Pos} {scope : Scope} {pos : Pos} {I D : Addr} {fp VA : List Addr} {n : Nat} {P : Nat → Value → Prop} {St : Nat → Heap → Prop} {news fr₀ : List (Addr × Obj)} {cenv : Env} {Fv : Option Value → List (Addr × Obj) → Prop} {o₀ : Option Value} {R : Result → Shared → Prop}
    (J : Nat → List Value → List (Addr × Obj) → Prop) (W : Walks prog w A I fp [I] n P St) (cv : CompVar (model prog w) A cenv x Fv VA) (hsz : n ≤ sizeLine) (hIo : ∀ i h, St i h → ∃ o, h.get? I = some o)
    (hSt : ∀ i h h' o ys nx, St i h → h.get? I = some o → h'.get? I = some o → News h₀ L h' nx → J i ys nx → St i h')
    (hyl : ∀ i ys nx, J i ys nx → ys.length = i)
    (hst : St 0 s.heap) (hb : AllBare s.gens) (F : Fr h₀ L s.heap m) (N : News h₀ L s.heap ((D, LCg.lst []) :: (fr₀ ++ news))) (hf₀ : Fv o₀ fr₀) (hoff : OffA I D VA news) (hj : J 0 [] news)
    (hIL : I ≠ L) (hI₀ : h₀.get? I = none) (hIV : I ∉ VA) (hDV : D ∉ VA) (hID : I ≠ D) (hDf : D ∉ fp) (hVf : ∀ b ∈ VA, b ∉ fp)
    (turn : ∀ i v oI fr ys nx h tk gs (E' : Value → Shared → Prop), i < n → P i v → J i ys nx → AllBare gs → Fv (some v) fr → Fr h₀ L h m → News h₀ L h ((I, oI) :: (D, LCg.lst ys) :: (fr ++ nx)) → OffA I D VA nx →
      wpAny (model prog w) A (eval elt cenv) (OwnEnd h₀ L m { s with heap := h, toks := tk, gens := gs } I oI D (LCg.lst ys) fr VA (fun y nx' => J (i + 1) (ys ++ [y]) nx')) E' { s with heap := h, toks := tk, gens := gs })
    (fin : ∀ o fr ys nx h tk gs, J n ys nx → AllBare gs → Fv o fr → Fr h₀ L h m → News h₀ L h ((D, LCg.lst ys) :: (fr ++ nx)) → OffA I D VA nx → R (.ok .next) { s with heap := h, toks := tk, gens := gs }) :
    codeAny (model prog w) A (.compStart (.ListComp elt [⟨.Name x px, iter, [], 0⟩] scope pos) 0 (.ref I) (.ref D) cenv) R s := by
  have hIf : I ∈ fp := W.sub I (List.mem_singleton.mpr rfl)
  have loop : codeAny (model prog w) A (.compLoop (.ListComp elt [⟨.Name x px, iter, [], 0⟩] scope pos) 0 (.ref I) (.ref D) cenv) R s := by
    refine codeAny_compLoop_tests
      (fun k s' => ∃ i h tk gs o fr ys nx, i ≤ n ∧ k = n + 1 - i ∧ s' = { s with heap := h, toks := tk, gens := gs } ∧ AllBare gs ∧ St i h ∧ Fr h₀ L h m ∧ News h₀ L h ((D, LCg.lst ys) :: (fr ++ nx)) ∧ Fv o fr ∧ OffA I D VA nx ∧ J i ys nx) ?_ (n + 1)
      ⟨0, s.heap, s.toks, s.gens, o₀, fr₀, [], news, Nat.zero_le _, rfl, rfl, hb, hst, F, N, hf₀, hoff, hj⟩
    rintro k s' ⟨i, H, tk, gs, o, fr, ys, nx, hi, rfl, rfl, hbare, hst', F', N', hf, off, hJ⟩
    have nI : ∀ p ∈ (D, LCg.lst ys) :: (fr ++ nx), p.1 ≠ I := by
      intro p hp
      rcases List.mem_cons.mp hp with rfl | hp
      · exact Ne.symm hID
      · rcases List.mem_append.mp hp with hp | hp
        · exact fun e => hIV (e ▸ cv.addr _ _ hf p hp)
        · exact (off p hp).1
    by_cases hlt : i < n
    · refine W.item i _ _ _ hlt hst' fun v h₂ tk₂ hPv hst₂ hk₂ => ?_
      have N₂ : News h₀ L h₂ ((D, LCg.lst ys) :: (fr ++ nx)) := LCg.news_but N' hk₂ nI
      have F₂ : Fr h₀ L h₂ m := LCg.fr_but F' hk₂ (Ne.symm hIL) hI₀
      refine wpAny_assign_Name (cv.store o fr v _ _ _ hf (fun p hp => (N₂ p (.tail _ (List.mem_append_left _ hp))).1) fun h₃ tk₃ fr' hf' hg' hs₃ => ?_)
      refine wpAny_tests_nil ?_
      simp only [if_true]
      have hVn : ∀ b ∈ VA, b ≠ L ∧ h₀.get? b = none := by
        intro b hb'
        obtain ⟨p, hp, rfl⟩ := cv.cov _ _ hf b hb'
        exact (N₂ p (.tail _ (List.mem_append_left _ hp))).2
      have hst₃ : St (i + 1) h₃ := W.frame _ _ _ hst₂ fun b hb' o' e => (hs₃ b fun hv => hVf b hv hb').trans e
      obtain ⟨oI, heI⟩ := hIo _ _ hst₃
      have F₃ : Fr h₀ L h₃ m := ⟨F₂.ns.at' fun o' e => (hs₃ L fun hv => (hVn L hv).1 rfl).trans e, fun b o' e => (hs₃ b fun hv => by rw [(hVn b hv).2] at e; cases e).trans (F₂.keep b o' e), F₂.above⟩
      have N₃ : News h₀ L h₃ ((I, oI) :: (D, LCg.lst ys) :: (fr' ++ nx)) := by
        intro p hp
        rcases List.mem_cons.mp hp with rfl | hp
        · exact ⟨heI, hIL, hI₀⟩
        · rcases List.mem_cons.mp hp with rfl | hp
          · exact ⟨(hs₃ _ hDV).trans (N₂ _ (.head _)).1, (N₂ _ (.head _)).2⟩
          · rcases List.mem_append.mp hp with hp | hp
            · exact ⟨hg' p hp, hVn _ (cv.addr _ _ hf' p hp)⟩
            · have z := N₂ p (.tail _ (List.mem_append_right _ hp))
              exact ⟨(hs₃ _ (off p hp).2.2).trans z.1, z.2⟩
      refine wpAny_mono (turn i v oI fr' ys nx h₃ tk₃ gs _ hlt hPv hJ hbare hf' F₃ N₃ off) (fun y s₄ h₄ => ?_) fun _ _ e => e
      obtain ⟨h₄, tk₄, gs₄, nx₄, rfl, hb₄, F₄, N₄, off₄, hJ₄⟩ := h₄
      have zI := (N₄ _ (.head _)).1
      have zD := (N₄ _ (.tail _ (.head _)))
      have N₅ : News h₀ L h₄ (fr' ++ nx₄) := fun p hp => N₄ p (.tail _ (.tail _ hp))
      have hst₄ : St (i + 1) h₄ := hSt _ _ _ _ _ nx₄ hst₃ heI zI (fun p hp => N₅ p (List.mem_append_right _ hp)) hJ₄
      refine append_at (hsz := by show ys.toArray.size ≤ sizeLine; rw [List.size_toArray, hyl i ys nx hJ]; omega) zD.1 fun h₅ hs₅ hD₅ => ?_
      refine ⟨n + 1 - (i + 1), by omega, i + 1, h₅, tk₄, gs₄, some v, fr', ys ++ [y], nx₄, hlt, rfl, rfl, hb₄, ?_, F₄.change hs₅ zD.2.1 zD.2.2, ?_, hf', off₄, hJ₄⟩
      · exact W.frame _ _ _ hst₄ fun b hb' o' e => hs₅.extBut b o' (fun q => hDf (q ▸ hb')) e
      · intro p hp
        rcases List.mem_cons.mp hp with rfl | hp
        · exact ⟨hD₅.trans (congrArg some (LCg.lst_snoc ys y)), zD.2⟩
        · refine ⟨hs₅.extBut _ _ ?_ (N₅ p hp).1, (N₅ p hp).2⟩
          rcases List.mem_append.mp hp with hp | hp
          · exact fun e => hDV (e ▸ cv.addr _ _ hf' p hp)
          · exact (off₄ p hp).2.1
    · obtain rfl : i = n := Nat.le_antisymm hi (Nat.not_lt.mp hlt)
      refine W.done _ _ _ hst' fun h₂ tk₂ hk₂ => ?_
      exact fin o fr ys nx h₂ tk₂ gs hJ hbare hf (LCg.fr_but F' hk₂ (Ne.symm hIL) hI₀) (LCg.news_but N' hk₂ nI) off
  exact codeAny_compStart_list loop (W.self 0 _ _ _ hst loop)
end
end Mine
-- part G2
namespace Mine
theorem fresh_G2 : True := by
  w_top off
  trivial
/-- what a comprehension runs over -/
def Feed (prog : Program) (w : World) (A : Around) (h₀ : Heap) (L : Addr) (xv : Value) (s : Shared) (n : Nat) (P : Nat → Value → Prop) (K : List (Addr × Obj) → Prop) : Prop :=
  ∃ (oI : Obj) (fp : List Addr) (St : Nat → Heap → Prop), (∀ (Q : Value → Shared → Prop) (E : Value → Shared → Prop), Q (.ref s.heap.objs.size) { s with heap := s.heap.push oI } → wpAny (model prog w) A (pyIter xv) Q E s) ∧
    Walks prog w A s.heap.objs.size fp [s.heap.objs.size] n P St ∧ (∀ b ∈ fp, b ≤ s.heap.objs.size) ∧ (∀ i h, St i h → ∃ o, h.get? s.heap.objs.size = some o) ∧
    (∀ i h h' o nx, St i h → h.get? s.heap.objs.size = some o → h'.get? s.heap.objs.size = some o → News h₀ L h' nx → K nx → St i h') ∧ St 0 (s.heap.push oI)
section
variable {prog : Program} {w : World} {A : Around} {s : Shared} {h₀ : Heap} {L : Addr} {m : Str → Option Value} {E : Value → Shared → Prop}
theorem Feed.list {ax : Addr} {vs : List Value} {k : Nat} {news : List (Addr × Obj)} (hh : A.handled = none) (N : News h₀ L s.heap news) (hm : (ax, listOf vs.toArray k) ∈ news) :
    Feed prog w A h₀ L (.ref ax) s vs.length (fun i v => vs[i]? = some v) (fun nx => (ax, listOf vs.toArray k) ∈ nx) := by
  have hl : s.heap.IsList ax vs.toArray := ⟨_, (N _ hm).1, rfl, _, rfl⟩
  have hlt : ax < s.heap.objs.size := Heap.lt_size (N _ hm).1
  have W := Walks.list (prog := prog) (w := w) hh s.heap.objs.size ax (Nat.ne_of_lt hlt) vs.toArray
  refine ⟨_, [s.heap.objs.size, ax], fun i h => h.IsListIter s.heap.objs.size ax i ∧ h.IsList ax vs.toArray, fun Q E hQ => wpAny_pyIter_list hl hQ, ?_, ?_, ?_, ?_, ⟨⟨_, Heap.get?_push_size _ rfl, rfl, rfl⟩, hl.push _⟩⟩
  · simpa using W
  · intro b hb
    rcases List.mem_cons.mp hb with rfl | hb
    · exact Nat.le_refl _
    · rw [List.mem_singleton.mp hb]; exact Nat.le_of_lt hlt
  · intro i h st
    obtain ⟨o, e, _⟩ := st.1
    exact ⟨o, e⟩
  · intro i h h' o nx st e e' N' hk
    refine ⟨?_, ⟨_, (N' _ hk).1, rfl, _, rfl⟩⟩
    obtain ⟨o', q, r⟩ := st.1
    rw [e] at q
    cases q
    exact ⟨o, e', r⟩
theorem Feed.range {r : Addr} {a b c : Int} {t u v : Tok} {n : Nat} (hh : A.handled = none) (hr : IsRange s.heap r a b c t u v) (hsm : Builtin.Range.small a b c = true) (hn : Builtin.Range.rangeSize a b c = ((n : Nat) : Int)) :
    Feed prog w A h₀ L (.ref r) s n (fun i v => ∃ t, v = .int (a + i * c) t) (fun _ => True) := by
  refine ⟨_, [s.heap.objs.size], fun i h => IsRangeIter h s.heap.objs.size (a + (i : Nat) * c) ((n : Int) - (i : Nat)) c, fun Q E hQ => wpAny_pyIter_range hr hsm hQ, Walks.range hh s.heap.objs.size a c n, ?_, ?_, ?_, ?_⟩
  · intro b hb
    rw [List.mem_singleton.mp hb]; exact Nat.le_refl _
  · intro i h st
    exact ⟨_, st⟩
  · intro i h h' o nx st e e' N' _
    have st' : h.get? s.heap.objs.size = some _ := st
    show h'.get? s.heap.objs.size = some _
    rw [e', ← e]; exact st'
  · show IsRangeIter _ _ _ _ _
    rw [hn]; simpa using Heap.get?_push_size _ rfl
/-- the frame of a comprehension whose name is local -/
def FvL (C : Addr) (x : Str) (o : Option Value) (fr : List (Addr × Obj)) : Prop := ∃ oC m₂, fr = [(C, oC)] ∧ LCg.NsObj oC m₂ ∧ ∀ v, o = some v → m₂ x = some v
/-- the frame of a comprehension whose name is a cell -/
def FvC (C c : Addr) (o : Option Value) (fr : List (Addr × Obj)) : Prop := ∃ oC m₂ oc, fr = [(C, oC), (c, oc)] ∧ LCg.NsObj oC m₂ ∧ oc.data = .cell o
theorem varL {M : Model} {cenv : Env} {x : Str} (hl : cenv.kindOf x = some .local) (hp : (cenv.scope.kind == .class || (cenv.scope.kind == .module && cenv.locals != cenv.globals)) = false) : CompVar M A cenv x (FvL cenv.locals x) [cenv.locals] where
  addr := by rintro o fr ⟨oC, m₂, rfl, _, _⟩ p hp; rw [List.mem_singleton.mp hp]; exact .head _
  cov := by rintro o fr ⟨oC, m₂, rfl, _, _⟩ b hb; exact ⟨_, .head _, (List.mem_singleton.mp hb).symm⟩
  store := by
    rintro o fr v s E Q ⟨oC, m₂, rfl, hC, _⟩ hg hQ
    refine wpAny_storeName_local hl (hC.ns (hg _ (.head _))) (fun h' hn hs => ?_) hp
    obtain ⟨oC', e', hC'⟩ := LCg.ns_obj hn
    refine hQ h' _ [(cenv.locals, oC')] ⟨oC', _, rfl, hC', fun v' e => by cases e; simp⟩ (fun p hp => by rw [List.mem_singleton.mp hp]; exact e') fun b hb => hs.2 b (by simpa using hb)
theorem varC {M : Model} {cenv : Env} {x : Str} {c : Addr} (hk : cenv.scope.kind = .function) (hl : cenv.kindOf x = some .cell) (hc : cenv.cells.lookup x = some c) (hne : c ≠ cenv.locals) : CompVar M A cenv x (FvC cenv.locals c) [cenv.locals, c] where
  addr := by
    rintro o fr ⟨oC, m₂, oc, rfl, _, _⟩ p hp
    rcases List.mem_cons.mp hp with rfl | hp
    · exact .head _
    · rw [List.mem_singleton.mp hp]; exact .tail _ (.head _)
  cov := by
    rintro o fr ⟨oC, m₂, oc, rfl, _, _⟩ b hb
    rcases List.mem_cons.mp hb with rfl | hb
    · exact ⟨_, .head _, rfl⟩
    · exact ⟨_, .tail _ (.head _), (List.mem_singleton.mp hb).symm⟩
  store := by
    rintro o fr v s E Q ⟨oC, m₂, oc, rfl, hC, hd⟩ hg hQ
    refine wpAny_storeName_cell hk hl hc ⟨oc, hg _ (.tail _ (.head _)), hd⟩ fun h' hn hs => ?_
    obtain ⟨oc', e', hd'⟩ := hn
    refine hQ h' _ [(cenv.locals, oC), (c, oc')] ⟨oC, m₂, oc', rfl, hC, hd'⟩ (fun p hp => ?_) fun b hb => hs.2 b (by intro e; exact hb (by rw [e]; exact .tail _ (.head _)))
    rcases List.mem_cons.mp hp with rfl | hp
    · exact (hs.2 _ (Ne.symm hne)).trans (hg _ (.head _))
    · rw [List.mem_singleton.mp hp]; exact e'
theorem new_env_cell {M : Model} {scope : Scope} {globals : Addr} {cl cs : List (Str × Addr)} {qual : Str} {env : Env} {Q : Env → Shared → Prop}
    (hc : cellsFrom (s.heap.objs.size + 1) scope.names cl = cs) (hp : ∀ h, pushCells h scope.names = h.push { cls := .type "cell", data := .cell none })
    (hQ : Q (newEnv scope s.heap.objs.size globals cs qual none .none (some env) builtinsNs) { s with heap := (s.heap.push { cls := .type "dict", data := .dict #[] }).push { cls := .type "cell", data := .cell none } }) :
    wpAny M A (newFunctionEnv scope globals cl [] qual none .none (some env)) Q E s := by
  simp only [newFunctionEnv, Option.isSome_some, if_true]
  refine wpAny_bind (wpAny_alloc ?_)
  refine wpAny_bind (wpAny_layCells _ (fun name kind cells => by cases hkc : kind == NameKind.cell <;> simp [hkc]) _ _ _ _ ?_)
  rw [show ({ s with heap := s.heap.push { cls := .type "dict", data := .dict #[] } } : Shared).heap.objs.size = s.heap.objs.size + 1 from Heap.size_push .., hc, hp]
  exact wpAny_bind (wpAny_pure (wpAny_pure hQ))
end
end Mine
-- part G3
namespace Mine
theorem fresh_G3 : True := by
  w_top off
  trivial
def LocSrc (prog : Program) (w : World) (A : Around) (h₀ : Heap) (L : Addr) (m : Str → Option Value) (env : Env) (elt : Expr) (x : Str) (scope : Scope) (cl : List (Str × Addr)) (Q : Value → Shared → Prop) (xv : Value) (s : Shared) : Prop :=
  ∃ (n : Nat) (P : Nat → Value → Prop) (K : List (Addr × Obj) → Prop) (news : List (Addr × Obj)) (J : Nat → List Value → List (Addr × Obj) → Prop), Feed prog w A h₀ L xv s n P K ∧ n ≤ 1000 ∧ Fr h₀ L s.heap m ∧ News h₀ L s.heap news ∧ AllBare s.gens ∧
    (∀ i ys nx, J i ys nx → ys.length = i ∧ K nx) ∧ J 0 [] news ∧
    (∀ i v I oI D C oC m₂ ys nx h tk gs (E' : Value → Shared → Prop), i < n → P i v → J i ys nx → AllBare gs → LCg.NsObj oC m₂ → m₂ x = some v → Fr h₀ L h m → News h₀ L h ((I, oI) :: (D, LCg.lst ys) :: (C, oC) :: nx) → OffA I D [C] nx → ((@Ne Nat I C) ∧ (@Ne Nat I D) ∧ (@Ne Nat C D)) →
      wpAny (model prog w) A (eval elt (compEnvC scope cl C env)) (OwnEnd h₀ L m { s with heap := h, toks := tk, gens := gs } I oI D (LCg.lst ys) [(C, oC)] [C] (fun y nx' => J (i + 1) (ys ++ [y]) nx')) E' { s with heap := h, toks := tk, gens := gs }) ∧
    (∀ D ys nx h tk gs, J n ys nx → AllBare gs → Fr h₀ L h m → News h₀ L h ((D, LCg.lst ys) :: nx) → (∀ p ∈ nx, p.1 ≠ D) → Q (.ref D) { s with heap := h, toks := tk, gens := gs })
def CellSrc (prog : Program) (w : World) (A : Around) (h₀ : Heap) (L : Addr) (m : Str → Option Value) (env : Env) (elt : Expr) (x : Str) (scope : Scope) (cl : List (Str × Addr)) (Q : Value → Shared → Prop) (xv : Value) (s : Shared) : Prop :=
  ∃ (n : Nat) (P : Nat → Value → Prop) (K : List (Addr × Obj) → Prop) (news : List (Addr × Obj)) (J : Nat → List Value → List (Addr × Obj) → Prop), Feed prog w A h₀ L xv s n P K ∧ n ≤ 1000 ∧ Fr h₀ L s.heap m ∧ News h₀ L s.heap news ∧ AllBare s.gens ∧
    (∀ i ys nx, J i ys nx → ys.length = i ∧ K nx) ∧ J 0 [] news ∧
    (∀ i v I oI D C oC c oc ys nx h tk gs (E' : Value → Shared → Prop), i < n → P i v → J i ys nx → AllBare gs → oc.data = .cell (some v) → Fr h₀ L h m → News h₀ L h ((I, oI) :: (D, LCg.lst ys) :: (C, oC) :: (c, oc) :: nx) → OffA I D [C, c] nx →
      wpAny (model prog w) A (eval elt (compEnvC scope ((x, c) :: cl) C env)) (OwnEnd h₀ L m { s with heap := h, toks := tk, gens := gs } I oI D (LCg.lst ys) [(C, oC), (c, oc)] [C, c] (fun y nx' => J (i + 1) (ys ++ [y]) nx')) E' { s with heap := h, toks := tk, gens := gs }) ∧
    (∀ D ys nx h tk gs, J n ys nx → AllBare gs → Fr h₀ L h m → News h₀ L h ((D, LCg.lst ys) :: nx) → (∀ p ∈ nx, p.1 ≠ D) → Q (.ref D) { s with heap := h, toks := tk, gens := gs })
section
variable {prog : Program} {w : World} {A : Around} {s : Shared} {h₀ : Heap} {L : Addr} {m : Str → Option Value} {E : Value → Shared → Prop} {env : Env}
theorem fresh0 {h₀ h : Heap} {L : Addr} {m : Str → Option Value} (F : Fr h₀ L h m) {a : Addr} (ha : h.objs.size ≤ a) : h₀.get? a = none ∧ a ≠ L := by
  refine ⟨?_, fun e => absurd F.ns.lt (by rw [← e]; exact Nat.not_lt.mpr ha)⟩
  cases e : h₀.get? a with
  | none => rfl
  | some o => exact absurd (Heap.lt_size (F.keep a o e)) (Nat.not_lt.mpr ha)
theorem ListComp_loc {elt iter : Expr} {x : Str} {px : Pos} {scope : Scope} {cl : List (Str × Addr)} {pos : Pos} {Q : Value → Shared → Prop}
    (hclos : closureFor scope env = pure cl) (hcell : ∀ y ∈ scope.names, y.2 ≠ .cell) (hkind : scope.kind = .function)
    (hnames : ∀ y ∈ scope.names, y.2 = .local → scope.names.lookup y.1 = some .local) (hx : scope.names.lookup x = some .local)
    (h : wpAny (model prog w) A (eval iter env) (LocSrc prog w A h₀ L m env elt x scope cl Q) E s)
    (hs : ∀ x, foldedSetIterable iter env x = pure x := by intro _; rfl) :
    wpAny (model prog w) A (eval (.ListComp elt [⟨.Name x px, iter, [], 0⟩] scope pos) env) Q E s := by
  rw [eval_ListComp]
  refine wpAny_comprehension_free (use := none) rfl hs hclos hkind hnames (wpAny_mono h (fun xv s₁ h₁ => ?_) fun _ _ e => e)
  obtain ⟨n, P, K, news, J, ⟨oI, fp, St, hit, W, hfp, hIo, hSt, hst⟩, hn, F, N, hb, hJ, hj, turn, fin⟩ := h₁
  refine hit _ _ ?_
  refine wpAny_newObj_type (wpAny_newFunctionEnv hcell (by intro y hy; simp at hy) (fun h₄ hns hsb => ?_) hkind)
  dsimp only at hns hsb ⊢
  generalize hI : s₁.heap.objs.size = I at *
  have hD : (s₁.heap.push oI).objs.size = I + 1 := by rw [Heap.size_push, hI]
  have hC : ((s₁.heap.push oI).push { cls := .type "list", dict := none, data := .seq ([] : List Value).toArray }).objs.size = I + 1 + 1 := by rw [Heap.size_push, hD]
  rw [hC] at hns hsb ⊢
  rw [hD]
  obtain ⟨oC, eC, hoC⟩ := LCg.ns_obj hns
  have f0 := fresh0 F (a := I) (by rw [hI]; exact Nat.le_refl _)
  have f1 := fresh0 F (a := I + 1) (by rw [hI]; exact Nat.le_succ _)
  have f2 := fresh0 F (a := I + 1 + 1) (by rw [hI]; exact Nat.le_succ_of_le (Nat.le_succ _))
  have ltI : ∀ b o, s₁.heap.get? b = some o → @LT.lt Nat _ b I := fun b o e => hI ▸ Heap.lt_size e
  have hfp' : ∀ b ∈ fp, @LE.le Nat _ b I := hfp
  have old : ∀ b o, (s₁.heap.push oI).get? b = some o → h₄.get? b = some o := fun b o e => hsb.extBut b o (by have z : @LT.lt Nat _ b (I + 1) := hD ▸ Heap.lt_size e; intro q; have q' : @Eq Nat b (I + 1 + 1) := q; omega) (Heap.get?_push_of_some _ (Heap.get?_push_of_some _ e))
  have old' : ∀ b o, s₁.heap.get? b = some o → h₄.get? b = some o := fun b o e => old b o (Heap.get?_push_of_some _ e)
  have hacc : h₄.get? (I + 1) = some (LCg.lst []) := hsb.extBut _ _ (Nat.ne_of_lt (Nat.lt_succ_self _)) (Heap.get?_push_of_some _ (by rw [← hD]; exact Heap.get?_push_size _ rfl))
  have hst₄ : St 0 h₄ := W.frame _ _ _ hst fun b _ o e => old b o e
  refine own_block (h₀ := h₀) (L := L) (m := m) (D := I + 1) (VA := [I + 1 + 1]) (Fv := FvL (I + 1 + 1) x) (o₀ := none) (fr₀ := [(I + 1 + 1, oC)]) (news := news) J W ?cv (by rw [sizeLine_eq]; omega) hIo (fun i h h' o ys nx a b c d e => hSt i h h' o nx a b c d (hJ _ _ _ e).2) (fun i ys nx e => (hJ _ _ _ e).1) hst₄ hb (F.keeps old') ?N ⟨oC, _, rfl, hoC, fun v e => by cases e⟩ ?off hj f0.2 f0.1 ?iv ?dv (Nat.ne_of_lt (Nat.lt_succ_self _)) ?df ?vf ?turn ?fin
  case cv =>
    exact varL (cenv := compEnvC scope cl (I + 1 + 1) env) (lookup_relabel_local hx) (by simp [compEnvC, relabel, hkind])
  case N =>
    intro p hp
    rcases List.mem_cons.mp hp with rfl | hp
    · exact ⟨hacc, f1.2, f1.1⟩
    · rcases List.mem_cons.mp hp with rfl | hp
      · exact ⟨eC, f2.2, f2.1⟩
      · exact ⟨old' _ _ (N p hp).1, (N p hp).2⟩
  case off =>
    intro p hp
    have := ltI _ _ (N p hp).1
    exact ⟨Nat.ne_of_lt this, Nat.ne_of_lt (by omega), by rw [List.mem_singleton]; exact Nat.ne_of_lt (by omega)⟩
  case iv => rw [List.mem_singleton]; exact Nat.ne_of_lt (by omega)
  case dv => rw [List.mem_singleton]; exact Nat.ne_of_lt (by omega)
  case df => intro hm; have := hfp' _ hm; omega
  case vf => intro b hb' hm; rw [List.mem_singleton] at hb'; subst hb'; have := hfp' _ hm; omega
  case turn =>
    rintro i v oI' fr ys nx h' tk gs E' hi hP hj' hb' ⟨oC', m₂, rfl, hC', hx'⟩ F' N' off'
    exact turn i v I oI' (I + 1) (I + 1 + 1) oC' m₂ ys nx h' tk gs E' hi hP hj' hb' hC' (hx' v rfl) F' N' off' ⟨Nat.ne_of_lt (by omega), Nat.ne_of_lt (by omega), Nat.ne_of_gt (by omega)⟩
  case fin =>
    rintro o fr ys nx h' tk gs hj' hb' ⟨oC', m₂, rfl, hC', _⟩ F' N' off'
    refine ⟨m₂, hC'.ns (N' _ (.tail _ (.head _))).1, fun h'' hs'' => ?_⟩
    refine fin (I + 1) ys nx h'' tk gs hj' hb' (F'.change hs'' f2.2 f2.1) ?_ fun p hp => (off' p hp).2.1
    intro p hp
    rcases List.mem_cons.mp hp with rfl | hp
    · exact ⟨hs''.extBut _ _ (Nat.ne_of_lt (Nat.lt_succ_self _)) (N' _ (.head _)).1, (N' _ (.head _)).2⟩
    · have z := N' p (.tail _ (.tail _ hp))
      exact ⟨hs''.extBut _ _ (fun e => (off' p hp).2.2 (by rw [e]; exact .head _)) z.1, z.2⟩
theorem ListComp_cell {elt iter : Expr} {x : Str} {px : Pos} {scope : Scope} {cl : List (Str × Addr)} {pos : Pos} {Q : Value → Shared → Prop}
    (hclos : closureFor scope env = pure cl) (hcs : ∀ n, cellsFrom n scope.names cl = (x, n) :: cl) (hpc : ∀ h, pushCells h scope.names = h.push { cls := .type "cell", data := .cell none }) (hkind : scope.kind = .function)
    (hnames : ∀ y ∈ scope.names, y.2 = .local → scope.names.lookup y.1 = some .local) (hx : (relabel scope env).names.lookup x = some .cell)
    (h : wpAny (model prog w) A (eval iter env) (CellSrc prog w A h₀ L m env elt x scope cl Q) E s)
    (hs : ∀ x, foldedSetIterable iter env x = pure x := by intro _; rfl) :
    wpAny (model prog w) A (eval (.ListComp elt [⟨.Name x px, iter, [], 0⟩] scope pos) env) Q E s := by
  rw [eval_ListComp]
  refine wpAny_comprehension_free (use := none) rfl hs hclos hkind hnames (wpAny_mono h (fun xv s₁ h₁ => ?_) fun _ _ e => e)
  obtain ⟨n, P, K, news, J, ⟨oI, fp, St, hit, W, hfp, hIo, hSt, hst⟩, hn, F, N, hb, hJ, hj, turn, fin⟩ := h₁
  refine hit _ _ ?_
  refine wpAny_newObj_type (new_env_cell (hcs _) hpc ?_)
  dsimp only
  generalize hI : s₁.heap.objs.size = I at *
  have hD : (s₁.heap.push oI).objs.size = I + 1 := by rw [Heap.size_push, hI]
  have hC : ((s₁.heap.push oI).push { cls := .type "list", dict := none, data := .seq ([] : List Value).toArray }).objs.size = I + 1 + 1 := by rw [Heap.size_push, hD]
  have hc : (((s₁.heap.push oI).push { cls := .type "list", dict := none, data := .seq ([] : List Value).toArray }).push { cls := .type "dict", data := .dict #[] }).objs.size = I + 1 + 1 + 1 := by rw [Heap.size_push, hC]
  have hns := Heap.Ns.new ((s₁.heap.push oI).push { cls := .type "list", dict := none, data := .seq ([] : List Value).toArray }) (.type "dict")
  rw [hC] at hns ⊢
  rw [hD]
  generalize hh4 : (((s₁.heap.push oI).push { cls := .type "list", dict := none, data := .seq ([] : List Value).toArray }).push { cls := .type "dict", data := .dict #[] }).push { cls := .type "cell", data := .cell none } = h₄
  have up4 : ∀ b o, (((s₁.heap.push oI).push { cls := .type "list", dict := none, data := .seq ([] : List Value).toArray }).push { cls := .type "dict", data := .dict #[] }).get? b = some o → h₄.get? b = some o := fun b o e => hh4 ▸ Heap.get?_push_of_some _ e
  obtain ⟨oC, eC, hoC⟩ := LCg.ns_obj hns
  replace eC := up4 _ _ eC
  have ec : h₄.get? (I + 1 + 1 + 1) = some { cls := .type "cell", data := .cell none } := by rw [← hh4, ← hc]; exact Heap.get?_push_size _ rfl
  have f0 := fresh0 F (a := I) (by rw [hI]; exact Nat.le_refl _)
  have f1 := fresh0 F (a := I + 1) (by rw [hI]; exact Nat.le_succ _)
  have f2 := fresh0 F (a := I + 1 + 1) (by rw [hI]; exact Nat.le_succ_of_le (Nat.le_succ _))
  have f3 := fresh0 F (a := I + 1 + 1 + 1) (by rw [hI]; exact Nat.le_succ_of_le (Nat.le_succ_of_le (Nat.le_succ _)))
  have ltI : ∀ b o, s₁.heap.get? b = some o → @LT.lt Nat _ b I := fun b o e => hI ▸ Heap.lt_size e
  have hfp' : ∀ b ∈ fp, @LE.le Nat _ b I := hfp
  have old : ∀ b o, (s₁.heap.push oI).get? b = some o → h₄.get? b = some o := fun b o e => up4 _ _ (Heap.get?_push_of_some _ (Heap.get?_push_of_some _ e))
  have old' : ∀ b o, s₁.heap.get? b = some o → h₄.get? b = some o := fun b o e => old b o (Heap.get?_push_of_some _ e)
  have hacc : h₄.get? (I + 1) = some (LCg.lst []) := up4 _ _ (Heap.get?_push_of_some _ (by rw [← hD]; exact Heap.get?_push_size _ rfl))
  have hst₄ : St 0 h₄ := W.frame _ _ _ hst fun b _ o e => old b o e
  refine own_block (h₀ := h₀) (L := L) (m := m) (D := I + 1) (VA := [I + 1 + 1, I + 1 + 1 + 1]) (Fv := FvC (I + 1 + 1) (I + 1 + 1 + 1)) (o₀ := none) (fr₀ := [(I + 1 + 1, oC), (I + 1 + 1 + 1, { cls := .type "cell", data := .cell none })]) (news := news) J W ?cv (by rw [sizeLine_eq]; omega) hIo (fun i h h' o ys nx a b c d e => hSt i h h' o nx a b c d (hJ _ _ _ e).2) (fun i ys nx e => (hJ _ _ _ e).1) hst₄ hb (F.keeps old') ?N ⟨oC, _, _, rfl, hoC, rfl⟩ ?off hj f0.2 f0.1 ?iv ?dv (Nat.ne_of_lt (Nat.lt_succ_self _)) ?df ?vf ?turn ?fin
  case cv =>
    exact varC (cenv := compEnvC scope ((x, I + 1 + 1 + 1) :: cl) (I + 1 + 1) env) (by simp [compEnvC, relabel, hkind]) hx (by simp [compEnvC]) (Nat.ne_of_gt (Nat.lt_succ_self _))
  case N =>
    intro p hp
    rcases List.mem_cons.mp hp with rfl | hp
    · exact ⟨hacc, f1.2, f1.1⟩
    · rcases List.mem_cons.mp hp with rfl | hp
      · exact ⟨eC, f2.2, f2.1⟩
      · rcases List.mem_cons.mp hp with rfl | hp
        · exact ⟨ec, f3.2, f3.1⟩
        · exact ⟨old' _ _ (N p hp).1, (N p hp).2⟩
  case off =>
    intro p hp
    have := ltI _ _ (N p hp).1
    refine ⟨Nat.ne_of_lt this, Nat.ne_of_lt (by omega), ?_⟩
    intro hm
    rcases List.mem_cons.mp hm with e | hm
    · exact absurd e (Nat.ne_of_lt (by omega))
    · exact absurd (List.mem_singleton.mp hm) (Nat.ne_of_lt (by omega))
  case iv =>
    intro hm
    rcases List.mem_cons.mp hm with e | hm
    · exact absurd e (Nat.ne_of_lt (by omega))
    · exact absurd (List.mem_singleton.mp hm) (Nat.ne_of_lt (by omega))
  case dv =>
    intro hm
    rcases List.mem_cons.mp hm with e | hm
    · exact absurd e (Nat.ne_of_lt (by omega))
    · exact absurd (List.mem_singleton.mp hm) (Nat.ne_of_lt (by omega))
  case df => intro hm; have := hfp' _ hm; omega
  case vf =>
    intro b hb' hm
    have := hfp' _ hm
    rcases List.mem_cons.mp hb' with e | hm'
    · subst e; omega
    · have e := List.mem_singleton.mp hm'; subst e; omega
  case turn =>
    rintro i v oI' fr ys nx h' tk gs E' hi hP hj' hb' ⟨oC', m₂, oc', rfl, hC', hd'⟩ F' N' off'
    exact turn i v I oI' (I + 1) (I + 1 + 1) oC' (I + 1 + 1 + 1) oc' ys nx h' tk gs E' hi hP hj' hb' hd' F' N' off'
  case fin =>
    rintro o fr ys nx h' tk gs hj' hb' ⟨oC', m₂, oc', rfl, hC', _⟩ F' N' off'
    refine ⟨m₂, hC'.ns (N' _ (.tail _ (.head _))).1, fun h'' hs'' => ?_⟩
    refine fin (I + 1) ys nx h'' tk gs hj' hb' (F'.change hs'' f2.2 f2.1) ?_ fun p hp => (off' p hp).2.1
    intro p hp
    rcases List.mem_cons.mp hp with rfl | hp
    · exact ⟨hs''.extBut _ _ (Nat.ne_of_lt (Nat.lt_succ_self _)) (N' _ (.head _)).1, (N' _ (.head _)).2⟩
    · have z := N' p (.tail _ (.tail _ (.tail _ hp)))
      exact ⟨hs''.extBut _ _ (fun e => (off' p hp).2.2 (by rw [e]; exact .head _)) z.1, z.2⟩
end
end Mine
-- part M2
namespace Mine
theorem fresh_M2 : True := by
  w_top off
  trivial
def lineF (x : Int) : Str := drawnF x ++ Str.ofString "\n"
def offN (xs : List Int) : Nat := (xs.map fun x => (lineF x).length).sum
def texts (xs : List Int) : List Str := Str.ofString "mail: " :: xs.map lineF
def chkD (k : Int) (x : Str) : Dat := .list ((chk k.toNat x.length x.length).map .int)
def notD (n : Nat) : Dat := .list [.int (n : Int), .int ((n : Int) + 6)]
def notedD (ns : List Int) (i : Nat) : List Dat := (List.range i).map fun j => notD (offN (ns.take j))
def takenD (k : Int) (xs : List Int) : List Dat := (texts xs).map (chkD k)
def signsS (xs : List Int) : List Str := (texts xs).flatMap signs
theorem ints_dat {news : List (Addr × Obj)} {vs : List Value} {ns : List Int} (h : IntsAre vs ns) : DatAll news vs (ns.map .int) := by
  induction h with
  | nil => exact .nil
  | cons n t r ih => exact .cons (.int n t) ih
theorem strs_dat {news : List (Addr × Obj)} : ∀ {vs : List Value} {xs : List Str}, StrsAre vs xs → DatAll news vs (xs.map .str)
  | _, _, .nil => .nil
  | _, _, .cons _ _ r => .cons (.str _ _) (strs_dat r)
theorem offN_snoc (xs : List Int) (x : Int) : offN (xs ++ [x]) = offN xs + (lineF x).length := by unfold offN; simp
theorem takenD_snoc (k : Int) (xs : List Int) (x : Int) : takenD k (xs ++ [x]) = takenD k xs ++ [chkD k (lineF x)] := by unfold takenD texts; simp
theorem signsS_snoc (xs : List Int) (x : Int) : signsS (xs ++ [x]) = signsS xs ++ signs (lineF x) := by unfold signsS texts; simp
theorem notedD_succ (ns : List Int) (i : Nat) : notedD ns (i + 1) = notedD ns i ++ [notD (offN (ns.take i))] := by unfold notedD; rw [List.range_succ]; simp
theorem lineF_len (x : Int) : (lineF x).length = (drawnF x).length + 1 := by unfold lineF; exact Str.length_append _ _
theorem offN_le (xs : List Int) : offN xs ≤ 21 * xs.length := by
  induction xs with
  | nil => simp [offN]
  | cons x r ih =>
    have := (drawn_len x).2
    have h2 := lineF_len x
    unfold offN at *
    simp only [List.map_cons, List.sum_cons, List.length_cons]
    omega
/-- what stays from the loop on -/
structure LawC (w : World) (L : Addr) (ns : List Int) (d : Dev) (ud up D2 r NU TA NO : Addr) (ys2 ws nws : List Value) (kr : Nat) (oN oD oK oS : Obj) (ps : Array Value) : Prop where
  ok : d.OkU ud up (lawRest L D2 r NU ys2 ws nws kr oN oD oK oS ps)
  cN : oN.data = .cell (some (.ref NO))
  cD : oD.data = .cell (some (.ref D2))
  cK : oK.data = .cell (some (.int d.k d.tk₀))
  cS : oS.data = .cell (some (.ref d.sg))
  sY : StrsAre ys2 (ns.map drawnF)
  sW : StrsAre ws (ns.map drawnF)
  sN : IntsAre nws ns
  n8 : ns.length ≤ 8
  lt : ∀ b ∈ [d.sg, d.ld, d.lo, d.tp, d.td, d.wr, d.cW, d.c1, d.c2, ud, up, D2, r, NU, L + 1 + 1 + 1 + 1, L + 1 + 1 + 1, L + 1 + 1, L + 1, 114], @LT.lt Nat _ b TA
  tn : @LT.lt Nat _ TA NO
/-- the ledger from the loop on -/
def loopL (w : World) (L : Addr) (d : Dev) (ud up : Addr) (uf uo : Tok) (D2 r NU TA NO : Addr) (ys2 ws nws : List Value) (kr : Nat) (oN oD oK oS : Obj) (ps : Array Value) (vs nts tts : List Value) (c q1 q2 : Nat) (a : Int) (ta : Tok) (b : Int) (tb : Tok) (its : List (Addr × Obj)) : List (Addr × Obj) :=
  d.all w ud up uf uo vs c a ta b tb ((NO, listOf nts.toArray q1) :: (TA, listOf tts.toArray q2) :: (lawRest L D2 r NU ys2 ws nws kr oN oD oK oS ps ++ its))
/-- the names of the law -/
def lawM (up lo r NU TA : Addr) (mm : Str → Option Value) (y : Str) : Option Value :=
  if y = Str.ofString "taken" then some (.ref TA) else if y = Str.ofString "upper" then some (.ref up) else if y = Str.ofString "lower" then some (.ref lo) else if y = Str.ofString "stands" then some (.ref r) else if y = Str.ofString "numbers" then some (.ref NU) else mm y
/-- the items of the two lists -/
structure LoopI (ns : List Int) (d : Dev) (ud TA NO : Addr) (k : Int) (vs nts tts : List Value) (j i : Nat) (its : List (Addr × Obj)) : Prop where
  sg : StrsAre vs (signsS (ns.take i))
  nt : DatAll its nts (notedD ns j)
  tt : DatAll its tts (takenD k (ns.take i))
  off : ∀ p ∈ its, p.1 ≠ d.sg ∧ p.1 ≠ d.ld ∧ p.1 ≠ ud ∧ p.1 ≠ NO ∧ p.1 ≠ TA
def loopJ (w : World) (L : Addr) (ns : List Int) (d : Dev) (ud up : Addr) (uf uo : Tok) (D2 r NU TA NO : Addr) (ys2 ws nws : List Value) (kr : Nat) (oN oD oK oS : Obj) (ps : Array Value) (i : Nat) (m : Str → Option Value) (nx : List (Addr × Obj)) : Prop :=
  ∃ (vs nts tts : List Value) (c q1 q2 : Nat) (a b : Int) (ta tb : Tok) (its : List (Addr × Obj)) (mm : Str → Option Value), m = lawM up d.lo r NU TA mm ∧ b = (offN (ns.take i) : Int) ∧ a = b + 6 ∧ LoopI ns d ud TA NO d.k vs nts tts i i its ∧
    nx = loopL w L d ud up uf uo D2 r NU TA NO ys2 ws nws kr oN oD oK oS ps vs nts tts c q1 q2 a ta b tb its
end Mine
-- part L7
set_option maxHeartbeats 8000000
namespace Mine
theorem fresh_L7 : True := by
  w_top off
  trivial
local macro_rules | `(tactic| walk_at "exec For Name Name cons nil") => `(tactic| (k_here; refine halt_out ?_))
local macro_rules | `(tactic| walk_at "storeName") => `(tactic| (k_here; (with_reducible show wpAny _ _ (storeName _ (Str.ofString "noted") _) _ _ _); refine halt_out ?_))
theorem lawM_of {up lo r NU TA : Addr} {m : Str → Option Value} (h1 : m (Str.ofString "taken") = some (.ref TA)) (h2 : m (Str.ofString "upper") = some (.ref up)) (h3 : m (Str.ofString "lower") = some (.ref lo)) (h4 : m (Str.ofString "stands") = some (.ref r)) (h5 : m (Str.ofString "numbers") = some (.ref NU)) : m = lawM up lo r NU TA m := by
  funext z
  unfold lawM
  split
  · rename_i h; rw [h, h1]
  · split
    · rename_i h; rw [h, h2]
    · split
      · rename_i h; rw [h, h3]
      · split
        · rename_i h; rw [h, h4]
        · split
          · rename_i h; rw [h, h5]
          · rfl
theorem Dev.OkU.of_map {d : Dev} {ud up : Addr} {R R' : List (Addr × Obj)} (h : d.OkU ud up R) (e : R'.map (·.1) = R.map (·.1)) : d.OkU ud up R' := by
  have k : ∀ q ∈ R', ∃ q' ∈ R, q'.1 = q.1 := by
    intro q hq
    have := List.mem_map_of_mem (f := (·.1)) hq
    rw [e] at this
    exact List.mem_map.mp this
  refine ⟨⟨h.ok.d1, h.ok.d2, h.ok.e1, h.ok.e2, h.ok.hk2, h.ok.hk7, h.ok.ne1, h.ok.ne2, ?_, ?_⟩, h.n1, h.n2, ?_⟩
  · intro q hq; obtain ⟨q', h1, h2⟩ := k q hq; rw [← h2]; exact h.ok.r1 q' h1
  · intro q hq; obtain ⟨q', h1, h2⟩ := k q hq; rw [← h2]; exact h.ok.r2 q' h1
  · intro q hq; obtain ⟨q', h1, h2⟩ := k q hq; rw [← h2]; exact h.r3 q' h1
noncomputable def ck4 : PSigma fun P : Prop => P → ck3.1 := by
  refine' ⟨_, fun hP => _⟩
  rotate_left
  · have hP' : True → _ := fun _ => hP
    clear hP
    unfold ck3
    dsimp only
    k_fill
    intro oN NU nws oS oK cd fa mb mg s₁ s₀ w oD cT cW t15 up ud h t19 D2 ys2 gs kr ws r tk d m ns hall
    obtain ⟨B, X, T, CH, hb, hL0⟩ := hall
    obtain ⟨uf, uo, tb0, ta0, ps, hL⟩ : ∃ uf uo tb0 ta0 ps, LawSt w (ghostOf s₁.heap [(118, 114)]) s₁.heap.objs.size h m ns d ud up uf uo D2 r NU ys2 ws nws kr oN oD oK oS ps ta0 tb0 := ⟨_, _, _, _, _, hL0⟩
    clear hL0
    have F₁ := hL.F
    have N₁ := hL.N
    have ok := hL.ok
    have cN := hL.cN
    have cD := hL.cD
    have cK := hL.cK
    have cS := hL.cS
    k_dflt (refine' sentL_c (d := d) ?kB F₁ ?kX N₁ ?kT CH ?kk ?kd ?ku (ok.low _ _) ?hx ?hv ?_)
    case kB => k_asm
    case kX => k_asm
    case kT => k_asm
    case kk => first | exact rfl | assumption
    case kd => ktr_room
    case ku => ktr_units
    case hx => decide
    case hv => exact Nat.zero_le _
    intro tl ts ws' c q tb' h' tk' F₂ N₂ hlt hws' hts
    obtain ⟨vN, cN⟩ := cN
    have N₃ := low_pull N₂
    rw [List.nil_append, show (0 : Int) + ((Str.ofString "mail: ").length : Int) = 6 from by decide] at N₃ hlt
    clear N₂ N₁ F₁
    unfold Dev.low lawRest at N₃
    unfold Dev.low lawRest at hlt
    k_lt hlt
    dsimp only
    k_steps
    unfold Halt
    rename_i TA hA lA NO hB lB TP hC lC hD hE F₅ N₅
    have ne := hL.neN
    have lA' : ∀ b ∈ [d.sg, d.ld, d.lo, d.tp, d.td, d.wr, d.cW, d.c1, d.c2, ud, up, D2, r, NU, s₁.heap.objs.size + 1 + 1 + 1 + 1, s₁.heap.objs.size + 1 + 1 + 1, s₁.heap.objs.size + 1 + 1, s₁.heap.objs.size + 1, 114], @LT.lt Nat _ b TA := by
      obtain ⟨_, a1, a2, a3, a4, a5, a6, a7, a8, a9, a10, a11, a12, a13, a14, a15, a16, a17, a18, a19⟩ := lA
      simp only [List.forall_mem_cons]
      exact ⟨a1, a2, a3, a4, a5, a6, a7, a8, a9, a10, a11, a12, a13, a14, a15, a16, a17, a18, a19, List.forall_mem_nil _⟩
    have tlA : @LT.lt Nat _ tl TA := lA.1
    have tn : @LT.lt Nat _ TA NO := lB.1
    have tp : @LT.lt Nat _ NO TP := lC.1
    have l4 : @LT.lt Nat _ (s₁.heap.objs.size + 1 + 1 + 1 + 1) TA := lA' _ (by simp)
    have l4' : @LT.lt Nat _ (s₁.heap.objs.size + 1 + 1 + 1 + 1) tl := hlt.2.2.2.2.2.2.2.2.2.2.2.2.2.2.1
    have tl' : @LT.lt Nat _ d.sg tl ∧ @LT.lt Nat _ d.ld tl ∧ @LT.lt Nat _ ud tl := ⟨hlt.1, hlt.2.1, hlt.2.2.2.2.2.2.2.2.2.1⟩
    clear lA lB lC hlt
    have N₆ : News _ _ _ ((s₁.heap.objs.size + 1 + 1 + 1 + 1, oN) :: d.all w ud up uf uo ws' c 6 tb' 0 tb0 ((NO, listOf #[] 0) :: (TA, listOf #[Value.ref tl] 0) :: (D2, LCg.lst ys2) :: (r, listOf ws.toArray kr) :: (NU, listOf nws.toArray 0) :: (s₁.heap.objs.size + 1 + 1 + 1, oD) :: (s₁.heap.objs.size + 1 + 1, oK) :: (s₁.heap.objs.size + 1, oS) :: (114, tabObj ps) :: (tl, listOf ts.toArray q) :: [])) := news_pick N₅ [18, 4, 5, 6, 7, 8, 9, 10, 11, 12, 13, 14, 1, 2, 15, 16, 17, 19, 20, 21, 22, 3] 23 rfl
    clear N₅
    refine storeX_C (cl := cellsFrom (s₁.heap.objs.size + 1) _ []) F₅ N₆ rfl (UpdF.head ?hne) cN ?_ rfl rfl
    case hne =>
      obtain ⟨n1, n2, n3, n4, n5, n6, n7, n8, n9, n10, n11, n12, n13, n14, n15⟩ := ne
      intro z hz
      unfold Dev.all Dev.low at hz
      simp only [List.mem_cons, List.not_mem_nil, or_false] at hz
      rcases hz with rfl | rfl | rfl | rfl | rfl | rfl | rfl | rfl | rfl | rfl | rfl | rfl | rfl | rfl | rfl | rfl | rfl | rfl | rfl | rfl | rfl
      · exact n1
      · exact n2
      · exact n3
      · exact n4
      · exact n5
      · exact n6
      · exact n7
      · exact n8
      · exact n9
      · exact n10
      · exact n11
      · exact Nat.ne_of_gt (Nat.lt_trans l4 tn)
      · exact Nat.ne_of_gt l4
      · exact n12
      · exact n13
      · exact n14
      · exact Nat.ne_of_lt (Nat.lt_succ_self _)
      · exact Nat.ne_of_lt (Nat.lt_succ_of_lt (Nat.lt_succ_self _))
      · exact Nat.ne_of_lt (Nat.lt_succ_of_lt (Nat.lt_succ_of_lt (Nat.lt_succ_self _)))
      · exact n15
      · exact Nat.ne_of_gt l4'
    intro h6 o6 F6 N6 d6
    clear N₆ F₅ ne l4 l4' tp
    have hC : LawC w s₁.heap.objs.size ns d ud up D2 r NU TA NO ys2 ws nws kr o6 oD oK oS ps := ⟨ok.of_map rfl, d6, cD, cK, cS, hL.sY, hL.sW, hL.sN, hL.n8, lA', tn⟩
    have hJ : loopJ w s₁.heap.objs.size ns d ud up uf uo D2 r NU TA NO ys2 ws nws kr o6 oD oK oS ps 0 (lawM up d.lo r NU TA m) (loopL w s₁.heap.objs.size d ud up uf uo D2 r NU TA NO ys2 ws nws kr o6 oD oK oS ps ws' [] [.ref tl] c 0 0 6 tb' 0 tb0 [(tl, listOf ts.toArray q)]) := by
      refine ⟨ws', [], [.ref tl], c, 0, 0, 6, 0, tb', tb0, [(tl, listOf ts.toArray q)], m, rfl, rfl, rfl, ⟨?_, .nil, ?_, ?_⟩, rfl⟩
      · simpa [signsS, texts] using hws'
      · exact .cons (.list (.head _) (ints_dat hts)) .nil
      · intro p hp
        rw [List.mem_singleton.mp hp]
        exact ⟨Nat.ne_of_gt tl'.1, Nat.ne_of_gt tl'.2.1, Nat.ne_of_gt tl'.2.2, Nat.ne_of_lt (Nat.lt_trans tlA tn), Nat.ne_of_lt tlA⟩
    have N7 : News _ _ _ (loopL w s₁.heap.objs.size d ud up uf uo D2 r NU TA NO ys2 ws nws kr o6 oD oK oS ps ws' [] [.ref tl] c 0 0 6 tb' 0 tb0 [(tl, listOf ts.toArray q)]) := news_pick N6 [1, 2, 3, 4, 5, 6, 7, 8, 9, 10, 11, 12, 13, 14, 15, 16, 0, 17, 18, 19, 20, 21] 22 rfl
    have F7 : Fr _ _ _ (lawM up d.lo r NU TA m) := F6
    clear N6 F6 hL ok lA' tn tl' tlA cD cK cS d6 hws' hts cN vN
    dsimp only
    k_steps
    unfold Halt
    obtain ⟨mJ, nxJ, hJ', F8, N8⟩ : ∃ mJ nxJ, loopJ w s₁.heap.objs.size ns d ud up uf uo D2 r NU TA NO ys2 ws nws kr o6 oD oK oS ps 0 mJ nxJ ∧ Fr (ghostOf s₁.heap [(118, 114)]) s₁.heap.objs.size h6 mJ ∧ News (ghostOf s₁.heap [(118, 114)]) s₁.heap.objs.size h6 nxJ := ⟨_, _, hJ, F7, N7⟩
    have hall := And.intro B (And.intro X (And.intro T (And.intro CH (And.intro hb (And.intro hC (And.intro hJ' (And.intro F8 N8)))))))
    clear B X T CH hb hC hJ F7 N7 hJ' F8 N8
    revert hall
    revert mJ nxJ
    try clear tl
    try clear ts
    try clear ws'
    try clear c
    try clear q
    try clear tb'
    try clear m
    try clear tk'
    try clear h'
    try clear oN
    try clear ta0
    try clear tb0
    try clear t15
    try clear cT
    try clear cW
    try clear h
    try clear hE
    try clear hD
    try clear hC
    try clear hB
    try clear hA
    try clear TP
    repeat (first | (rename_i z; first | clear z | revert z) | fail "x")
    revert w s₀ s₁ mg mb fa cd
    revert oD oK oS o6 ps nws ws ys2
    revert ns d ud up uf uo D2 r NU TA NO kr
    try revert gs
    try revert h6
    try revert tk
    try revert t19
    exact hP' trivial
end Mine
-- part M3
set_option maxHeartbeats 1000000
namespace Mine
theorem fresh_M3 : True := by
  w_top off
  trivial
theorem mem_all {d : Dev} {w : World} {ud up : Addr} {uf uo : Tok} {vs : List Value} {n : Nat} {a : Int} {ta : Tok} {b : Int} {tb : Tok} {R : List (Addr × Obj)} {p : Addr × Obj} : p ∈ d.all w ud up uf uo vs n a ta b tb R ↔ p ∈ d.all w ud up uf uo vs n a ta b tb [] ∨ p ∈ R := by
  unfold Dev.all Dev.low
  simp only [List.mem_cons, List.not_mem_nil, or_false, or_assoc]
def OffX (d : Dev) (ud TA NO : Addr) (X : List (Addr × Obj)) : Prop := ∀ p ∈ X, p.1 ≠ d.sg ∧ p.1 ≠ d.ld ∧ p.1 ≠ ud ∧ p.1 ≠ NO ∧ p.1 ≠ TA
section
variable {w : World} {L : Addr} {ns : List Int} {d : Dev} {ud up D2 r NU TA NO : Addr} {ys2 ws nws : List Value} {kr : Nat} {oN oD oK oS : Obj} {ps : Array Value}
theorem LawC.lt_all (h : LawC w L ns d ud up D2 r NU TA NO ys2 ws nws kr oN oD oK oS ps) {uf uo : Tok} {vs : List Value} {n : Nat} {a : Int} {ta : Tok} {b : Int} {tb : Tok} : ∀ p ∈ d.all w ud up uf uo vs n a ta b tb [], @LT.lt Nat _ p.1 TA := by
  intro p hp
  exact h.lt p.1 (pick_mem [0, 1, 2, 3, 4, 5, 6, 7, 8, 9, 10] 19 rfl p.1 (List.mem_map_of_mem (f := (·.1)) hp))
theorem LawC.lt_rest (h : LawC w L ns d ud up D2 r NU TA NO ys2 ws nws kr oN oD oK oS ps) : ∀ p ∈ lawRest L D2 r NU ys2 ws nws kr oN oD oK oS ps, @LT.lt Nat _ p.1 TA := by
  intro p hp
  exact h.lt p.1 (pick_mem [11, 12, 13, 14, 15, 16, 17, 18] 19 rfl p.1 (List.mem_map_of_mem (f := (·.1)) hp))
theorem LawC.sgs (h : LawC w L ns d ud up D2 r NU TA NO ys2 ws nws kr oN oD oK oS ps) : (@LT.lt Nat _ d.sg TA) ∧ (@LT.lt Nat _ d.ld TA) ∧ (@LT.lt Nat _ ud TA) := ⟨h.lt _ (by simp), h.lt _ (by simp), h.lt _ (by simp)⟩
theorem LawC.okX (h : LawC w L ns d ud up D2 r NU TA NO ys2 ws nws kr oN oD oK oS ps) {X : List (Addr × Obj)} (hX : OffX d ud TA NO X) (o1 o2 : Obj) : d.OkU ud up ((NO, o1) :: (TA, o2) :: (lawRest L D2 r NU ys2 ws nws kr oN oD oK oS ps ++ X)) := by
  obtain ⟨s1, s2, s3⟩ := h.sgs
  have tn := h.tn
  have ok := h.ok
  have key : d.OkU ud up (lawRest L D2 r NU ys2 ws nws kr oN oD oK oS ps ++ X) := by
    refine ⟨⟨ok.ok.d1, ok.ok.d2, ok.ok.e1, ok.ok.e2, ok.ok.hk2, ok.ok.hk7, ok.ok.ne1, ok.ok.ne2, ?_, ?_⟩, ok.n1, ok.n2, ?_⟩
    · intro q hq; rcases List.mem_append.mp hq with hq | hq
      · exact ok.ok.r1 q hq
      · exact (hX q hq).1
    · intro q hq; rcases List.mem_append.mp hq with hq | hq
      · exact ok.ok.r2 q hq
      · exact (hX q hq).2.1
    · intro q hq; rcases List.mem_append.mp hq with hq | hq
      · exact ok.r3 q hq
      · exact (hX q hq).2.2.1
  exact (key.cons (Nat.ne_of_gt s1) (Nat.ne_of_gt s2) (Nat.ne_of_gt s3)).cons (Nat.ne_of_gt (Nat.lt_trans s1 tn)) (Nat.ne_of_gt (Nat.lt_trans s2 tn)) (Nat.ne_of_gt (Nat.lt_trans s3 tn))
variable {uf uo : Tok} {vs nts tts : List Value} {c q1 q2 : Nat} {a b : Int} {ta tb : Tok} {X : List (Addr × Obj)} {p : Addr × Obj}
theorem mem_loop : p ∈ loopL w L d ud up uf uo D2 r NU TA NO ys2 ws nws kr oN oD oK oS ps vs nts tts c q1 q2 a ta b tb X ↔
    p ∈ d.all w ud up uf uo vs c a ta b tb [] ∨ p = (NO, listOf nts.toArray q1) ∨ p = (TA, listOf tts.toArray q2) ∨ p ∈ lawRest L D2 r NU ys2 ws nws kr oN oD oK oS ps ∨ p ∈ X := by
  unfold loopL
  rw [mem_all]
  simp only [List.mem_cons, List.mem_append]
/-- the ledger without NO, and without TA -/
def loopN (w : World) (L : Addr) (d : Dev) (ud up : Addr) (uf uo : Tok) (D2 r NU TA : Addr) (ys2 ws nws : List Value) (kr : Nat) (oN oD oK oS : Obj) (ps : Array Value) (vs tts : List Value) (c q2 : Nat) (a : Int) (ta : Tok) (b : Int) (tb : Tok) (X : List (Addr × Obj)) : List (Addr × Obj) :=
  d.all w ud up uf uo vs c a ta b tb ((TA, listOf tts.toArray q2) :: (lawRest L D2 r NU ys2 ws nws kr oN oD oK oS ps ++ X))
theorem mem_loopN : p ∈ loopN w L d ud up uf uo D2 r NU TA ys2 ws nws kr oN oD oK oS ps vs tts c q2 a ta b tb X ↔
    p ∈ d.all w ud up uf uo vs c a ta b tb [] ∨ p = (TA, listOf tts.toArray q2) ∨ p ∈ lawRest L D2 r NU ys2 ws nws kr oN oD oK oS ps ∨ p ∈ X := by
  unfold loopN
  rw [mem_all]
  simp only [List.mem_cons, List.mem_append]
theorem LawC.neN (h : LawC w L ns d ud up D2 r NU TA NO ys2 ws nws kr oN oD oK oS ps) (hX : OffX d ud TA NO X) : ∀ p ∈ loopN w L d ud up uf uo D2 r NU TA ys2 ws nws kr oN oD oK oS ps vs tts c q2 a ta b tb X, p.1 ≠ NO := by
  intro p hp
  rcases mem_loopN.mp hp with hp | rfl | hp | hp
  · exact Nat.ne_of_lt (Nat.lt_trans (h.lt_all p hp) h.tn)
  · exact Nat.ne_of_lt h.tn
  · exact Nat.ne_of_lt (Nat.lt_trans (h.lt_rest p hp) h.tn)
  · exact (hX p hp).2.2.2.1
theorem LawC.neT (h : LawC w L ns d ud up D2 r NU TA NO ys2 ws nws kr oN oD oK oS ps) (hX : OffX d ud TA NO X) : ∀ p ∈ loopN w L d ud up uf uo D2 r NU NO ys2 ws nws kr oN oD oK oS ps vs nts c q1 a ta b tb X, p.1 ≠ TA := by
  intro p hp
  rcases mem_loopN.mp hp with hp | rfl | hp | hp
  · exact Nat.ne_of_lt (h.lt_all p hp)
  · exact Nat.ne_of_gt h.tn
  · exact Nat.ne_of_lt (h.lt_rest p hp)
  · exact (hX p hp).2.2.2.2
end
/-- an append to a list of the ledger, what else is kept being said -/
theorem append_R {prog : Program} {w : World} {A : Around} {E : Value → Shared → Prop} {s : Shared} {h₀ : Heap} {L D : Addr} {m : Str → Option Value} {news : List (Addr × Obj)} {vs : List Value} {n : Nat} {x : Value} {Q : Value → Shared → Prop} (R : List (Addr × Obj))
    (F : Fr h₀ L s.heap m) (N : News h₀ L s.heap news) (hm : (D, listOf vs.toArray n) ∈ news) (hR : ∀ p ∈ R, p ∈ news) (hne : ∀ p ∈ R, p.1 ≠ D) (hsz : vs.length ≤ 1000)
    (h : ∀ h', Fr h₀ L h' m → News h₀ L h' ((D, listOf (vs ++ [x]).toArray (n + 1)) :: R) → Q .none { s with heap := h' }) : wpAny (model prog w) A (call (.builtin "list.append") [.ref D, x]) Q E s := by
  have N' : News h₀ L s.heap ((D, listOf vs.toArray n) :: R) := fun p hp => by
    rcases List.mem_cons.mp hp with rfl | hp
    · exact N _ hm
    · exact N p (hR p hp)
  refine append_K F N' (Upd.head hne) (fun h' F' N'' => ?_) (by rw [List.size_toArray, sizeLine_eq]; omega)
  rw [List.push_toArray] at N''
  exact h h' F' N''
end Mine
-- part L8
set_option maxHeartbeats 8000000
namespace Mine
theorem fresh_L8 : True := by
  w_top off
  trivial
local macro_rules | `(tactic| walk_at "spare 0") => `(tactic| skip)
local macro_rules | `(tactic| walk_at "call ref") => `(tactic| (k_here; (with_reducible show wpAny _ _ (call (Value.ref 126) _) _ _ _); refine halt_out ?_))
local macro_rules | `(tactic| walk_at "call builtin:list.append") => `(tactic| (k_here; refine halt_out ?_))
theorem signsS_len (xs : List Int) : (signsS xs).length = 6 + offN xs := by
  unfold signsS texts offN
  rw [List.flatMap_cons, List.length_append, signs_length]
  congr 1
  induction xs with
  | nil => rfl
  | cons x r ih => rw [List.map_cons, List.flatMap_cons, List.length_append, signs_length, ih]; simp
noncomputable def ck5 : PSigma fun P : Prop => P → ck4.1 := by
  refine' ⟨_, fun hP => _⟩
  rotate_left
  · have hP' : True → _ := fun _ => hP
    clear hP
    unfold ck4
    dsimp only
    k_fill
    intro t19 tk h6 gs NU up ud D2 kr r d ns uf uo TA NO nws oS oK oD ys2 ws ps oN cd fa mb mg s₁ s₀ w mJ nxJ hall
    obtain ⟨B, X, T, CH, hb, hC, hJ, F8, N8⟩ := hall
    have hst : mJ (Str.ofString "stands") = some (.ref r) := by
      obtain ⟨_, _, _, _, _, _, _, _, _, _, _, _, rfl, _⟩ := hJ
      rfl
    refine wpAny_For (nameX_L (cl := cellsFrom (s₁.heap.objs.size + 1) _ []) F8 hst ?_ rfl rfl) (fun _ => rfl)
    refine list_loop (env := envOfC _ _ _ _ _) (vs := ws) (n := kr) (loopJ w s₁.heap.objs.size ns d ud up uf uo D2 r NU TA NO ys2 ws nws kr oN oD oK oS ps) rfl rfl rfl F8 N8 hJ hb ?hl ?turn ?done
    case hl =>
      rintro i m nx ⟨vs, nts, tts, c, q1, q2, a, b, ta, tb, its, mm, rfl, _, _, _, rfl⟩
      unfold loopL Dev.all Dev.low lawRest
      simp only [List.mem_cons, List.cons_append, true_or, or_true]
    case turn =>
      intro i v m₁ nx own h tk gs hv hoff hJ hbare F₁ N₁
      obtain ⟨vs, nts, tts, c, q1, q2, a, b, ta, tb, its, mm, rfl, hbv, hav, hI, rfl⟩ := hJ
      obtain ⟨x, t, rfl, hx⟩ := hC.sW.item i v hv
      obtain ⟨y, hy, rfl⟩ : ∃ y, ns[i]? = some y ∧ drawnF y = x := by simpa using hx
      have cN := hC.cN
      have hlen : (drawnF y).length ≤ 20 := (drawn_len y).2
      unfold loopL Dev.all Dev.low lawRest at N₁
      simp only [List.cons_append, List.nil_append] at N₁
      unfold lawM at F₁
      clear F8 N8 hst
      have hi8 : i < 8 := by
        have h1 := (List.getElem?_eq_some_iff.mp hy).1
        have h2 := hC.n8
        omega
      have hofl : ∀ p ∈ own, p.1 ≠ d.sg ∧ p.1 ≠ d.ld ∧ p.1 ≠ ud ∧ p.1 ≠ NO ∧ p.1 ≠ TA := by
        intro p hp
        have k := hoff p hp
        exact ⟨k d.sg (List.mem_of_getElem? (i := 0) rfl), k d.ld (List.mem_of_getElem? (i := 1) rfl), k ud (List.mem_of_getElem? (i := 9) rfl), k NO (List.mem_of_getElem? (i := 11) rfl), k TA (List.mem_of_getElem? (i := 12) rfl)⟩
      have hX₀ : OffX d ud TA NO (its ++ own) := by
        intro p hp
        rcases List.mem_append.mp hp with hp | hp
        · exact hI.off p hp
        · exact hofl p hp
      have hnl : nts.length ≤ 1000 := by
        have := hI.nt.length
        unfold notedD at this
        rw [List.length_map, List.length_range] at this
        omega
      have htl : tts.length ≤ 1000 := by
        have := hI.tt.length
        unfold takenD texts at this
        simp only [List.length_map, List.length_cons, List.length_take] at this
        omega
      k_steps
      unfold Halt
      rename_i l₁ h₁ F₂ N₂ lt₁
      have hl₁ : ∀ q ∈ loopL w s₁.heap.objs.size d ud up uf uo D2 r NU TA NO ys2 ws nws kr oN oD oK oS ps vs nts tts c q1 q2 a ta b tb (its ++ own), q.1 < l₁ := allLt_mem lt₁
      have N₃ : News _ _ _ ((l₁, listOf [Value.int b tb, Value.int a ta].toArray 0) :: loopL w s₁.heap.objs.size d ud up uf uo D2 r NU TA NO ys2 ws nws kr oN oD oK oS ps vs nts tts c q1 q2 a ta b tb (its ++ own)) := N₂
      clear N₂ lt₁ N₁ F₁
      have tnl : @LT.lt Nat _ NO l₁ := hl₁ (NO, _) (mem_loop.mpr (.inr (.inl rfl)))
      have tnl2 : @LT.lt Nat _ TA l₁ := Nat.lt_trans hC.tn tnl
      have hX₁ : OffX d ud TA NO ((l₁, listOf [Value.int b tb, Value.int a ta].toArray 0) :: (its ++ own)) := by
        obtain ⟨e1, e2, e3⟩ := hC.sgs
        intro p hp
        rcases List.mem_cons.mp hp with rfl | hp
        · exact ⟨Nat.ne_of_gt (Nat.lt_trans e1 tnl2), Nat.ne_of_gt (Nat.lt_trans e2 tnl2), Nat.ne_of_gt (Nat.lt_trans e3 tnl2), Nat.ne_of_gt tnl, Nat.ne_of_gt tnl2⟩
        · exact hX₀ p hp
      refine append_R (vs := nts) (n := q1) (loopN w s₁.heap.objs.size d ud up uf uo D2 r NU TA ys2 ws nws kr oN oD oK oS ps vs tts c q2 a ta b tb ((l₁, listOf [Value.int b tb, Value.int a ta].toArray 0) :: (its ++ own))) F₂ N₃ (.tail _ (mem_loop.mpr (.inr (.inl rfl)))) ?hR (hC.neN hX₁) hnl ?_
      case hR =>
        intro p hp
        rcases mem_loopN.mp hp with hp | rfl | hp | hp
        · exact .tail _ (mem_loop.mpr (.inl hp))
        · exact .tail _ (mem_loop.mpr (.inr (.inr (.inl rfl))))
        · exact .tail _ (mem_loop.mpr (.inr (.inr (.inr (.inl hp)))))
        · rcases List.mem_cons.mp hp with rfl | hp
          · exact .head _
          · exact .tail _ (mem_loop.mpr (.inr (.inr (.inr (.inr hp)))))
      intro h₂ F₃ N₄
      have N₅ : News _ _ _ (loopL w s₁.heap.objs.size d ud up uf uo D2 r NU TA NO ys2 ws nws kr oN oD oK oS ps vs (nts ++ [Value.ref l₁]) tts c (q1 + 1) q2 a ta b tb ((l₁, listOf [Value.int b tb, Value.int a ta].toArray 0) :: (its ++ own))) := news_sub N₄ (by
        intro p hp
        rcases mem_loop.mp hp with hp | rfl | hp
        · exact .tail _ (mem_loopN.mpr (.inl hp))
        · exact .head _
        · exact .tail _ (mem_loopN.mpr (.inr hp)))
      clear N₃ N₄ F₂
      have N₆ := N₅
      unfold loopL Dev.all Dev.low lawRest at N₆
      simp only [List.cons_append, List.nil_append] at N₆
      dsimp only
      k_steps
      unfold Halt
      unfold loopL at N₅
      have hvl : vs.length ≤ 900 := by
        have h1 := hI.sg.len_eq
        rw [signsS_len] at h1
        have h2 := offN_le (ns.take i)
        have h3 : (ns.take i).length ≤ i := by rw [List.length_take]; omega
        omega
      have hll := lineF_len y
      k_dflt (refine' sentU_c (d := d) (x := lineF y) ?kB F₃ ?kX N₅ ?kT CH ?kk ?kd ?ku (hC.okX hX₁ _ _) ?hx hvl ?_)
      case kB => k_asm
      case kX => k_asm
      case kT => k_asm
      case kk => first | exact rfl | assumption
      case kd => ktr_room
      case ku => ktr_units
      case hx => omega
      intro tl ts ws' c' q tb' tb₂' h₃ tk' F₄ N₇ hlt hws' hts
      clear N₅ N₆ F₃
      dsimp only
      k_steps
      unfold Halt
      have hlt' : ∀ q ∈ loopL w s₁.heap.objs.size d ud up uf uo D2 r NU TA NO ys2 ws nws kr oN oD oK oS ps (vs ++ ws') (nts ++ [Value.ref l₁]) tts c' (q1 + 1) q2 (a + (lineF y).length) tb' (b + (lineF y).length) tb₂' ((l₁, listOf [Value.int b tb, Value.int a ta].toArray 0) :: (its ++ own)), q.1 < tl := hlt
      have tlN : @LT.lt Nat _ NO tl := hlt' (NO, _) (mem_loop.mpr (.inr (.inl rfl)))
      have tlT : @LT.lt Nat _ TA tl := Nat.lt_trans hC.tn tlN
      have hX₂ : OffX d ud TA NO ((tl, listOf ts.toArray q) :: (l₁, listOf [Value.int b tb, Value.int a ta].toArray 0) :: (its ++ own)) := by
        obtain ⟨e1, e2, e3⟩ := hC.sgs
        intro p hp
        rcases List.mem_cons.mp hp with rfl | hp
        · exact ⟨Nat.ne_of_gt (Nat.lt_trans e1 tlT), Nat.ne_of_gt (Nat.lt_trans e2 tlT), Nat.ne_of_gt (Nat.lt_trans e3 tlT), Nat.ne_of_gt tlN, Nat.ne_of_gt tlT⟩
        · exact hX₁ p hp
      refine append_R (vs := tts) (n := q2) (loopN w s₁.heap.objs.size d ud up uf uo D2 r NU NO ys2 ws nws kr oN oD oK oS ps (vs ++ ws') (nts ++ [Value.ref l₁]) c' (q1 + 1) (a + (lineF y).length) tb' (b + (lineF y).length) tb₂' ((tl, listOf ts.toArray q) :: (l₁, listOf [Value.int b tb, Value.int a ta].toArray 0) :: (its ++ own))) F₄ N₇ (mem_all.mpr (.inr (.tail _ (.tail _ (.head _))))) ?hR (hC.neT hX₂) htl ?_
      case hR =>
        intro p hp
        rcases mem_loopN.mp hp with hp | rfl | hp | hp
        · exact mem_all.mpr (.inl hp)
        · exact mem_all.mpr (.inr (.tail _ (.head _)))
        · exact mem_all.mpr (.inr (.tail _ (.tail _ (.tail _ (List.mem_append_left _ hp)))))
        · rcases List.mem_cons.mp hp with rfl | hp
          · exact mem_all.mpr (.inr (.head _))
          · exact mem_all.mpr (.inr (.tail _ (.tail _ (.tail _ (List.mem_append_right _ hp)))))
      intro h₄ F₅ N₈
      clear N₇ F₄ hlt
      have N₉ : News _ _ _ (loopL w s₁.heap.objs.size d ud up uf uo D2 r NU TA NO ys2 ws nws kr oN oD oK oS ps (vs ++ ws') (nts ++ [Value.ref l₁]) (tts ++ [Value.ref tl]) c' (q1 + 1) (q2 + 1) (a + (lineF y).length) tb' (b + (lineF y).length) tb₂' ((tl, listOf ts.toArray q) :: (l₁, listOf [Value.int b tb, Value.int a ta].toArray 0) :: (its ++ own))) := news_sub N₈ (by
        intro p hp
        rcases mem_loop.mp hp with hp | rfl | rfl | hp
        · exact .tail _ (mem_loopN.mpr (.inl hp))
        · exact .tail _ (mem_loopN.mpr (.inr (.inl rfl)))
        · exact .head _
        · exact .tail _ (mem_loopN.mpr (.inr (.inr hp))))
      clear N₈
      dsimp only
      k_steps
      have htk : ns.take (i + 1) = ns.take i ++ [y] := by rw [List.take_add_one, hy]; rfl
      have hsub : ∀ p ∈ (tl, listOf ts.toArray q) :: (l₁, listOf [Value.int b tb, Value.int a ta].toArray 0) :: its, p ∈ (tl, listOf ts.toArray q) :: (l₁, listOf [Value.int b tb, Value.int a ta].toArray 0) :: (its ++ own) := by
        intro p hp
        rcases List.mem_cons.mp hp with rfl | hp
        · exact .head _
        · rcases List.mem_cons.mp hp with rfl | hp
          · exact .tail _ (.head _)
          · exact .tail _ (.tail _ (List.mem_append_left _ hp))
      refine ⟨_, _, _, _, _, loopL w s₁.heap.objs.size d ud up uf uo D2 r NU TA NO ys2 ws nws kr oN oD oK oS ps (vs ++ ws') (nts ++ [Value.ref l₁]) (tts ++ [Value.ref tl]) c' (q1 + 1) (q2 + 1) (a + (lineF y).length) tb' (b + (lineF y).length) tb₂' ((tl, listOf ts.toArray q) :: (l₁, listOf [Value.int b tb, Value.int a ta].toArray 0) :: its), rfl, hbare, F₅, N₉, ?_, ?_, ?_, ?_⟩
      · intro p hp
        rcases mem_loop.mp hp with hp | hp | hp | hp | hp
        · exact mem_loop.mpr (.inl hp)
        · exact mem_loop.mpr (.inr (.inl hp))
        · exact mem_loop.mpr (.inr (.inr (.inl hp)))
        · exact mem_loop.mpr (.inr (.inr (.inr (.inl hp))))
        · exact mem_loop.mpr (.inr (.inr (.inr (.inr (hsub p hp)))))
      · intro p hp
        exact mem_loop.mpr (.inr (.inr (.inr (.inr (.tail _ (.tail _ (List.mem_append_right _ hp)))))))
      · intro p hp z hz e
        have lo1 : @LT.lt Nat _ p.1 l₁ := hl₁ p (mem_loop.mpr (.inr (.inr (.inr (.inr (List.mem_append_right _ hp))))))
        have lo2 : @LT.lt Nat _ p.1 tl := hlt' p (mem_loop.mpr (.inr (.inr (.inr (.inr (.tail _ (List.mem_append_right _ hp)))))))
        obtain ⟨p', hp', rfl⟩ := List.mem_map.mp hz
        have k := hoff p hp
        rcases mem_loop.mp hp' with hq | rfl | rfl | hq | hq
        · obtain ⟨p'', hp'', e''⟩ : ∃ p'' ∈ d.all w ud up uf uo vs c a ta b tb [], p''.1 = p'.1 := by
            have := List.mem_map_of_mem (f := (·.1)) hq
            exact List.mem_map.mp (show p'.1 ∈ (d.all w ud up uf uo vs c a ta b tb []).map (·.1) from this)
          exact k _ (List.mem_map_of_mem (mem_loop.mpr (.inl hp''))) (e.trans e''.symm)
        · exact (hofl p hp).2.2.2.1 e
        · exact (hofl p hp).2.2.2.2 e
        · exact k _ (List.mem_map_of_mem (mem_loop.mpr (.inr (.inr (.inr (.inl hq)))))) e
        · rcases List.mem_cons.mp hq with rfl | hq
          · exact absurd e (Nat.ne_of_lt lo2)
          · rcases List.mem_cons.mp hq with rfl | hq
            · exact absurd e (Nat.ne_of_lt lo1)
            · exact k _ (List.mem_map_of_mem (mem_loop.mpr (.inr (.inr (.inr (.inr hq)))))) e
      · refine ⟨_, _, _, _, _, _, _, _, _, _, _, _, lawM_of rfl rfl rfl rfl rfl, ?_, ?_, ⟨?_, ?_, ?_, ?_⟩, rfl⟩
        · rw [htk, offN_snoc, hbv]; simp
        · rw [hav]; omega
        · rw [htk, signsS_snoc]; exact hI.sg.append' hws'
        · rw [notedD_succ]
          refine (hI.nt.mono fun p hp => .tail _ (.tail _ hp)).append (.one (.list (.tail _ (.head _)) ?_))
          rw [hbv, hav, hbv]
          exact .cons (.int _ _) (.cons (.int _ _) .nil)
        · rw [htk, takenD_snoc]
          exact (hI.tt.mono fun p hp => .tail _ (.tail _ hp)).append (.one (.list (.head _) (ints_dat hts)))
        · exact fun p hp => hX₂ p (hsub p hp)
    case done =>
      intro m₁ nx h tk gs hJ₁ F₁ N₁ hb₁
      have hwl : ws.length = ns.length := by rw [hC.sW.len_eq, List.length_map]
      rw [hwl] at hJ₁
      dsimp only
      have hall := And.intro B (And.intro X (And.intro T (And.intro CH (And.intro hb₁ (And.intro hC (And.intro hJ₁ (And.intro F₁ N₁)))))))
      clear B X T CH hb hC hJ F8 N8 hJ₁ F₁ N₁ hst hb₁ hwl
      clear mJ nxJ
      try clear h6
      revert hall
      revert m₁ nx
      repeat (first | (rename_i z; first | clear z | revert z) | fail "x")
      try revert h
      try revert tk
      try revert gs
      revert w s₀ s₁ mg mb fa cd
      revert oD oK oS oN ps nws ws ys2
      revert ns d ud up uf uo D2 r NU TA NO kr
      try clear t19
      exact hP' trivial
end Mine
-- part L9
namespace Mine
theorem fresh_L9 : True := by
  w_top off
  trivial
local macro_rules | `(tactic| walk_at "call builtin:list.append") => `(tactic| (k_here; refine halt_out ?_))
local macro_rules | `(tactic| walk_at "exec Assign cons ListComp") => `(tactic| (k_here; refine halt_out ?_))
/-- the ledger behind the sendings -/
def finL (L SG NO TA D2 r NU : Addr) (vs nts tts ys2 ws nws : List Value) (c q1 q2 kr : Nat) (oN oD oK oS : Obj) (ps : Array Value) (its : List (Addr × Obj)) : List (Addr × Obj) :=
  (SG, listOf vs.toArray c) :: (NO, listOf nts.toArray q1) :: (TA, listOf tts.toArray q2) :: (D2, listOf ys2.toArray ys2.length) :: (r, listOf ws.toArray kr) :: (NU, listOf nws.toArray 0) :: (L + 1 + 1 + 1 + 1, oN) :: (L + 1 + 1 + 1, oD) :: (L + 1 + 1, oK) :: (L + 1, oS) :: (114, tabObj ps) :: its
def finM (r NU TA : Addr) (mm : Str → Option Value) (y : Str) : Option Value :=
  if y = Str.ofString "taken" then some (.ref TA) else if y = Str.ofString "stands" then some (.ref r) else if y = Str.ofString "numbers" then some (.ref NU) else mm y
structure FinC (ns : List Int) (k : Int) (tk₀ : Tok) (SG NO D2 : Addr) (vs nts tts ys2 ws nws : List Value) (oN oD oK oS : Obj) (its : List (Addr × Obj)) : Prop where
  cN : oN.data = .cell (some (.ref NO))
  cD : oD.data = .cell (some (.ref D2))
  cK : oK.data = .cell (some (.int k tk₀))
  cS : oS.data = .cell (some (.ref SG))
  sY : StrsAre ys2 (ns.map drawnF)
  sW : StrsAre ws (ns.map drawnF)
  sN : IntsAre nws ns
  sV : StrsAre vs (signsS ns)
  nt : DatAll its nts (notedD ns (ns.length + 1))
  tt : DatAll its tts (takenD k ns)
  n8 : ns.length ≤ 8
  k2 : 2 ≤ k
  k7 : k < 7
theorem finM_of {r NU TA : Addr} {m : Str → Option Value} (h1 : m (Str.ofString "taken") = some (.ref TA)) (h4 : m (Str.ofString "stands") = some (.ref r)) (h5 : m (Str.ofString "numbers") = some (.ref NU)) : m = finM r NU TA m := by
  funext z
  unfold finM
  split
  · rename_i h; rw [h, h1]
  · split
    · rename_i h; rw [h, h4]
    · split
      · rename_i h; rw [h, h5]
      · rfl
theorem fr_fin {h₀ h : Heap} {L r NU TA : Addr} {m : Str → Option Value} (F : Fr h₀ L h m) (h1 : m (Str.ofString "taken") = some (.ref TA)) (h4 : m (Str.ofString "stands") = some (.ref r)) (h5 : m (Str.ofString "numbers") = some (.ref NU)) : Fr h₀ L h (finM r NU TA m) := by
  rw [← finM_of h1 h4 h5]; exact F
noncomputable def ck6 : PSigma fun P : Prop => P → ck5.1 := by
  refine' ⟨_, fun hP => _⟩
  rotate_left
  · have hP' : True → _ := fun _ => hP
    clear hP
    unfold ck5
    dsimp only
    k_fill
    intro NU up ud D2 kr r d ns uf uo TA NO nws oS oK oD ys2 ws ps oN cd fa mb mg s₁ s₀ w gs tk h m₁ nx hall
    obtain ⟨B, X, T, CH, hb, hC, hJ, F₁, N₁⟩ := hall
    obtain ⟨vs, nts, tts, c, q1, q2, a, b, ta, tb, its, mm, rfl, hbv, hav, hI, rfl⟩ := hJ
    have cN := hC.cN
    unfold loopL Dev.all Dev.low lawRest at N₁
    simp only [List.cons_append, List.nil_append] at N₁
    unfold lawM at F₁
    have hnl : nts.length ≤ 1000 := by
      have := hI.nt.length
      unfold notedD at this
      rw [List.length_map, List.length_range] at this
      have := hC.n8
      omega
    k_steps
    unfold Halt
    rename_i l₁ h₁ F₂ N₂ lt₁
    have hl₁ : ∀ q ∈ loopL w s₁.heap.objs.size d ud up uf uo D2 r NU TA NO ys2 ws nws kr oN oD oK oS ps vs nts tts c q1 q2 a ta b tb its, q.1 < l₁ := allLt_mem lt₁
    have N₃ : News _ _ _ ((l₁, listOf [Value.int b tb, Value.int a ta].toArray 0) :: loopL w s₁.heap.objs.size d ud up uf uo D2 r NU TA NO ys2 ws nws kr oN oD oK oS ps vs nts tts c q1 q2 a ta b tb its) := N₂
    clear N₂ lt₁ N₁ F₁
    have tnl : @LT.lt Nat _ NO l₁ := hl₁ (NO, _) (mem_loop.mpr (.inr (.inl rfl)))
    have tnl2 : @LT.lt Nat _ TA l₁ := Nat.lt_trans hC.tn tnl
    have hX₁ : OffX d ud TA NO ((l₁, listOf [Value.int b tb, Value.int a ta].toArray 0) :: its) := by
      obtain ⟨e1, e2, e3⟩ := hC.sgs
      intro p hp
      rcases List.mem_cons.mp hp with rfl | hp
      · exact ⟨Nat.ne_of_gt (Nat.lt_trans e1 tnl2), Nat.ne_of_gt (Nat.lt_trans e2 tnl2), Nat.ne_of_gt (Nat.lt_trans e3 tnl2), Nat.ne_of_gt tnl, Nat.ne_of_gt tnl2⟩
      · exact hI.off p hp
    refine append_R (vs := nts) (n := q1) (loopN w s₁.heap.objs.size d ud up uf uo D2 r NU TA ys2 ws nws kr oN oD oK oS ps vs tts c q2 a ta b tb ((l₁, listOf [Value.int b tb, Value.int a ta].toArray 0) :: its)) F₂ N₃ (.tail _ (mem_loop.mpr (.inr (.inl rfl)))) ?hR (hC.neN hX₁) hnl ?_
    case hR =>
      intro p hp
      rcases mem_loopN.mp hp with hp | rfl | hp | hp
      · exact .tail _ (mem_loop.mpr (.inl hp))
      · exact .tail _ (mem_loop.mpr (.inr (.inr (.inl rfl))))
      · exact .tail _ (mem_loop.mpr (.inr (.inr (.inr (.inl hp)))))
      · rcases List.mem_cons.mp hp with rfl | hp
        · exact .head _
        · exact .tail _ (mem_loop.mpr (.inr (.inr (.inr (.inr hp)))))
    intro h₂ F₃ N₄
    have N₅ : News _ _ _ (finL s₁.heap.objs.size d.sg NO TA D2 r NU vs (nts ++ [Value.ref l₁]) tts ys2 ws nws c (q1 + 1) q2 kr oN oD oK oS ps ((l₁, listOf [Value.int b tb, Value.int a ta].toArray 0) :: its)) := news_pick N₄ [1, 0, 12, 13, 14, 15, 16, 17, 18, 19, 20] 21 rfl
    have hF : FinC ns d.k d.tk₀ d.sg NO D2 vs (nts ++ [Value.ref l₁]) tts ys2 ws nws oN oD oK oS ((l₁, listOf [Value.int b tb, Value.int a ta].toArray 0) :: its) := by
      have htk : ns.take ns.length = ns := List.take_length
      refine ⟨hC.cN, hC.cD, hC.cK, hC.cS, hC.sY, hC.sW, hC.sN, by have := hI.sg; rwa [htk] at this, ?_, ?_, hC.n8, hC.ok.ok.hk2, hC.ok.ok.hk7⟩
      · rw [notedD_succ]
        refine (hI.nt.mono fun p hp => .tail _ hp).append (.one (.list (.head _) ?_))
        rw [hbv, hav, hbv]
        exact .cons (.int _ _) (.cons (.int _ _) .nil)
      · have := hI.tt
        rw [htk] at this
        exact this.mono fun p hp => .tail _ hp
    have F₄ : Fr (ghostOf s₁.heap [(118, 114)]) s₁.heap.objs.size h₂ (finM r NU TA _) := fr_fin F₃ rfl rfl rfl
    clear N₃ N₄ F₂ F₃ hX₁ tnl tnl2 hl₁ hnl
    dsimp only
    k_steps
    unfold Halt
    obtain ⟨SG, k, tk₀, vs', nts', tts', c', q1', q2', its', m', hF', F₅, N₆⟩ : ∃ SG k tk₀ vs' nts' tts' c' q1' q2' its' m', FinC ns k tk₀ SG NO D2 vs' nts' tts' ys2 ws nws oN oD oK oS its' ∧ Fr (ghostOf s₁.heap [(118, 114)]) s₁.heap.objs.size h₂ (finM r NU TA m') ∧ News (ghostOf s₁.heap [(118, 114)]) s₁.heap.objs.size h₂ (finL s₁.heap.objs.size SG NO TA D2 r NU vs' nts' tts' ys2 ws nws c' q1' q2' kr oN oD oK oS ps its') := ⟨_, _, _, _, _, _, _, _, _, _, _, hF, F₄, N₅⟩
    have hall := And.intro B (And.intro X (And.intro T (And.intro CH (And.intro hb (And.intro hF' (And.intro F₅ N₆))))))
    clear B X T CH hb hC hF hF' F₄ F₅ N₅ N₆ hI hbv hav cN
    revert hall
    try clear qk
    try clear ek
    try clear qk
    try clear ek
    try clear qk
    try clear ek
    revert SG k tk₀ vs' nts' tts' c' q1' q2' its' m'
    try clear vs
    try clear nts
    try clear tts
    try clear c
    try clear q1
    try clear q2
    try clear a
    try clear b
    try clear ta
    try clear tb
    try clear its
    try clear mm
    try clear l₁
    try clear h₁
    try clear h
    try clear d
    try clear ud
    try clear up
    try clear uf
    try clear uo
    repeat (first | (rename_i z; first | clear z | revert z) | fail "x")
    try clear vs
    try clear nts
    try clear tts
    try clear c
    try clear q1
    try clear q2
    try clear a
    try clear b
    try clear ta
    try clear tb
    try clear its
    try clear mm
    try clear d
    try clear ud
    try clear up
    try clear uf
    try clear uo
    try revert h₂
    try revert tk
    try revert gs
    revert w s₀ s₁ mg mb fa cd
    revert oD oK oS oN ps nws ws ys2
    revert ns D2 r NU TA NO kr
    exact hP' trivial
end Mine
-- part P3
set_option maxHeartbeats 1000000
namespace Mine
theorem fresh_P3 : True := by
  w_top off
  trivial
def catS (xs : List Str) : Str := ⟨(xs.flatMap fun x => x.cps.toList).toArray⟩
theorem empty_cps : (Str.ofString "").cps = #[] := by decide
theorem fold_cat : ∀ (l : List Str) (a : Array Nat), l.foldl (fun acc p => acc ++ (Str.ofString "").cps ++ p.cps) a = a ++ (l.flatMap fun x => x.cps.toList).toArray
  | [], a => by simp
  | p :: l, a => by rw [List.foldl_cons, fold_cat l, empty_cps, List.flatMap_cons]; apply Array.toList_inj.mp; simp
theorem join_cat (xs : List Str) : Txt.join (Str.ofString "") xs = catS xs := by
  unfold Txt.join Builtin.Str.glued catS
  rw [fold_cat]
  cases xs with
  | nil => simp [Str.empty]
  | cons x r => simp
theorem catS_len (xs : List Str) : (catS xs).length = (xs.map (·.length)).sum := by
  unfold catS Str.length
  induction xs with
  | nil => rfl
  | cons x r ih =>
    rw [List.flatMap_cons, List.map_cons, List.sum_cons, ← ih]
    simp
theorem catS_lines (xs : List Int) : (catS (xs.map lineF)).length = offN xs := by
  rw [catS_len, List.map_map]; rfl
theorem str_ext {a b : Str} (h : a.cps = b.cps) : a = b := by cases a; cases b; cases h; rfl
theorem catS_append (xs ys : List Str) : catS (xs ++ ys) = catS xs ++ catS ys := by
  have e : (catS (xs ++ ys)).cps = (catS xs ++ catS ys).cps := by
    rw [Str.cps_append]
    unfold catS
    rw [List.flatMap_append]
    apply Array.toList_inj.mp
    simp
  exact str_ext e
theorem catS_one (x : Str) : catS [x] = x := by unfold catS; simp
theorem catS_signs (x : Str) : catS (signs x) = x := by
  unfold catS signs
  rw [List.flatMap_map]
  simp
theorem catS_flat (xs : List Str) : catS (xs.flatMap signs) = catS xs := by
  induction xs with
  | nil => rfl
  | cons x r ih => rw [List.flatMap_cons, catS_append, ih, catS_signs, ← catS_one x, ← catS_append, catS_one]; rfl
theorem catS_all (ns : List Int) : catS (signsS ns) = Str.ofString "mail: " ++ catS (ns.map lineF) := by
  unfold signsS
  rw [catS_flat]
  unfold texts
  rw [← List.singleton_append, catS_append, catS_one]
end Mine
-- part L10
set_option maxHeartbeats 8000000
namespace Mine
theorem fresh_L10 : True := by
  w_top off
  trivial
local macro_rules | `(tactic| walk_at "eval ListComp") => `(tactic| (k_here; k_dflt (refine LCg.ListComp_U (F₀ := by k_asm) (by with_unfolding_all rfl) (by decide) (by rfl) (by decide) (by rfl) ?_)))
local macro_rules | `(tactic| walk_at "exec Assign cons ListComp") => `(tactic| (k_here; k_dflt (refine LCg.Assign_ListComp_U (F₀ := by k_asm) (by rfl) (by with_unfolding_all rfl) (by with_unfolding_all rfl) (by decide) (by rfl) (by decide) (by rfl) (by rfl) (by rfl) ?_)))
local macro_rules | `(tactic| walk_at "CompSrc") => `(tactic| (k_here; refine halt_out ?_))
theorem strs_take : ∀ {vs : List Value} {xs : List Str}, StrsAre vs xs → ∀ i, StrsAre (vs.take i) (xs.take i)
  | _, _, .nil, i => by rw [List.take_nil, List.take_nil]; exact .nil
  | _, _, .cons _ _ r, 0 => .nil
  | _, _, .cons _ _ r, i + 1 => .cons _ _ (strs_take r i)
theorem pick_take (l : List Value) (i : Nat) : kms_pick l none (some (i : Int)) = l.take i := by
  unfold kms_pick kms_lo kms_hi
  dsimp only
  rw [if_neg (by omega)]
  simp only [Nat.sub_zero, List.drop_zero, Int.toNat_natCast]
  by_cases h : i ≤ l.length
  · rw [Nat.min_eq_left h]
  · rw [Nat.min_eq_right (by omega), List.take_of_length_le (Nat.le_refl _), List.take_of_length_le (by omega)]
noncomputable def ck7 : PSigma fun P : Prop => P → ck6.1 := by
  refine' ⟨_, fun hP => _⟩
  rotate_left
  · have hP' : True → _ := fun _ => hP
    clear hP
    unfold ck6
    dsimp only
    k_fill
    intro NU D2 kr r ns TA NO nws oS oK oD ys2 ws ps oN cd fa mb mg s₁ s₀ w gs tk h₂ SG k tk₀ vs nts tts c q1 q2 its m hall
    obtain ⟨B, X, T, CH, hb, hF, F₁, N₁⟩ := hall
    have cD := hF.cD
    have hyl : ys2.length = ns.length := by rw [hF.sY.len_eq, List.length_map]
    have n8 := hF.n8
    have hyl8 : ys2.length ≤ 8 := by omega
    have hsz : ys2.toArray.size = ns.length := by rw [List.size_toArray, hyl]
    unfold finL at N₁
    unfold finM at F₁
    k_steps
    unfold Halt
    rename_i h₃ tk₃ t₁ u₁ v₁ hr F₂ N₂ keep
    clear keep
    refine comp_range (n := ns.length + 1) (fun i y => ∃ t, y = Value.int (offN (ns.take i) : Int) t) rfl F₂ N₂ hr (small_one (by decide) (by decide) (by omega) (by omega)) (by rw [rangeSize_one, if_pos (by omega)]; simp) (by omega) ?turn ?fin
    case turn =>
      intro i t I oI C oC D m₂ ys h tk E' hi hC hx F N off ne
      clear F₂ N₂ hr
      rw [Int.zero_add] at hx
      dsimp only
      k_steps
      have hzs : kms_pick ys2.toArray.toList none (some (i : Int)) = ys2.take i := pick_take ys2 i
      have sT : StrsAre (ys2.take i) ((ns.take i).map drawnF) := by rw [List.map_take]; exact strs_take hF.sY i
      k_dflt (refine' kms_slice_lit (its := ys2.toArray) (zs := ys2.take i) F N ?zl ?zp ?zq hzs ?_ ?zs ?zt ?zz)
      case zl => exact News.isList N (by k_mem)
      case zp => kmk_part
      case zq => kmk_part
      case zs => with_unfolding_all rfl
      case zt => kmk_pure
      case zz => rw [hsz, sizeLine_eq]; omega
      intro D₄ h₄ F₄ N₄ l₄
      clear F N
      dsimp only
      refine comp_same (vs := ys2.take i) (k := 0) (fun j y => ∃ x t, y = Value.str x t ∧ ((ns.take i).map lineF)[j]? = some x) rfl F₄ N₄ (.head _) (by rw [List.length_take]; omega) ?turn2 ?fin2
      case turn2 =>
        intro j v I' oI' C' oC' D' m₃ ys' h tk E'' hv hC' hx' F N off' ne'
        clear F₄ N₄ l₄
        obtain ⟨x, t', rfl, hxx⟩ := sT.item j v hv
        obtain ⟨y, hy, rfl⟩ : ∃ y, (ns.take i)[j]? = some y ∧ drawnF y = x := Option.map_eq_some_iff.mp (by rw [← List.getElem?_map]; exact hxx)
        have hlen : (drawnF y).length ≤ 20 := (drawn_len y).2
        dsimp only
        k_steps
        exact ⟨_, _, _, rfl, F, N, off', .inr ⟨_, .head _, rfl, _, rfl⟩, ⟨_, _, rfl, by rw [List.getElem?_map, hy]; rfl⟩, rfl⟩
      case fin2 => 
        intro g ys' hl' hR D₅ h tk F N off'
        have hS : StrsAre ys' ((ns.take i).map lineF) := strs_get (by rw [hl', List.length_take, List.length_map, List.length_take]; omega) hR
        clear F₄ N₄ l₄ hR
        dsimp only
        k_steps
        have hof : offN (ns.take i) ≤ 168 := by
          have h1 := offN_le (ns.take i)
          have h2 : (ns.take i).length ≤ 8 := by rw [List.length_take]; omega
          omega
        have hok : (((ns.take i).map lineF).map (·.length)).sum + ((ns.take i).map lineF).length * (Str.ofString "").length ≤ 16777216 := by
          rw [← catS_len, catS_lines, show (Str.ofString "").length = 0 from by decide]
          omega
        refine join_list (ys := (ns.take i).map lineF) (News.isList N (.head _)) (by simpa using hS) hok fun t' k' => ?_
        rw [join_cat]
        have hcl := catS_lines (ns.take i)
        generalize hcg : catS ((ns.take i).map lineF) = cg at *
        have hcl' : cg.length ≤ 168 := by omega
        dsimp only
        k_steps
        exact ⟨_, _, _, rfl, F, news_tail (news_tail N), off, trivial, ⟨_, by rw [hcl]⟩, rfl⟩
    case fin =>
      intro g ys hl hR D h tk F N off
      have hS : IntsAre ys ((List.range (ns.length + 1)).map fun j => (offN (ns.take j) : Int)) := ints_get (by rw [hl, List.length_map, List.length_range]) (by
        intro j y hj
        obtain ⟨t, rfl⟩ := hR j y hj
        have hlt : j < ns.length + 1 := by have := (List.getElem?_eq_some_iff.mp hj).1; omega
        exact ⟨_, t, rfl, by rw [List.getElem?_map, List.getElem?_range hlt]; rfl⟩)
      have N' : News _ _ _ ((D, listOf ys.toArray ys.length) :: finL s₁.heap.objs.size SG NO TA D2 r NU vs nts tts ys2 ws nws c q1 q2 kr oN oD oK oS ps its) := N
      have F' : Fr _ _ _ (fun y => if y = Str.ofString "sent" then some (Value.ref D) else finM r NU TA m y) := F
      clear F₂ N₂ hr hR N F off hl cD n8 hyl8 hyl hsz
      dsimp only
      have hall := And.intro B (And.intro X (And.intro T (And.intro CH (And.intro hb (And.intro hF (And.intro hS (And.intro F' N')))))))
      clear B X T CH hb hF hS F' N'
      revert hall
      try clear qk
      try clear ek
      try clear qk
      try clear ek
      try clear g
      try clear h₂
      try clear h₃
      try clear tk₃
      try clear t₁
      try clear u₁
      try clear v₁
      repeat (first | (rename_i z; first | clear z | revert z) | fail "x")
      try clear h₂
      try revert h
      try revert tk
      try revert gs
      revert w s₀ s₁ mg mb fa cd
      revert oD oK oS oN ps nws ws ys2
      revert ns D2 r NU TA NO kr
      revert SG k tk₀ vs nts tts c q1 q2 its m
      revert D ys
      exact hP' trivial
end Mine
-- part C2
set_option maxHeartbeats 1000000
namespace Mine
theorem fresh_C2 : True := by
  w_top off
  trivial
/-- a comprehension over a list of the ledger's whose items are data that they make -/
theorem comp_dat {prog : Program} {w : World} {A : Around} {h₀ : Heap} {L : Addr} {m : Str → Option Value} {env : Env} {elt : Expr} {x : Str} {scope : Scope} {cl : List (Str × Addr)} {s₁ : Shared} {Fin : Shared → List Value → List (Addr × Obj) → Prop} {news : List (Addr × Obj)}
    {ax : Addr} {vs : List Value} {k : Nat} (es : List Dat) (hes : es.length = vs.length) (hh : A.handled = none) (F : Fr h₀ L s₁.heap m) (N : News h₀ L s₁.heap news) (hm : (ax, listOf vs.toArray k) ∈ news) (hsz : vs.length ≤ 1000)
    (turn : ∀ (i : Nat) v e I oI C oC D m₂ ys X h tk (E' : Value → Shared → Prop), vs[i]? = some v → es[i]? = some e → LCg.NsObj oC m₂ → m₂ x = some v → Fr h₀ L h m → News h₀ L h ((I, oI) :: (C, oC) :: (D, LCg.lst ys) :: (X ++ news)) → LCg.Off3 I C D (X ++ news) → ((@Ne Nat I C) ∧ (@Ne Nat I D) ∧ (@Ne Nat C D)) →
      wpAny (model prog w) A (eval elt (compEnvC scope cl C env)) (LCg.CompEnd h₀ L m { s₁ with heap := h, toks := tk } I oI C oC D (LCg.lst ys) (LCg.SrcAt h₀ ax vs.toArray) (fun y nw' => ∃ Y, nw' = Y ++ (X ++ news) ∧ DatIn (Y ++ X) y e)) E' { s₁ with heap := h, toks := tk })
    (fin : ∀ g ys X, DatAll X ys es → Fin { s₁ with heap := g } ys (X ++ news)) : LCg.CompSrc prog w A h₀ L m env elt x scope cl Fin (.ref ax) s₁ := by
  refine LCg.CompSrc.ledger hh F N hm (by rw [List.size_toArray, sizeLine_eq]; omega) fun g => ?_
  refine comp_rest (fun i ys nw => ∃ X, nw = X ++ news ∧ DatAll X ys (es.take i)) ⟨[], rfl, .nil⟩ ?_ ?_
  · rintro i v I oI C oC D m₂ ys _ h tk E' hi hv ⟨X, rfl, hd⟩ hC hx F' N' off ne
    have hi' : i < es.length := by rw [hes]; simpa using hi
    refine wpAny_mono (turn i v es[i] I oI C oC D m₂ ys X h tk E' (by simpa using hv) (List.getElem?_eq_getElem hi') hC hx F' N' off ne) (fun y s₂ hq => ?_) fun _ _ e => e
    obtain ⟨h', tk', nw', e, F'', N'', off'', hS, Y, rfl, hy⟩ := hq
    refine ⟨h', tk', _, e, F'', N'', off'', hS, Y ++ X, by rw [List.append_assoc], ?_⟩
    rw [List.take_add_one, List.getElem?_eq_getElem hi']
    exact (hd.mono fun p hp => List.mem_append_right _ hp).append (.one hy)
  · rintro ys nw ⟨X, rfl, hd⟩
    refine fin g ys X ?_
    rwa [List.take_of_length_le (by simp [hes])] at hd
end Mine
-- part P4
namespace Mine
theorem fresh_P4 : True := by
  w_top off
  trivial
theorem chk_get (k : Nat) (hk : 1 ≤ k) : ∀ n i, (chk k n n)[i]? = if i * k < n then some (((min k (n - i * k) : Nat)) : Int) else none := by
  intro n
  induction n using Nat.strongRecOn with
  | _ n ih =>
    intro i
    cases n with
    | zero => simp [chk]
    | succ n =>
      rw [chk_step k (n+1) hk (by omega)]
      cases i with
      | zero => simp
      | succ i =>
        rw [List.getElem?_cons_succ, ih _ (by omega) i, Nat.succ_mul]
        generalize i * k = z
        by_cases h : z < n + 1 - min k (n+1)
        · rw [if_pos h, if_pos (by omega)]; congr 2; omega
        · rw [if_neg h, if_neg (by omega)]
theorem chk_len (k : Nat) (hk : 1 ≤ k) : ∀ n, (chk k n n).length = (n + k - 1) / k := by
  intro n
  induction n using Nat.strongRecOn with
  | _ n ih =>
    cases n with
    | zero => rw [Nat.div_eq_of_lt (by omega)]; rfl
    | succ n =>
      rw [chk_step k (n+1) hk (by omega), List.length_cons, ih _ (by omega)]
      by_cases h : k ≤ n + 1
      · rw [Nat.min_eq_left h, show n + 1 + k - 1 = (n + 1 - k + k - 1) + k by omega, Nat.add_div_right _ (by omega)]
      · rw [Nat.min_eq_right (by omega), show n + 1 - (n + 1) + k - 1 = k - 1 by omega, Nat.div_eq_of_lt (by omega), show n + 1 + k - 1 = n + k by omega, Nat.add_div_right _ (by omega), Nat.div_eq_of_lt (by omega)]
theorem chk_size (k n : Nat) (hk : 1 ≤ k) : Builtin.Range.rangeSize 0 (n : Int) (k : Int) = (((chk k n n).length : Nat) : Int) := by
  rw [rangeSize_pos (by omega) (by omega), chk_len k hk]
  have : (n : Int) + k - 1 = ((n + k - 1 : Nat) : Int) := by omega
  rw [this, Int.natCast_ediv]
theorem chk_le (k n : Nat) (hk : 1 ≤ k) : (chk k n n).length ≤ n := by
  rw [chk_len k hk]
  rcases Nat.eq_zero_or_pos n with h | h
  · rw [h, Nat.div_eq_of_lt (by omega)]; exact Nat.le_refl _
  · refine Nat.div_le_of_le_mul ?_
    have h1 : n ≤ k * n := Nat.le_mul_of_pos_left _ hk
    obtain ⟨j, rfl⟩ : ∃ j, k = j + 1 := ⟨k - 1, by omega⟩
    obtain ⟨q, rfl⟩ : ∃ q, n = q + 1 := ⟨n - 1, by omega⟩
    have : (j + 1) * (q + 1) = j * q + j + q + 1 := by rw [Nat.add_mul, Nat.mul_add]; omega
    have := Nat.zero_le (j * q)
    omega
theorem chk_small {k : Int} {n : Nat} (h2 : 2 ≤ k) (h7 : k < 7) (hn : n ≤ 1000) : Builtin.Range.small 0 (n : Int) k = true := by
  have hs := chk_size k.toNat n (by omega)
  rw [Int.toNat_of_nonneg (by omega)] at hs
  have hl := chk_le k.toNat n (by omega)
  unfold Builtin.Range.small
  rw [hs]
  generalize (chk k.toNat n n).length = c at *
  simp only [Builtin.Range.rangeFitsLong, Bool.and_eq_true, Bool.or_eq_true, decide_eq_true_eq, beq_iff_eq]
  rw [if_pos (show k > 0 by omega)]
  simp only [decide_eq_true_eq, Bool.and_eq_true]
  omega
theorem chk_min {k : Int} (h2 : 1 ≤ k) {n j : Nat} (hj : j < (chk k.toNat n n).length) : (chk k.toNat n n)[j]? = some (if (n : Int) - (0 + (j : Int) * k) < k then (n : Int) - (0 + (j : Int) * k) else k) := by
  have hg := chk_get k.toNat (by omega) n j
  have hs : (chk k.toNat n n)[j]? ≠ none := by rw [List.getElem?_eq_getElem hj]; exact Option.some_ne_none _
  have hlt : j * k.toNat < n := by
    by_cases h : j * k.toNat < n
    · exact h
    · rw [if_neg h] at hg; exact absurd hg hs
  rw [hg, if_pos hlt]
  have e : (j : Int) * k = ((j * k.toNat : Nat) : Int) := by rw [Int.natCast_mul, Int.toNat_of_nonneg (by omega)]
  rw [e]
  congr 1
  split <;> omega
theorem catS_cons (x : Str) (xs : List Str) : catS (x :: xs) = x ++ catS xs := by
  rw [← List.singleton_append, catS_append, catS_one]
theorem len_list (x : Str) : x.cps.toList.length = x.length := by unfold Str.length; simp
theorem cut_at {ns : List Int} {i : Nat} {y : Int} (hy : ns[i]? = some y) :
    Txt.slice (Str.ofString "mail: " ++ catS (ns.map lineF)) (some ((offN (ns.take i) : Int) + 6)) (some ((offN (ns.take (i + 1)) : Int) + 6 - 1)) = drawnF y := by
  have hs : ns = ns.take i ++ y :: ns.drop (i + 1) := by
    obtain ⟨h, rfl⟩ := List.getElem?_eq_some_iff.mp hy
    rw [← List.drop_eq_getElem_cons h, List.take_append_drop]
  have hl := lineF_len y
  have ht : ns.take (i + 1) = ns.take i ++ [y] := by rw [List.take_add_one, hy]; rfl
  rw [ht, offN_snoc]
  have e1 : catS (ns.map lineF) = catS ((ns.take i).map lineF) ++ (lineF y ++ catS ((ns.drop (i + 1)).map lineF)) := by
    conv => lhs; rw [hs]
    rw [List.map_append, catS_append, List.map_cons, catS_cons]
  have c1 := catS_lines (ns.take i)
  rw [e1]
  generalize hA : catS ((ns.take i).map lineF) = A at *
  generalize catS ((ns.drop (i + 1)).map lineF) = B
  have hm : (Str.ofString "mail: ").length = 6 := by decide
  have hN : (Str.ofString "\n").length = 1 := by decide
  have e := eq_of_beq (slice_closesL (x := Str.ofString "mail: " ++ (A ++ (lineF y ++ B))) (i := (offN (ns.take i) : Int) + 6) (j := ((offN (ns.take i) + (lineF y).length : Nat) : Int) + 6 - 1) (by omega) (by omega) (by
    simp only [Str.length_append]
    omega))
  rw [e]
  apply str_ext
  dsimp only
  apply Array.toList_inj.mp
  rw [List.toList_toArray]
  unfold lineF
  simp only [Str.cps_append, Array.toList_append]
  have l1 := len_list (Str.ofString "mail: ")
  have l2 := len_list A
  have l3 := len_list (drawnF y)
  rw [hm] at l1
  generalize (Str.ofString "mail: ").cps.toList = a1 at *
  generalize A.cps.toList = a2 at *
  generalize (drawnF y).cps.toList = a3 at *
  have hd : ((offN (ns.take i) : Int) + 6).toNat = (a1 ++ a2).length := by rw [List.length_append]; omega
  rw [hd, ← List.append_assoc, List.drop_left]
  have hk : (((offN (ns.take i) + (drawnF y ++ Str.ofString "\n").length : Nat) : Int) + 6 - 1 - ((offN (ns.take i) : Int) + 6)).toNat = a3.length := by
    rw [Str.length_append, hN]; omega
  rw [hk, List.append_assoc, List.take_left]
end Mine
-- part L11
set_option maxHeartbeats 8000000
namespace Mine
theorem fresh_L11 : True := by
  w_top off
  trivial
section
variable {prog : Program} {w : World} {A : Around} {E : Value → Shared → Prop} {s : Shared} {h₀ : Heap} {L a b : Addr} {news n₁ n₂ : List (Addr × Obj)} {xs ys : List Value} {ka kb : Nat} {ds : List Dat} {Q : Value → Shared → Prop}
theorem ne_same (N : News h₀ L s.heap news) (ma : (a, listOf xs.toArray ka) ∈ news) (Da : DatAll n₁ xs ds) (sa : ∀ p ∈ n₁, p ∈ news) (mb : (b, listOf ys.toArray kb) ∈ news) (Db : DatAll n₂ ys ds) (sb : ∀ p ∈ n₂, p ∈ news)
    (ha : ∀ d ∈ ds, kqdOk 8 d = true) (hu : A.units + 64 < cLine) (h : Q (.bool false) s) : wpAny (model prog w) A (compareOp .NotEq (.ref a) (.ref b)) Q E s :=
  kqd_ne N ma rfl rfl Da sa mb rfl rfl Db sb ha ha hu (by simpa using h)
theorem eq_same (N : News h₀ L s.heap news) (ma : (a, listOf xs.toArray ka) ∈ news) (Da : DatAll n₁ xs ds) (sa : ∀ p ∈ n₁, p ∈ news) (mb : (b, listOf ys.toArray kb) ∈ news) (Db : DatAll n₂ ys ds) (sb : ∀ p ∈ n₂, p ∈ news)
    (ha : ∀ d ∈ ds, kqdOk 8 d = true) (hu : A.units + 64 < cLine) (h : Q (.bool true) s) : wpAny (model prog w) A (compareOp .Eq (.ref a) (.ref b)) Q E s :=
  kqd_eq N ma rfl rfl Da sa mb rfl rfl Db sb ha ha hu (by simpa using h)
end
theorem drawn_okD (ns : List Int) : ∀ d ∈ (ns.map drawnF).map Dat.str, kqdOk 8 d = true := by
  intro d hd
  obtain ⟨x, hx, rfl⟩ := List.mem_map.mp hd
  obtain ⟨n, _, rfl⟩ := List.mem_map.mp hx
  have hp := drawn_plain n
  show PyData.strOk (drawnF n) = true
  unfold PyData.strOk
  rw [Array.all_eq_true]
  intro i hi
  have := (hp _ (Array.getElem_mem hi)).1
  exact decide_eq_true (by omega)
theorem news_rot {h₀ h : Heap} {L : Addr} {l a b c : Addr × Obj} {R : List (Addr × Obj)} (N : News h₀ L h (l :: a :: b :: c :: R)) : News h₀ L h (a :: b :: c :: l :: R) := news_sub N (by
  intro p hp
  simp only [List.mem_cons] at hp ⊢
  rcases hp with h | h | h | h | h <;> simp [h])
theorem noted_okD (ns : List Int) (i : Nat) : ∀ d ∈ notedD ns i, kqdOk 8 d = true := by
  intro d hd
  obtain ⟨j, _, rfl⟩ := List.mem_map.mp hd
  rfl
local macro_rules | `(tactic| walk_at "eval ListComp") => `(tactic| (k_here; refine halt_out ?_))
local macro_rules | `(tactic| walk_at "eval ListComp") => `(tactic| (k_here; k_dflt (refine LCg.ListComp_U (F₀ := by k_asm) (by with_unfolding_all rfl) (by decide) (by rfl) (by decide) (by rfl) ?_)))
local macro_rules | `(tactic| walk_at "CompSrc") => `(tactic| (k_here; refine halt_out ?_))
local macro_rules | `(tactic| walk_at "compareOp NotEq ref ref") => `(tactic| (k_here; refine halt_out ?_))
local macro_rules | `(tactic| walk_at "compareOp NotEq str str") => `(tactic| (k_here; refine halt_out ?_))
noncomputable def ck8 : PSigma fun P : Prop => P → ck7.1 := by
  refine' ⟨_, fun hP => _⟩
  rotate_left
  · have hP' : True → _ := fun _ => hP
    clear hP
    unfold ck7
    dsimp only
    k_fill
    intro ses SE SG k tk₀ vs nts tts c q1 q2 its m NU D2 kr r ns TA NO nws oS oK oD ys2 ws ps oN cd fa mb mg s₁ s₀ w gs tk h hall
    obtain ⟨B, X, T, CH, hb, hF, hS, F₁, N₁⟩ := hall
    have cD := hF.cD
    have cN := hF.cN
    have cS := hF.cS
    have hyl : ys2.length = ns.length := by rw [hF.sY.len_eq, List.length_map]
    have n8 := hF.n8
    unfold finL at N₁
    unfold finM at F₁
    k_steps
    unfold Halt
    k_dflt (refine' ne_same N₁ ?ma (strs_dat (news := []) hF.sW) (List.forall_mem_nil _) ?mb (strs_dat (news := []) hF.sY) (List.forall_mem_nil _) (drawn_okD ns) ?hu ?_)
    case ma => k_mem
    case mb => k_mem
    case hu => ke_room
    try dsimp only
    k_steps
    unfold Halt
    have hsl : ses.length = ns.length + 1 := by rw [hS.length, List.length_map, List.length_range]
    refine comp_dat (vs := ses) (k := ses.length) (notedD ns (ns.length + 1)) (by rw [hsl]; unfold notedD; rw [List.length_map, List.length_range]) rfl F₁ N₁ (.head _) (by omega) ?turn3 ?fin3
    case turn3 =>
      intro i v e I oI C oC D m₂ ys X' h tk E' hv he hC hx F N off ne
      clear F₁ N₁
      obtain ⟨x, t, rfl, hxi⟩ := ints_item hS i v hv
      dsimp only
      k_steps
      rename_i l₁ h₁ F₂ N₂ lt₁
      have hi : i < ns.length + 1 := by have := (List.getElem?_eq_some_iff.mp hv).1; omega
      rw [List.getElem?_map, List.getElem?_range hi] at hxi
      unfold notedD at he
      rw [List.getElem?_map, List.getElem?_range hi] at he
      simp only [Option.map_some, Option.some.injEq] at hxi he
      subst he hxi
      have N₄ := news_rot N₂
      exact ⟨_, _, _, rfl, F₂, N₄, ⟨⟨Nat.ne_of_gt lt₁.1, Nat.ne_of_gt lt₁.2.1, Nat.ne_of_gt lt₁.2.2.1⟩, off⟩, .inr ⟨_, .tail _ (List.mem_append_right _ (.head _)), rfl, _, rfl⟩, [_], rfl, .list (n := 0) (vs := [_, _]) (.head _) (.cons (.int _ _) (.cons (.int _ _) .nil))⟩
    case fin3 =>
      intro g zs X' hd D h tk F N off
      clear F₁ N₁
      dsimp only
      k_steps
      unfold Halt
      have N₂ := N
      have N₃ : News _ _ _ _ := fun p hp => N p (.tail _ (List.mem_append_right X' hp))
      clear N
      k_dflt (refine' ne_same N₂ (.tail _ (List.mem_append_right _ (.tail _ (.tail _ (.head _))))) hF.nt ?sa (.head _) hd ?sb (noted_okD _ _) ?hu ?_)
      case sa => intro p hp; exact .tail _ (List.mem_append_right _ (.tail _ (.tail _ (.tail _ (.tail _ (.tail _ (.tail _ (.tail _ (.tail _ (.tail _ (.tail _ (.tail _ (.tail _ hp)))))))))))))
      case sb => intro p hp; exact .tail _ (List.mem_append_left _ hp)
      case hu => ke_room
      clear N₂ off hd
      try dsimp only
      k_steps
      refine join_list (ys := signsS ns) (News.isList N₃ (.tail _ (.head _))) (by simpa using hF.sV) ?hok fun t' k' => ?_
      case hok =>
        have h1 : ((signsS ns).map (·.length)).sum = 6 + offN ns := by rw [← catS_len, catS_all, Str.length_append, catS_lines]; rfl
        have h2 := offN_le ns
        rw [h1, show (Str.ofString "").length = 0 from by decide]
        omega
      rw [join_cat, catS_all]
      have hcl := catS_lines ns
      have hof : offN ns ≤ 168 := by
        have h1 := offN_le ns
        omega
      dsimp only
      k_steps
      unfold Halt
      refine comp_same (vs := ys2) (k := ys2.length) (fun j y => ∃ x t, y = Value.str x t ∧ (ns.map lineF)[j]? = some x) rfl F N₃ (.tail _ (.tail _ (.tail _ (.tail _ (.head _))))) (by omega) ?turn4 ?fin4
      case turn4 =>
        intro j v I' oI' C' oC' D' m₃ ys' h tk E'' hv hC' hx' F₃ N off' ne'
        clear F N₃
        obtain ⟨x, t', rfl, hxx⟩ := hF.sY.item j v hv
        obtain ⟨y, hy, rfl⟩ : ∃ y, ns[j]? = some y ∧ drawnF y = x := Option.map_eq_some_iff.mp (by rw [← List.getElem?_map]; exact hxx)
        have hlen : (drawnF y).length ≤ 20 := (drawn_len y).2
        dsimp only
        k_steps
        exact ⟨_, _, _, rfl, F₃, N, off', .inr ⟨_, .tail _ (.tail _ (.tail _ (.tail _ (.head _)))), rfl, _, rfl⟩, ⟨_, _, rfl, by rw [List.getElem?_map, hy]; rfl⟩, rfl⟩
      case fin4 =>
        intro g ys' hl' hR D₅ h tk F₃ N off'
        have hS' : StrsAre ys' (ns.map lineF) := strs_get (by rw [hl', List.length_map]; omega) hR
        clear F N₃ hR
        dsimp only
        k_steps
        refine join_list (ys := ns.map lineF) (News.isList N (.head _)) (by simpa using hS') ?hok5 fun t₅ k₅ => ?_
        case hok5 =>
          rw [← catS_len, catS_lines, show (Str.ofString "").length = 0 from by decide]
          omega
        rw [join_cat]
        generalize hcg : catS (ns.map lineF) = cg at *
        have hcl' : cg.length ≤ 168 := by omega
        dsimp only
        k_steps
        unfold Halt
        refine PyProof.Rows.ne_str ?_
        rw [bne_self_eq_false]
        dsimp only
        k_steps
        unfold Halt
        have N' : News _ _ _ (finL s₁.heap.objs.size SG NO TA D2 r NU vs nts tts ys2 ws nws c q1 q2 kr oN oD oK oS ps its) := fun p hp => N p (.tail _ (.tail _ hp))
        have F₄ : Fr _ _ _ (finM r NU TA _) := fr_fin F₃ rfl rfl rfl
        obtain ⟨m', F₅⟩ : ∃ m', Fr (ghostOf s₁.heap [(118, 114)]) s₁.heap.objs.size h (finM r NU TA m') := ⟨_, F₄⟩
        clear F₃ F₄ N hS' off' hcl hcl' hl'
        clear hcg
        have hall := And.intro B (And.intro X (And.intro T (And.intro CH (And.intro hb (And.intro hF (And.intro F₅ N'))))))
        clear B X T CH hb hF F₅ N'
        revert hall
        clear hS cD cN cS hyl n8 hsl hof
        try clear qk
        try clear ek
        try clear qk
        try clear ek
        clear t₅ k₅
        try clear cg
        try clear ys' D₅ g
        try clear ses SE
        try clear X' D
        repeat (first | (rename_i z; first | clear z | revert z) | fail "x")
        try clear t' k'
        try clear cg
        try clear ys' D₅ g
        try clear ses SE
        try clear X' D
        try clear zs
        repeat (first | (rename_i z; first | clear z | revert z) | fail "x")
        revert m'
        revert h
        try revert tk
        try revert gs
        revert w s₀ s₁ mg mb fa cd
        revert oD oK oS oN ps nws ws ys2
        revert ns D2 r NU TA NO kr
        revert SG k tk₀ vs nts tts c q1 q2 its
        exact hP' trivial
end Mine
-- part C3
set_option maxHeartbeats 1000000
namespace Mine
theorem fresh_C3 : True := by
  w_top off
  trivial
section
variable {prog : Program} {w : World} {A : Around} {s : Shared} {h₀ : Heap} {L : Addr} {m : Str → Option Value} {E : Value → Shared → Prop} {env : Env}
theorem ListComp_cellF {elt iter : Expr} {x : Str} {px : Pos} {scope : Scope} {cl : List (Str × Addr)} {pos : Pos} {Q : Value → Shared → Prop} (F₀ : Fr h₀ L s.heap m)
    (hclos : closureFor scope env = pure cl) (hcs : ∀ n, cellsFrom n scope.names cl = (x, n) :: cl) (hpc : ∀ h, pushCells h scope.names = h.push { cls := .type "cell", data := .cell none }) (hkind : scope.kind = .function)
    (hnames : ∀ y ∈ scope.names, y.2 = .local → scope.names.lookup y.1 = some .local) (hx : (relabel scope env).names.lookup x = some .cell)
    (h : wpAny (model prog w) A (eval iter env) (CellSrc prog w A h₀ L m env elt x scope cl Q) E s)
    (hs : ∀ x, foldedSetIterable iter env x = pure x := by intro _; rfl) :
    wpAny (model prog w) A (eval (.ListComp elt [⟨.Name x px, iter, [], 0⟩] scope pos) env) Q E s := ListComp_cell hclos hcs hpc hkind hnames hx h hs
theorem ListComp_locF {elt iter : Expr} {x : Str} {px : Pos} {scope : Scope} {cl : List (Str × Addr)} {pos : Pos} {Q : Value → Shared → Prop} (F₀ : Fr h₀ L s.heap m)
    (hclos : closureFor scope env = pure cl) (hcell : ∀ y ∈ scope.names, y.2 ≠ .cell) (hkind : scope.kind = .function)
    (hnames : ∀ y ∈ scope.names, y.2 = .local → scope.names.lookup y.1 = some .local) (hx : scope.names.lookup x = some .local)
    (h : wpAny (model prog w) A (eval iter env) (LocSrc prog w A h₀ L m env elt x scope cl Q) E s)
    (hs : ∀ x, foldedSetIterable iter env x = pure x := by intro _; rfl) :
    wpAny (model prog w) A (eval (.ListComp elt [⟨.Name x px, iter, [], 0⟩] scope pos) env) Q E s := ListComp_loc hclos hcell hkind hnames hx h hs
/-- a comprehension of one's own rule whose items leave the ledger as it is -/
theorem loc_same {elt : Expr} {x : Str} {scope : Scope} {cl : List (Str × Addr)} {Q : Value → Shared → Prop} {xv : Value} {n : Nat} {P : Nat → Value → Prop} {K : List (Addr × Obj) → Prop} {news : List (Addr × Obj)}
    (R : Nat → Value → Prop) (hf : Feed prog w A h₀ L xv s n P K) (hn : n ≤ 1000) (F : Fr h₀ L s.heap m) (N : News h₀ L s.heap news) (hb : AllBare s.gens) (hK : K news)
    (turn : ∀ i v I oI D C oC m₂ ys h tk gs (E' : Value → Shared → Prop), i < n → P i v → AllBare gs → LCg.NsObj oC m₂ → m₂ x = some v → Fr h₀ L h m → News h₀ L h ((I, oI) :: (D, LCg.lst ys) :: (C, oC) :: news) → OffA I D [C] news → ((@Ne Nat I C) ∧ (@Ne Nat I D) ∧ (@Ne Nat C D)) →
      wpAny (model prog w) A (eval elt (compEnvC scope cl C env)) (OwnEnd h₀ L m { s with heap := h, toks := tk, gens := gs } I oI D (LCg.lst ys) [(C, oC)] [C] (fun y nx' => R i y ∧ nx' = news)) E' { s with heap := h, toks := tk, gens := gs })
    (fin : ∀ D ys h tk gs, ys.length = n → (∀ (j : Nat) (y : Value), ys[j]? = some y → R j y) → AllBare gs → Fr h₀ L h m → News h₀ L h ((D, LCg.lst ys) :: news) → (∀ p ∈ news, p.1 ≠ D) → Q (.ref D) { s with heap := h, toks := tk, gens := gs }) :
    LocSrc prog w A h₀ L m env elt x scope cl Q xv s := by
  refine ⟨n, P, K, news, fun i ys nw => nw = news ∧ ys.length = i ∧ ∀ (j : Nat) (y : Value), ys[j]? = some y → R j y, hf, hn, F, N, hb, ?_, ⟨rfl, rfl, by simp⟩, ?_, ?_⟩
  · rintro i ys nx ⟨rfl, hl, _⟩
    exact ⟨hl, hK⟩
  · rintro i v I oI D C oC m₂ ys _ h tk gs E' hi hv ⟨rfl, hl, hR⟩ hb' hC hx F' N' off ne
    refine wpAny_mono (turn i v I oI D C oC m₂ ys h tk gs E' hi hv hb' hC hx F' N' off ne) (fun y s₂ hq => ?_) fun _ _ e => e
    obtain ⟨h', tk', gs', nw', e, hb'', F'', N'', off'', hr, rfl⟩ := hq
    refine ⟨h', tk', gs', _, e, hb'', F'', N'', off'', rfl, by simp [hl], fun j y' e' => ?_⟩
    rw [List.getElem?_append] at e'
    split at e'
    · exact hR j y' e'
    · rename_i hj
      rw [hl] at e' hj
      obtain rfl : j = i := by
        have := List.getElem?_eq_some_iff.mp e'
        obtain ⟨hlt, _⟩ := this
        simp at hlt; omega
      simp at e'
      rw [← e']; exact hr
  · rintro D ys _ h tk gs ⟨rfl, hl, hR⟩ hb' F' N' off
    exact fin D ys h tk gs hl hR hb' F' N' off
end
theorem news_turn {h₀ h : Heap} {L : Addr} {A F X Y : List (Addr × Obj)} {e : Addr × Obj} (N : News h₀ L h (A ++ (X ++ (e :: (F ++ Y))))) : News h₀ L h (A ++ (F ++ (Y ++ (e :: X)))) := fun p hp => N p (by
  simp only [List.mem_append, List.mem_cons] at hp ⊢
  rcases hp with h | h | h | h | h <;> simp [h])
theorem news_back {h₀ h : Heap} {L : Addr} {A F X Y : List (Addr × Obj)} {d e : Addr × Obj} (N : News h₀ L h (d :: (A ++ (F ++ (Y ++ (e :: X)))))) : News h₀ L h (A ++ (d :: (X ++ (e :: (F ++ Y))))) := fun p hp => N p (by
  simp only [List.mem_append, List.mem_cons] at hp ⊢
  rcases hp with h | h | h | h | h | h <;> simp [h])
end Mine
-- part L12
set_option maxHeartbeats 8000000
namespace Mine
theorem fresh_L12 : True := by
  w_top off
  trivial
local macro_rules | `(tactic| walk_at "eval ListComp") => `(tactic| (k_here; k_dflt (refine LCg.ListComp_U (F₀ := by k_asm) (by with_unfolding_all rfl) (by decide) (by rfl) (by decide) (by rfl) ?_)))
local macro_rules | `(tactic| walk_at "CompSrc") => `(tactic| (k_here; refine halt_out ?_))
local macro_rules | `(tactic| walk_at "exec Assign cons ListComp") => `(tactic| (k_here; refine halt_out ?_))
local macro_rules | `(tactic| walk_at "LocSrc") => `(tactic| (k_here; refine halt_out ?_))
local macro_rules | `(tactic| walk_at "CellSrc") => `(tactic| (k_here; refine halt_out ?_))
local macro_rules | `(tactic| walk_at "compareOp NotEq ref ref") => `(tactic| (k_here; refine halt_out ?_))
local macro_rules | `(tactic| walk_at "binaryOp Add ref ref") => `(tactic| (k_here; refine halt_out ?_))
theorem taken_okD (k : Int) (ns : List Int) : ∀ d ∈ takenD k ns, kqdOk 8 d = true := by
  intro d hd
  obtain ⟨x, _, rfl⟩ := List.mem_map.mp hd
  unfold chkD
  simp [kqdOk]
noncomputable def ck9 : PSigma fun P : Prop => P → ck8.1 := by
  refine' ⟨_, fun hP => _⟩
  rotate_left
  · have hP' : True → _ := fun _ => hP
    clear hP
    unfold ck8
    dsimp only
    k_fill
    intro SG k tk₀ vs nts tts c q1 q2 its NU D2 kr r ns TA NO nws oS oK oD ys2 ws ps oN cd fa mb mg s₁ s₀ w gs tk h m zt hall
    obtain ⟨B, X, T, CH, hb, hF, F₁, N₁⟩ := hall
    have cD := hF.cD
    have cN := hF.cN
    have cS := hF.cS
    have cK := hF.cK
    have hyl : ys2.length = ns.length := by rw [hF.sY.len_eq, List.length_map]
    have n8 := hF.n8
    have k2 := hF.k2
    have k7 := hF.k7
    unfold finL at N₁
    unfold finM at F₁
    k_dflt (refine ListComp_cellF (F₀ := F₁) (by with_unfolding_all rfl) (by intro _; rfl) (by intro _; rfl) (by rfl) (by decide) (by rfl) ?_)
    k_steps
    unfold Halt
    rename_i l₀ h₀' F₂ N₂ lt₀
    clear lt₀
    try clear F₁
    try clear N₁
    refine comp_same (vs := ys2) (k := ys2.length) (fun j y => ∃ x t, y = Value.str x t ∧ (ns.map lineF)[j]? = some x) rfl F₂ N₂ (.tail _ (.tail _ (.tail _ (.tail _ (.head _))))) (by omega) ?turn4 ?fin4
    case turn4 =>
      intro j v I' oI' C' oC' D' m₃ ys' h tk E'' hv hC' hx' F₃ N off' ne'
      clear F₂ N₂
      obtain ⟨x, t', rfl, hxx⟩ := hF.sY.item j v hv
      obtain ⟨y, hy, rfl⟩ : ∃ y, ns[j]? = some y ∧ drawnF y = x := Option.map_eq_some_iff.mp (by rw [← List.getElem?_map]; exact hxx)
      have hlen : (drawnF y).length ≤ 20 := (drawn_len y).2
      dsimp only
      k_steps
      exact ⟨_, _, _, rfl, F₃, N, off', .inr ⟨_, .tail _ (.tail _ (.tail _ (.tail _ (.head _)))), rfl, _, rfl⟩, ⟨_, _, rfl, by rw [List.getElem?_map, hy]; rfl⟩, rfl⟩
    case fin4 =>
      intro g ys' hl' hR D₅ h tk F₃ N off'
      have hS' : StrsAre ys' (ns.map lineF) := strs_get (by rw [hl', List.length_map]; omega) hR
      clear F₂ N₂ hR off'
      dsimp only
      k_steps
      unfold Halt
      have hzl : ([Value.str (Str.ofString "mail: ") zt] ++ ys').length ≤ 9 := by rw [List.length_append, hl', hyl]; show 1 + _ ≤ 9; omega
      refine kmk_add_lit (zs := [Value.str (Str.ofString "mail: ") zt] ++ ys') F₃ N (News.isList N (.tail _ (.head _))) (News.isList N (.head _)) rfl ?_ ?hz
      case hz =>
        rw [List.length_append] at hzl
        rw [sizeLine_eq]
        simpa using Nat.le_trans hzl (by decide)
      intro ED h₆ F₆ N₆ l₆
      have hT : StrsAre ([Value.str (Str.ofString "mail: ") zt] ++ ys') (texts ns) := .cons _ _ hS'
      generalize hzs : [Value.str (Str.ofString "mail: ") zt] ++ ys' = zs at *
      have N₇ : News _ _ _ ((ED, listOf zs.toArray 0) :: finL s₁.heap.objs.size SG NO TA D2 r NU vs nts tts ys2 ws nws c q1 q2 kr oN oD oK oS ps its) := fun p hp => N₆ p (by
        rcases List.mem_cons.mp hp with rfl | hp
        · exact .head _
        · exact .tail _ (.tail _ (.tail _ hp)))
      clear N₆ N F₃ l₆ hS' hl' hzs
      dsimp only
      refine ⟨zs.length, _, _, _, fun i ys nx => ∃ X, nx = X ++ (ED, listOf zs.toArray 0) :: finL s₁.heap.objs.size SG NO TA D2 r NU vs nts tts ys2 ws nws c q1 q2 kr oN oD oK oS ps its ∧ ys.length = i ∧ DatAll X ys (((texts ns).take i).map (chkD k)), Feed.list (k := 0) rfl N₇ (.head _), by omega, F₆, N₇, hb, ?J1, ⟨[], rfl, rfl, .nil⟩, ?turn5, ?fin5⟩
      case J1 =>
        rintro i ys nx ⟨X', rfl, hd, _⟩
        exact ⟨hd, List.mem_append_right _ (.head _)⟩
      case turn5 =>
        rintro i v I oI D C oC c' oc' ys nx h tk gs E' hi hv ⟨X', rfl, hyi, hd⟩ hb₅ hoc F N off
        obtain ⟨x, t, rfl, hx⟩ := hT.item i v hv
        have hxl : x.length ≤ 21 := by
          have := List.mem_of_getElem? hx
          rcases List.mem_cons.mp this with rfl | hm
          · decide
          · obtain ⟨y, _, rfl⟩ := List.mem_map.mp hm
            have h1 := (drawn_len y).2
            have h2 := lineF_len y
            omega
        clear F₆ N₇
        have N₈ : News _ _ _ ((I, oI) :: (D, LCg.lst ys) :: (C, oC) :: (c', oc') :: finL s₁.heap.objs.size SG NO TA D2 r NU vs nts tts ys2 ws nws c q1 q2 kr oN oD oK oS ps (its ++ ((ED, listOf zs.toArray 0) :: X'))) := news_turn (A := [(I, oI), (D, LCg.lst ys), (C, oC), (c', oc')]) (F := finL s₁.heap.objs.size SG NO TA D2 r NU vs nts tts ys2 ws nws c q1 q2 kr oN oD oK oS ps []) (Y := its) N
        unfold finL at N₈
        clear N
        dsimp only
        k_dflt (refine ListComp_locF (F₀ := F) (by with_unfolding_all rfl) (by decide) (by rfl) (by decide) (by rfl) ?_)
        k_steps
        unfold Halt
        rename_i h₃ tk₃ t₁ u₁ v₁ hr F₃ N₃ keep
        clear keep
        have hkn : (k.toNat : Int) = k := Int.toNat_of_nonneg (by omega)
        have hsz := chk_size k.toNat x.length (by omega)
        rw [hkn] at hsz
        have hcl := chk_le k.toNat x.length (by omega)
        refine loc_same (fun j y => ∃ g t, y = Value.int g t ∧ (chk k.toNat x.length x.length)[j]? = some g) (Feed.range rfl hr (chk_small k2 k7 (by omega)) hsz) (by omega) F₃ N₃ hb₅ trivial ?turn6 ?fin6
        case turn6 =>
          intro j v I' oI' D' C' oC₂ m₂ ys₂ h tk gs E'' hj hv' hb₆ hC hx' F N off' ne'
          clear F₃ N₃ hr
          obtain ⟨tv, rfl⟩ := hv'
          dsimp only
          k_steps
          rename_i F₉ N₉
          exact ⟨_, _, _, _, rfl, hb₆, F₉, N₉, off', ⟨_, _, rfl, chk_min (by omega) hj⟩, rfl⟩
        case fin6 => 
          intro D' ys₂ h₄ tk₄ gs₄ hl hR hb₆ F₄ N₄ off'
          have hI₂ : IntsAre ys₂ (chk k.toNat x.length x.length) := ints_get hl hR
          refine ⟨h₄, tk₄, gs₄, ((D', LCg.lst ys₂) :: X') ++ (ED, listOf zs.toArray 0) :: finL s₁.heap.objs.size SG NO TA D2 r NU vs nts tts ys2 ws nws c q1 q2 kr oN oD oK oS ps its, rfl, hb₆, F₄, news_back (A := [(I, oI), (D, LCg.lst ys), (C, oC), (c', oc')]) (F := finL s₁.heap.objs.size SG NO TA D2 r NU vs nts tts ys2 ws nws c q1 q2 kr oN oD oK oS ps []) (Y := its) N₄, ?off6, (D', LCg.lst ys₂) :: X', rfl, by simp [hyi], ?dat⟩
          case off6 =>
            intro p hp
            rcases List.mem_append.mp hp with hp | hp
            · rcases List.mem_cons.mp hp with rfl | hp
              · refine ⟨Ne.symm (off' (I, oI) (.head _)), Ne.symm (off' (D, _) (.tail _ (.head _))), ?_⟩
                intro hm
                rcases List.mem_cons.mp hm with e | hm
                · exact off' (C, oC) (.tail _ (.tail _ (.head _))) e.symm
                · exact off' (c', oc') (.tail _ (.tail _ (.tail _ (.head _)))) (List.mem_singleton.mp hm).symm
              · exact off p (List.mem_append_left _ hp)
            · exact off p (List.mem_append_right _ hp)
          case dat =>
            rw [List.take_add_one, hx, List.map_append]
            exact (hd.mono fun p hp => .tail _ hp).append (.one (.list (n := ys₂.length) (.head _) (ints_dat hI₂)))
      case fin5 =>
        rintro D ys nx h tk gs ⟨X', rfl, hyl', hd⟩ hb₅ F N off
        clear F₆ N₇ hb
        dsimp only
        k_steps
        unfold Halt
        rw [hT.len_eq, List.take_length] at hd
        have hd' : DatAll X' ys (takenD k ns) := hd
        have hsub : ∀ p ∈ finL s₁.heap.objs.size SG NO TA D2 r NU vs nts tts ys2 ws nws c q1 q2 kr oN oD oK oS ps its, p ∈ (D, LCg.lst ys) :: (X' ++ (ED, listOf zs.toArray 0) :: finL s₁.heap.objs.size SG NO TA D2 r NU vs nts tts ys2 ws nws c q1 q2 kr oN oD oK oS ps its) := fun p hp => .tail _ (List.mem_append_right _ (.tail _ hp))
        k_dflt (refine' ne_same N (hsub _ (.tail _ (.tail _ (.head _)))) hF.tt ?sa (.head _) hd' ?sb (taken_okD _ _) ?hu ?_)
        case sa => intro p hp; exact hsub p (pick_mem [] 11 rfl p hp)
        case sb => intro p hp; exact .tail _ (List.mem_append_left _ hp)
        case hu => ke_room
        try dsimp only
        have N₈ : News _ _ _ (finL s₁.heap.objs.size SG NO TA D2 r NU vs nts tts ys2 ws nws c q1 q2 kr oN oD oK oS ps its) := fun p hp => N p (hsub p hp)
        clear N off hd hd' hsub
        clear hyl' hzl hT
        k_steps
        unfold Halt
        have F₅ : Fr (ghostOf s₁.heap [(118, 114)]) s₁.heap.objs.size h (finM r NU TA m) := F
        have hall := And.intro B (And.intro X (And.intro T (And.intro CH (And.intro hb₅ (And.intro hF (And.intro F₅ N₈))))))
        clear B X T CH hb₅ hF F₅ N₈ F cD cN cS cK hyl n8 k2 k7
        revert hall
        clear X' ys D ED zs
        try clear ys'
        try clear D₅
        try clear g
        try clear l₀
        try clear h₀'
        try clear h₆
        repeat (first | (rename_i z; first | clear z | revert z) | fail "x")
        try clear ys'
        try clear D₅
        try clear g
        try clear l₀
        try clear h₀'
        try clear h₆
        repeat (first | (rename_i z; first | clear z | revert z) | fail "x")
        revert h
        revert tk
        revert gs
        revert m
        revert w s₀ s₁ mg mb fa cd
        revert oD oK oS oN ps nws ws ys2
        revert ns D2 r NU TA NO kr
        revert SG k tk₀ vs nts tts c q1 q2 its
        exact hP' trivial
end Mine
-- part L13
namespace Mine
theorem fresh_L13 : True := by
  w_top off
  trivial
local macro_rules | `(tactic| walk_at "eval ListComp") => `(tactic| (k_here; refine halt_out ?_))
local macro_rules | `(tactic| walk_at "exec Assign cons ListComp") => `(tactic| (k_here; k_dflt (refine LCg.Assign_ListComp_U (F₀ := by k_asm) (by rfl) (by with_unfolding_all rfl) (by with_unfolding_all rfl) (by decide) (by rfl) (by decide) (by rfl) (by rfl) (by rfl) ?_)))
local macro_rules | `(tactic| walk_at "CompSrc") => `(tactic| (k_here; refine halt_out ?_))
theorem noted_item {its : List (Addr × Obj)} {nts : List Value} {ns : List Int} {i : Nat} (h : DatAll its nts (notedD ns (ns.length + 1))) (hi : i < ns.length + 1) :
    ∃ l n t₁ t₂, nts[i]? = some (.ref l) ∧ (l, listOf [Value.int (offN (ns.take i) : Int) t₁, Value.int ((offN (ns.take i) : Int) + 6) t₂].toArray n) ∈ its := by
  have hl : i < (notedD ns (ns.length + 1)).length := by unfold notedD; rw [List.length_map, List.length_range]; exact hi
  obtain ⟨v, hv, hd⟩ := h.get hl
  have e : (notedD ns (ns.length + 1))[i]'hl = notD (offN (ns.take i)) := by simp [notedD]
  rw [e] at hd
  unfold notD at hd
  cases hd with
  | list hm hr =>
    cases hr with
    | cons h1 r1 =>
      cases h1
      cases r1 with
      | cons h2 r2 =>
        cases h2
        cases r2
        exact ⟨_, _, _, _, hv, hm⟩
theorem item_at {prog : Program} {w : World} {A : Around} {E : Value → Shared → Prop} {s : Shared} {h₀ : Heap} {L l : Addr} {value slice : PySem.Expr} {news : List (Addr × Obj)} {us : List Value} {n : Nat} {k : Int} {u : Tok} {v : Value} {Q : Value → Shared → Prop} (N : News h₀ L s.heap news) (hm : (l, listOf us.toArray n) ∈ news)
    (h0 : 0 ≤ k) (hfit : k < 2 ^ 63) (hv : us[k.toNat]? = some v) (h : Q v s)
    (hs : subscripted slice false (.ref l) (.int k u) = operate [.ref l, .int k u] (getItem (.ref l) (.int k u)) := by with_unfolding_all rfl) :
    wpAny (model prog w) A (subscriptTail value slice (.ref l) (.int k u)) Q E s := by
  have hl : s.heap.IsList l us.toArray := ⟨_, (N _ hm).1, rfl, n, rfl⟩
  exact tail_any hl.typeIs slot_list_getitem.lookup (wpAny_getItem_list hl h0 hfit (by simpa using hv) h) hs
theorem mem14 {α : Type} {a1 a2 a3 a4 a5 a6 a7 a8 a9 a10 a11 a12 a13 a14 p : α} {l : List α} (h : p ∈ l) : p ∈ a1 :: a2 :: a3 :: a4 :: a5 :: a6 :: a7 :: a8 :: a9 :: a10 :: a11 :: a12 :: a13 :: a14 :: l := by
  simp [h]
local macro_rules | `(tactic| walk_at "subscriptTail") => `(tactic| (k_here; refine halt_out ?_))
local macro_rules | `(tactic| walk_at "exec Return Compare") => `(tactic| (k_here; refine halt_out ?_))
noncomputable def ck10 : PSigma fun P : Prop => P → ck9.1 := by
  refine' ⟨_, fun hP => _⟩
  rotate_left
  · have hP' : True → _ := fun _ => hP
    clear hP
    unfold ck9
    dsimp only
    k_fill
    intro SG k tk₀ vs nts tts c q1 q2 its NU D2 kr r ns TA NO nws oS oK oD ys2 ws ps oN cd fa mb mg s₁ s₀ w m gs tk h hall
    obtain ⟨B, X, T, CH, hb, hF, F₁, N₁⟩ := hall
    have cD := hF.cD
    have cN := hF.cN
    have cS := hF.cS
    have cK := hF.cK
    have hyl : ys2.length = ns.length := by rw [hF.sY.len_eq, List.length_map]
    have hwl : ws.length = ns.length := by rw [hF.sW.len_eq, List.length_map]
    have n8 := hF.n8
    have k2 := hF.k2
    have k7 := hF.k7
    have hsz : ws.toArray.size = ns.length := by rw [List.size_toArray, hwl]
    have hnl : nts.length = ns.length + 1 := by rw [hF.nt.length]; unfold notedD; rw [List.length_map, List.length_range]
    unfold finL at N₁
    unfold finM at F₁
    k_steps
    unfold Halt
    rename_i h₃ tk₃ t₁ u₁ v₁ hr F₂ N₂ keep
    clear keep
    refine comp_range (n := ns.length) (fun i y => ∃ x t, y = Value.str x t ∧ (ns.map drawnF)[i]? = some x) rfl F₂ N₂ hr (small_one (by decide) (by decide) (by omega) (by omega)) (by rw [rangeSize_one]; split <;> omega) (by omega) ?turn ?fin
    case turn =>
      intro i t I oI C oC D m₂ ys h tk E' hi hC hx F N off ne
      clear F₂ N₂ hr
      rw [Int.zero_add] at hx
      dsimp only
      k_steps
      refine join_list (ys := signsS ns) (News.isList N (.tail _ (.tail _ (.tail _ (.head _))))) (by simpa using hF.sV) ?hok fun t' k' => ?_
      case hok =>
        have h1 : ((signsS ns).map (·.length)).sum = 6 + offN ns := by rw [← catS_len, catS_all, Str.length_append, catS_lines]; rfl
        have h2 := offN_le ns
        rw [h1, show (Str.ofString "").length = 0 from by decide]
        omega
      rw [join_cat, catS_all]
      obtain ⟨l₁, n₁, p₁, p₂, e₁, hm₁⟩ := noted_item hF.nt (show i < ns.length + 1 by omega)
      obtain ⟨l₂, n₂, p₃, p₄, e₂, hm₂⟩ := noted_item hF.nt (show i + 1 < ns.length + 1 by omega)
      obtain ⟨y, hy⟩ : ∃ y, ns[i]? = some y := ⟨_, List.getElem?_eq_getElem hi⟩
      have hcut := cut_at hy
      have hcl := catS_lines ns
      have hof : offN ns ≤ 168 := by
        have h1 := offN_le ns
        omega
      have hof1 : offN (ns.take i) ≤ 168 := by
        have h1 := offN_le (ns.take i)
        have h2 : (ns.take i).length ≤ 8 := by rw [List.length_take]; omega
        omega
      have hof2 : offN (ns.take (i + 1)) ≤ 168 := by
        have h1 := offN_le (ns.take (i + 1))
        have h2 : (ns.take (i + 1)).length ≤ 8 := by rw [List.length_take]; omega
        omega
      have htl : (Str.ofString "mail: " ++ catS (ns.map lineF)).length ≤ 174 := by
        rw [Str.length_append, hcl, show (Str.ofString "mail: ").length = 6 from by decide]
        omega
      generalize Str.ofString "mail: " ++ catS (ns.map lineF) = TX at *
      generalize offN (ns.take i) = x₁ at *
      generalize offN (ns.take (i + 1)) = x₂ at *
      try dsimp only
      k_steps
      unfold Halt
      refine item_at N (.tail _ (.tail _ (.tail _ (.tail _ (.head _))))) (by omega) (by omega) (by simpa using e₁) ?_
      try dsimp only
      k_steps
      try unfold Halt
      refine item_at N (mem14 hm₁) (by omega) (by omega) rfl ?_
      try dsimp only
      k_steps
      try unfold Halt
      refine item_at N (.tail _ (.tail _ (.tail _ (.tail _ (.head _))))) (by omega) (by omega) (by simpa using e₂) ?_
      try dsimp only
      k_steps
      try unfold Halt
      refine item_at N (mem14 hm₂) (by omega) (by omega) rfl ?_
      try dsimp only
      k_steps
      rw [hcut]
      rename_i F₉ N₉
      exact ⟨_, _, _, rfl, F₉, N₉, off, trivial, ⟨_, _, rfl, by rw [List.getElem?_map, hy]; rfl⟩, rfl⟩
    case fin =>
      intro g ys hl hR D h tk F N off
      have hS : StrsAre ys (ns.map drawnF) := strs_get (by rw [hl, List.length_map]) hR
      have N' : News _ _ _ ((D, listOf ys.toArray ys.length) :: finL s₁.heap.objs.size SG NO TA D2 r NU vs nts tts ys2 ws nws c q1 q2 kr oN oD oK oS ps its) := N
      have F' : Fr _ _ _ (fun y => if y = Str.ofString "cut" then some (Value.ref D) else finM r NU TA m y) := F
      clear F₂ N₂ hr hR N F off hl cD cN cS cK n8 hyl hwl hsz k2 k7 hnl
      dsimp only
      k_steps
      have hall := And.intro B (And.intro X (And.intro T (And.intro CH (And.intro hb (And.intro hF (And.intro hS (And.intro F' N')))))))
      clear B X T CH hb hF hS F' N'
      revert hall
      try clear qk
      try clear ek
      try clear qk
      try clear ek
      try clear g
      try clear h₃
      try clear tk₃
      try clear t₁
      try clear u₁
      try clear v₁
      repeat (first | (rename_i z; first | clear z | revert z) | fail "x")
      try clear h₃
      revert h
      revert tk
      revert gs
      revert m
      revert w s₀ s₁ mg mb fa cd
      revert oD oK oS oN ps nws ws ys2
      revert ns D2 r NU TA NO kr
      revert SG k tk₀ vs nts tts c q1 q2 its
      revert D ys
      exact hP' trivial
end Mine
-- part L14
namespace Mine
theorem fresh_L14 : True := by
  w_top off
  trivial
local macro_rules | `(tactic| walk_at "eval ListComp") => `(tactic| (k_here; k_dflt (refine LCg.ListComp_U (F₀ := by k_asm) (by with_unfolding_all rfl) (by decide) (by rfl) (by decide) (by rfl) ?_)))
local macro_rules | `(tactic| walk_at "CompSrc") => `(tactic| (k_here; refine halt_out ?_))
local macro_rules | `(tactic| walk_at "LocSrc") => `(tactic| (k_here; refine halt_out ?_))
local macro_rules | `(tactic| walk_at "compareOp Eq ref ref") => `(tactic| (k_here; refine halt_out ?_))
local macro_rules | `(tactic| walk_at "call ref") => `(tactic| (k_here; (with_reducible show wpAny _ _ (call (Value.ref 105) [Value.int _ _]) _ _ _); k_dflt (refine' rest_c ?kB ?kF ?kX ?kN ?kT ?kk ?kd ?ku ?_; (case kB => k_asm); (case kF => k_asm); (case kX => k_asm); (case kN => k_asm); (case kT => k_asm); (case kk => first | exact rfl | assumption); (case kd => ktr_room); (case ku => ktr_units); k_whole; intro t9 h9 tk9 F9 N9; (try dsimp only); (try k_fold))))
local macro_rules | `(tactic| walk_at "call ref") => `(tactic| (k_here; (with_reducible show wpAny _ _ (call (Value.ref 77) _) _ _ _); refine halt_out ?_))
theorem rest_okD (ns : List Int) : ∀ d ∈ (ns.map restF).map Dat.str, kqdOk 8 d = true := by
  intro d hd
  obtain ⟨x, hx, rfl⟩ := List.mem_map.mp hd
  obtain ⟨n, _, rfl⟩ := List.mem_map.mp hx
  show PyData.strOk (restF n) = true
  unfold restF
  split
  · decide +kernel
  · split
    · decide +kernel
    · split <;> decide +kernel
theorem law_holds : ck10.1 := by
  unfold ck10
  dsimp only
  k_fill
  intro ys D SG k tk₀ vs nts tts c q1 q2 its NU D2 kr r ns TA NO nws oS oK oD ys2 ws ps oN cd fa mb mg s₁ s₀ w m gs tk h hall
  obtain ⟨B, X, T, CH, hb, hF, hS, F₁, N₁⟩ := hall
  have hyl : ys.length = ns.length := by rw [hS.len_eq, List.length_map]
  have n8 := hF.n8
  unfold finL at N₁
  unfold finM at F₁
  unfold Halt
  k_dflt (refine ListComp_locF (F₀ := F₁) (by with_unfolding_all rfl) (by decide) (by rfl) (by decide) (by rfl) ?_)
  k_steps
  unfold Halt
  refine loc_same (fun j y => ∃ x t, y = Value.str x t ∧ (ns.map restF)[j]? = some x) (Feed.list (k := ys.length) rfl N₁ (.head _)) (by omega) F₁ N₁ hb (.head _) ?turn ?fin
  case turn =>
    intro i v I oI D' C oC m₂ ys' h tk gs E' hi hv hb₂ hC hx F N off ne
    clear F₁ N₁ hb
    obtain ⟨x, t, rfl, hxx⟩ := hS.item i v hv
    obtain ⟨y, hy, rfl⟩ : ∃ y, ns[i]? = some y ∧ drawnF y = x := Option.map_eq_some_iff.mp (by rw [← List.getElem?_map]; exact hxx)
    have hlen : (drawnF y).length ≤ 20 := (drawn_len y).2
    dsimp only
    k_steps
    unfold Halt
    k_dflt (refine' strip_c ?kB ?kF ?kX ?kN ?kT ?kk ?kd ?ku ?hb ?hlen ?hpl ?_)
    case kB => k_asm
    case kF => k_asm
    case kX => k_asm
    case kN => k_asm
    case kT => k_asm
    case kk => first | exact rfl | assumption
    case kd => ktr_room
    case ku => ktr_units
    case hb => exact hb₂
    case hlen => omega
    case hpl => exact drawn_plain y
    k_whole
    intro t9 h9 tk9 gs9 hb9 F9 N9
    rw [drawn_strip]
    try dsimp only
    k_steps
    exact ⟨_, _, _, _, rfl, hb9, F9, N9, off, ⟨_, _, rfl, by rw [List.getElem?_map, hy]; rfl⟩, rfl⟩
  case fin =>
    intro D' zs h tk gs hl hR hb₂ F N off
    have hS₂ : StrsAre zs (ns.map restF) := strs_get (by rw [hl, List.length_map]; omega) hR
    clear F₁ N₁ hR hb
    dsimp only
    k_steps
    unfold Halt
    have sN := hF.sN
    have hnl : nws.length = ns.length := sN.length
    refine comp_same (vs := nws) (k := 0) (fun i y => ∃ x t, y = Value.str x t ∧ (ns.map restF)[i]? = some x) rfl F N (.tail _ (.tail _ (.tail _ (.tail _ (.tail _ (.tail _ (.tail _ (.head _)))))))) (by omega) ?turn2 ?fin2
    case turn2 =>
      intro i v I oI C oC D'' m₂ ys h tk E' hv hC hx F₃ N₃ off' ne
      obtain ⟨x, t, rfl, hxi⟩ := ints_item sN i v hv
      clear F N
      dsimp only
      k_steps
      rename_i F₉ N₉
      exact ⟨_, _, _, rfl, F₉, N₉, off', .inr ⟨_, .tail _ (.tail _ (.tail _ (.tail _ (.tail _ (.tail _ (.tail _ (.head _))))))), rfl, _, rfl⟩, ⟨_, _, rfl, by rw [List.getElem?_map, hxi]; rfl⟩, rfl⟩
    case fin2 =>
      intro g us hl₂ hR D₂ h tk F₃ N₃ off'
      have hS₃ : StrsAre us (ns.map restF) := strs_get (by rw [hl₂, List.length_map]; omega) hR
      clear F N hR off off'
      dsimp only
      k_steps
      unfold Halt
      k_dflt (refine' eq_same N₃ (.tail _ (.head _)) (strs_dat (news := []) hS₂) (List.forall_mem_nil _) (.head _) (strs_dat (news := []) hS₃) (List.forall_mem_nil _) (rest_okD ns) ?hu ?_)
      case hu => ke_room
      exact ⟨rfl, F₃.keep, rfl, hb₂, ⟨_, (N₃ (114, tabObj ps) (by simp)).1⟩, trivial⟩
end Mine
theorem PySem.Challenge.cw_pe0076_01_holds : PySem.Challenge.rw_pe0076_01.Holds := by
  exact Mine.ck1.2 (Mine.ck2.2 (Mine.ck3.2 (Mine.ck4.2 (Mine.ck5.2 (Mine.ck6.2 (Mine.ck7.2 (Mine.ck8.2 (Mine.ck9.2 (Mine.ck10.2 Mine.law_holds)))))))))
