import PyProof.Rows.All
import Open.Tops
import Wide.FinOn
import OpenK.AllK
import Wide.All
import Lean
import PySem.Challenge.RW_wk0039_01
set_option maxRecDepth 100000
set_option Elab.async false
set_option maxHeartbeats 4000000
set_option linter.unusedVariables false

namespace Mine
open PySem PySem.W PySem.Calls PyProof.Rows

noncomputable abbrev pw : Program := PySem.Challenge.pw_wk0039_01
noncomputable def topS (i : Nat) : Stmt := (pw.main.body[i]?).getD (.Pass default)
noncomputable def fnBody : Stmt → List Stmt
  | .FunctionDef _ _ b _ _ _ _ _ _ _ => b
  | _ => []
noncomputable def fnArgs : Stmt → Arguments
  | .FunctionDef _ a _ _ _ _ _ _ _ _ => a
  | _ => default
noncomputable def fnScope : Stmt → Scope
  | .FunctionDef _ _ _ _ _ _ s _ _ _ => s
  | _ => default
noncomputable def fnPos : Stmt → Pos
  | .FunctionDef _ _ _ _ _ _ _ _ _ p => p
  | _ => default
noncomputable def forBody : Stmt → List Stmt
  | .For _ _ b _ _ => b
  | _ => []
noncomputable def forTarget : Stmt → PySem.Expr
  | .For t _ _ _ _ => t
  | _ => default
noncomputable def forIter : Stmt → PySem.Expr
  | .For _ i _ _ _ => i
  | _ => default
noncomputable def nthS (l : List Stmt) (i : Nat) : Stmt := (l[i]?).getD (.Pass default)

noncomputable def itB : List Stmt := fnBody (topS 1)
noncomputable def itSc : Scope := fnScope (topS 1)
noncomputable def itLoop : List Stmt := forBody (nthS itB 2)


noncomputable def fnName : Stmt → Str
  | .FunctionDef n _ _ _ _ _ _ _ _ _ => n
  | _ => default
noncomputable def ifBody : Stmt → List Stmt
  | .If _ b _ _ => b
  | _ => []
noncomputable def ifElse : Stmt → List Stmt
  | .If _ _ b _ => b
  | _ => []
noncomputable def ifTest : Stmt → PySem.Expr
  | .If t _ _ _ => t
  | _ => default
noncomputable def stVal : Stmt → PySem.Expr
  | .Assign _ v _ => v
  | .Return (some v) _ => v
  | .Expr v _ => v
  | .AugAssign _ _ v _ => v
  | _ => default

noncomputable def FnAt (mg : Str → Option Value) (h : Heap) (st : Stmt) : Prop :=
  ∃ a o pm cd doc, mg (fnName st) = some (.ref a) ∧ h.get? a = some o ∧ o.data = .func (Calls.docDef (fnName st) (fnArgs st) (fnBody st) (fnScope st) pm cd doc) ∧ h.CodeRec cd (fnName st)

noncomputable def freeNames : List Str := ["enumerate", "len", "ord", "range", "list", "sum", "sorted", "zip"]
noncomputable def fnIdx : List Nat := [1, 2, 3, 7, 10, 12, 14, 15, 16, 17]

structure Base (mg mb : Str → Option Value) (h : Heap) : Prop where
  g : h.Ns mainGlobals mg
  b : h.Ns builtinsNs mb
  nolimit : h.NoLimit
  bb : ∀ x : Str, x ≠ "__name__" → mb x = bootBuiltins x
  free : ∀ x ∈ freeNames, mg x = none
  fn : ∀ i ∈ fnIdx, FnAt mg h (topS i)

theorem Base.keeps {mg mb : Str → Option Value} {h h' : Heap} (B : Base mg mb h) (hk : ∀ b o, h.get? b = some o → h'.get? b = some o) : Base mg mb h' :=
  ⟨B.g.keeps hk, B.b.keeps hk, B.nolimit.keeps hk, B.bb, B.free, fun i hi => let ⟨a, o, pm, cd, doc, h1, h2, h3, h4⟩ := B.fn i hi; ⟨a, o, pm, cd, doc, h1, hk _ _ h2, h3, h4.keeps hk⟩⟩

end Mine

namespace Mine
open PySem PySem.W PySem.Calls PyProof.Rows

theorem seg_For {M : Model} {A : Around} {R : GenEnd} {Y : Protocol} {n : Nat} {s₀ : Shared} {c : Code} {fs : List Frame} {s : Shared} {env : Env} {K : Flow → Sem Fin} {H : Value → Sem Fin} {gd : Bool → Bool} {lv : List Value → List Value}
    {target iter : PySem.Expr} {body orelse : List Stmt} {pos : Pos} (hs : ∀ x, foldedSetIterable iter env x = pure x)
    (h : wpAny M (A.over c fs) (eval iter env) (fun x s₁ => wpAny M (A.over c fs) (pyIter x) (fun it s₂ =>
      ∀ p, Seg M A R Y n s₀ (.forLoop target it body orelse env) (M.den (.forLoop target it body orelse env))
        (.ret (fun r => ((match r with | .ok f => (.pure f : Sem Flow) | .error e => .raise e).onRaise fun (x : Value) => do
        if (← field x 1) == Value.none then unsupported "frame.own-activation:exception-without-traceback"
        setFlight x env.frame).wrap K H gd lv) none (gd false) (lv []) c p [] :: fs) s₂) (fun _ _ => False) s₁) (fun _ _ => False) s) :
    Seg M A R Y n s₀ c ((exec (.For target iter body orelse pos) env).wrap K H gd lv) fs s := by
  rw [arm_exec_For]
  refine seg_bind_wrap (wpAny_standAt ?_)
  refine seg_bind_wrap (wpAny_mono h (fun x s₁ h₁ => ?_) fun _ _ e => e.elim)
  refine seg_bind_wrap (wpAny_of_eq (hs x) ?_)
  refine seg_bind_wrap (wpAny_standAt ?_)
  refine seg_bind_wrap (wpAny_holding (wpAny_mono h₁ (fun it s₂ h₂ => ?_) fun _ _ e => e.elim))
  exact seg_call h₂

theorem seg_If {M : Model} {A : Around} {R : GenEnd} {Y : Protocol} {n : Nat} {s₀ : Shared} {c : Code} {fs : List Frame} {s : Shared} {env : Env} {K : Flow → Sem Fin} {H : Value → Sem Fin} {gd : Bool → Bool} {lv : List Value → List Value}
    {test : PySem.Expr} {body orelse : List Stmt} {pos : Pos}
    (h : wpAny M (A.over c fs) (isTrue test env (eval test env)) (fun b s' => match b with
      | true => Seg M A R Y n s₀ c ((execs body env).wrap K H gd lv) fs s'
      | false => Seg M A R Y n s₀ c ((execs orelse env).wrap K H gd lv) fs s') (fun _ _ => False) s) :
    Seg M A R Y n s₀ c ((exec (.If test body orelse pos) env).wrap K H gd lv) fs s := by
  rw [arm_exec_If]
  refine seg_bind_wrap (wpAny_standAt ?_)
  refine seg_bind_wrap (wpAny_mono h (fun b s₁ h₁ => ?_) fun _ _ e => e.elim)
  cases b <;> exact h₁

noncomputable def Above (n0 : Nat) (h h' : Heap) : Prop := ∀ b o, n0 ≤ b → h.get? b = some o → h'.get? b = some o
noncomputable def Ext (h h' : Heap) : Prop := ∀ b o, h.get? b = some o → h'.get? b = some o
noncomputable def Sin (n0 : Nat) (G : Addr) (s₀ s : Shared) : Prop :=
  ∃ h' tk, s = { s₀ with heap := h', toks := tk } ∧ (∀ b o, (b < n0 ∨ b = G) → s₀.heap.get? b = some o → h'.get? b = some o)
theorem Sin.refl (n0 : Nat) (G : Addr) (s : Shared) : Sin n0 G s s := ⟨s.heap, s.toks, rfl, fun _ _ _ e => e⟩
theorem Sin.step {n0 : Nat} {G : Addr} {s₀ s : Shared} (x : Sin n0 G s₀ s) {h' : Heap} {tk : Nat} (hk : ∀ b o, (b < n0 ∨ b = G) → s.heap.get? b = some o → h'.get? b = some o) :
    Sin n0 G s₀ { s with heap := h', toks := tk } := by
  obtain ⟨h₁, tk₁, rfl, hk₁⟩ := x
  exact ⟨h', tk, rfl, fun b o hb e => hk b o hb (hk₁ b o hb e)⟩

noncomputable def yP (hb : Heap) (n0 : Nat) (G : Addr) (x : Str) : Protocol := fun m s₀ v s kap =>
  (∃ i c t u T, x.cps[i]? = some c ∧ i + m + 1 = x.cps.size ∧ v = .ref T ∧ s.heap.IsTuple T #[.int (i : Nat) t, .str ⟨#[c]⟩ u]) ∧ Sin n0 G s₀ s ∧
    ∀ s'' : Shared, Above n0 s.heap s''.heap → Ext hb s''.heap → kap (.send .none) s''
noncomputable def rE (n0 : Nat) (G : Addr) : GenEnd := fun n s₀ r s₁ => r = .ok (.ret .none) ∧ (n = 0 ∧ Sin n0 G s₀ s₁)

noncomputable def itEnv (C a : Addr) (cd : Value) : Env := envOf (fnName (topS 1)) (fnScope (topS 1)) C a cd
noncomputable def itFor : Stmt := nthS itB 2

theorem it_loop {w : World} {A : Around} {hb : Heap} {n0 : Nat} {G C e it a : Addr} {cd : Value} {x : Str} {t : Tok} (hx : ∀ (i c : Nat), x.cps[i]? = some c → c ≠ 92)
    (hA : A.handled = none) (hC : n0 ≤ C) (he : n0 ≤ e) (hi : n0 ≤ it) (hCe : C ≠ e) (hCi : C ≠ it) (hei : e ≠ it) (hGC : G ≠ C) (hGe : G ≠ e) (hGi : G ≠ it) {k : Result → Sem Fin} {c : Code} {p : Pos}
    (hend : ∀ s₀ s m, s.heap.Ns C m → m "escape" = some (.bool false) → Sin n0 G s₀ s → Seg (model pw w) A (rE n0 G) (yP hb n0 G x) 0 s₀ c (k (.ok .next)) [] s) :
    ∀ d j s₀ s m old, x.cps.size - j = d → j ≤ x.cps.size → IsEnum s.heap e it (j : Nat) old → s.heap.IsStrIter it "str_ascii_iterator" x t j → s.heap.Ns C m → m "escape" = some (.bool false) → Sin n0 G s₀ s →
      Seg (model pw w) A (rE n0 G) (yP hb n0 G x) (x.cps.size - j) s₀ (.forLoop (forTarget itFor) (.ref e) itLoop [] (itEnv C a cd)) ((model pw w).den (.forLoop (forTarget itFor) (.ref e) itLoop [] (itEnv C a cd)))
        [.ret k none false [] c p []] s := by
  have hA' : (A.over (.forLoop (forTarget itFor) (.ref e) itLoop [] (itEnv C a cd)) [.ret k none false [] c p []]).handled = none := hA
  have D := Draws.strAscii (prog := pw) (w := w) (A := (A.over (.forLoop (forTarget itFor) (.ref e) itLoop [] (itEnv C a cd)) [.ret k none false [] c p []]).in1) hA' it x t
  have key : ∀ b, (b < n0 ∨ b = G) → b ≠ C ∧ b ≠ e ∧ b ≠ it := by
    rintro b (h | rfl)
    · exact ⟨by omega, by omega, by omega⟩
    · exact ⟨hGC, hGe, hGi⟩
  intro d
  induction d with
  | zero =>
    intro j s₀ s m old hd hj he' hit' hn hm hs
    have hjn : j = x.cps.size := by omega
    subst hjn
    rw [Nat.sub_self]
    show Seg _ A _ _ _ s₀ _ ((forTurn (forTarget itFor) (.ref e) itLoop [] (itEnv C a cd)).onRaise _) _ s
    rw [Sem.onRaise_eq_wrap]
    unfold forTurn
    refine seg_bind_wrap (wpAny_standAt ?_)
    refine seg_bind_wrap (wpAny_onRaise (wpAny_pyNext_enum_endD D he' hit' (fun h' hx' => ?_)))
    refine seg_again rfl (seg_leaf (.ok .next) (hend s₀ _ m (hn.extBut hx' hCi) hm (hs.step fun b o hb e => hx' b o (key b hb).2.2 e)))
  | succ d ih =>
    intro j s₀ s m old hd hj he' hit' hn hm hs
    have hlt : j < x.cps.size := by omega
    obtain ⟨n, hn'⟩ : ∃ n, x.cps.size - j = n + 1 := ⟨x.cps.size - j - 1, by omega⟩
    show Seg _ A _ _ _ s₀ _ ((forTurn (forTarget itFor) (.ref e) itLoop [] (itEnv C a cd)).onRaise _) _ s
    rw [Sem.onRaise_eq_wrap]
    unfold forTurn
    refine seg_bind_wrap (wpAny_standAt ?_)
    refine seg_bind_wrap (wpAny_onRaise (wpAny_pyNext_enum_itemD D he' hit' hlt hei (by simpa using hei) (fun v h₁ tk₁ hv heo hit₁ hT hsz hk => ?_)))
    obtain ⟨ch, u, hch, rfl⟩ := hv
    have hCl := hn.lt
    have hel : e < s.heap.objs.size := Heap.lt_size he'
    refine seg_bind_wrap (wpAny_letOwnedTupleGo_enum heo fun h₂ he₂ hs₂ => ?_)
    dsimp only at hs₂ he₂ hT hsz hk hit₁ heo
    obtain ⟨T, hH⟩ : ∃ T, s.heap.objs.size = T := ⟨_, rfl⟩
    rw [hH] at hT hsz heo hel hCl
    have hit₂ := hit₁.extBut hs₂.extBut (Ne.symm hei)
    have hn₂ : h₂.Ns C m := (hn.at' fun o x => hk _ o hCe hCi x).sameBut hs₂ hCe
    have hz₂ : h₂.objs.size = T + 1 := hs₂.1.trans hsz
    have ht₂ : h₂.IsTuple T #[.int (j : Nat) tk₁, .str ⟨#[ch]⟩ u] := ⟨_, (hs₂.2 _ (Nat.ne_of_gt hel)).trans hT, rfl, _, rfl⟩
    rw [← hH] at ht₂
    have hk₂ : ∀ b o, (b < n0 ∨ b = G) → s.heap.get? b = some o → h₂.get? b = some o := fun b o hb x => hs₂.extBut b o (key b hb).2.1 (hk b o (key b hb).2.1 (key b hb).2.2 x)
    obtain ⟨oi, hoi, _⟩ := id hit'
    have hil : it < s.heap.objs.size := Heap.lt_size hoi
    have hkl : ∀ b o, (b < n0 ∨ b = G) → s.heap.get? b = some o → b < s.heap.objs.size := fun b o _ x => Heap.lt_size x
    rw [hH] at hil hkl
    refine seg_bind_wrap (wpAny_assign_Tuple hA' ht₂ rfl rfl fun h₃ hx₃ => ?_)
    dsimp only at hx₃
    rw [hz₂] at hx₃
    have hCl' : @LT.lt Nat _ C T := hCl
    have hel' : @LT.lt Nat _ e T := hel
    have hil' : @LT.lt Nat _ it T := hil
    show wpAny _ _ (do holding [.str ⟨#[ch]⟩ u] (assign (.Name "pos" _) (itEnv C a cd) (.int (j : Nat) tk₁)); do holding [] (assign (.Name "ch" _) (itEnv C a cd) (.str ⟨#[ch]⟩ u)); pure ()) _ _ _
    have hn₃ : h₃.Ns C m := hn₂.at' fun o x => hx₃ _ o (Nat.ne_of_lt (by omega)) x
    have he₃ : IsEnum h₃ e it ((j : Int) + 1) _ := hx₃ _ _ (Nat.ne_of_lt (by omega)) he₂
    have hit₃ : h₃.IsStrIter it "str_ascii_iterator" x t (j + 1) := let ⟨o, ho, r⟩ := hit₂; ⟨o, hx₃ _ _ (Nat.ne_of_lt (by omega)) ho, r⟩
    have hk₃ : ∀ b o, (b < n0 ∨ b = G) → s.heap.get? b = some o → h₃.get? b = some o := fun b o hb x => hx₃ b o (Nat.ne_of_lt (by have : @LT.lt Nat _ b T := hkl b o hb x; omega)) (hk₂ b o hb x)
    clear hx₃ he₂ hit₂ hk₂ hn₂ ht₂ hz₂ hs₂ heo hit₁ hT hsz hk
    refine wpAny_bind (wpAny_holding (wpAny_assign_Name (wpAny_storeName_local rfl hn₃ (fun h₄ hn₄ hs₄ => ?_) rfl)))
    refine wpAny_bind (wpAny_holding (wpAny_assign_Name (wpAny_storeName_local rfl hn₄ (fun h₅ hn₅ hs₅ => wpAny_pure ?_) rfl)))
    have key' : ∀ b o, b ≠ C → h₃.get? b = some o → h₅.get? b = some o := fun b o hb e => hs₅.extBut b o hb (hs₄.extBut b o hb e)
    have he₅ : IsEnum h₅ e it (((j + 1 : Nat) : Int)) (.str ⟨#[ch]⟩ u) := key' _ _ (Ne.symm hCe) he₃
    have hit₅ : h₅.IsStrIter it "str_ascii_iterator" x t (j + 1) := let ⟨o, ho, r⟩ := hit₃; ⟨o, key' _ _ (Ne.symm hCi) ho, r⟩
    have hk₅ : ∀ b o, (b < n0 ∨ b = G) → s.heap.get? b = some o → h₅.get? b = some o := fun b o hb x => key' b o (key b hb).1 (hk₃ b o hb x)
    have hs₅' := hs.step (tk := tk₁ + 1 + 1 + 1) hk₅
    generalize hm₅ : (fun y => if y = (("ch" : Str)) then some (Value.str ⟨#[ch]⟩ u) else if y = (("pos" : Str)) then some (Value.int (j : Nat) tk₁) else m y) = m₅ at *
    have e1 : m₅ "escape" = some (.bool false) := by rw [← hm₅]; exact hm
    have e2 : m₅ "ch" = some (.str ⟨#[ch]⟩ u) := by rw [← hm₅]; rfl
    have e3 : m₅ "pos" = some (.int (j : Nat) tk₁) := by rw [← hm₅]; rfl
    clear hm₅ hn₄ hs₄ hs₅ key' hk₃ hit₃ he₃ hn₃
    rw [Sem.bind_eq_wrap', Sem.wrap_wrap]
    refine seg_execs_cons (seg_If (wpAny_isTrue_value (wpAny_Name (wpAny_loadName_local rfl rfl hn₅ e1 (wpAny_truthy_bool ?_)))))
    refine seg_execs_cons (seg_If (wpAny_isTrue_Compare1 (wpAny_Name (wpAny_loadName_local rfl rfl hn₅ e2 (wpAny_Constant_str (PyProof.Rows.eq_str (wpAny_truthy_bool ?_)))))))
    have hne : ((⟨#[ch]⟩ : Str) == ("\\" : Str)) = false := by
      have := hx j ch hch
      rw [beq_eq_false_iff_ne]
      intro h
      have h2 := congrArg (fun z => z.cps[0]?) h
      exact this (Option.some.inj h2)
    rw [hne]
    rw [hn']
    refine seg_execs_cons (seg_Expr_Yield rfl rfl rfl ?_)
    refine Tuple_ (args_cons (wpAny_Name (wpAny_loadName_local rfl rfl hn₅ e3 (args_cons (wpAny_Name (wpAny_loadName_local rfl rfl hn₅ e2 (args_nil (wpAny_newTuple ?_))))))))
    intro kap hkap
    refine ⟨⟨j, ch, tk₁, u, _, hch, by omega, rfl, ⟨_, Heap.get?_push_size _ rfl, rfl, _, rfl⟩⟩, hs.step fun b o hb x => Heap.get?_push_of_some _ (hk₅ b o hb x), fun s'' hab hex => ?_⟩
    refine hkap .none s'' ?_
    show Seg _ _ _ _ _ _ _ _ _ _
    have he₆ := hab _ _ he (Heap.get?_push_of_some _ he₅)
    have hit₆ : s''.heap.IsStrIter it "str_ascii_iterator" x t (j + 1) := let ⟨o, ho, r⟩ := hit₅; ⟨o, hab _ _ hi (Heap.get?_push_of_some _ ho), r⟩
    have hn₆ : s''.heap.Ns C m₅ := hn₅.at' fun o x => hab _ o hC (Heap.get?_push_of_some _ x)
    have z := ih (j + 1) s'' s'' m₅ _ (by omega) hlt he₆ hit₆ hn₆ e1 (Sin.refl _ _ _)
    rw [show x.cps.size - (j + 1) = n by omega] at z
    exact seg_again rfl z
end Mine

namespace Mine
open PySem PySem.W PySem.Calls PyProof.Rows

theorem blt {x : Str} {v : Value} {mg mb : Str → Option Value} {h : Heap} (B : Base mg mb h) (hx : x ∈ freeNames) (hv : bootBuiltins x = some v) (hn : x ≠ "__name__" := by decide +kernel) : mg x = none ∧ mb x = some v := ⟨B.free x hx, (B.bb x hn).trans hv⟩

theorem it_start {w : World} {A : Around} {mg mb : Str → Option Value} {hb : Heap} (B : Base mg mb hb) {n0 : Nat} (h0 : hb.objs.size ≤ n0) {G C a : Addr} {cd : Value} {x : Str} {t : Tok} (hx : ∀ (i c : Nat), x.cps[i]? = some c → c ≠ 92)
    (has : x.cps.all (· < 128) = true) (hA : A.handled = none) (hC : n0 ≤ C) (hGC : G ≠ C) {s : Shared} {m : Str → Option Value} (hn : s.heap.Ns C m) (hm : m "addr" = some (.str x t)) (hG : ∃ o, s.heap.get? G = some o) (hE : Ext hb s.heap) :
    Seg (model pw w) A (rE n0 G) (yP hb n0 G x) x.cps.size s (.func itB (itEnv C a cd)) ((model pw w).den (.func itB (itEnv C a cd))) [] s := by
  have hA' : (A.over (.func itB (itEnv C a cd)) []).handled = none := hA
  obtain ⟨oG, hG⟩ := hG
  have hGl : @LT.lt Nat _ G s.heap.objs.size := Heap.lt_size hG
  have key : ∀ (b : Nat), (b < n0 ∨ b = G) → b ≠ C := by
    rintro b (h | rfl)
    · exact Nat.ne_of_lt (Nat.lt_of_lt_of_le h hC)
    · exact hGC
  refine seg_func ?_
  refine seg_execs_cons (seg_wrap (wpAny_Assign_Name (wpAny_Constant_int (wpAny_storeName_local rfl hn (fun h₁ hn₁ hs₁ => ?_) rfl)) ))
  refine seg_execs_cons (seg_wrap (wpAny_Assign_Name (wpAny_Constant_bool (wpAny_storeName_local rfl hn₁ (fun h₂ hn₂ hs₂ => ?_) rfl)) ))
  refine seg_execs_cons ?_
  have hk₂ : ∀ b o, b ≠ C → s.heap.get? b = some o → h₂.get? b = some o := fun b o hb e => hs₂.extBut b o hb (hs₁.extBut b o hb e)
  have F₂ : Fr hb C h₂ _ := ⟨hn₂, fun b o e => hk₂ b o (Nat.ne_of_lt (Nat.lt_of_lt_of_le (Heap.lt_size e) (Nat.le_trans h0 hC))) (hE b o e), Nat.le_trans h0 hC⟩
  refine seg_For (fun _ => rfl) (Call_ ?_)
  obtain ⟨z1, z2⟩ := blt (x := "enumerate") B (by simp [freeNames]) (by rfl)
  refine ld_builtin_at F₂ B.g z1 B.b z2 (callWith_type1 (args_cons (PyProof.Rows.ld F₂ (v := .str x t) hm (args_nil (call_enumerate_str fun h₃ he₃ hi₃ hz₃ hk₃ => ?_)))))
  dsimp only at he₃ hi₃ hz₃ hk₃
  have hsz : @LT.lt Nat _ G h₂.objs.size := by
    have := Heap.lt_size (hk₂ _ _ hGC hG)
    exact this
  have hCl : @LT.lt Nat _ C h₂.objs.size := hn₂.lt
  refine wpAny_pyIter_enum he₃ (fun p => ?_)
  refine it_loop hx hA hC ?_ ?_ ?_ ?_ ?_ hGC ?_ ?_ ?_ x.cps.size 0 s _ _ .none (Nat.sub_zero _) (Nat.zero_le _) he₃ (by simpa [strIterType, has] using hi₃) (hn₂.keeps hk₃) rfl ⟨h₃, _, rfl, fun b o hb e => hk₃ b o (hk₂ b o (key b hb) e)⟩
  · exact Nat.le_trans hC (Nat.le_of_lt (Nat.lt_succ_of_lt hCl))
  · exact Nat.le_trans hC (Nat.le_of_lt hCl)
  · exact Nat.ne_of_lt (Nat.lt_succ_of_lt hCl)
  · exact Nat.ne_of_lt hCl
  · exact Nat.ne_of_gt (Nat.lt_succ_self _)
  · exact Nat.ne_of_lt (Nat.lt_succ_of_lt hsz)
  · exact Nat.ne_of_lt hsz
  · intro s₀ s₁ m₁ hn₃ he hs
    show Seg _ _ _ _ _ _ _ ((execs [nthS itB 3] (itEnv C a cd)).wrap _ _ _ _) _ _
    refine seg_execs_cons (seg_If (wpAny_isTrue_value (wpAny_Name (wpAny_loadName_local rfl rfl hn₃ he (wpAny_truthy_bool ?_)))))
    exact seg_end (.ok (.ret .none)) ⟨rfl, rfl, hs⟩
end Mine

namespace Mine
open PySem PySem.W PySem.Calls PyProof.Rows

noncomputable def At (hb h : Heap) : Prop := hb.objs.size ≤ h.objs.size ∧ Ext hb h
theorem At.of_fr {hb h : Heap} {L : Addr} {m : Str → Option Value} (F : Fr hb L h m) : At hb h := ⟨Nat.le_trans F.above (Nat.le_of_lt F.ns.lt), F.keep⟩

noncomputable def AllBare (gs : Array GenState) : Prop := ∀ x ∈ gs, x.bare = true

noncomputable def ItSt (w : World) (A : Around) (hb : Heap) (n0 : Nat) (G : Addr) (x : Str) (j : Nat) (s : Shared) : Prop :=
  ∃ g gs, s.heap.IsGen G g ∧ s.gens[g]? = some gs ∧ ∀ s'' : Shared, Above n0 s.heap s''.heap → Ext hb s''.heap →
    gs.Goes (model pw w) A.in1 (rE n0 G) (yP hb n0 G x) (x.cps.size - j) (.send .none) s''

/-- the function i stands at f -/
noncomputable def FnIs (hb : Heap) (i : Nat) (f : Addr) : Prop :=
  ∃ o pm cd doc, hb.get? f = some o ∧ o.data = .func (Calls.docDef (fnName (topS i)) (fnArgs (topS i)) (fnBody (topS i)) (fnScope (topS i)) pm cd doc) ∧ hb.CodeRec cd (fnName (topS i))

noncomputable def plainX (x : Str) : Prop := (∀ (i c : Nat), x.cps[i]? = some c → c ≠ 92) ∧ x.cps.all (· < 128) = true

theorem it_call {w : World} {A : Around} {mg mb : Str → Option Value} {hb : Heap} {s : Shared} {E : Value → Shared → Prop} {Q : Value → Shared → Prop} {f : Addr} {x : Str} {t : Tok}
    (B : Base mg mb hb) (hf : FnIs hb 1 f) (hE : At hb s.heap) (hroom : A.depth < recursionLimit) (hx : plainX x)
    (h : ∀ G h' tk c, s.heap.objs.size ≤ G → Ext s.heap h' → (∀ A' : Around, A'.handled = none → ItSt w A' hb s.heap.objs.size G x 0 ⟨h', s.gens.push (.fresh c), s.drawn, tk, s.os⟩) →
      Q (.ref G) ⟨h', s.gens.push (.fresh c), s.drawn, tk, s.os⟩) :
    wpAny (model pw w) A (call (.ref f) [.str x t]) Q E s := by
  obtain ⟨o, pm, cd, doc, ho, hd, hc⟩ := hf
  refine wpAny_call (codeAny_call_generator hroom (hE.2 _ _ ho) hd rfl rfl rfl (hc.keeps hE.2) ?_)
  rw [show bindArgs (Calls.docDef (fnName (topS 1)) (fnArgs (topS 1)) (fnBody (topS 1)) (fnScope (topS 1)) pm cd doc) ⟨[.str x t], []⟩ = pure [(("addr" : Str), .str x t)] from rfl]
  refine wpAny_pure (wpAny_newFunctionEnv (show ∀ x ∈ (fnScope (topS 1)).names, x.2 ≠ .cell by decide +kernel) (by intro y hy; obtain rfl := List.mem_singleton.mp hy; rfl) (fun h₁ hn₁ hs₁ => ⟨(B.nolimit.keeps hE.2).fresh _ hs₁, ?_⟩) rfl)
  have hk : Ext s.heap h₁ := fun b o e => hs₁.extBut b o (Nat.ne_of_lt (Heap.lt_size e)) (Heap.get?_push_of_some _ e)
  have hGC : @LT.lt Nat _ s.heap.objs.size h₁.objs.size := hn₁.lt
  refine h h₁.objs.size _ _ _ (Nat.le_of_lt hGC) (fun b o e => Heap.get?_push_of_some _ (hk b o e)) (fun A' hA => ?_)
  refine ⟨s.gens.size, _, ⟨_, _, _, Heap.get?_push_size _ rfl, rfl, rfl, rfl⟩, Array.getElem?_push_size, fun s'' hab hex => ?_⟩
  refine ⟨rfl, ?_⟩
  show Seg (model pw w) A'.in1 _ _ (x.cps.size - 0) s'' (.func itB (itEnv s.heap.objs.size f cd)) ((model pw w).den (.func itB (itEnv s.heap.objs.size f cd))) [] s''
  rw [Nat.sub_zero]
  exact it_start (A := A'.in1) B hE.1 hx.1 hx.2 hA (Nat.le_refl _) (Nat.ne_of_gt hGC) (hn₁.at' fun o e => hab _ o (Nat.le_refl _) (Heap.get?_push_of_some _ e)) rfl ⟨_, hab _ _ (Nat.le_of_lt hGC) (Heap.get?_push_size _ rfl)⟩ hex

theorem AllBare.push {gs : Array GenState} (h : AllBare gs) {c : Code} : AllBare (gs.push (.fresh c)) := by
  intro y hy
  rcases Array.mem_push.mp hy with hy | rfl
  · exact h y hy
  · rfl
theorem AllBare.set {s : Shared} (h : AllBare s.gens) {g : Nat} {y : GenState} (hy : y.bare = true) : AllBare (s.setGen g y).gens := by
  intro z hz
  simp only [Shared.setGen] at hz
  rcases Array.mem_or_eq_of_mem_setIfInBounds hz with hz | rfl
  · exact h z hz
  · exact hy

theorem it_next {w : World} {A : Around} {mg mb : Str → Option Value} {hb : Heap} {s : Shared} {E : Value → Shared → Prop} {Q : Option Value → Shared → Prop} {n0 : Nat} {G : Addr} {x : Str} {j : Nat}
    (B : Base mg mb hb) (hA : A.handled = none) (hroom : A.depth < recursionLimit) (h0 : hb.objs.size ≤ n0) (hE : Ext hb s.heap) (hj : j ≤ x.cps.size) (st : ItSt w A hb n0 G x j s) (hbare : AllBare s.gens)
    (hitem : ∀ c t u T h' gs tk, x.cps[j]? = some c → (∀ b o, (b < n0 ∨ b = G) → s.heap.get? b = some o → h'.get? b = some o) → AllBare gs → h'.IsTuple T #[.int (j : Nat) t, .str ⟨#[c]⟩ u] →
      ItSt w A hb n0 G x (j + 1) ⟨h', gs, s.drawn, tk, s.os⟩ → Q (some (.ref T)) ⟨h', gs, s.drawn, tk, s.os⟩)
    (hdone : ∀ h' gs tk, j = x.cps.size → (∀ b o, (b < n0 ∨ b = G) → s.heap.get? b = some o → h'.get? b = some o) → AllBare gs → Q none ⟨h', gs, s.drawn, tk, s.os⟩) :
    wpAny (model pw w) A (pyNext (.ref G)) Q E s := by
  obtain ⟨g, gs, hg, hgs, hgo⟩ := st
  have hgo := hgo (s.setGen g .running) (fun _ _ _ e => e) hE
  unfold pyNext
  refine wpAny_bind (wpAny_attempt (wpAny_callSpecial?_slot (name := Str.ofString "__next__") hg.typeIs slot_gen_next
    (wpAny_call_entry slot_gen_next hg.typeIs entry_gen_next ?_ (args_gen_next _))))
  show wpAny _ A.in1 (Builtin.Generator.genWake (.ref G) (.send .none)) _ _ s
  unfold Builtin.Generator.genWake
  refine wpAny_bind (wpAny_holding (wpAny_genNumber hg (wpAny_bind (wpAny_genState hgs ?_))))
  have hl := B.nolimit.keeps hE
  have hex : ∀ h' : Heap, (∀ b o, (b < n0 ∨ b = G) → s.heap.get? b = some o → h'.get? b = some o) → Ext hb h' := fun h' hk b o e => hk b o (.inl (Nat.lt_of_lt_of_le (Heap.lt_size e) h0)) (hE b o e)
  cases gs with
  | running => exact hgo.elim
  | finished => exact hgo.elim
  | _ =>
    refine wpAny_bind (wpAny_roomToWake hl hroom ?_)
    show wpAny _ A.in1 (.resume g (.send .none) [] _) _ _ s
    refine wpAny_resumeQ hgs hgo (fun r s₁ hr => ?_) (fun v s₁ gs' hb' hv => ?_)
    · obtain ⟨rfl, hz, h', tk, rfl, hk⟩ := hr
      show wpAny _ A.in1 (newExc (.type "StopIteration") [] >>= _) _ _ _
      refine wpAny_bind ?_
      simp only [newExc, newTuple]
      refine wpAny_bind (wpAny_newObj_type ?_ (by size_fits))
      refine wpAny_bind (m := firstArgMember _ _) (wpAny_of_eq (a := Value.none) (by first | rfl | (simp only [firstArgMember]; rfl)) ?_)
      refine wpAny_newObj_type ?_ (by size_fits)
      simp only [raiseNew]
      refine wpAny_bind (wpAny_bind (wpAny_handled ?_))
      first | rw [show A.in1.handled = none from hA] | rw [hA]
      refine wpAny_throw ?_
      refine wpAny_bind (wpAny_isInstance (T := "StopIteration") (b := true) ⟨_, Heap.get?_push_size _ rfl, rfl⟩ isSubtype_stop ?_)
      exact wpAny_pure (hdone _ _ _ (by omega) (fun b o hb e => Heap.get?_push_of_some _ (Heap.get?_push_of_some _ (hk b o hb e))) (AllBare.set (s := ⟨_, _, _, _, _⟩) (AllBare.set hbare rfl) rfl))
    · obtain ⟨⟨i, c, t, u, T, hic, him, rfl, hT⟩, ⟨h', tk, rfl, hk⟩, hkap⟩ := hv
      generalize hnn : x.cps.size - j = n at *
      cases n with
      | zero => exact (hkap ⟨h', _, _, _, _⟩ (fun _ _ _ e => e) (hex h' hk)).elim
      | succ n =>
        obtain rfl : i = j := by omega
        have hgl : g < s.gens.size := (Array.getElem?_eq_some_iff.mp hgs).1
        refine wpAny_pure ⟨_, rfl, wpAny_pure (hitem c t u T h' _ tk hic hk (AllBare.set (s := ⟨_, _, _, _, _⟩) (AllBare.set hbare rfl) hb') hT
          ⟨g, gs', (let ⟨o, nm, qn, ho, r⟩ := hg; ⟨o, nm, qn, hk _ _ (.inr rfl) ho, r⟩), by simp [Shared.setGen, hgl], fun s'' hab hx => ?_⟩)⟩
        rw [show x.cps.size - (i + 1) = n by omega]
        exact hkap s'' hab hx
end Mine

namespace Mine
open PySem PySem.W PySem.Calls PyProof.Rows

theorem Base.fnIs {mg mb : Str → Option Value} {h : Heap} (B : Base mg mb h) {i : Nat} (hi : i ∈ fnIdx) : ∃ f, mg (fnName (topS i)) = some (.ref f) ∧ FnIs h i f :=
  let ⟨a, o, pm, cd, doc, h1, h2, h3, h4⟩ := B.fn i hi; ⟨a, h1, o, pm, cd, doc, h2, h3, h4⟩
theorem FnIs.keeps {h h' : Heap} {i : Nat} {f : Addr} (x : FnIs h i f) (hk : Ext h h') : FnIs h' i f :=
  let ⟨o, pm, cd, doc, h2, h3, h4⟩ := x; ⟨o, pm, cd, doc, hk _ _ h2, h3, h4.keeps hk⟩

/-- a call of an own def by its name -/
theorem fn_call {M : Model} {A : Around} {E : Value → Shared → Prop} {s : Shared} {mg mb : Str → Option Value} {h₀ : Heap} {name : Str} {scope : Scope} {L a : Addr} {cd : Value} {m : Str → Option Value} {i : Nat} {p pos : Pos} {e : PySem.Expr} {rest : List PySem.Expr} {Q : Value → Shared → Prop}
    (B : Base mg mb h₀) (hi : i ∈ fnIdx) (F : Fr h₀ L s.heap m)
    (h : ∀ f, FnIs h₀ i f → wpAny M A (spliced (backTo pos (starEach (e :: rest) (envOf name scope L a cd)))) (fun vs s₁ => Ext h₀ s₁.heap ∧ wpAny M A (call (.ref f) vs) Q E s₁) E s)
    (hk : scope.kind = .function := by rfl) (hx : (envOf name scope L a cd).kindOf (fnName (topS i)) = some .globalImplicit := by rfl) (hd : (fnName (topS i) == ("__debug__" : Str)) = false := by decide)
    (he : starEach (e :: rest) (envOf name scope L a cd) = (false, eval e (envOf name scope L a cd)) :: starEach rest (envOf name scope L a cd) := by rfl) :
    wpAny M A (eval (.Call (.Name (fnName (topS i)) p) (e :: rest) [] pos) (envOf name scope L a cd)) Q E s := by
  obtain ⟨f, h1, hf⟩ := B.fnIs hi
  obtain ⟨o, pm, c, doc, ho, hd', hc⟩ := id hf
  exact Call_ (ld_global_at F B.g h1 (callWith_def hd' (wpAny_mono (h f hf) (fun vs s₁ h₁ => ⟨h₁.1 _ _ ho, h₁.2⟩) fun _ _ x => x) he) hk hx hd)

theorem ItSt.move {w : World} {A : Around} {hb : Heap} {n0 : Nat} {G : Addr} {x : Str} {j : Nat} {s s' : Shared} (st : ItSt w A hb n0 G x j s) (hG : n0 ≤ G) (ha : Above n0 s.heap s'.heap) (hg : s'.gens = s.gens) : ItSt w A hb n0 G x j s' := by
  obtain ⟨g, gs, ⟨o, nm, qn, ho, r⟩, h2, h3⟩ := st
  exact ⟨g, gs, ⟨o, nm, qn, ha _ _ hG ho, r⟩, by rw [hg]; exact h2, fun s'' h h' => h3 s'' (fun b o hb e => h b o hb (ha b o hb e)) h'⟩

theorem for_it {w : World} {A : Around} {E : Value → Shared → Prop} {s : Shared} {mg mb : Str → Option Value} {h₀ : Heap} {name : Str} {scope : Scope} {L a : Addr} {cd : Value} {m : Str → Option Value} {x : Str} {t : Tok}
    {p1 p2 p3 p4 p5 p6 p7 : Pos} {k : Nat} {body : List Stmt} {Q : Flow → Shared → Prop} (B : Base mg mb h₀) (F : Fr h₀ L s.heap m) (hm : m "addr" = some (.str x t)) (hx : plainX x)
    (hA : A.handled = none) (hroom : A.depth < recursionLimit) (hbare : AllBare s.gens)
    (J : Nat → Heap → (Str → Option Value) → Prop) (h0 : J 0 s.heap m)
    (hJ : ∀ j h h' m, (∀ b o, b < s.heap.objs.size → b ≠ L → h.get? b = some o → h'.get? b = some o) → J j h m → J j h' m)
    (turn : ∀ j c t u m₁ s₁, x.cps[j]? = some c → J j s₁.heap m₁ → Fr h₀ L s₁.heap (fun y => if y = ("ch" : Str) then some (.str ⟨#[c]⟩ u) else if y = ("pos" : Str) then some (.int (j : Nat) t) else m₁ y) → AllBare s₁.gens →
      s₁.drawn = s.drawn → s₁.os = s.os →
      wpAny (model pw w) A (execs body (envOf name scope L a cd)) (fun f s₂ => match f with
        | .next | .cont => ∃ h₂ tk m₂, s₂ = ⟨h₂, s₁.gens, s₁.drawn, tk, s₁.os⟩ ∧ Fr h₀ L h₂ m₂ ∧ Above s.heap.objs.size s₁.heap h₂ ∧ J (j + 1) h₂ m₂
        | .brk => False
        | .ret v => Q (.ret v) s₂) (fun _ _ => False) s₁)
    (fin : ∀ h' gs tk m', J x.cps.size h' m' → Fr h₀ L h' m' → AllBare gs → Q .next ⟨h', gs, s.drawn, tk, s.os⟩)
    (hk : scope.kind = .function := by rfl) (hxi : (envOf name scope L a cd).kindOf (fnName (topS 1)) = some .globalImplicit := by rfl)
    (hxa : (envOf name scope L a cd).kindOf "addr" = some .local := by rfl) (hxp : (envOf name scope L a cd).kindOf "pos" = some .local := by rfl) (hxc : (envOf name scope L a cd).kindOf "ch" = some .local := by rfl) :
    wpAny (model pw w) A (exec (.For (.Tuple [.Name "pos" p1, .Name "ch" p2] k p3) (.Call (.Name (fnName (topS 1)) p4) [.Name "addr" p5] [] p6) body [] p7) (envOf name scope L a cd)) Q E s := by
  have hp : ((envOf name scope L a cd).scope.kind == .class || ((envOf name scope L a cd).scope.kind == .module && (envOf name scope L a cd).locals != (envOf name scope L a cd).globals)) = false := by
    show (scope.kind == .class || (scope.kind == .module && L != mainGlobals)) = false; rw [hk]; rfl
  have hLn : @LT.lt Nat _ L s.heap.objs.size := F.ns.lt
  refine wpAny_For (fn_call B (by decide) F (fun f hf => args_cons (PyProof.Rows.ld F hm (args_nil ⟨F.keep, it_call B hf (At.of_fr F) hroom hx fun G h₁ tk₁ c hG hk₁ hit => ?_⟩) hk hxa)) hk hxi)
  obtain ⟨g, gs, hgen, hgr⟩ := hit A hA
  refine wpAny_pyIter_gen (s := ⟨h₁, _, _, _, _⟩) hgen ?_
  have hGn : h₀.objs.size ≤ s.heap.objs.size := Nat.le_trans F.above (Nat.le_of_lt hLn)
  have keep0 : ∀ h' h'' : Heap, ∀ m', (∀ b o, b < s.heap.objs.size → h'.get? b = some o → h''.get? b = some o) → Fr h₀ L h' m' → Fr h₀ L h'' m' := fun h' h'' m' hk F' =>
    ⟨F'.ns.at' fun o e => hk _ o hLn e, fun b o e => hk b o (Nat.lt_of_lt_of_le (Heap.lt_size e) hGn) (F'.keep b o e), F'.above⟩
  refine codeAny_forLoop_any (fun k s' => ∃ h' gs tk m' j, s' = ⟨h', gs, s.drawn, tk, s.os⟩ ∧ k = x.cps.size + 1 - j ∧ j ≤ x.cps.size ∧ Fr h₀ L h' m' ∧ J j h' m' ∧ AllBare gs ∧ ItSt w A h₀ s.heap.objs.size G x j s') ?_
    (x.cps.size + 1) ⟨h₁, _, _, m, 0, rfl, rfl, Nat.zero_le _, keep0 _ _ _ (fun b o _ e => hk₁ b o e) F, hJ _ _ _ _ (fun b o _ _ e => hk₁ b o e) h0, hbare.push, hit A hA⟩
  rintro k' s' ⟨h', gs', tk', m', j, rfl, rfl, hj, F', hJ', hb', st⟩
  refine it_next B hA hroom hGn F'.keep hj st hb' (fun c t u T h₂ gs₂ tk₂ hc hk₂ hb₂ hT st₂ => ?_) (fun h₂ gs₂ tk₂ hj₂ hk₂ hb₂ => ?_)
  · have F₂ := keep0 _ _ _ (fun b o hb e => hk₂ b o (.inl hb) e) F'
    have J₂ := hJ _ _ _ _ (fun b o hb _ e => hk₂ b o (.inl hb) e) hJ'
    refine wpAny_mono (Q := fun _ s'' => s'' = ⟨h₂, gs₂, s.drawn, tk₂, s.os⟩) (E := fun _ _ => False) ?_ (fun _ s'' e => ?_) (fun _ _ e => e.elim)
    · obtain ⟨g₂, _, ⟨o, nm, qn, ho, hc2, hd2, hs2⟩, _⟩ := st₂
      obtain ⟨c0, d0, dt0, sl0⟩ := o
      dsimp only at hc2 hd2 hs2
      subst hc2 hd2 hs2
      unfold letOwnedTupleGo
      exact wpAny_bind (wpAny_load ho (wpAny_pure rfl))
    · subst e
      refine wpAny_assign_Tuple hA hT rfl rfl fun h₃ hx₃ => ?_
      have hk₃ : Ext h₂ h₃ := fun b o e => hx₃ b o (Nat.ne_of_lt (Heap.lt_size e)) e
      have F₃ := keep0 _ _ _ (fun b o _ e => hk₃ b o e) F₂
      show wpAny _ A (do holding [.str ⟨#[c]⟩ u] (assign (.Name "pos" p1) (envOf name scope L a cd) (.int (j : Nat) t)); do holding [] (assign (.Name "ch" p2) (envOf name scope L a cd) (.str ⟨#[c]⟩ u)); pure ()) _ _ _
      refine wpAny_bind (wpAny_holding (wpAny_assign_Name (wpAny_storeName_local hxp F₃.ns (fun h₄ hn₄ hs₄ => ?_) hp)))
      have F₄ := F₃.set hn₄ hs₄
      refine wpAny_bind (wpAny_holding (wpAny_assign_Name (wpAny_storeName_local hxc F₄.ns (fun h₅ hn₅ hs₅ => wpAny_pure ?_) hp)))
      have F₅ := F₄.set hn₅ hs₅
      have hk₅ : ∀ b o, b ≠ L → h₂.get? b = some o → h₅.get? b = some o := fun b o hb e => hs₅.extBut b o hb (hs₄.extBut b o hb (hk₃ b o e))
      refine wpAny_mono (turn j c t u m' ⟨h₅, gs₂, s.drawn, _, s.os⟩ hc (hJ _ _ _ _ (fun b o _ hb e => hk₅ b o hb e) J₂) F₅ hb₂ rfl rfl) (fun f s₂ h₂' => ?_) fun _ _ e => e.elim
      have cont : (∃ h₂ tk m₂, s₂ = ⟨h₂, gs₂, s.drawn, tk, s.os⟩ ∧ Fr h₀ L h₂ m₂ ∧ Above s.heap.objs.size h₅ h₂ ∧ J (j + 1) h₂ m₂) → ∃ m, m < x.cps.size + 1 - j ∧ (∃ h' gs tk m' j, s₂ = ⟨h', gs, s.drawn, tk, s.os⟩ ∧ m = x.cps.size + 1 - j ∧ j ≤ x.cps.size ∧ Fr h₀ L h' m' ∧ J j h' m' ∧ AllBare gs ∧ ItSt w A h₀ s.heap.objs.size G x j s₂) := by
        rintro ⟨h₆, tk₆, m₆, rfl, F₆, ha, hJ₆⟩
        have hlt : j < x.cps.size := (Array.getElem?_eq_some_iff.mp hc).1
        refine ⟨x.cps.size + 1 - (j + 1), by omega, h₆, gs₂, tk₆, m₆, j + 1, rfl, rfl, hlt, F₆, hJ₆, hb₂, st₂.move hG (fun b o hb e => ha b o hb (hk₅ b o (Nat.ne_of_gt (Nat.lt_of_lt_of_le hLn hb)) e)) rfl⟩
      cases f with
      | next => exact cont h₂'
      | cont => exact cont h₂'
      | brk => exact h₂'.elim
      | ret v => exact h₂'
  · exact wpAny_execs_nil (fin h₂ gs₂ tk₂ m' (hj₂ ▸ hJ _ _ _ _ (fun b o hb _ e => hk₂ b o (.inl hb) e) hJ') (keep0 _ _ _ (fun b o hb e => hk₂ b o (.inl hb) e) F') hb₂)
end Mine

namespace Mine
open PySem PySem.W PySem.Calls PyProof.Rows

noncomputable def uStep (p : Bool × List Nat) (c : Nat) : Bool × List Nat := if c = 34 then (!p.1, p.2) else if p.1 then p else (p.1, p.2 ++ [c])
noncomputable def unq (l : List Nat) : Bool × List Nat := l.foldl uStep (false, [])

theorem unq_none : ∀ (l : List Nat) (a : List Nat), 34 ∉ l → l.foldl uStep (false, a) = (false, a ++ l)
  | [], a, _ => by simp
  | c :: r, a, h => by
    have hc : c ≠ 34 := fun e => h (e ▸ .head _)
    have : uStep (false, a) c = (false, a ++ [c]) := by simp [uStep, hc]
    rw [List.foldl_cons, this, unq_none r _ (fun e => h (.tail _ e))]
    simp
theorem uStep_len (p : Bool × List Nat) (c : Nat) : (uStep p c).2.length ≤ p.2.length + 1 := by
  unfold uStep
  split
  · simp
  · split <;> simp
theorem unq_len : ∀ (l : List Nat) (p : Bool × List Nat), (l.foldl uStep p).2.length ≤ p.2.length + l.length
  | [], p => by simp
  | c :: r, p => by
    have := unq_len r (uStep p c)
    have h2 := uStep_len p c
    simp only [List.foldl_cons, List.length_cons]
    omega

structure SInv (l : List Nat) (j start : Nat) (op : Option Nat) (parts : List Str) : Prop where
  le : start ≤ op.getD j
  lt : ∀ o, op = some o → o < j
  is : unq (l.take j) = (op.isSome, parts.flatMap (·.cps.toList) ++ (l.take (op.getD j)).drop start)
  cnt : parts.length ≤ j

theorem SInv.start (l : List Nat) : SInv l 0 0 none [] := ⟨Nat.le_refl _, by simp, by simp [unq], Nat.le_refl _⟩

theorem take_snoc {l : List Nat} {j c : Nat} (h : l[j]? = some c) : l.take (j + 1) = l.take j ++ [c] := by
  rw [List.take_add_one, h]; rfl
theorem unq_snoc (l : List Nat) (c : Nat) : unq (l ++ [c]) = uStep (unq l) c := by simp [unq]

theorem SInv.other {l : List Nat} {j start c : Nat} {op : Option Nat} {parts : List Str} (I : SInv l j start op parts) (h : l[j]? = some c) (hc : c ≠ 34) : SInv l (j + 1) start op parts := by
  have hl : j < l.length := (List.getElem?_eq_some_iff.mp h).1
  refine ⟨?_, fun o e => Nat.lt_succ_of_lt (I.lt o e), ?_, Nat.le_succ_of_le I.cnt⟩
  · cases op with
    | none => exact Nat.le_succ_of_le I.le
    | some o => exact I.le
  · rw [take_snoc h, unq_snoc, I.is]
    cases op with
    | none =>
      have := I.le
      simp only [Option.getD_none] at this
      simp only [uStep, hc, if_false, Option.isSome_none, Option.getD_none, Bool.false_eq_true]
      rw [take_snoc h, List.drop_append_of_le_length (by rw [List.length_take]; omega), List.append_assoc]
    | some o => simp [uStep, hc]
theorem SInv.opens {l : List Nat} {j start : Nat} {parts : List Str} (I : SInv l j start none parts) (h : l[j]? = some 34) : SInv l (j + 1) start (some j) parts := by
  refine ⟨I.le, fun o e => by cases e; exact Nat.lt_succ_self _, ?_, Nat.le_succ_of_le I.cnt⟩
  rw [take_snoc h, unq_snoc, I.is]
  simp [uStep]
theorem SInv.closes {l : List Nat} {j start o : Nat} {parts : List Str} (I : SInv l j start (some o) parts) (h : l[j]? = some 34) (more : List Str) (hm : more.flatMap (·.cps.toList) = (l.take o).drop start) (hml : more.length ≤ 1) : SInv l (j + 1) (j + 1) none (parts ++ more) := by
  refine ⟨Nat.le_refl _, by simp, ?_, by have := I.cnt; rw [List.length_append]; omega⟩
  rw [take_snoc h, unq_snoc, I.is]
  have hl : j < l.length := (List.getElem?_eq_some_iff.mp h).1
  have e : List.drop (j + 1) (List.take j l ++ [34]) = [] := by
    rw [List.drop_eq_nil_of_le]; simp; omega
  simp only [uStep, if_true, Option.isSome_some, Option.isSome_none, Option.getD_none, Option.getD_some, Bool.not_true, List.flatMap_append, hm]
  rw [take_snoc h, e, List.append_nil]
theorem SInv.weight {l : List Nat} {j start : Nat} {op : Option Nat} {parts : List Str} (I : SInv l j start op parts) : (parts.map (·.length)).sum ≤ j := by
  have h1 : (unq (l.take j)).2.length ≤ j := by
    have := unq_len (l.take j) (false, [])
    have h2 : (l.take j).length ≤ j := by rw [List.length_take]; omega
    unfold unq
    simp only [List.length_nil, Nat.zero_add] at this
    omega
  rw [I.is] at h1
  have h2 : (parts.flatMap (·.cps.toList)).length = (parts.map (·.length)).sum := by
    rw [List.length_flatMap]
    rfl
  simp only [List.length_append] at h1
  omega

open PySem.Builtin PySem.Builtin.Str in
theorem slice_ab (x : Str) {a b : Nat} (hab : a ≤ b) (hb : b ≤ x.length) : (Txt.slice x (some (a : Int)) (some (b : Int))).cps.toList = (x.cps.toList.take b).drop a := by
  have e : (x.cps.toList.drop a).take (b - a) = (x.cps.toList.take b).drop a := by rw [List.drop_take]
  unfold Txt.slice
  split
  · rename_i h
    have h2 : (strSliceIndices (some (a : Int)) (some (b : Int)) 1 x.length).length = x.length := by simpa using h
    rw [StrLaws.strSliceIndices_plain hab hb, List.length_map, List.length_range] at h2
    have ha : a = 0 := by omega
    have hb' : b = x.length := by omega
    subst ha
    rw [List.drop_zero, List.take_of_length_le]
    rw [hb', Array.length_toList]; exact Nat.le_refl _
  · rw [StrLaws.sliced_plain x hab hb, e]
open PySem.Builtin PySem.Builtin.Str in
theorem slice_a (x : Str) {a : Nat} (ha : a ≤ x.length) : (Txt.slice x (some (a : Int)) none).cps.toList = x.cps.toList.drop a := by
  have e : Txt.slice x (some (a : Int)) none = Txt.slice x (some (a : Int)) (some (x.length : Int)) := by
    unfold Txt.slice
    have : strSliceIndices (some (a : Int)) none 1 x.length = strSliceIndices (some (a : Int)) (some (x.length : Int)) 1 x.length := StrLaws.sliceIdx_none_hi _ _
    rw [this]
  rw [e, slice_ab x ha (Nat.le_refl _), List.take_of_length_le]
  rw [Array.length_toList]; exact Nat.le_refl _

theorem frExt {h₀ h h' : Heap} {L : Addr} {m : Str → Option Value} (F : Fr h₀ L h m) (hk : Ext h h') : Fr h₀ L h' m := ⟨F.ns.keeps hk, fun b o e => hk _ _ (F.keep b o e), F.above⟩
theorem frBut {h₀ h h' : Heap} {L R : Addr} {m : Str → Option Value} (F : Fr h₀ L h m) (hs : Heap.SameBut R h h') (hR : h₀.objs.size ≤ R) (hRL : L ≠ R) : Fr h₀ L h' m :=
  ⟨F.ns.sameBut hs hRL, fun b o e => (hs.2 b (Nat.ne_of_lt (Nat.lt_of_lt_of_le (Heap.lt_size e) hR))).trans (F.keep b o e), F.above⟩
theorem push_vals (ls : List (Str × Tok)) (y : Str) (t : Tok) : (strValues ls).toArray.push (.str y t) = (strValues (ls ++ [(y, t)])).toArray := by simp [strValues]

theorem join_call {prog : Program} {w : World} {A : Around} {E : Value → Shared → Prop} {s : Shared} {env : Env} {sep : Str} {k : Nat} {p ap pos : Pos} {e : PySem.Expr} {Q : Value → Shared → Prop}
    (he : wpAny (model prog w) A (eval e env) (fun v s₁ => ∃ D l, v = .ref D ∧ s₁.heap.IsList D (strValues l).toArray ∧ JoinOk sep (l.map (·.1)) = true ∧ ∀ t' k, Q (.str (Txt.join sep (l.map (·.1))) t') { s₁ with toks := k }) E { s with toks := s.toks + 1 })
    (hs : starEach [e] env = [(false, eval e env)] := by rfl) (hl : (ap.endLine == pos.line) = true := by rfl)
    (hb : attributeBase (.Constant (.str sep) k p) "join" env (eval (.Constant (.str sep) k p) env) = eval (.Constant (.str sep) k p) env := by rfl) :
    wpAny (model prog w) A (eval (.Call (.Attribute (.Constant (.str sep) k p) "join" ap) [e] [] pos) env) Q E s := by
  refine Call_method1 hb hs hl (wpAny_Constant_str ⟨"str", _, F.plainAttrs_str, F.slot_str_join, F.type_str_join, typeIs_str _ _ _, (fun _ e => nomatch e),
    Calls.callWith_builtin rfl (Calls.evalArgs_plain (Calls.spliced_cons (wpAny_mono he (fun v s₁ h₁ => ?_) fun _ _ x => x)))⟩)
  obtain ⟨D, l, rfl, hD, hok, hq⟩ := h₁
  exact Calls.spliced_nil (SC.join hD rfl hok hq)
theorem join_flat (texts : List Str) : (Txt.join ("" : Str) texts).cps.toList = texts.flatMap (·.cps.toList) := by
  have e : Txt.join ("" : Str) texts = Str.join "" texts := StrLaws.glued_eq_join _ _
  rw [e]
  induction texts with
  | nil => rfl
  | cons y r ih =>
    have hh : (Str.join "" (y :: r)).cps.toList = y.cps.toList ++ (Str.join "" r).cps.toList := by
      cases r with
      | nil => simp [Str.join, Str.empty]
      | cons z r =>
        show (y.cps ++ #[] ++ (Str.join "" (z :: r)).cps).toList = _
        simp
    rw [hh, List.flatMap_cons, ih]
    exact StrLaws.glued_eq_join _ _

noncomputable def sB : List Stmt := fnBody (topS 2)

theorem strip_call {w : World} {A : Around} {mg mb : Str → Option Value} {s : Shared} {E : Value → Shared → Prop} {Q : Value → Shared → Prop} {f : Addr} {x : Str} {t : Tok}
    (B : Base mg mb s.heap) (hf : FnIs s.heap 2 f) (hA : A.handled = none) (hroom : A.depth + 1 < recursionLimit) (hbare : AllBare s.gens) (hx : plainX x) (hlen : x.length ≤ 100000) (hq : (unq x.cps.toList).1 = false)
    (h : ∀ y u h' gs tk, y.cps.toList = (unq x.cps.toList).2 → Ext s.heap h' → AllBare gs → Q (.str y u) ⟨h', gs, s.drawn, tk, s.os⟩) :
    wpAny (model pw w) A (call (.ref f) [.str x t]) Q E s := by
  obtain ⟨o, pm, cd, doc, ho, hd, hc⟩ := hf
  refine wpAny_call (call_plain_ret (binds := [(("addr" : Str), .str x t)]) (by omega) ho hd B.nolimit hc rfl (by intro y hy; obtain rfl := List.mem_singleton.mp hy; rfl) (fun h₁ F => ?_) rfl rfl rfl (show ∀ x ∈ (fnScope (topS 2)).names, x.2 ≠ .cell by decide +kernel))
  have hA' : (A.deeper (envOf (fnName (topS 2)) (fnScope (topS 2)) s.heap.objs.size f cd)).handled = none := hA
  have hr' : (A.deeper (envOf (fnName (topS 2)) (fnScope (topS 2)) s.heap.objs.size f cd)).depth < recursionLimit := hroom
  refine wpAny_execs_cons (wpAny_If (wpAny_isTrue_Compare1 (wpAny_Constant_str (PyProof.Rows.ld F (v := .str x t) rfl (SB.notContains (wpAny_truthy_bool ?_))))))
  have hcn : Txt.contains x "\"" = decide (34 ∈ x.cps.toList) := StrLaws.found_one x 34
  rw [hcn]
  by_cases h34 : 34 ∈ x.cps.toList
  · simp only [h34, decide_true, Bool.not_true, Bool.false_eq_true, if_false]
    refine wpAny_execs_nil ?_
    refine wpAny_execs_cons (wpAny_Assign_Name (wpAny_Constant_int (PyProof.Rows.st F fun h₂ F₂ => ?_)))
    refine wpAny_execs_cons (wpAny_Assign_Name (wpAny_Constant_none (PyProof.Rows.st F₂ fun h₃ F₃ => ?_)))
    refine wpAny_execs_cons (wpAny_Assign_Name (List_ (args_nil (newList_N F₃ .nil (fun h₄ F₄ N₄ => PyProof.Rows.stN F₄ N₄ fun h₅ F₅ N₅ => ?_)))))
    dsimp only at N₅ F₅ ⊢
    obtain ⟨R, hR⟩ : ∃ R, h₃.objs.size = R := ⟨_, rfl⟩
    rw [hR] at N₅ F₅
    have hRL : s.heap.objs.size ≠ R := fun e => (N₅ _ (.head _)).2.1 e.symm
    have P₅ : PlainL h₅ R (strValues []).toArray := ⟨_, _, N₅.get (.head _), rfl, rfl, rfl⟩
    have hRn : @LT.lt Nat _ R h₅.objs.size := P₅.lt
    have hRs : s.heap.objs.size ≤ R := by
      rw [← hR]; exact Nat.le_of_lt F₃.ns.lt
    refine wpAny_execs_cons (for_it B F₅ rfl hx hA' hr' hbare (fun j h' m' => m' "addr" = some (.str x t) ∧ m' "result" = some (.ref R) ∧ ∃ start op ls ts, m' "start" = some (.int (start : Nat) ts) ∧
      (match op with | none => m' "open_pos" = some .none | some o => ∃ to, m' "open_pos" = some (.int (o : Nat) to)) ∧ PlainL h' R (strValues ls).toArray ∧ SInv x.cps.toList j start op (ls.map (·.1)))
      ⟨rfl, rfl, 0, none, [], _, rfl, rfl, P₅, SInv.start _⟩ ?_ ?_ ?_)
    · rintro j h h' m hk ⟨h1, h2, start, op, ls, ts, h3, h4, ⟨o, n, h5, h6⟩, h7⟩
      exact ⟨h1, h2, start, op, ls, ts, h3, h4, ⟨o, n, hk _ _ hRn (Ne.symm hRL) h5, h6⟩, h7⟩
    · rintro j c t' u m₁ s₁ hc ⟨h1, h2, start, op, ls, ts, h3, h4, h5, h6⟩ F₁ hb₁ hd₁ ho₁
      have hcl : x.cps.toList[j]? = some c := by rw [Array.getElem?_toList]; exact hc
      have hjl : j < x.cps.size := (Array.getElem?_eq_some_iff.mp hc).1
      refine wpAny_execs_cons (wpAny_If (wpAny_isTrue_Compare1 (PyProof.Rows.ld F₁ (v := .str ⟨#[c]⟩ u) rfl (wpAny_Constant_str (PyProof.Rows.eq_str (wpAny_truthy_bool ?_))))))
      have hce : ((⟨#[c]⟩ : Str) == ("\"" : Str)) = decide (c = 34) := by
        rw [Bool.eq_iff_iff, beq_iff_eq, decide_eq_true_eq]
        constructor
        · intro e; exact Option.some.inj (congrArg (fun z : Str => z.cps[0]?) e)
        · rintro rfl; rfl
      rw [hce]
      by_cases h34 : c = 34
      · subst h34
        simp only [decide_true, if_true]
        cases op with
        | none =>
          refine wpAny_execs_cons (wpAny_If (wpAny_isTrue_Compare1 (PyProof.Rows.ld F₁ (v := .none) h4 (wpAny_Constant_none (is_none (wpAny_truthy_bool ?_))))))
          simp only [beq_self_eq_true, if_true]
          refine wpAny_execs_cons (wpAny_Assign_Name (PyProof.Rows.ld F₁ (v := .int (j : Nat) t') rfl (wpAny_storeName_local rfl F₁.ns (fun h₆ hn₆ hs₆ => ?_) rfl)))
          refine wpAny_execs_nil (wpAny_execs_nil (wpAny_execs_nil ⟨_, _, _, rfl, F₁.set hn₆ hs₆, fun b o hb e => hs₆.extBut b o (Nat.ne_of_gt (Nat.lt_of_lt_of_le F₅.ns.lt hb)) e, h1, h2, start, some j, ls, ts, h3, ⟨t', rfl⟩, h5.extBut hs₆.extBut (Ne.symm hRL), h6.opens hcl⟩))
        | some o =>
          obtain ⟨to, h4⟩ := h4
          refine wpAny_execs_cons (wpAny_If (wpAny_isTrue_Compare1 (PyProof.Rows.ld F₁ (v := .int (o : Nat) to) h4 (wpAny_Constant_none (is_none (wpAny_truthy_bool ?_))))))
          have hol : o < j := h6.lt o rfl
          have hso : start ≤ o := h6.le
          have hxl : x.length = x.cps.size := rfl
          rw [show ((Value.int (o : Nat) to == Value.none) = false) from rfl, if_neg Bool.false_ne_true]
          generalize hm₁ : (fun y => if y = ("ch" : Str) then some (.str ⟨#[34]⟩ u) else if y = ("pos" : Str) then some (.int (j : Nat) t') else m₁ y) = mm at *
          have e1 : mm "start" = some (.int (start : Nat) ts) := by rw [← hm₁]; exact h3
          have e2 : mm "open_pos" = some (.int (o : Nat) to) := by rw [← hm₁]; exact h4
          have e3 : mm "pos" = some (.int (j : Nat) t') := by rw [← hm₁]; rfl
          have e4 : mm "addr" = some (.str x t) := by rw [← hm₁]; exact h1
          have e5 : mm "result" = some (.ref R) := by rw [← hm₁]; exact h2
          refine wpAny_execs_cons (wpAny_mono (Q := fun f s' => f = .next ∧ ∃ h₆ tk₆ ls', s' = ⟨h₆, s₁.gens, s₁.drawn, tk₆, s₁.os⟩ ∧ Fr s.heap s.heap.objs.size h₆ mm ∧ Above h₅.objs.size s₁.heap h₆ ∧ PlainL h₆ R (strValues ls').toArray ∧ SInv x.cps.toList (j + 1) (j + 1) none (ls'.map (·.1)))
            (E := fun _ _ => False) ?_ ?_ fun _ _ e => e.elim)
          · refine wpAny_If (wpAny_isTrue_Compare1 (PyProof.Rows.ld F₁ e1 (PyProof.Rows.ld F₁ e2 (P.ne_int (wpAny_truthy_bool ?_)))))
            by_cases hne : start = o
            · subst hne
              simp only [bne_self_eq_false, Bool.false_eq_true, if_false]
              refine wpAny_execs_nil ⟨rfl, _, _, ls, rfl, F₁, fun _ _ _ e => e, h5, ?_⟩
              have := h6.closes hcl [] (by rw [List.drop_eq_nil_of_le (by rw [List.length_take]; omega)]; rfl) (by simp)
              simpa using this
            · have hb : (((start : Nat) : Int) != (o : Int)) = true := by rw [bne_iff_ne]; omega
              rw [hb, if_pos rfl]
              refine wpAny_execs_cons (wpAny_Expr (wpAny_Call_append (by rfl) (by rfl) (by rfl) (by rfl) (PyProof.Rows.ld F₁ e5 ⟨R, _, rfl, h5, ?_⟩)))
              refine Subscript_Slice (PyProof.Rows.ld F₁ e4 (wpAny_Slice (PyProof.Rows.ld F₁ e1 (PyProof.Rows.ld F₁ e2 (evalPart_none_step ?_)))))
              refine SBH.sliceItem_ss (P := fun h => Ext s₁.heap h) (fun h ob hk b oo e => Heap.get?_push_of_some _ (hk b oo e)) (fun _ _ e => e) (fun h₆ t₆ k₆ hk₆ => ?_) (by rw [sizeLine_eq]; omega)
              have F₆ := frExt F₁ hk₆
              refine list_append_plainL (h5.keeps hk₆) (fun h₇ P₇ hs₇ => wpAny_execs_nil ⟨rfl, h₇, _, ls ++ [(_, t₆)], rfl, frBut F₆ hs₇ hRs hRL, fun b oo hb e => hs₇.extBut b oo (Nat.ne_of_gt (Nat.lt_of_lt_of_le hRn hb)) (hk₆ b oo e), by rw [← push_vals]; exact P₇, ?_⟩) ?_
              · rw [List.map_append]
                refine h6.closes hcl [Txt.slice x (some (start : Int)) (some (o : Int))] ?_ (by simp)
                rw [List.flatMap_cons, List.flatMap_nil, List.append_nil]
                exact slice_ab x hso (by omega)
              · have := h6.cnt
                rw [List.length_map] at this
                simp only [strValues, List.size_toArray, List.length_map, sizeLine_eq]
                omega
          · rintro f s' ⟨rfl, h₆, tk₆, ls', rfl, F₆, ha₆, P₆, I₆⟩
            refine wpAny_execs_cons (wpAny_Assign_Name (wpAny_BinOp (PyProof.Rows.ld F₆ e3 (wpAny_Constant_int (P.add_int (wpAny_storeName_local rfl F₆.ns (fun h₇ hn₇ hs₇ => ?_) rfl))))))
            have F₇ := F₆.set hn₇ hs₇
            refine wpAny_execs_cons (wpAny_Assign_Name (wpAny_Constant_none (wpAny_storeName_local rfl F₇.ns (fun h₈ hn₈ hs₈ => ?_) rfl)))
            have F₈ := F₇.set hn₈ hs₈
            have hk₈ : ∀ b o, b ≠ s.heap.objs.size → h₆.get? b = some o → h₈.get? b = some o := fun b o hb e => hs₈.extBut b o hb (hs₇.extBut b o hb e)
            refine wpAny_execs_nil (wpAny_execs_nil (wpAny_execs_nil ⟨_, _, _, rfl, F₈, fun b o hb e => hk₈ b o (Nat.ne_of_gt (Nat.lt_of_lt_of_le F₅.ns.lt hb)) (ha₆ b o hb e), e4, e5, j + 1, none, ls', _, rfl, rfl, ?_, I₆⟩))
            obtain ⟨oR, nR, hoR, rR⟩ := P₆
            exact ⟨oR, nR, hk₈ _ _ (Ne.symm hRL) hoR, rR⟩
      · simp only [h34, decide_false, Bool.false_eq_true, if_false]
        refine wpAny_execs_nil (wpAny_execs_nil ⟨_, _, _, rfl, F₁, fun _ _ _ e => e, h1, h2, start, op, ls, ts, h3, ?_, h5, h6.other hcl h34⟩)
        cases op <;> exact h4
    · rintro h' gs tk m' ⟨h1, h2, start, op, ls, ts, h3, h4, h5, h6⟩ F' hb'
      have hll : x.cps.toList.length = x.length := Array.length_toList
      have htk : x.cps.toList.take x.cps.size = x.cps.toList := List.take_of_length_le (by rw [hll]; exact Nat.le_refl _)
      have hsx : x.cps.size = x.length := rfl
      have his := h6.is
      rw [htk] at his
      obtain rfl : op = none := by
        cases op with
        | none => rfl
        | some o => rw [his] at hq; simp at hq
      simp only [Option.getD_none] at his
      rw [htk] at his
      have hle : start ≤ x.length := h6.le
      have hw := h6.weight
      have hcnt := h6.cnt
      rw [List.length_map] at hcnt
      obtain ⟨z1, z2⟩ := blt (x := "len") B (by simp [freeNames]) (by rfl)
      refine wpAny_execs_cons (wpAny_mono (Q := fun f s' => f = .next ∧ ∃ h₆ tk₆ ls', s' = ⟨h₆, gs, s.drawn, tk₆, s.os⟩ ∧ Fr s.heap s.heap.objs.size h₆ m' ∧ PlainL h₆ R (strValues ls').toArray ∧ (ls'.map (·.1)).flatMap (·.cps.toList) = (unq x.cps.toList).2 ∧
          ls'.length ≤ x.length + 1 ∧ ((ls'.map (·.1)).map (·.length)).sum ≤ 2 * x.length) (E := fun _ _ => False) ?_ ?_ fun _ _ e => e.elim)
      · refine wpAny_If (wpAny_isTrue_Compare1 (PyProof.Rows.ld F' h3 (Call_ (ld_builtin_at F' B.g z1 B.b z2 (PyProof.Rows.callWith_builtin1 (args_cons (PyProof.Rows.ld F' h1 (args_nil (P.len_str (by omega) (P.lt_int (wpAny_truthy_bool ?_))))))))))) 
        by_cases hlt : start < x.length
        · have hb : decide (((start : Nat) : Int) < (x.length : Int)) = true := by rw [decide_eq_true_eq]; omega
          rw [hb, if_pos rfl]
          refine wpAny_execs_cons (wpAny_Expr (wpAny_Call_append (by rfl) (by rfl) (by rfl) (by rfl) (PyProof.Rows.ld F' h2 ⟨R, _, rfl, h5, ?_⟩)))
          refine Subscript_Slice (PyProof.Rows.ld F' h1 (wpAny_Slice (PyProof.Rows.ld F' h3 (evalPart_none_step (evalPart_none_step ?_)))))
          refine SBH.sliceItem_sn (P := fun h => Ext h' h) (fun h ob hk b oo e => Heap.get?_push_of_some _ (hk b oo e)) (fun _ _ e => e) (fun h₆ t₆ k₆ hk₆ => ?_) (by rw [sizeLine_eq]; omega)
          have F₆ := frExt F' hk₆
          refine list_append_plainL (h5.keeps hk₆) (fun h₇ P₇ hs₇ => wpAny_execs_nil ⟨rfl, h₇, _, ls ++ [(_, t₆)], rfl, frBut F₆ hs₇ hRs hRL, by rw [← push_vals]; exact P₇, ?_, ?_, ?_⟩) ?_
          · rw [List.map_append, List.flatMap_append, his, List.map_cons, List.map_nil, List.flatMap_cons, List.flatMap_nil, List.append_nil, slice_a x hle]
          · rw [List.length_append, List.length_singleton]; omega
          · have := Txt.slice_le x (some (start : Int)) none
            rw [List.map_append, List.map_append, List.sum_append, List.map_cons, List.map_nil, List.map_cons, List.map_nil, List.sum_cons, List.sum_nil]
            dsimp only
            omega
          · simp only [strValues, List.size_toArray, List.length_map, sizeLine_eq]
            omega
        · have hb : decide (((start : Nat) : Int) < (x.length : Int)) = false := by rw [decide_eq_false_iff_not]; omega
          rw [hb, if_neg Bool.false_ne_true]
          refine wpAny_execs_nil ⟨rfl, h', _, ls, rfl, F', h5, ?_, by omega, by omega⟩
          rw [his]
          simp only
          rw [List.drop_eq_nil_of_le (by omega), List.append_nil]
      · rintro f s' ⟨rfl, h₆, tk₆, ls', rfl, F₆, P₆, hfl, hln, hsm⟩
        have hok : JoinOk ("" : Str) (ls'.map (·.1)) = true := joinOk_of_weight (by rw [List.length_map]; omega) (by decide)
        refine wpAny_execs_cons (wpAny_Return_some (join_call (PyProof.Rows.ld (s := ⟨h₆, gs, s.drawn, tk₆ + 1, s.os⟩) F₆ h2 ⟨R, ls', rfl, P₆.isList, hok, fun t' k => ?_⟩)))
        exact h _ t' h₆ gs _ (by rw [join_flat, hfl]) F₆.keep hb'
  · simp only [h34, decide_false, Bool.not_false, if_true]
    refine wpAny_execs_cons (wpAny_Return_some (PyProof.Rows.ld F (v := .str x t) rfl ?_))
    exact h x t h₁ _ _ (by simp [unq, unq_none _ _ h34]) F.keep hbare
end Mine

namespace Mine
open PySem PySem.W PySem.Calls PyProof.Rows

noncomputable def cStep (o : Option Int) (c : Nat) : Option Int := match o with
  | none => none
  | some n => if c = 40 then some (n + 1) else if c = 41 then (if n - 1 < 0 then none else some (n - 1)) else some n
noncomputable def chk (l : List Nat) : Option Int := l.foldl cStep (some 0)
noncomputable def chkB (l : List Nat) : Bool := chk l == some 0
theorem cStep_none : ∀ l : List Nat, l.foldl cStep none = none
  | [] => rfl
  | _ :: r => cStep_none r
theorem chk_none {l : List Nat} {j : Nat} (h : chk (l.take j) = none) : chkB l = false := by
  have : chk l = none := by
    rw [← List.take_append_drop j l]
    unfold chk at h ⊢
    rw [List.foldl_append, h]
    exact cStep_none _
  simp [chkB, this]
theorem chk_snoc (l : List Nat) (c : Nat) : chk (l ++ [c]) = cStep (chk l) c := by simp [chk]

theorem unq_mem : ∀ (l : List Nat) (p : Bool × List Nat) (c : Nat), c ∈ (l.foldl uStep p).2 → c ∈ p.2 ∨ c ∈ l
  | [], p, c, h => .inl h
  | d :: r, p, c, h => by
    rcases unq_mem r (uStep p d) c h with h | h
    · unfold uStep at h
      split at h
      · exact .inl h
      · split at h
        · exact .inl h
        · rcases List.mem_append.mp h with h | h
          · exact .inl h
          · exact .inr (by rw [List.mem_singleton.mp h]; exact .head _)
    · exact .inr (.tail _ h)
theorem plainX_iff {x : Str} : plainX x ↔ ∀ c ∈ x.cps.toList, c ≠ 92 ∧ c < 128 := by
  unfold plainX
  constructor
  · rintro ⟨h1, h2⟩ c hc
    obtain ⟨i, hi, rfl⟩ := List.getElem_of_mem hc
    refine ⟨h1 i _ (by rw [← Array.getElem?_toList]; exact List.getElem?_eq_getElem hi), ?_⟩
    rw [← Array.all_toList, List.all_eq_true] at h2
    simpa using h2 _ hc
  · intro h
    refine ⟨fun i c hc => (h c ?_).1, ?_⟩
    · rw [← Array.getElem?_toList] at hc
      exact List.mem_of_getElem? hc
    · rw [← Array.all_toList, List.all_eq_true]
      intro c hc
      simpa using (h c hc).2

theorem ch_eq (c d : Nat) : ((⟨#[c]⟩ : Str) == (⟨#[d]⟩ : Str)) = decide (c = d) := by
  rw [Bool.eq_iff_iff, beq_iff_eq, decide_eq_true_eq]
  constructor
  · intro e; exact Option.some.inj (congrArg (fun z : Str => z.cps[0]?) e)
  · rintro rfl; rfl

theorem chk_call {w : World} {A : Around} {mg mb : Str → Option Value} {s : Shared} {E : Value → Shared → Prop} {Q : Value → Shared → Prop} {f : Addr} {x : Str} {t : Tok}
    (B : Base mg mb s.heap) (hf : FnIs s.heap 3 f) (hA : A.handled = none) (hroom : A.depth + 2 < recursionLimit) (hbare : AllBare s.gens) (hx : plainX x) (hlen : x.length ≤ 100000) (hq : (unq x.cps.toList).1 = false)
    (h : ∀ h' gs tk, Ext s.heap h' → AllBare gs → Q (.bool (chkB (unq x.cps.toList).2)) ⟨h', gs, s.drawn, tk, s.os⟩) :
    wpAny (model pw w) A (call (.ref f) [.str x t]) Q E s := by
  obtain ⟨o, pm, cd, doc, ho, hd, hc⟩ := hf
  refine wpAny_call (call_plain_ret (binds := [(("addr" : Str), .str x t)]) (by omega) ho hd B.nolimit hc rfl (by intro y hy; obtain rfl := List.mem_singleton.mp hy; rfl) (fun h₁ F => ?_) rfl rfl rfl (show ∀ x ∈ (fnScope (topS 3)).names, x.2 ≠ .cell by decide +kernel))
  have hA' : (A.deeper (envOf (fnName (topS 3)) (fnScope (topS 3)) s.heap.objs.size f cd)).handled = none := hA
  have hr' : (A.deeper (envOf (fnName (topS 3)) (fnScope (topS 3)) s.heap.objs.size f cd)).depth + 1 < recursionLimit := hroom
  have hr2 : (A.deeper (envOf (fnName (topS 3)) (fnScope (topS 3)) s.heap.objs.size f cd)).depth < recursionLimit := Nat.lt_of_succ_lt hr'
  refine wpAny_execs_cons (wpAny_Assign_Name (fn_call (i := 2) B (by decide) F (fun g hg => args_cons (PyProof.Rows.ld F (v := .str x t) rfl (args_nil ⟨F.keep, strip_call (B.keeps F.keep) (hg.keeps F.keep) hA' hr' hbare hx hlen hq fun y u h₂ gs₂ tk₂ hy hk₂ hb₂ => ?_⟩)))))
  have F₂ := frExt F hk₂
  have hpy : plainX y := plainX_iff.mpr fun c hc => by
    rw [hy] at hc
    rcases unq_mem _ _ c hc with h | h
    · cases h
    · exact plainX_iff.mp hx c h
  refine wpAny_storeName_local rfl F₂.ns (fun h₃ hn₃ hs₃ => ?_) rfl
  have F₃ := F₂.set hn₃ hs₃
  refine wpAny_execs_cons (wpAny_Assign_Name (wpAny_Constant_int (wpAny_storeName_local rfl F₃.ns (fun h₄ hn₄ hs₄ => ?_) rfl)))
  have F₄ := F₃.set hn₄ hs₄
  refine wpAny_execs_cons (for_it B F₄ (x := y) (t := u) rfl hpy hA' hr2 hb₂ (fun j h' m' => ∃ n ts, m' "opens" = some (.int n ts) ∧ chk (y.cps.toList.take j) = some n) ⟨0, _, rfl, by simp [chk]⟩ (fun _ _ _ _ _ e => e) ?_ ?_)
  · rintro j c t' u' m₁ s₁ hc ⟨n, ts, h3, h4⟩ F₁ hb₁ hd₁ ho₁
    have hcl : y.cps.toList[j]? = some c := by rw [Array.getElem?_toList]; exact hc
    have hab : ∀ h' h'' : Heap, Heap.SameBut s.heap.objs.size h' h'' → Above h₄.objs.size h' h'' := fun h' h'' hs b o hb e => hs.extBut b o (Nat.ne_of_gt (Nat.lt_of_lt_of_le F₄.ns.lt hb)) e
    refine wpAny_execs_cons (wpAny_If (wpAny_isTrue_Compare1 (PyProof.Rows.ld F₁ (v := .str ⟨#[c]⟩ u') rfl (wpAny_Constant_str (PyProof.Rows.eq_str (wpAny_truthy_bool ?_))))))
    rw [show ((⟨#[c]⟩ : Str) == ("(" : Str)) = decide (c = 40) from ch_eq c 40]
    by_cases h40 : c = 40
    · simp only [h40, decide_true, if_true]
      refine wpAny_execs_cons (wpAny_AugAssign_Name (PyProof.Rows.ldn F₁ h3 (wpAny_Constant_int (P.iadd_int (wpAny_storeName_local rfl F₁.ns (fun h₅ hn₅ hs₅ => ?_) rfl)))))
      refine wpAny_execs_nil (wpAny_execs_nil ⟨h₅, _, _, rfl, F₁.set hn₅ hs₅, hab _ _ hs₅, n + 1, _, rfl, ?_⟩)
      rw [take_snoc hcl, chk_snoc, h4, h40]
      rfl
    · simp only [h40, decide_false, Bool.false_eq_true, if_false]
      refine wpAny_execs_cons (wpAny_If (wpAny_isTrue_Compare1 (PyProof.Rows.ld F₁ (v := .str ⟨#[c]⟩ u') rfl (wpAny_Constant_str (PyProof.Rows.eq_str (wpAny_truthy_bool ?_))))))
      rw [show ((⟨#[c]⟩ : Str) == (")" : Str)) = decide (c = 41) from ch_eq c 41]
      by_cases h41 : c = 41
      · simp only [h41, decide_true, if_true]
        refine wpAny_execs_cons (wpAny_AugAssign_Name (PyProof.Rows.ldn F₁ h3 (wpAny_Constant_int (P.isub_int (wpAny_storeName_local rfl F₁.ns (fun h₅ hn₅ hs₅ => ?_) rfl)))))
        have F₅ := F₁.set hn₅ hs₅
        refine wpAny_execs_cons (wpAny_If (wpAny_isTrue_Compare1 (PyProof.Rows.ld F₅ (v := .int (n - 1) _) rfl (wpAny_Constant_int (P.lt_int (wpAny_truthy_bool ?_))))))
        by_cases hlt : n - 1 < 0
        · simp only [hlt, decide_true, if_true]
          refine wpAny_execs_cons (wpAny_Return_some (wpAny_Constant_bool ?_))
          have hn : chk (y.cps.toList.take (j + 1)) = none := by
            rw [take_snoc hcl, chk_snoc, h4, h41]
            simp [cStep, hlt]
          have := chk_none hn
          rw [hy] at this
          rw [this] at h
          have z := h h₅ s₁.gens (s₁.toks + 1 + 1 + 1 + 1 + 1 + 1) F₅.keep hb₁
          simp only [hd₁, ho₁] at z ⊢
          exact z
        · simp only [hlt, decide_false, Bool.false_eq_true, if_false]
          refine wpAny_execs_nil (wpAny_execs_nil (wpAny_execs_nil (wpAny_execs_nil ⟨h₅, _, _, rfl, F₅, hab _ _ hs₅, n - 1, _, rfl, ?_⟩)))
          rw [take_snoc hcl, chk_snoc, h4, h41]
          simp [cStep, hlt]
      · simp only [h41, decide_false, Bool.false_eq_true, if_false]
        refine wpAny_execs_nil (wpAny_execs_nil (wpAny_execs_nil ⟨_, _, _, rfl, F₁, fun _ _ _ e => e, n, ts, h3, ?_⟩))
        rw [take_snoc hcl, chk_snoc, h4]
        simp [cStep, h40, h41]
  · rintro h' gs tk m' ⟨n, ts, h3, h4⟩ F' hb'
    rw [List.take_of_length_le (by rw [Array.length_toList]; exact Nat.le_refl _)] at h4
    refine wpAny_execs_cons (wpAny_Return_some (wpAny_Compare1 (PyProof.Rows.ld F' h3 (wpAny_Constant_int (P.eq_int ?_)))))
    have e : (n == 0) = chkB (unq x.cps.toList).2 := by
      rw [← hy, chkB, h4]
      rfl
    rw [e]
    exact h h' gs _ F'.keep hb'
end Mine

namespace Mine
open PySem PySem.W PySem.Calls PyProof.Rows

/-- the two tables at the top -/
structure Tabs (w : World) (mg : Str → Option Value) (h : Heap) : Prop where
  set : ∃ a S n, mg "b1_set" = some (.ref a) ∧ h.SetOf (intKind pw w) a S n ∧ S 173 = true ∧ ∀ c ∈ [64259, 64257, 223, 70, 73, 383], S (c : Int) = false
  dict : ∃ a f, mg "b3_exceptions" = some (.ref a) ∧ (a == sysModules) = false ∧ h.MapOf (intKind pw w) a f ∧ (∃ t, f 64259 = some (.str "ffi" t)) ∧ (∃ t, f 64257 = some (.str "fi" t)) ∧ (∃ t, f 223 = some (.str "ss" t)) ∧ (∃ t, f 383 = some (.str "s" t)) ∧ f 70 = none ∧ f 73 = none
theorem Tabs.keeps {w : World} {mg : Str → Option Value} {h h' : Heap} (T : Tabs w mg h) (hk : Ext h h') : Tabs w mg h' := by
  obtain ⟨⟨a, S, n, h1, ⟨o, es, ep, t, ho, r⟩, h3⟩, ⟨d, f, e1, e2, ⟨o', es', ep', ho', r'⟩, e3⟩⟩ := T
  exact ⟨⟨a, S, n, h1, ⟨o, es, ep, t, hk _ _ ho, r⟩, h3⟩, ⟨d, f, e1, e2, ⟨o', es', ep', hk _ _ ho', r'⟩, e3⟩⟩

noncomputable def inB1 (c : Nat) : Bool := c == 173
noncomputable def mapB3 (c : Nat) : Str := if c = 64259 then "ffi" else if c = 64257 then "fi" else if c = 223 then "ss" else if c = 383 then "s" else if c = 70 then "f" else "i"

theorem inb1_call {w : World} {A : Around} {mg mb : Str → Option Value} {s : Shared} {E : Value → Shared → Prop} {Q : Value → Shared → Prop} {f : Addr} {c : Nat} {t : Tok}
    (B : Base mg mb s.heap) (T : Tabs w mg s.heap) (hf : FnIs s.heap 10 f) (hroom : A.depth < recursionLimit) (hc : c ∈ [64259, 64257, 223, 70, 73, 383, 173])
    (h : ∀ h' tk, Ext s.heap h' → Q (.bool (inB1 c)) { s with heap := h', toks := tk }) :
    wpAny (model pw w) A (call (.ref f) [.str ⟨#[c]⟩ t]) Q E s := by
  obtain ⟨o, pm, cd, doc, ho, hd, hcd⟩ := hf
  refine wpAny_call (call_plain_ret (binds := [(("code" : Str), .str ⟨#[c]⟩ t)]) hroom ho hd B.nolimit hcd rfl (by intro y hy; obtain rfl := List.mem_singleton.mp hy; rfl) (fun h₁ F => ?_) rfl rfl rfl (show ∀ x ∈ (fnScope (topS 10)).names, x.2 ≠ .cell by decide +kernel))
  obtain ⟨z1, z2⟩ := blt (x := "ord") B (by simp [freeNames]) bootS_ord
  obtain ⟨a, S, n, hg, hS, h1, h2⟩ := T.set
  refine wpAny_execs_cons (wpAny_Return_some (wpAny_Compare1 (Call_ (ld_builtin_at F B.g z1 B.b z2 (PyProof.Rows.callWith_builtin1 (args_cons (PyProof.Rows.ld F (v := .str ⟨#[c]⟩ t) rfl (args_nil (P.ord_of_char (ld_global_at F B.g hg ?_)))))))))) 
  have hS' : h₁.SetOf (intKind pw w) a S n := let ⟨o, es, ep, t, ho, r⟩ := hS; ⟨o, es, ep, t, F.keep _ _ ho, r⟩
  refine wpAny_inSet_of (knd := intKind pw w) (k := (c : Int)) (intKind_is pw w _ _) rfl (S := S) (n := n) hS' ?_
  have e : S (c : Int) = inB1 c := by
    simp only [List.mem_cons, List.not_mem_nil, or_false] at hc
    rcases hc with rfl | rfl | rfl | rfl | rfl | rfl | rfl <;> first | exact h1 | exact h2 _ (by simp)
  rw [e]
  exact h h₁ _ F.keep

theorem map_call {w : World} {A : Around} {mg mb : Str → Option Value} {s : Shared} {E : Value → Shared → Prop} {Q : Value → Shared → Prop} {f : Addr} {c : Nat} {t : Tok}
    (B : Base mg mb s.heap) (T : Tabs w mg s.heap) (hf : FnIs s.heap 12 f) (hroom : A.depth < recursionLimit) (hc : c ∈ [64259, 64257, 223, 70, 73, 383])
    (h : ∀ h' tk u, Ext s.heap h' → Q (.str (mapB3 c) u) { s with heap := h', toks := tk }) :
    wpAny (model pw w) A (call (.ref f) [.str ⟨#[c]⟩ t]) Q E s := by
  obtain ⟨o, pm, cd, doc, ho, hd, hcd⟩ := hf
  refine wpAny_call (call_plain_ret (binds := [(("code" : Str), .str ⟨#[c]⟩ t)]) hroom ho hd B.nolimit hcd rfl (by intro y hy; obtain rfl := List.mem_singleton.mp hy; rfl) (fun h₁ F => ?_) rfl rfl rfl (show ∀ x ∈ (fnScope (topS 12)).names, x.2 ≠ .cell by decide +kernel))
  obtain ⟨z1, z2⟩ := blt (x := "ord") B (by simp [freeNames]) bootS_ord
  obtain ⟨d, g, hg, hds, hD, e1, e2, e3, e4, e5, e6⟩ := T.dict
  have hD' : h₁.MapOf (intKind pw w) d g := let ⟨o, es, ep, ho, r⟩ := hD; ⟨o, es, ep, F.keep _ _ ho, r⟩
  refine wpAny_execs_cons (wpAny_Assign_Name (Call_method1 (prog := pw) (w := w) (by rfl) (by rfl) (by rfl) (ld_global_at F B.g hg ⟨"dict", _, PySem.F.plainAttrs_dict, PySem.F.slot_dict_get, PySem.F.type_dict_get, hD'.typeIs, hD'.noDict,
    Calls.callWith_builtin rfl (Calls.evalArgs_plain (Calls.spliced_cons (Call_ (ld_builtin_at F B.g z1 B.b z2 (PyProof.Rows.callWith_builtin1 (args_cons (PyProof.Rows.ld F (v := .str ⟨#[c]⟩ t) rfl (args_nil (P.ord_of_char (Calls.spliced_nil ?_)))))))))) ⟩)))
  refine call_meetsIn PySem.F.slot_dict_get hD'.typeIs PySem.F.entry_dict_get (PySem.F.args_dict_get_2 _ _) (meets_dict_get (intKind pw w) d (k := (c : Int)) (intKind_is pw w _ _) hds) ⟨_, hD', ?_⟩
  refine PyProof.Rows.st F fun h₂ F₂ => ?_
  simp only [List.mem_cons, List.not_mem_nil, or_false] at hc
  have some_ : ∀ (y : Str) (u : Tok), g (c : Int) = some (.str y u) → mapB3 c = y → wpAny (model pw w) (A.deeper (envOf (fnName (topS 12)) (fnScope (topS 12)) s.heap.objs.size f cd)) (execs [nthS (fnBody (topS 12)) 1, nthS (fnBody (topS 12)) 2] (envOf (fnName (topS 12)) (fnScope (topS 12)) s.heap.objs.size f cd))
      (fun fl s' => match (Except.ok (.ret (match fl with | .ret v => v | _ => .none)) : Result) with | .ok (.ret v) => Q v s' | .ok _ => False | .error e => E e s') (fun _ _ => False)
      ⟨h₂, s.gens, s.drawn, s.toks + 1 + 1 + 1 + 1, s.os⟩ := fun y u hy hm => by
    rw [hy] at F₂
    refine wpAny_execs_cons (wpAny_If (wpAny_isTrue_Compare1 (PyProof.Rows.ld F₂ (v := .str y u) rfl (wpAny_Constant_none (isNot_none (wpAny_truthy_bool ?_))))))
    rw [show (!(Value.str y u == Value.none)) = true from rfl, if_pos rfl]
    refine wpAny_execs_cons (wpAny_Return_some (PyProof.Rows.ld F₂ (v := .str y u) rfl ?_))
    rw [← hm]
    exact h h₂ _ u F₂.keep
  have none_ : ∀ (y : Str), g (c : Int) = none → Txt.lower ⟨#[c]⟩ = y → PySem.Builtin.Str.tooLong (Txt.lower ⟨#[c]⟩).length = false → mapB3 c = y → wpAny (model pw w) (A.deeper (envOf (fnName (topS 12)) (fnScope (topS 12)) s.heap.objs.size f cd)) (execs [nthS (fnBody (topS 12)) 1, nthS (fnBody (topS 12)) 2] (envOf (fnName (topS 12)) (fnScope (topS 12)) s.heap.objs.size f cd))
      (fun fl s' => match (Except.ok (.ret (match fl with | .ret v => v | _ => .none)) : Result) with | .ok (.ret v) => Q v s' | .ok _ => False | .error e => E e s') (fun _ _ => False)
      ⟨h₂, s.gens, s.drawn, s.toks + 1 + 1 + 1 + 1, s.os⟩ := fun y hy hl hfit hm => by
    rw [hy] at F₂
    refine wpAny_execs_cons (wpAny_If (wpAny_isTrue_Compare1 (PyProof.Rows.ld F₂ (v := .none) rfl (wpAny_Constant_none (isNot_none (wpAny_truthy_bool ?_))))))
    rw [show (!(Value.none == Value.none)) = false from rfl, if_neg Bool.false_ne_true]
    refine wpAny_execs_nil (wpAny_execs_cons (wpAny_Return_some (Call_method0 (prog := pw) (w := w) (by rfl) (by rfl) (PyProof.Rows.ld F₂ (v := .str ⟨#[c]⟩ t) rfl (SB.lower hfit ?_)))))
    rw [hl, ← hm]
    exact h h₂ _ _ F₂.keep
  rcases hc with rfl | rfl | rfl | rfl | rfl | rfl
  · obtain ⟨u, e⟩ := e1; exact some_ _ u e rfl
  · obtain ⟨u, e⟩ := e2; exact some_ _ u e rfl
  · obtain ⟨u, e⟩ := e3; exact some_ _ u e rfl
  · exact none_ _ e5 rfl rfl (by decide +kernel)
  · exact none_ _ e6 rfl rfl (by decide +kernel)
  · obtain ⟨u, e⟩ := e4; exact some_ _ u e rfl
end Mine

namespace Mine
open PySem PySem.W PySem.Calls PyProof.Rows

noncomputable def go : List Nat → List Nat
  | [] => []
  | [c] => if c = 34 then [] else [c]
  | c :: d :: r => if c = 34 then (if d = 34 then 34 :: go r else []) else c :: go (d :: r)
theorem go_other {c : Nat} (h : c ≠ 34) (r : List Nat) : go (c :: r) = c :: go r := by
  cases r with
  | nil => simp [go, h]
  | cons d r => simp [go, h]

theorem item_at {prog : Program} {w : World} {A : Around} {E : Value → Shared → Prop} {s : Shared} {x : Str} {t u : Tok} {i c : Nat} {Q : Value → Shared → Prop} (hc : x.cps[i]? = some c) (hi : i < 2 ^ 62)
    (h : Q (.str ⟨#[c]⟩ s.toks) { s with toks := s.toks + 1 }) : ItemOn (model prog w) A E (.str x t) (.int (i : Nat) u) Q s := by
  have hl : i < x.length := (Array.getElem?_eq_some_iff.mp hc).1
  refine ⟨"str", _, PySem.F.slot_str_getitem.lookup, typeIs_str _ _ _, P.getItem_str ?_ (c := c) ?_ h⟩
  · rw [Bool.or_eq_false_iff, decide_eq_false_iff_not, decide_eq_false_iff_not]
    omega
  · have : seqIndex? (i : Nat) x.length = some i := by
      unfold seqIndex?
      simp
      omega
    rw [this]
    exact hc
theorem drop_at {l : List Nat} {i c : Nat} (h : l[i]? = some c) : l.drop i = c :: l.drop (i + 1) := by
  obtain ⟨hl, rfl⟩ := List.getElem?_eq_some_iff.mp h
  exact List.drop_eq_getElem_cons hl

theorem p257_call {w : World} {A : Around} {mg mb : Str → Option Value} {s : Shared} {E : Value → Shared → Prop} {Q : Value → Shared → Prop} {f : Addr} {x : Str} {t : Tok}
    (B : Base mg mb s.heap) (hf : FnIs s.heap 7 f) (hroom : A.depth < recursionLimit) (hlen : x.length ≤ 100000) (h5 : 5 ≤ x.length) (h1 : Txt.slice x none (some 3) = "257") (h2 : Txt.slice x (some 3) (some 5) = " \"")
    (h : ∀ h' tk y u, y.cps.toList = go (x.cps.toList.drop 5) → Ext s.heap h' → Q (.str y u) { s with heap := h', toks := tk }) :
    wpAny (model pw w) A (call (.ref f) [.str x t]) Q E s := by
  obtain ⟨o, pm, cd, doc, ho, hd, hcd⟩ := hf
  refine wpAny_call (call_plain_ret (binds := [(("resp" : Str), .str x t)]) hroom ho hd B.nolimit hcd rfl (by intro y hy; obtain rfl := List.mem_singleton.mp hy; rfl) (fun h₁ F => ?_) rfl rfl rfl (show ∀ x ∈ (fnScope (topS 7)).names, x.2 ≠ .cell by decide +kernel))
  refine wpAny_execs_cons (wpAny_If (wpAny_isTrue_Compare1 (Subscript_Slice (PyProof.Rows.ld F (v := .str x t) rfl (wpAny_Slice (evalPart_none_step (evalPart_some_step (wpAny_Constant_int (evalPart_none_step ?_)))))))))
  refine SBH.sliceItem_ns (P := fun h => Ext h₁ h) (fun h ob hk b oo e => Heap.get?_push_of_some _ (hk b oo e)) (fun _ _ e => e) (fun h₂ t₂ k₂ hk₂ => ?_) (by rw [sizeLine_eq]; omega)
  rw [h1]
  refine wpAny_Constant_str (P.ne_str (wpAny_truthy_bool ?_))
  rw [bne_self_eq_false, if_neg Bool.false_ne_true]
  have F₂ := frExt F hk₂
  refine wpAny_execs_nil (wpAny_execs_cons (wpAny_If (wpAny_isTrue_Compare1 (Subscript_Slice (PyProof.Rows.ld F₂ (v := .str x t) rfl (wpAny_Slice (evalPart_some_step (wpAny_Constant_int (evalPart_some_step (wpAny_Constant_int (evalPart_none_step ?_)))))))))))
  refine SBH.sliceItem_ss (P := fun h => Ext h₂ h) (fun h ob hk b oo e => Heap.get?_push_of_some _ (hk b oo e)) (fun _ _ e => e) (fun h₃ t₃ k₃ hk₃ => ?_) (by rw [sizeLine_eq]; omega)
  rw [h2]
  refine wpAny_Constant_str (P.ne_str (wpAny_truthy_bool ?_))
  rw [bne_self_eq_false, if_neg Bool.false_ne_true]
  have F₃ := frExt F₂ hk₃
  obtain ⟨z1, z2⟩ := blt (x := "len") B (by simp [freeNames]) bootS_len
  refine wpAny_execs_nil (wpAny_execs_cons (wpAny_Assign_Name (wpAny_Constant_str (PyProof.Rows.st F₃ fun h₄ F₄ => ?_))))
  refine wpAny_execs_cons (wpAny_Assign_Name (wpAny_Constant_int (PyProof.Rows.st F₄ fun h₅ F₅ => ?_)))
  refine wpAny_execs_cons (wpAny_Assign_Name (Call_ (ld_builtin_at F₅ B.g z1 B.b z2 (PyProof.Rows.callWith_builtin1 (args_cons (PyProof.Rows.ld F₅ (v := .str x t) rfl (args_nil (P.len_str (by omega) (PyProof.Rows.st F₅ fun h₆ F₆ => ?_)))))))))
  dsimp only at F₆ ⊢
  refine wpAny_execs_cons (wpAny_While (codeAny_whileLoop (fun k s' => ∃ h' tk m i d td ti tn, s' = ⟨h', s.gens, s.drawn, tk, s.os⟩ ∧ Fr s.heap s.heap.objs.size h' m ∧ m "resp" = some (.str x t) ∧ m "n" = some (.int (x.length : Nat) tn) ∧
    m "i" = some (.int (i : Nat) ti) ∧ m "dirname" = some (.str d td) ∧ i ≤ x.length ∧ d.cps.toList ++ go (x.cps.toList.drop i) = go (x.cps.toList.drop 5) ∧ d.length ≤ i ∧ k = x.length - i) ?_ (x.length - 5)
    ⟨_, _, _, 5, _, _, _, _, rfl, F₆, rfl, rfl, rfl, rfl, h5, by simp [Str.ofString]; rfl, by decide, rfl⟩))
  rintro k s' ⟨h', tk, m, i, d, td, ti, tn, rfl, F', e1, e2, e3, e4, hi, hgo, hdl, rfl⟩
  have fin : ∀ h' tk m (d : Str) td, Fr s.heap s.heap.objs.size h' m → m "dirname" = some (.str d td) → d.cps.toList = go (x.cps.toList.drop 5) →
      wpAny (model pw w) (A.deeper (envOf (fnName (topS 7)) (fnScope (topS 7)) s.heap.objs.size f cd)) (execs [nthS (fnBody (topS 7)) 6] (envOf (fnName (topS 7)) (fnScope (topS 7)) s.heap.objs.size f cd))
        (fun fl s' => match (Except.ok (.ret (match fl with | .ret v => v | _ => .none)) : Result) with | .ok (.ret v) => Q v s' | .ok _ => False | .error e => E e s') (fun _ _ => False) ⟨h', s.gens, s.drawn, tk, s.os⟩ :=
    fun h' tk m d td F' e4 hd => wpAny_execs_cons (wpAny_Return_some (PyProof.Rows.ld F' e4 (h h' tk d td hd F'.keep)))
  have hxl : x.length = x.cps.size := rfl
  have hll : x.cps.toList.length = x.cps.size := Array.length_toList
  refine wpAny_isTrue_Compare1 (PyProof.Rows.ld F' e3 (PyProof.Rows.ld F' e2 (P.lt_int (wpAny_truthy_bool ?_))))
  by_cases hlt : i < x.length
  · rw [show decide (((i : Nat) : Int) < ((x.length : Nat) : Int)) = true by rw [decide_eq_true_eq]; omega, if_pos rfl]
    obtain ⟨c, hc⟩ : ∃ c, x.cps[i]? = some c := ⟨_, Array.getElem?_eq_getElem (by omega)⟩
    have hcl : x.cps.toList[i]? = some c := by rw [Array.getElem?_toList]; exact hc
    refine wpAny_execs_cons (wpAny_Assign_Name (Subscript_Name (PyProof.Rows.ld F' e1 (PyProof.Rows.ld F' e3 (item_at hc (by omega) (PyProof.Rows.st F' fun h₇ F₇ => ?_))))))
    refine wpAny_execs_cons (wpAny_Assign_Name (wpAny_BinOp (PyProof.Rows.ld F₇ e3 (wpAny_Constant_int (P.add_int (PyProof.Rows.st F₇ fun h₈ F₈ => ?_))))))
    dsimp only at F₈ ⊢
    refine wpAny_execs_cons (wpAny_If (wpAny_isTrue_Compare1 (PyProof.Rows.ld F₈ (v := .str ⟨#[c]⟩ tk) rfl (wpAny_Constant_str (PyProof.Rows.eq_str (wpAny_truthy_bool ?_))))))
    rw [show ((⟨#[c]⟩ : Str) == ("\"" : Str)) = decide (c = 34) from ch_eq c 34]
    by_cases h34 : c = 34
    · subst h34
      simp only [decide_true, if_true]
      have brk : go (x.cps.toList.drop i) = [] → d.cps.toList = go (x.cps.toList.drop 5) := fun e => by rw [e, List.append_nil] at hgo; exact hgo
      refine wpAny_execs_cons (wpAny_If (wpAny_isTrue_BoolOp (wpAny_allTrue_Or_cons (wpAny_isTrue_Compare1 (PyProof.Rows.ld F₈ (v := .int ((i + 1 : Nat) : Int) _) rfl (PyProof.Rows.ld F₈ e2 (P.ge_int (wpAny_truthy_bool ?_))))))))
      by_cases hge : i + 1 ≥ x.length
      · rw [show decide (((i + 1 : Nat) : Int) ≥ ((x.length : Nat) : Int)) = true by rw [decide_eq_true_eq]; omega, if_pos rfl]
        simp only [if_true]
        refine wpAny_execs_cons (wpAny_Break ?_)
        refine fin _ _ _ d td F₈ e4 (brk ?_)
        rw [drop_at hcl, List.drop_eq_nil_of_le (by omega)]
        rfl
      · rw [show decide (((i + 1 : Nat) : Int) ≥ ((x.length : Nat) : Int)) = false by rw [decide_eq_false_iff_not]; omega, if_neg Bool.false_ne_true]
        obtain ⟨c₂, hc₂⟩ : ∃ c, x.cps[i + 1]? = some c := ⟨_, Array.getElem?_eq_getElem (by omega)⟩
        have hcl₂ : x.cps.toList[i + 1]? = some c₂ := by rw [Array.getElem?_toList]; exact hc₂
        refine wpAny_allTrue_Or_cons (wpAny_isTrue_Compare1 (Subscript_Name (PyProof.Rows.ld F₈ e1 (PyProof.Rows.ld F₈ (v := .int ((i + 1 : Nat) : Int) _) rfl (item_at hc₂ (by omega) (wpAny_Constant_str (P.ne_str (wpAny_truthy_bool ?_))))))))
        have hb : ((⟨#[c₂]⟩ : Str).cps.toList != ("\"" : Str).cps.toList) = !decide (c₂ = 34) := by
          show (([c₂] : List Nat) != [34]) = _
          by_cases hh : c₂ = 34 <;> simp [hh]
        rw [hb]
        by_cases h2 : c₂ = 34
        · subst h2
          simp only [decide_true, Bool.not_true, Bool.false_eq_true, if_false]
          refine wpAny_allTrue_Or_nil ?_
          rw [if_neg Bool.false_ne_true]
          refine wpAny_execs_nil (wpAny_execs_cons (wpAny_Assign_Name (wpAny_BinOp (PyProof.Rows.ld F₈ (v := .int ((i + 1 : Nat) : Int) _) rfl (wpAny_Constant_int (P.add_int (PyProof.Rows.st F₈ fun h₉ F₉ => ?_)))))))
          refine wpAny_execs_nil (wpAny_execs_cons (wpAny_Assign_Name (wpAny_BinOp (PyProof.Rows.ld F₉ e4 (PyProof.Rows.ld F₉ (v := .str ⟨#[34]⟩ tk) rfl (SB.add (fun t' k => PyProof.Rows.st F₉ fun h₁₀ F₁₀ => ?_) (by rw [sizeLine_eq]; show d.length + 1 ≤ _; omega)))))))
          refine wpAny_execs_nil ⟨x.length - (i + 1 + 1), by omega, h₁₀, _, _, i + 1 + 1, d ++ ⟨#[34]⟩, t', _, _, rfl, F₁₀, e1, e2, rfl, rfl, by omega, ?_, ?_, rfl⟩
          · rw [← hgo, drop_at hcl, drop_at hcl₂]
            show (d.cps ++ #[34]).toList ++ _ = _ ++ (34 :: go _)
            simp
          · show (d.cps ++ #[34]).size ≤ _
            have : d.cps.size ≤ i := hdl
            simp
            omega
        · simp only [h2, decide_false, Bool.not_false, if_true]
          refine wpAny_execs_cons (wpAny_Break ?_)
          refine fin _ _ _ d td F₈ e4 (brk ?_)
          rw [drop_at hcl, drop_at hcl₂]
          simp [go, h2]
    · simp only [h34, decide_false, Bool.false_eq_true, if_false]
      refine wpAny_execs_nil (wpAny_execs_cons (wpAny_Assign_Name (wpAny_BinOp (PyProof.Rows.ld F₈ e4 (PyProof.Rows.ld F₈ (v := .str ⟨#[c]⟩ tk) rfl (SB.add (fun t' k => PyProof.Rows.st F₈ fun h₁₀ F₁₀ => ?_) (by rw [sizeLine_eq]; show d.length + 1 ≤ _; omega)))))))
      refine wpAny_execs_nil ⟨x.length - (i + 1), by omega, h₁₀, _, _, i + 1, d ++ ⟨#[c]⟩, t', _, _, rfl, F₁₀, e1, e2, rfl, rfl, by omega, ?_, ?_, rfl⟩
      · rw [← hgo, drop_at hcl, go_other h34]
        show (d.cps ++ #[c]).toList ++ _ = _
        simp
      · show (d.cps ++ #[c]).size ≤ _
        have : d.cps.size ≤ i := hdl
        simp
        omega
  · rw [show decide (((i : Nat) : Int) < ((x.length : Nat) : Int)) = false by rw [decide_eq_false_iff_not]; omega, if_neg Bool.false_ne_true]
    refine wpAny_execs_nil (fin h' tk m d td F' e4 ?_)
    rw [List.drop_eq_nil_of_le (by omega)] at hgo
    simpa [go] using hgo
end Mine

namespace Mine
open PySem PySem.W PySem.Calls PyProof.Rows

noncomputable def sp1 (c : Nat) : Str := if c = 102 then "F" else if c = 105 then "I" else if c = 115 then "\u017f" else ⟨#[c]⟩
noncomputable def lrB : List Stmt := fnBody (topS 14)
noncomputable def callArg : PySem.Expr → Nat → PySem.Expr
  | .Call _ as _ _, i => (as[i]?).getD default
  | _, _ => default
noncomputable def lcElt : PySem.Expr → PySem.Expr
  | .ListComp e _ _ _ => e
  | _ => default
noncomputable def lcScope : PySem.Expr → Scope
  | .ListComp _ _ sc _ => sc
  | _ => default
noncomputable def lcIfs : PySem.Expr → List PySem.Expr
  | .ListComp _ [c] _ _ => c.ifs
  | _ => default
noncomputable def lc1 : PySem.Expr := callArg (stVal (nthS lrB 1)) 0
noncomputable def lc2 : PySem.Expr := callArg (stVal (nthS lrB 2)) 0

theorem spell_elt {w : World} {A : Around} {s : Shared} {E : Value → Shared → Prop} {Q : Value → Shared → Prop} {C L a : Addr} {cd : Value} {m : Str → Option Value} {c : Nat} {u : Tok}
    (hn : s.heap.Ns C m) (hm : m "sign" = some (.str ⟨#[c]⟩ u)) (h1 : 1 < s.heap.objs.size) (hc : c ∈ [64259, 64257, 223, 102, 105, 115])
    (h : ∀ h' tk t, Ext s.heap h' → Q (.str (sp1 c ++ "\u00ad") t) { s with heap := h', toks := tk }) :
    wpAny (model pw w) A (eval (lcElt lc1) (compEnv (lcScope lc1) C (envOf (fnName (topS 14)) (fnScope (topS 14)) L a cd))) Q E s := by
  refine wpAny_BinOp ?_
  refine Call_method2 (prog := pw) (w := w) ?_ ?_ ?_ ?_
  · rfl
  · rfl
  · rfl
  refine wpAny_Dict_walk (prog := pw) (w := w) (knd := strKind pw w) ?_ ?_ ?_ ?_ ?_
  · rfl
  · rfl
  · exact List.cons_ne_nil _ _
  · exact Nat.le_of_ble_eq_true rfl
  refine pairTrees_cons_walk (prog := pw) (w := w) (wpAny_Constant_str (wpAny_Constant_str ?_))
  refine pairTrees_cons_walk (prog := pw) (w := w) (wpAny_Constant_str (wpAny_Constant_str ?_))
  refine pairTrees_cons_walk (prog := pw) (w := w) (wpAny_Constant_str (wpAny_Constant_str ?_))
  refine pairTrees_nil_walk (prog := pw) (w := w) ?_
  dsimp only
  refine ⟨[(("f" : Str), _), (("i" : Str), _), (("s" : Str), _)], ⟨strKind_is pw w _ _, rfl, strKind_is pw w _ _, rfl, strKind_is pw w _ _, rfl, trivial⟩, Heap.DictOf.new _, fun h₁ hd₁ hs₁ => ?_⟩
  have hlt : @LT.lt Nat _ C s.heap.objs.size := hn.lt
  have hk₁ : Ext s.heap h₁ := fun b o e => hs₁.extBut b o (Nat.ne_of_lt (Heap.lt_size e)) (Heap.get?_push_of_some _ e)
  have hds : ((s.heap.objs.size : Addr) == sysModules) = false := beq_eq_false_iff_ne.mpr (Nat.ne_of_gt h1)
  refine ⟨"dict", _, PySem.F.plainAttrs_dict, PySem.F.slot_dict_get, PySem.F.type_dict_get, hd₁.typeIs, hd₁.mapOf.noDict, ?_⟩
  refine Calls.callWith_builtin rfl (Calls.evalArgs_plain (Calls.spliced_cons (wpAny_Name (wpAny_loadName_local rfl rfl (hn.keeps hk₁) hm ?_))))
  refine Calls.spliced_cons (wpAny_Name (wpAny_loadName_local rfl rfl (hn.keeps hk₁) hm (Calls.spliced_nil ?_)))
  refine call_meetsIn PySem.F.slot_dict_get hd₁.typeIs PySem.F.entry_dict_get (PySem.F.args_dict_get_3 _ _ _) (meets_dict_get_default (PySem.strKind pw w) s.heap.objs.size (k := ⟨#[c]⟩) (strKind_is pw w _ _) hds _) ⟨_, hd₁.mapOf, ?_⟩
  have fin : ∀ y u', sp1 c = y → wpAny (model pw w) A (eval (.Constant (.str "\u00ad") 0 ⟨80, 73, 80, 79⟩) (compEnv (lcScope lc1) C (envOf (fnName (topS 14)) (fnScope (topS 14)) L a cd))) (fun b s₂ => wpAny (model pw w) A (binaryOp .Add (.str y u') b) Q E s₂) E ⟨h₁, s.gens, s.drawn, s.toks + 1 + 1 + 1 + 1 + 1 + 1 + 3 + 1, s.os⟩ := by
    rintro y u' rfl
    refine wpAny_Constant_str (SB.add (fun t' k => h h₁ k t' hk₁) ?_)
    simp only [List.mem_cons, List.not_mem_nil, or_false] at hc
    rcases hc with rfl | rfl | rfl | rfl | rfl | rfl <;> decide +kernel
  simp only [List.mem_cons, List.not_mem_nil, or_false] at hc
  rcases hc with rfl | rfl | rfl | rfl | rfl | rfl
  · exact fin _ _ rfl
  · exact fin _ _ rfl
  · exact fin _ _ rfl
  · exact fin _ _ rfl
  · exact fin _ _ rfl
  · exact fin _ _ rfl
end Mine

namespace Mine
open PySem PySem.W PySem.Calls PyProof.Rows

/-- a call of an own def by its name, in any frame of a function -/
theorem fn_callC {M : Model} {A : Around} {E : Value → Shared → Prop} {s : Shared} {mg mb : Str → Option Value} {env : Env} {i : Nat} {p pos : Pos} {e : PySem.Expr} {rest : List PySem.Expr} {Q : Value → Shared → Prop}
    (B : Base mg mb s.heap) (hi : i ∈ fnIdx) (hg : env.globals = mainGlobals) (hk : env.scope.kind = .function) (hx : env.kindOf (fnName (topS i)) = some .globalImplicit) (hd : (fnName (topS i) == ("__debug__" : Str)) = false)
    (he : starEach (e :: rest) env = (false, eval e env) :: starEach rest env)
    (h : ∀ f, FnIs s.heap i f → wpAny M A (spliced (backTo pos (starEach (e :: rest) env))) (fun vs s₁ => Ext s.heap s₁.heap ∧ wpAny M A (call (.ref f) vs) Q E s₁) E s) :
    wpAny M A (eval (.Call (.Name (fnName (topS i)) p) (e :: rest) [] pos) env) Q E s := by
  obtain ⟨f, h1, hf⟩ := B.fnIs hi
  obtain ⟨o, pm, c, doc, ho, hd', hc⟩ := id hf
  refine Call_ (Calls.Name_function_global hk hx (Calls.loadGlobal_global (mg := mg) (hg ▸ B.g) h1 ?_) hd)
  exact callWith_def hd' (wpAny_mono (h f hf) (fun vs s₁ h₁ => ⟨h₁.1 _ _ ho, h₁.2⟩) fun _ _ x => x) he

noncomputable abbrev cE2 (C L a : Addr) (cd : Value) : Env := compEnv (lcScope lc2) C (envOf (fnName (topS 14)) (fnScope (topS 14)) L a cd)

theorem map_test {w : World} {A : Around} {mg mb : Str → Option Value} {s : Shared} {E : Value → Shared → Prop} {Q : Bool → Shared → Prop} {C L a : Addr} {cd : Value} {m : Str → Option Value} {c : Nat} {u : Tok}
    (B : Base mg mb s.heap) (T : Tabs w mg s.heap) (hroom : A.depth < recursionLimit) (hn : s.heap.Ns C m) (hm : m "sign" = some (.str ⟨#[c]⟩ u)) (hc : c ∈ [64259, 64257, 223, 70, 73, 383, 173])
    (h : ∀ h' tk, Ext s.heap h' → Q (!inB1 c) { s with heap := h', toks := tk }) :
    wpAny (model pw w) A (isTrue ((lcIfs lc2)[0]?.getD default) (cE2 C L a cd) (eval ((lcIfs lc2)[0]?.getD default) (cE2 C L a cd))) Q E s := by
  refine wpAny_isTrue_Not ?_
  refine wpAny_isTrue_value ?_
  refine fn_callC (i := 10) B (by decide) ?_ ?_ ?_ ?_ ?_ ?_
  · rfl
  · rfl
  · rfl
  · rfl
  · rfl
  intro f hf
  refine args_cons (wpAny_Name (wpAny_loadName_local rfl rfl hn hm (args_nil ⟨fun _ _ e => e, ?_⟩)))
  refine inb1_call B T hf hroom hc fun h₁ tk hk₁ => wpAny_truthy_bool ?_
  exact h h₁ tk hk₁

theorem map_elt {w : World} {A : Around} {mg mb : Str → Option Value} {s : Shared} {E : Value → Shared → Prop} {Q : Value → Shared → Prop} {C L a : Addr} {cd : Value} {m : Str → Option Value} {c : Nat} {u : Tok}
    (B : Base mg mb s.heap) (T : Tabs w mg s.heap) (hroom : A.depth < recursionLimit) (hn : s.heap.Ns C m) (hm : m "sign" = some (.str ⟨#[c]⟩ u)) (hc : c ∈ [64259, 64257, 223, 70, 73, 383])
    (h : ∀ h' tk u, Ext s.heap h' → Q (.str (mapB3 c) u) { s with heap := h', toks := tk }) :
    wpAny (model pw w) A (eval (lcElt lc2) (cE2 C L a cd)) Q E s := by
  refine fn_callC (i := 12) B (by decide) ?_ ?_ ?_ ?_ ?_ ?_
  · rfl
  · rfl
  · rfl
  · rfl
  · rfl
  intro f hf
  refine args_cons (wpAny_Name (wpAny_loadName_local rfl rfl hn hm (args_nil ⟨fun _ _ e => e, ?_⟩)))
  exact map_call B T hf hroom hc h

/-- what a comprehension over a text's signs has made -/
theorem comp_strs {p : Value → Bool} {pz : Nat → Bool} {g : Nat → Str} (hp : ∀ c u, p (.str ⟨#[c]⟩ u) = pz c) : ∀ (cs : List Nat) (vs ys : List Value), vs.length = cs.length → (∀ (j : Nat) v, vs[j]? = some v → ∃ c u, cs[j]? = some c ∧ v = .str ⟨#[c]⟩ u) →
    Paired (fun v y => ∃ c u t, v = .str ⟨#[c]⟩ u ∧ y = .str (g c) t) (vs.filter p) ys → ∃ ls : List (Str × Tok), ys = strValues ls ∧ ls.map (·.1) = (cs.filter pz).map g
  | [], [], ys, _, _, hP => by
    cases hP
    exact ⟨[], rfl, rfl⟩
  | [], _ :: _, _, h, _, _ => by simp at h
  | _ :: _, [], _, h, _, _ => by simp at h
  | c :: cs, v :: vs, ys, h, hv, hP => by
    obtain ⟨c', u, hc, rfl⟩ := hv 0 v rfl
    cases hc
    have hl : vs.length = cs.length := by simpa using h
    have hv' : ∀ (j : Nat) w, vs[j]? = some w → ∃ c u, cs[j]? = some c ∧ w = .str ⟨#[c]⟩ u := fun j w e => hv (j + 1) w (by simpa using e)
    cases hz : pz c with
    | false =>
      rw [List.filter_cons_of_neg (by rw [hp, hz]; exact Bool.false_ne_true)] at hP
      obtain ⟨ls, e1, e2⟩ := comp_strs hp cs vs ys hl hv' hP
      exact ⟨ls, e1, by rw [e2, List.filter_cons_of_neg (by rw [hz]; exact Bool.false_ne_true)]⟩
    | true =>
      rw [List.filter_cons_of_pos (by rw [hp, hz])] at hP
      cases hP with
      | cons hF hP =>
        obtain ⟨c', u', t', e, rfl⟩ := hF
        injection e with e _
        obtain rfl : c = c' := Option.some.inj (congrArg (fun z : Str => z.cps[0]?) e)
        obtain ⟨ls, rfl, e2⟩ := comp_strs hp cs vs _ hl hv' hP
        exact ⟨(g c, t') :: ls, rfl, by rw [List.map_cons, e2, List.filter_cons_of_pos hz, List.map_cons]⟩
end Mine

namespace Mine
open PySem PySem.W PySem.Calls PyProof.Rows

noncomputable def spellL (l : List Nat) : List Nat := l.flatMap fun c => (sp1 c ++ ("\u00ad" : Str)).cps.toList
noncomputable def mapL (l : List Nat) : List Nat := (l.filter fun c => !inB1 c).flatMap fun c => (mapB3 c).cps.toList

theorem sp1_mem {c d : Nat} (hc : c ∈ [64259, 64257, 223, 102, 105, 115]) (hd : d ∈ (sp1 c ++ ("\u00ad" : Str)).cps.toList) : d ∈ [64259, 64257, 223, 70, 73, 383, 173] := by
  revert d
  simp only [List.mem_cons, List.not_mem_nil, or_false] at hc
  rcases hc with rfl | rfl | rfl | rfl | rfl | rfl <;> decide +kernel
theorem sp1_len {c : Nat} (hc : c ∈ [64259, 64257, 223, 102, 105, 115]) : (sp1 c ++ ("\u00ad" : Str)).length = 2 := by
  simp only [List.mem_cons, List.not_mem_nil, or_false] at hc
  rcases hc with rfl | rfl | rfl | rfl | rfl | rfl <;> decide +kernel

theorem spell_elt' {w : World} {A : Around} {s : Shared} {E : Value → Shared → Prop} {Q : Value → Shared → Prop} {C L a : Addr} {cd : Value} {m : Str → Option Value} {c : Nat} {u : Tok} {e : PySem.Expr} {env : Env}
    (hn : s.heap.Ns C m) (hm : m "sign" = some (.str ⟨#[c]⟩ u)) (h1 : 1 < s.heap.objs.size) (hc : c ∈ [64259, 64257, 223, 102, 105, 115])
    (h : ∀ h' tk t, Ext s.heap h' → Q (.str (sp1 c ++ "\u00ad") t) { s with heap := h', toks := tk }) (he : e = lcElt lc1) (henv : env = compEnv (lcScope lc1) C (envOf (fnName (topS 14)) (fnScope (topS 14)) L a cd)) :
    wpAny (model pw w) A (eval e env) Q E s := by
  subst he henv
  exact @spell_elt w A s E Q C L a cd m c u hn hm h1 hc h
theorem map_test' {w : World} {A : Around} {mg mb : Str → Option Value} {s : Shared} {E : Value → Shared → Prop} {Q : Bool → Shared → Prop} {C L a : Addr} {cd : Value} {m : Str → Option Value} {c : Nat} {u : Tok} {e : PySem.Expr} {env : Env}
    (B : Base mg mb s.heap) (T : Tabs w mg s.heap) (hroom : A.depth < recursionLimit) (hn : s.heap.Ns C m) (hm : m "sign" = some (.str ⟨#[c]⟩ u)) (hc : c ∈ [64259, 64257, 223, 70, 73, 383, 173])
    (h : ∀ h' tk, Ext s.heap h' → Q (!inB1 c) { s with heap := h', toks := tk }) (he : e = (lcIfs lc2)[0]?.getD default) (henv : env = cE2 C L a cd) :
    wpAny (model pw w) A (isTrue e env (eval e env)) Q E s := by
  subst he henv
  exact @map_test w A mg mb s E Q C L a cd m c u B T hroom hn hm hc h
theorem map_elt' {w : World} {A : Around} {mg mb : Str → Option Value} {s : Shared} {E : Value → Shared → Prop} {Q : Value → Shared → Prop} {C L a : Addr} {cd : Value} {m : Str → Option Value} {c : Nat} {u : Tok} {e : PySem.Expr} {env : Env}
    (B : Base mg mb s.heap) (T : Tabs w mg s.heap) (hroom : A.depth < recursionLimit) (hn : s.heap.Ns C m) (hm : m "sign" = some (.str ⟨#[c]⟩ u)) (hc : c ∈ [64259, 64257, 223, 70, 73, 383])
    (h : ∀ h' tk u, Ext s.heap h' → Q (.str (mapB3 c) u) { s with heap := h', toks := tk }) (he : e = lcElt lc2) (henv : env = cE2 C L a cd) :
    wpAny (model pw w) A (eval e env) Q E s := by
  subst he henv
  exact @map_elt w A mg mb s E Q C L a cd m c u B T hroom hn hm hc h

theorem read_rest {w : World} {A : Around} {mg mb : Str → Option Value} {h₀ : Heap} {s : Shared} {E : Value → Shared → Prop} {L a : Addr} {cd : Value} {m : Str → Option Value} {z : Str} {t : Tok}
    (B : Base mg mb h₀) (T : Tabs w mg h₀) (hA : A.handled = none) (hroom : A.depth < recursionLimit) (F : Fr h₀ L s.heap m) (hm : m "word" = some (.str z t)) (hz : ∀ c ∈ z.cps.toList, c ∈ [64259, 64257, 223, 102, 105, 115]) (hlen : z.length ≤ 100)
    (Q : Flow → Shared → Prop) (h : ∀ h' tk y u, y.cps.toList = mapL (spellL z.cps.toList) → Ext h₀ h' → Q (.ret (.str y u)) { s with heap := h', toks := tk }) :
    wpAny (model pw w) A (execs [nthS lrB 1, nthS lrB 2] (envOf (fnName (topS 14)) (fnScope (topS 14)) L a cd)) Q E s := by
  have big : ∀ h' : Heap, Ext h₀ h' → 1 < h'.objs.size := fun h' hk => by
    have : @LT.lt Nat _ mainGlobals h'.objs.size := (B.g.keeps hk).lt
    exact Nat.lt_of_le_of_lt (by decide) this
  refine wpAny_execs_cons (wpAny_Assign_Name ?_)
  refine join_call ?_
  refine wpAny_ListComp_walk (fun _ => true) (fun v y => ∃ c u t, v = .str ⟨#[c]⟩ u ∧ y = .str (sp1 c ++ ("\u00ad" : Str)) t) ?_ ?_ ?_ ?_ ?_ ?_
  · decide +kernel
  · decide +kernel
  · rfl
  · decide +kernel
  · rfl
  refine PyProof.Rows.ld (s := ⟨s.heap, s.gens, s.drawn, s.toks + 1, s.os⟩) F hm ?_
  refine wpAny_pyIter_str fun o St W hSt => ?_
  have F₁ := F.push o
  refine ⟨_, _, _, _, _, _, rfl, W A hA, ?_, hSt, ?_, ?_, ?_⟩
  · show z.length ≤ sizeLine
    rw [sizeLine_eq]; omega
  · intro b hb
    rw [List.mem_singleton.mp hb]
    show s.heap.objs.size < (s.heap.push o).objs.size
    rw [Heap.size_push]; exact Nat.lt_succ_self _
  · refine ⟨fun C i v s₃ m₃ E' hP hn₃ hm₃ hk₃ htk₃ => ?_, fun C i v s₃ m₃ E' hP hpv hn₃ hm₃ hk₃ htk₃ => ?_⟩
    · exact wpAny_pure ⟨rfl, s₃.heap, s₃.toks, rfl, fun _ _ e => e⟩
    · obtain ⟨c, u, hc, rfl⟩ := hP
      have hcz : c ∈ z.cps.toList := by rw [← Array.getElem?_toList] at hc; exact List.mem_of_getElem? hc
      have hx : Ext h₀ s₃.heap := fun b o' e => hk₃ b o' (by rw [List.mem_singleton]; exact Nat.ne_of_lt (Nat.lt_of_lt_of_le (Heap.lt_size e) (Nat.le_trans F.above (Nat.le_of_lt F.ns.lt)))) (F₁.keep b o' e)
      refine @spell_elt' w _ _ _ _ C L a cd _ c u _ _ hn₃ hm₃ (big _ hx) (hz c hcz) (fun h' tk t' hk' => ⟨⟨c, u, t', rfl, rfl⟩, h', tk, rfl, hk'⟩) ?_ ?_
      · rfl
      · rfl
  · intro D h₂ tk₂ ys vs hD hL hPl hlen' hvs hF hk₂
    obtain ⟨ls, hls, hmap⟩ := comp_strs (pz := fun _ => true) (fun _ _ => rfl) z.cps.toList vs ys.toList (by rw [hlen', Array.length_toList]) (fun j v e => by
      obtain ⟨c, u, hc, rfl⟩ := hvs j v e
      exact ⟨c, u, by rw [Array.getElem?_toList]; exact hc, rfl⟩) hF
    rw [List.filter_eq_self.mpr (by simp)] at hmap
    have hys : ys = (strValues ls).toArray := by rw [← hls]
    subst hys
    have hwt : ((ls.map (·.1)).map (·.length)).sum + (ls.map (·.1)).length ≤ 300 := by
      have e1 : (ls.map (·.1)).map (·.length) = z.cps.toList.map fun _ => 2 := by
        rw [hmap, List.map_map]
        exact List.map_congr_left fun c hc => sp1_len (hz c hc)
      have e2 : (ls.map (·.1)).length = z.length := by rw [hmap, List.length_map, Array.length_toList]; rfl
      rw [e1, e2, List.map_const', List.sum_replicate_nat, Array.length_toList]
      have : z.cps.size ≤ 100 := hlen
      omega
    have hk₂' : ∀ b o', h₀.get? b = some o' → h₂.get? b = some o' := fun b o' e => hk₂ b o' (by rw [List.mem_singleton]; exact Nat.ne_of_lt (Nat.lt_of_lt_of_le (Heap.lt_size e) (Nat.le_trans F.above (Nat.le_of_lt F.ns.lt)))) (F₁.keep b o' e)
    have hnL : h₂.Ns L m := F₁.ns.at' fun o' e => hk₂ _ o' (by rw [List.mem_singleton]; exact Nat.ne_of_lt F.ns.lt) e
    have F₂ : Fr h₀ L h₂ m := ⟨hnL, hk₂', F.above⟩
    refine ⟨D, ls, rfl, hL, joinOk_of_weight (by omega) (by decide), fun t' k => ?_⟩
    have hsp : (Txt.join ("" : Str) (ls.map (·.1))).cps.toList = spellL z.cps.toList := by rw [join_flat, hmap, List.flatMap_map]; rfl
    generalize Txt.join ("" : Str) (ls.map (·.1)) = y at hsp
    refine PyProof.Rows.st F₂ fun h₃ F₃ => ?_
    have hyl : ∀ c ∈ y.cps.toList, c ∈ [64259, 64257, 223, 70, 73, 383, 173] := fun c hc => by
      rw [hsp] at hc
      obtain ⟨d, hd, hcd⟩ := List.mem_flatMap.mp hc
      exact sp1_mem (hz d hd) hcd
    have hyn : y.length ≤ 200 := by
      have e0 : y.length = y.cps.toList.length := Array.length_toList.symm
      rw [e0, hsp, spellL, List.length_flatMap]
      have e1 : (z.cps.toList.map fun c => ((sp1 c ++ ("\u00ad" : Str)).cps.toList).length) = z.cps.toList.map fun _ => 2 :=
        List.map_congr_left fun c hc => by rw [Array.length_toList]; exact sp1_len (hz c hc)
      rw [e1, List.map_const', List.sum_replicate_nat, Array.length_toList]
      have : z.cps.size ≤ 100 := hlen
      omega
    refine wpAny_execs_cons (wpAny_Return_some ?_)
    refine join_call ?_
    refine wpAny_ListComp_walk (fun v => match v with | .str x _ => !inB1 (x.cps.getD 0 0) | _ => true) (fun v y => ∃ c u t, v = .str ⟨#[c]⟩ u ∧ y = .str (mapB3 c) t) ?_ ?_ ?_ ?_ ?_ ?_
    · decide +kernel
    · decide +kernel
    · rfl
    · decide +kernel
    · rfl
    refine PyProof.Rows.ld (s := ⟨h₃, s.gens, s.drawn, k + 1 + 1, s.os⟩) F₃ (v := .str y t') rfl ?_
    refine wpAny_pyIter_str fun o₄ St₄ W₄ hSt₄ => ?_
    have F₄ := F₃.push o₄
    have hLn₃ : h₀.objs.size < h₃.objs.size := Nat.lt_of_le_of_lt F₃.above F₃.ns.lt
    refine ⟨_, _, _, _, _, _, rfl, W₄ A hA, ?_, hSt₄, ?_, ?_, ?_⟩
    · show y.length ≤ sizeLine
      rw [sizeLine_eq]; omega
    · intro b hb
      rw [List.mem_singleton.mp hb]
      show h₃.objs.size < (h₃.push o₄).objs.size
      rw [Heap.size_push]; exact Nat.lt_succ_self _
    · refine ⟨fun C i v s₅ m₅ E' hP hn₅ hm₅ hk₅ htk₅ => ?_, fun C i v s₅ m₅ E' hP hpv hn₅ hm₅ hk₅ htk₅ => ?_⟩
      · obtain ⟨c, u, hc, rfl⟩ := hP
        have hcy : c ∈ y.cps.toList := by rw [← Array.getElem?_toList] at hc; exact List.mem_of_getElem? hc
        have hx : Ext h₀ s₅.heap := fun b o' e => hk₅ b o' (by rw [List.mem_singleton]; exact Nat.ne_of_lt (Nat.lt_trans (Heap.lt_size e) hLn₃)) (F₄.keep b o' e)
        refine wpAny_tests_one ?_
        refine @map_test' w _ mg mb _ _ _ C L a cd _ c u _ _ (B.keeps hx) (T.keeps hx) hroom hn₅ hm₅ (hyl c hcy) (fun h' tk hk' => ⟨rfl, h', tk, rfl, hk'⟩) ?_ ?_
        · rfl
        · rfl
      · obtain ⟨c, u, hc, rfl⟩ := hP
        have hcy : c ∈ y.cps.toList := by rw [← Array.getElem?_toList] at hc; exact List.mem_of_getElem? hc
        have hx : Ext h₀ s₅.heap := fun b o' e => hk₅ b o' (by rw [List.mem_singleton]; exact Nat.ne_of_lt (Nat.lt_trans (Heap.lt_size e) hLn₃)) (F₄.keep b o' e)
        have hc6 : c ∈ [64259, 64257, 223, 70, 73, 383] := by
          have h7 := hyl c hcy
          have hne : c ≠ 173 := by
            rintro rfl
            have hh : (!inB1 173) = true := hpv
            exact absurd hh (by decide)
          simp only [List.mem_cons, List.not_mem_nil, or_false] at h7 ⊢
          omega
        refine @map_elt' w _ mg mb _ _ _ C L a cd _ c u _ _ (B.keeps hx) (T.keeps hx) hroom hn₅ hm₅ hc6 (fun h' tk t' hk' => ⟨⟨c, u, t', rfl, rfl⟩, h', tk, rfl, hk'⟩) ?_ ?_
        · rfl
        · rfl
    · intro D₂ h₅ tk₅ ys₂ vs₂ hD₂ hL₂ hPl₂ hlen₂ hvs₂ hF₂ hk₅
      obtain ⟨ls₂, hls₂, hmap₂⟩ := comp_strs (pz := fun c => !inB1 c) (fun _ _ => rfl) y.cps.toList vs₂ ys₂.toList (by rw [hlen₂, Array.length_toList]) (fun j v e => by
        obtain ⟨c, u, hc, rfl⟩ := hvs₂ j v e
        exact ⟨c, u, by rw [Array.getElem?_toList]; exact hc, rfl⟩) hF₂
      have hys₂ : ys₂ = (strValues ls₂).toArray := by rw [← hls₂]
      subst hys₂
      have hle3 : ∀ c ∈ y.cps.toList, (mapB3 c).length ≤ 3 := fun c hc => by
        have h7 := hyl c hc
        simp only [List.mem_cons, List.not_mem_nil, or_false] at h7
        rcases h7 with rfl | rfl | rfl | rfl | rfl | rfl | rfl <;> decide +kernel
      have hwt₂ : ((ls₂.map (·.1)).map (·.length)).sum + (ls₂.map (·.1)).length ≤ 3 * 200 + 200 := by
        have e2 : (ls₂.map (·.1)).length ≤ 200 := by
          rw [hmap₂, List.length_map]
          exact Nat.le_trans (List.length_filter_le _ _) (by rw [Array.length_toList]; exact hyn)
        have e3 : ∀ l : List Str, (∀ x ∈ l, x.length ≤ 3) → (l.map (·.length)).sum ≤ 3 * l.length := by
          intro l
          induction l with
          | nil => intro _; simp
          | cons x r ih =>
            intro hl
            have h1 := hl x (.head _)
            have h2 := ih fun x hx => hl x (.tail _ hx)
            simp only [List.map_cons, List.sum_cons, List.length_cons]
            omega
        have e4 := e3 (ls₂.map (·.1)) (by
          rw [hmap₂]
          intro x hx
          obtain ⟨c, hc, rfl⟩ := List.mem_map.mp hx
          exact hle3 c (List.mem_filter.mp hc).1)
        omega
      refine ⟨D₂, ls₂, rfl, hL₂, joinOk_of_weight (by omega) (by decide), fun t₆ k₆ => ?_⟩
      refine h h₅ k₆ _ t₆ ?_ fun b o' e => hk₅ b o' (by rw [List.mem_singleton]; exact Nat.ne_of_lt (Nat.lt_trans (Heap.lt_size e) hLn₃)) (F₄.keep b o' e)
      rw [join_flat, hmap₂, List.flatMap_map, ← hsp]
      rfl
end Mine

namespace Mine
open PySem PySem.W PySem.Calls PyProof.Rows

noncomputable def plS : Nat → Str
  | 0 => "ffi"
  | 1 => "fi"
  | _ => "ss"
noncomputable def sgS : Nat → Str
  | 0 => "\ufb03"
  | 1 => "\ufb01"
  | _ => "\u00df"
noncomputable def wd (x : Str) : Nat → Str
  | 0 => x
  | j + 1 => Txt.replace (wd x j) (plS j) (sgS j)
noncomputable def readW (x : Str) : List Nat := mapL (spellL (wd x 3).cps.toList)
noncomputable def wordOk (x : Str) : Bool := (List.range 4).all (fun j => decide ((wd x j).length ≤ 100)) && (wd x 3).cps.toList.all (fun c => [64259, 64257, 223, 102, 105, 115].contains c)

theorem read_call {w : World} {A : Around} {mg mb : Str → Option Value} {s : Shared} {E : Value → Shared → Prop} {Q : Value → Shared → Prop} {f : Addr} {x : Str} {t : Tok}
    (B : Base mg mb s.heap) (T : Tabs w mg s.heap) (hf : FnIs s.heap 14 f) (hA : A.handled = none) (hroom : A.depth + 1 < recursionLimit) (hx : wordOk x = true)
    (h : ∀ h' tk y u, y.cps.toList = readW x → Ext s.heap h' → Q (.str y u) { s with heap := h', toks := tk }) :
    wpAny (model pw w) A (call (.ref f) [.str x t]) Q E s := by
  obtain ⟨o, pm, cd, doc, ho, hd, hcd⟩ := hf
  refine wpAny_call (call_plain_ret (binds := [(("word" : Str), .str x t)]) (by omega) ho hd B.nolimit hcd rfl (by intro y hy; obtain rfl := List.mem_singleton.mp hy; rfl) (fun h₁ F => ?_) rfl rfl rfl (show ∀ x ∈ (fnScope (topS 14)).names, x.2 ≠ .cell by decide +kernel))
  have hA' : (A.deeper (envOf (fnName (topS 14)) (fnScope (topS 14)) s.heap.objs.size f cd)).handled = none := hA
  have hr' : (A.deeper (envOf (fnName (topS 14)) (fnScope (topS 14)) s.heap.objs.size f cd)).depth < recursionLimit := hroom
  refine @wpAny_execs_cons _ _ _ _ _ _ _ _ ?_
  refine @wpAny_For _ _ _ _ _ _ _ _ _ _ _ ?_ (fun _ => rfl)
  refine @List_ _ _ _ _ _ _ _ _ ?_
  refine @args_cons _ _ _ _ _ _ _ _ _ ?_ rfl
  refine @Tuple_ _ _ _ _ _ _ _ _ _ ?_
  refine @args_cons _ _ _ _ _ _ _ _ _ ?_ rfl
  refine wpAny_Constant_str ?_
  refine @args_cons _ _ _ _ _ _ _ _ _ ?_ rfl
  refine wpAny_Constant_str (args_nil ?_)
  refine @newTuple_N _ _ _ _ _ _ _ _ _ _ F .nil (fun h₂ F₂ N₂ => ?_) (Nat.le_of_ble_eq_true rfl)
  refine @args_cons _ _ _ _ _ _ _ _ _ ?_ rfl
  refine @Tuple_ _ _ _ _ _ _ _ _ _ ?_
  refine @args_cons _ _ _ _ _ _ _ _ _ ?_ rfl
  refine wpAny_Constant_str ?_
  refine @args_cons _ _ _ _ _ _ _ _ _ ?_ rfl
  refine wpAny_Constant_str (args_nil ?_)
  refine @newTuple_N _ _ _ _ _ _ _ _ _ _ F₂ N₂ (fun h₃ F₃ N₃ => ?_) (Nat.le_of_ble_eq_true rfl)
  refine @args_cons _ _ _ _ _ _ _ _ _ ?_ rfl
  refine @Tuple_ _ _ _ _ _ _ _ _ _ ?_
  refine @args_cons _ _ _ _ _ _ _ _ _ ?_ rfl
  refine wpAny_Constant_str ?_
  refine @args_cons _ _ _ _ _ _ _ _ _ ?_ rfl
  refine wpAny_Constant_str (args_nil ?_)
  refine @newTuple_N _ _ _ _ _ _ _ _ _ _ F₃ N₃ (fun h₄ F₄ N₄ => ?_) (Nat.le_of_ble_eq_true rfl)
  refine args_nil ?_
  refine @newList_N _ _ _ _ _ _ _ _ _ _ F₄ N₄ (fun h₅ F₅ N₅ => ?_) (Nat.le_of_ble_eq_true rfl)
  dsimp only at N₂ N₃ N₄ N₅ ⊢
  obtain ⟨T0, hT0⟩ : ∃ T, h₁.objs.size = T := ⟨_, rfl⟩
  obtain ⟨T1, hT1⟩ : ∃ T, h₂.objs.size = T := ⟨_, rfl⟩
  obtain ⟨T2, hT2⟩ : ∃ T, h₃.objs.size = T := ⟨_, rfl⟩
  obtain ⟨l, hl⟩ : ∃ T, h₄.objs.size = T := ⟨_, rfl⟩
  rw [hT0, hT1, hT2, hl] at N₅
  simp only [hl]
  have hLl : h₅.IsList l #[.ref T0, .ref T1, .ref T2] := ⟨_, N₅.get (.head _), rfl, _, rfl⟩
  obtain ⟨k0, hk0⟩ : ∃ k, s.toks + [(("word" : Str), Value.str x t)].length = k := ⟨_, rfl⟩
  have hk0' : 0 < k0 := by rw [← hk0]; simp
  simp only [hk0] at N₅ ⊢
  have ht : ∀ j, j < 3 → ∃ Tj, (#[.ref T0, .ref T1, .ref T2] : Array Value)[j]? = some (.ref Tj) ∧ (∃ u v, h₅.IsTuple Tj #[.str (plS j) u, .str (sgS j) v] ∧ u ≠ 0 ∧ v ≠ 0 ∧ u ≠ v) ∧ s.heap.objs.size ≠ Tj := by
    intro j hj
    rcases j with _ | _ | _ | j
    · exact ⟨T0, rfl, ⟨k0, k0 + 1, ⟨_, N₅.get (.tail _ (.tail _ (.tail _ (.head _)))), rfl, _, rfl⟩, Nat.ne_of_gt (by omega), Nat.ne_of_gt (by omega), Nat.ne_of_lt (by omega)⟩, Ne.symm (N₅ _ (.tail _ (.tail _ (.tail _ (.head _))))).2.1⟩
    · exact ⟨T1, rfl, ⟨k0 + 1 + 1, k0 + 1 + 1 + 1, ⟨_, N₅.get (.tail _ (.tail _ (.head _))), rfl, _, rfl⟩, Nat.ne_of_gt (by omega), Nat.ne_of_gt (by omega), Nat.ne_of_lt (by omega)⟩, Ne.symm (N₅ _ (.tail _ (.tail _ (.head _)))).2.1⟩
    · exact ⟨T2, rfl, ⟨k0 + 1 + 1 + 1 + 1, k0 + 1 + 1 + 1 + 1 + 1, ⟨_, N₅.get (.tail _ (.head _)), rfl, _, rfl⟩, Nat.ne_of_gt (by omega), Nat.ne_of_gt (by omega), Nat.ne_of_lt (by omega)⟩, Ne.symm (N₅ _ (.tail _ (.head _))).2.1⟩
    · omega
  refine wpAny_pyIter_list hLl ?_
  dsimp only
  obtain ⟨it, hit⟩ : ∃ T, h₅.objs.size = T := ⟨_, rfl⟩
  have hLit : @LT.lt Nat _ s.heap.objs.size h₅.objs.size := F₅.ns.lt
  have hlit : @LT.lt Nat _ l h₅.objs.size := Heap.lt_size (N₅.get (.head _))
  have hLne : s.heap.objs.size ≠ l := Ne.symm (N₅ _ (.head _)).2.1
  have hlens : ∀ j, j < 4 → (wd x j).length ≤ 100 := by
    intro j hj
    simp only [wordOk, Bool.and_eq_true, List.all_eq_true, List.mem_range, decide_eq_true_eq] at hx
    exact hx.1 j hj
  have hz : ∀ c ∈ (wd x 3).cps.toList, c ∈ [64259, 64257, 223, 102, 105, 115] := by
    intro c hc
    simp only [wordOk, Bool.and_eq_true, List.all_eq_true] at hx
    exact List.contains_iff_mem.mp (hx.2 c hc)
  refine codeAny_forLoop_any (fun k s' => ∃ h' tk m j tw, s' = ⟨h', s.gens, s.drawn, tk, s.os⟩ ∧ k = 4 - j ∧ j ≤ 3 ∧ Fr s.heap s.heap.objs.size h' m ∧ h'.IsListIter h₅.objs.size l j ∧ (∀ b o, b ≠ s.heap.objs.size → b < h₅.objs.size → h₅.get? b = some o → h'.get? b = some o) ∧ m "word" = some (.str (wd x j) tw)) ?_ 4
    ⟨_, _, _, 0, _, rfl, rfl, by omega, F₅.push _, ⟨_, Heap.get?_push_size _ rfl, rfl, rfl⟩, fun b o _ _ e => Heap.get?_push_of_some _ e, rfl⟩
  rintro k s' ⟨h', tk, m, j, tw, rfl, rfl, hj, F', hi', hk', hm'⟩
  have hL' : h'.IsList l #[.ref T0, .ref T1, .ref T2] := let ⟨o, ho, r⟩ := hLl; ⟨o, hk' _ _ (Ne.symm hLne) hlit ho, r⟩
  by_cases hj3 : j < 3
  · obtain ⟨Tj, hTj, ⟨u, v, hTup, hu, hv, huv⟩, hTL⟩ := ht j hj3
    refine wpAny_pyNext_list_item hi' hL' hTj fun h₆ hi₆ hs₆ => ?_
    dsimp only at hi₆ hs₆
    refine wpAny_letOwnedTupleGo_listiter hi₆ ?_
    have F₆ : Fr s.heap s.heap.objs.size h₆ m := frBut F' hs₆ (Nat.le_of_lt hLit) (Nat.ne_of_lt hLit)
    obtain ⟨oT, hoT, rT⟩ := hTup
    have hTl : @LT.lt Nat _ Tj h₅.objs.size := Heap.lt_size hoT
    refine wpAny_assign_Tuple hA' (t := Tj) ⟨oT, hs₆.extBut _ _ (Nat.ne_of_lt hTl) (hk' _ _ (Ne.symm hTL) hTl hoT), rT⟩ rfl rfl fun h₇ hx₇ => ?_
    have hk₇ : Ext h₆ h₇ := fun b o e => hx₇ b o (Nat.ne_of_lt (Heap.lt_size e)) e
    have F₇ := frExt F₆ hk₇
    show wpAny _ _ (do holding [.str (sgS j) v] (assign (.Name "plain" _) (envOf (fnName (topS 14)) (fnScope (topS 14)) s.heap.objs.size f cd) (.str (plS j) u)); do holding [] (assign (.Name "sign" _) (envOf (fnName (topS 14)) (fnScope (topS 14)) s.heap.objs.size f cd) (.str (sgS j) v)); pure ()) _ _ _
    refine wpAny_bind (wpAny_holding (wpAny_assign_Name (wpAny_storeName_local rfl F₇.ns (fun h₈ hn₈ hs₈ => ?_) rfl)))
    have F₈ := F₇.set hn₈ hs₈
    refine wpAny_bind (wpAny_holding (wpAny_assign_Name (wpAny_storeName_local rfl F₈.ns (fun h₉ hn₉ hs₉ => wpAny_pure ?_) rfl)))
    have F₉ := F₈.set hn₉ hs₉
    refine wpAny_execs_cons (wpAny_Assign_Name ?_)
    refine Call_method2 (prog := pw) (w := w) ?_ ?_ ?_ ?_
    · rfl
    · rfl
    · rfl
    refine PyProof.Rows.ld F₉ (v := .str (wd x j) tw) hm' ⟨"str", _, PySem.F.plainAttrs_str, PySem.F.slot_str_replace, PySem.F.type_str_replace, typeIs_str _ _ _, (fun _ e => nomatch e), ?_⟩
    refine Calls.callWith_builtin rfl (Calls.evalArgs_plain (Calls.spliced_cons (PyProof.Rows.ld F₉ (v := .str (plS j) u) rfl (Calls.spliced_cons (PyProof.Rows.ld F₉ (v := .str (sgS j) v) rfl (Calls.spliced_nil ?_))))))
    have hne : (plS j == sgS j) = false := by
      rcases j with _ | _ | _ | j
      · decide +kernel
      · decide +kernel
      · decide +kernel
      · omega
    have hsl : (sgS j).length ≤ 14 := by
      rcases j with _ | _ | _ | j
      · decide +kernel
      · decide +kernel
      · decide +kernel
      · omega
    refine SC.replaceW hu hv huv hne (by have := hlens j (by omega); omega) hsl fun t' k => ?_
    refine wpAny_storeName_local rfl F₉.ns (fun h₁₀ hn₁₀ hs₁₀ => ?_) rfl
    have F₁₀ := F₉.set hn₁₀ hs₁₀
    have hk₁₀ : ∀ b o, b ≠ s.heap.objs.size → h₆.get? b = some o → h₁₀.get? b = some o := fun b o hb e => hs₁₀.extBut b o hb (hs₉.extBut b o hb (hs₈.extBut b o hb (hk₇ b o e)))
    obtain ⟨oi, hoi, ri⟩ := hi₆
    refine wpAny_execs_nil ⟨4 - (j + 1), by omega, h₁₀, _, _, j + 1, t', rfl, rfl, by omega, F₁₀, ⟨oi, hk₁₀ _ _ (Nat.ne_of_gt hLit) hoi, ri⟩, fun b o hb hbi e => hk₁₀ b o hb (hs₆.extBut b o (Nat.ne_of_lt hbi) (hk' b o hb hbi e)), rfl⟩
  · obtain rfl : j = 3 := by omega
    refine wpAny_pyNext_list_end hA' hi' hL' rfl fun h₆ he₆ => wpAny_execs_nil ?_
    refine read_rest (s := ⟨h₆, s.gens, s.drawn, tk, s.os⟩) B T hA' hr' ⟨F'.ns.at' fun o e => he₆ _ o (Nat.ne_of_lt hLit) e, fun b o e => he₆ b o (Nat.ne_of_lt (Nat.lt_trans (Heap.lt_size e) hLit)) (F'.keep b o e), F'.above⟩ hm' hz (hlens 3 (by omega)) _ fun h' tk y u hy hk => h h' tk y u hy hk
end Mine

namespace Mine
open PySem PySem.W PySem.Calls PyProof.Rows

noncomputable def TurnEnd (h₀ : Heap) (L : Addr) (n0 : Nat) (s₁ : Shared) (J' : Heap → (Str → Option Value) → Prop) (Q : Flow → Shared → Prop) (f : Flow) (s₂ : Shared) : Prop := match f with
  | .next | .cont => ∃ h₂ gs tk m₂, s₂ = ⟨h₂, gs, s₁.drawn, tk, s₁.os⟩ ∧ AllBare gs ∧ Fr h₀ L h₂ m₂ ∧ Above n0 s₁.heap h₂ ∧ J' h₂ m₂
  | .brk => False
  | .ret v => Q (.ret v) s₂

section
variable {w : World} {A : Around} {s : Shared} {h₀ : Heap} {name : Str} {scope : Scope} {L a : Addr} {cd : Value} {m : Str → Option Value} {body : List Stmt} {Q : Flow → Shared → Prop} {R : Result → Shared → Prop} {n0 : Nat}

theorem for_walk {x : Str} {p : Pos} {I : Addr} {fp wr : List Addr} {n : Nat} {P : Nat → Value → Prop} {St : Nat → Heap → Prop}
    (W : Walks pw w A I fp wr n P St) (hst : St 0 s.heap) (hwr : ∀ b ∈ wr, n0 ≤ b) (hfp : ∀ b ∈ fp, n0 ≤ b ∨ ∃ o, h₀.get? b = some o) (F : Fr h₀ L s.heap m) (hL : L < n0) (hbare : AllBare s.gens)
    (J : Nat → Heap → (Str → Option Value) → Prop) (h0 : J 0 s.heap m)
    (hlive : ∀ i h, St i h → ∀ b ∈ wr, ∃ o, h.get? b = some o)
    (hJ : ∀ j h h' m, (∀ b o, b ∉ wr → b ≠ L → h.get? b = some o → h'.get? b = some o) → J j h m → J j h' m)
    (turn : ∀ j v m₁ s₁, j < n → P j v → J j s₁.heap m₁ → Fr h₀ L s₁.heap (fun y => if y = x then some v else m₁ y) → AllBare s₁.gens → (∀ b ∈ wr, ∃ o, s₁.heap.get? b = some o) → s₁.drawn = s.drawn → s₁.os = s.os →
      wpAny (model pw w) A (execs body (envOf name scope L a cd)) (TurnEnd h₀ L n0 s₁ (J (j + 1)) Q) (fun _ _ => False) s₁)
    (fin : ∀ h' gs tk m', J n h' m' → Fr h₀ L h' m' → AllBare gs → Q .next ⟨h', gs, s.drawn, tk, s.os⟩)
    (hR : ∀ f s', Q f s' → R (.ok f) s') (hk : scope.kind = .function) (hx : (envOf name scope L a cd).kindOf x = some .local) (hno : ∀ v, letOwnedTupleGo (.Name x p) (.ref I) v = pure () := by intro _; rfl) :
    codeAny (model pw w) A (.forLoop (.Name x p) (.ref I) body [] (envOf name scope L a cd)) R s := by
  have hp : ((envOf name scope L a cd).scope.kind == .class || ((envOf name scope L a cd).scope.kind == .module && (envOf name scope L a cd).locals != (envOf name scope L a cd).globals)) = false := by
    show (scope.kind == .class || (scope.kind == .module && L != mainGlobals)) = false; rw [hk]; rfl
  have h0n : h₀.objs.size ≤ n0 := Nat.le_trans F.above (Nat.le_of_lt hL)
  have keep0 : ∀ h' h'' : Heap, ∀ m', (∀ b o, b < n0 → h'.get? b = some o → h''.get? b = some o) → Fr h₀ L h' m' → Fr h₀ L h'' m' := fun h' h'' m' hk F' =>
    ⟨F'.ns.at' fun o e => hk _ o hL e, fun b o e => hk b o (Nat.lt_of_lt_of_le (Heap.lt_size e) h0n) (F'.keep b o e), F'.above⟩
  refine codeAny_forLoop_any (fun k s' => ∃ h' gs tk m' j, s' = ⟨h', gs, s.drawn, tk, s.os⟩ ∧ k = n + 1 - j ∧ j ≤ n ∧ Fr h₀ L h' m' ∧ J j h' m' ∧ AllBare gs ∧ St j h') ?_
    (n + 1) ⟨s.heap, s.gens, s.toks, m, 0, rfl, rfl, Nat.zero_le _, F, h0, hbare, hst⟩
  rintro k' s' ⟨h', gs', tk', m', j, rfl, rfl, hj, F', hJ', hb', hst'⟩
  by_cases hlt : j < n
  · refine W.item j _ _ _ hlt hst' fun v h₁ tk₁ hP hst₁ hk₁ => ?_
    have hk0 : ∀ b o, b < n0 → h'.get? b = some o → h₁.get? b = some o := fun b o hb e => hk₁ b o (fun hw => Nat.not_lt.mpr (hwr b hw) hb) e
    have F₁ := keep0 _ _ _ hk0 F'
    refine wpAny_of_eq (hno v) ?_
    refine wpAny_assign_Name (wpAny_storeName_local hx F₁.ns (fun h₂ hn₂ hs₂ => ?_) hp)
    have F₂ := F₁.set hn₂ hs₂
    refine wpAny_mono (turn j v m' ⟨h₂, gs', s.drawn, _, s.os⟩ hlt hP (hJ _ _ _ _ (fun b o _ hb e => hs₂.extBut b o hb e) (hJ _ _ _ _ (fun b o hb _ e => hk₁ b o hb e) hJ')) F₂ hb' (fun b hb => let ⟨o, ho⟩ := hlive _ _ hst₁ b hb; ⟨o, hs₂.extBut b o (Nat.ne_of_gt (Nat.lt_of_lt_of_le hL (hwr b hb))) ho⟩) rfl rfl) (fun f s₂ h₂' => ?_) fun _ _ e => e.elim
    have cont : (∃ h₃ gs tk m₂, s₂ = ⟨h₃, gs, s.drawn, tk, s.os⟩ ∧ AllBare gs ∧ Fr h₀ L h₃ m₂ ∧ Above n0 h₂ h₃ ∧ J (j + 1) h₃ m₂) → ∃ m, m < n + 1 - j ∧ (∃ h' gs tk m' j, s₂ = ⟨h', gs, s.drawn, tk, s.os⟩ ∧ m = n + 1 - j ∧ j ≤ n ∧ Fr h₀ L h' m' ∧ J j h' m' ∧ AllBare gs ∧ St j h') := by
      rintro ⟨h₃, gs₃, tk₃, m₃, rfl, hb₃, F₃, ha, hJ₃⟩
      refine ⟨n + 1 - (j + 1), by omega, h₃, gs₃, tk₃, m₃, j + 1, rfl, rfl, hlt, F₃, hJ₃, hb₃, W.frame _ _ _ hst₁ fun b hb o e => ?_⟩
      rcases hfp b hb with hb | ⟨o₀, hb⟩
      · exact ha b o hb (hs₂.extBut b o (Nat.ne_of_gt (Nat.lt_of_lt_of_le hL hb)) e)
      · have e1 := F₁.keep b o₀ hb
        rw [e] at e1
        rw [Option.some.inj e1]
        exact F₃.keep b o₀ hb
    cases f with
    | next => exact cont h₂'
    | cont => exact cont h₂'
    | brk => exact h₂'.elim
    | ret v => exact hR _ _ h₂'
  · obtain rfl : j = n := by omega
    refine W.done _ _ _ hst' fun h₁ tk₁ hk₁ => wpAny_execs_nil (hR _ _ ?_)
    have hk0 : ∀ b o, b < n0 → h'.get? b = some o → h₁.get? b = some o := fun b o hb e => hk₁ b o (fun hw => Nat.not_lt.mpr (hwr b hw) hb) e
    exact fin h₁ gs' tk₁ m' (hJ _ _ _ _ (fun b o hb _ e => hk₁ b o hb e) hJ') (keep0 _ _ _ hk0 F') hb'

theorem for_enum {xa xb : Str} {pa pb pt : Pos} {kt : Nat} {e it : Addr} {fp : List Addr} {n : Nat} {P : Nat → Value → Prop} {St : Nat → Heap → Prop}
    (hA : A.handled = none) (D : Draws pw w A.in1 it fp n P St) (hst : St 0 s.heap) (he : IsEnum s.heap e it 0 .none) (hei : e ≠ it) (hef : e ∉ fp) (hen : n0 ≤ e) (hin : n0 ≤ it) (hfp : ∀ b ∈ fp, n0 ≤ b ∨ ∃ o, h₀.get? b = some o)
    (F : Fr h₀ L s.heap m) (hL : L < n0) (hbare : AllBare s.gens)
    (J : Nat → Heap → (Str → Option Value) → Prop) (h0 : J 0 s.heap m)
    (hJ : ∀ j h h' m, (∀ b o, b < n0 → b ≠ L → h.get? b = some o → h'.get? b = some o) → J j h m → J j h' m)
    (turn : ∀ j v t m₁ s₁, j < n → P j v → J j s₁.heap m₁ → Fr h₀ L s₁.heap (fun y => if y = xb then some v else if y = xa then some (.int (j : Nat) t) else m₁ y) → AllBare s₁.gens → s₁.drawn = s.drawn → s₁.os = s.os →
      wpAny (model pw w) A (execs body (envOf name scope L a cd)) (TurnEnd h₀ L n0 s₁ (J (j + 1)) Q) (fun _ _ => False) s₁)
    (fin : ∀ h' gs tk m', J n h' m' → Fr h₀ L h' m' → AllBare gs → Q .next ⟨h', gs, s.drawn, tk, s.os⟩)
    (hR : ∀ f s', Q f s' → R (.ok f) s') (hk : scope.kind = .function) (hxa : (envOf name scope L a cd).kindOf xa = some .local) (hxb : (envOf name scope L a cd).kindOf xb = some .local) :
    codeAny (model pw w) A (.forLoop (.Tuple [.Name xa pa, .Name xb pb] kt pt) (.ref e) body [] (envOf name scope L a cd)) R s := by
  have hp : ((envOf name scope L a cd).scope.kind == .class || ((envOf name scope L a cd).scope.kind == .module && (envOf name scope L a cd).locals != (envOf name scope L a cd).globals)) = false := by
    show (scope.kind == .class || (scope.kind == .module && L != mainGlobals)) = false; rw [hk]; rfl
  have h0n : h₀.objs.size ≤ n0 := Nat.le_trans F.above (Nat.le_of_lt hL)
  have keep0 : ∀ h' h'' : Heap, ∀ m', (∀ b o, b < n0 → h'.get? b = some o → h''.get? b = some o) → Fr h₀ L h' m' → Fr h₀ L h'' m' := fun h' h'' m' hk F' =>
    ⟨F'.ns.at' fun o e => hk _ o hL e, fun b o e => hk b o (Nat.lt_of_lt_of_le (Heap.lt_size e) h0n) (F'.keep b o e), F'.above⟩
  have hne : ∀ b : Nat, b < n0 → b ≠ e ∧ b ≠ it := fun b hb => ⟨Nat.ne_of_lt (Nat.lt_of_lt_of_le hb hen), Nat.ne_of_lt (Nat.lt_of_lt_of_le hb hin)⟩
  refine codeAny_forLoop_any (fun k s' => ∃ h' gs tk m' j old, s' = ⟨h', gs, s.drawn, tk, s.os⟩ ∧ k = n + 1 - j ∧ j ≤ n ∧ Fr h₀ L h' m' ∧ J j h' m' ∧ AllBare gs ∧ St j h' ∧ IsEnum h' e it (j : Nat) old) ?_
    (n + 1) ⟨s.heap, s.gens, s.toks, m, 0, _, rfl, rfl, Nat.zero_le _, F, h0, hbare, hst, he⟩
  rintro k' s' ⟨h', gs', tk', m', j, old, rfl, rfl, hj, F', hJ', hb', hst', he'⟩
  have hel : @LT.lt Nat _ e h'.objs.size := Heap.lt_size he'
  by_cases hlt : j < n
  · refine wpAny_pyNext_enum_itemD D he' hst' hlt hei hef fun v h₁ tk₁ hP heo hst₁ hT hsz hk₁ => ?_
    dsimp only at heo hT hsz hk₁
    refine wpAny_letOwnedTupleGo_enum heo fun h₂ he₂ hs₂ => ?_
    dsimp only at hs₂
    have hst₂ : St (j + 1) h₂ := D.frame _ _ _ hst₁ fun b hb o x => hs₂.extBut b o (fun q => hef (q ▸ hb)) x
    have hk₂ : ∀ b o, b < n0 → h'.get? b = some o → h₂.get? b = some o := fun b o hb x => hs₂.extBut b o (hne b hb).1 (hk₁ b o (hne b hb).1 (hne b hb).2 x)
    have ht₂ : h₂.IsTuple h'.objs.size #[.int (j : Nat) tk₁, v] := ⟨_, (hs₂.2 _ (Nat.ne_of_gt hel)).trans hT, rfl, _, rfl⟩
    refine wpAny_assign_Tuple hA ht₂ rfl rfl fun h₃ hx₃ => ?_
    have hk₃ : Ext h₂ h₃ := fun b o x => hx₃ b o (Nat.ne_of_lt (Heap.lt_size x)) x
    have F₃ := keep0 _ _ _ (fun b o hb x => hk₃ b o (hk₂ b o hb x)) F'
    show wpAny _ A (do holding [v] (assign (.Name xa pa) (envOf name scope L a cd) (.int (j : Nat) tk₁)); do holding [] (assign (.Name xb pb) (envOf name scope L a cd) v); pure ()) _ _ _
    refine wpAny_bind (wpAny_holding (wpAny_assign_Name (wpAny_storeName_local hxa F₃.ns (fun h₄ hn₄ hs₄ => ?_) hp)))
    have F₄ := F₃.set hn₄ hs₄
    refine wpAny_bind (wpAny_holding (wpAny_assign_Name (wpAny_storeName_local hxb F₄.ns (fun h₅ hn₅ hs₅ => wpAny_pure ?_) hp)))
    have F₅ := F₄.set hn₅ hs₅
    have hk₅ : ∀ b o, b ≠ L → h₂.get? b = some o → h₅.get? b = some o := fun b o hb x => hs₅.extBut b o hb (hs₄.extBut b o hb (hk₃ b o x))
    refine wpAny_mono (turn j v tk₁ m' ⟨h₅, gs', s.drawn, _, s.os⟩ hlt hP (hJ _ _ _ _ (fun b o hb hbL x => hk₅ b o hbL (hk₂ b o hb x)) hJ') F₅ hb' rfl rfl) (fun f s₂ h₂' => ?_) fun _ _ x => x.elim
    have cont : (∃ h₃ gs tk m₂, s₂ = ⟨h₃, gs, s.drawn, tk, s.os⟩ ∧ AllBare gs ∧ Fr h₀ L h₃ m₂ ∧ Above n0 h₅ h₃ ∧ J (j + 1) h₃ m₂) → ∃ m, m < n + 1 - j ∧ (∃ h' gs tk m' j old, s₂ = ⟨h', gs, s.drawn, tk, s.os⟩ ∧ m = n + 1 - j ∧ j ≤ n ∧ Fr h₀ L h' m' ∧ J j h' m' ∧ AllBare gs ∧ St j h' ∧ IsEnum h' e it (j : Nat) old) := by
      rintro ⟨h₆, gs₆, tk₆, m₆, rfl, hb₆, F₆, ha, hJ₆⟩
      refine ⟨n + 1 - (j + 1), by omega, h₆, gs₆, tk₆, m₆, j + 1, v, rfl, rfl, hlt, F₆, hJ₆, hb₆, D.frame _ _ _ hst₂ fun b hb o x => ?_,
        ha _ _ hen (hk₅ _ _ (Nat.ne_of_gt (Nat.lt_of_lt_of_le hL hen)) he₂)⟩
      rcases hfp b hb with hb | ⟨o₀, hb⟩
      · exact ha b o hb (hk₅ b o (Nat.ne_of_gt (Nat.lt_of_lt_of_le hL hb)) x)
      · have e1 := (keep0 _ _ _ hk₂ F').keep b o₀ hb
        rw [x] at e1
        rw [Option.some.inj e1]
        exact F₆.keep b o₀ hb
    cases f with
    | next => exact cont h₂'
    | cont => exact cont h₂'
    | brk => exact h₂'.elim
    | ret v => exact hR _ _ h₂'
  · obtain rfl : j = n := by omega
    refine wpAny_pyNext_enum_endD D he' hst' fun h₁ hx₁ => wpAny_execs_nil (hR _ _ ?_)
    have hk0 : ∀ b o, b < n0 → h'.get? b = some o → h₁.get? b = some o := fun b o hb x => hx₁ b o (hne b hb).2 x
    exact fin h₁ gs' tk' m' (hJ _ _ _ _ (fun b o hb _ x => hk0 b o hb x) hJ') (keep0 _ _ _ hk0 F') hb'
end
end Mine

namespace Mine
open PySem PySem.W PySem.Calls PyProof.Rows

noncomputable def tB : List Stmt := fnBody (topS 15)
noncomputable def codeFor : Stmt := nthS tB 1
noncomputable def codeBody : List Stmt := forBody codeFor
noncomputable def kFor : Stmt := nthS codeBody 2
noncomputable def kBody : List Stmt := forBody kFor
noncomputable def pFor : Stmt := nthS kBody 0
noncomputable def pBody : List Stmt := forBody pFor
noncomputable abbrev tEnv (L a : Addr) (cd : Value) : Env := envOf (fnName (topS 15)) (fnScope (topS 15)) L a cd

noncomputable def bit (code k : Nat) : Nat := code / 2 ^ k % 2
noncomputable def partS (n : Nat) : Str := ⟨(41 :: List.replicate n 40).toArray⟩
theorem bit_num : ∀ code < 16, ∀ k < 4, ((2 : Int) ^ ((k : Nat) : Int).toNat != 0) = true ∧ Builtin.divisionGoesByPylong ((code : Nat) : Int) ((2 : Int) ^ ((k : Nat) : Int).toNat) = false ∧
    (((code : Nat) : Int).fdiv ((2 : Int) ^ ((k : Nat) : Int).toNat)).fmod 2 = ((bit code k : Nat) : Int) := by decide +kernel

/-- code // 2 ** k % 2 -/
theorem bit_eval {w : World} {A : Around} {E : Value → Shared → Prop} {s : Shared} {h₀ : Heap} {L a : Addr} {cd : Value} {m : Str → Option Value} {code k : Nat} {t u : Tok} {Q : Value → Shared → Prop} {p1 p2 p3 p4 p5 p6 p7 : Pos} {k1 k2 : Nat}
    (F : Fr h₀ L s.heap m) (hc : m "code" = some (.int (code : Nat) t)) (hk : m "k" = some (.int (k : Nat) u)) (hcl : code < 16) (hkl : k < 4) (h : ∀ tk v, Q (.int (bit code k : Nat) v) { s with toks := tk }) :
    wpAny (model pw w) A (eval (.BinOp (.BinOp (.Name "code" p1) .FloorDiv (.BinOp (.Constant (.int 2) k1 p2) .Pow (.Name "k" p3) p4) p5) .Mod (.Constant (.int 2) k2 p6) p7) (tEnv L a cd)) Q E s := by
  obtain ⟨h1, h2, h3⟩ := bit_num code hcl k hkl
  have hne : ((2 : Int) ^ ((k : Nat) : Int).toNat) ≠ 0 := bne_iff_ne.mp h1
  refine wpAny_BinOp (wpAny_BinOp (PyProof.Rows.ld F hc (wpAny_BinOp (wpAny_Constant_int (PyProof.Rows.ld (s := ⟨s.heap, s.gens, s.drawn, s.toks + 1, s.os⟩) F hk ?_)))))
  have pw_ : ∀ (s' : Shared) (Q' : Value → Shared → Prop), Q' (.int ((2 : Int) ^ ((k : Nat) : Int).toNat) s'.toks) { s' with toks := s'.toks + 1 } → wpAny (model pw w) A (binaryOp .Pow (.int 2 s.toks) (.int (k : Nat) u)) Q' E s' := fun s' Q' hq => by
    rcases k with _ | k
    · exact AutoIntOps.pow_0 (by decide) rfl hq
    · refine AutoIntOps.pow_4 (Int.natCast_nonneg _) ?_ (by decide) (by decide) ?_ hq
      · simp; omega
      · have : k = 0 ∨ k = 1 ∨ k = 2 := by omega
        rcases this with rfl | rfl | rfl <;> decide +kernel
  refine pw_ _ _ (floordiv_int hne ?_ (Or.inl h2))
  refine wpAny_Constant_int (mod_int' (by decide) ?_)
  rw [h3]
  exact h _ _
end Mine

namespace Mine
open PySem PySem.W PySem.Calls PyProof.Rows

theorem foldl_plain : ∀ (p : List Nat) (o : List Nat), 34 ∉ p → p.foldl uStep (false, o) = (false, o ++ p) := fun p o h => unq_none p o h
theorem foldl_in : ∀ (p : List Nat) (o : List Nat), 34 ∉ p → p.foldl uStep (true, o) = (true, o)
  | [], _, _ => rfl
  | c :: r, o, h => by
    have hc : c ≠ 34 := fun e => h (e ▸ .head _)
    rw [List.foldl_cons, show uStep (true, o) c = (true, o) by simp [uStep, hc]]
    exact foldl_in r o fun e => h (.tail _ e)
theorem unq_add {t p o : List Nat} (h : unq t = (false, o)) (hp : 34 ∉ p) : unq (t ++ p) = (false, o ++ p) := by
  unfold unq at h ⊢
  rw [List.foldl_append, h, foldl_plain p o hp]
theorem unq_quoted {t p o : List Nat} (h : unq t = (false, o)) (hp : 34 ∉ p) : unq (t ++ (34 :: p ++ [34])) = (false, o) := by
  unfold unq at h ⊢
  rw [List.foldl_append, h, List.cons_append, List.foldl_cons, List.foldl_append, show uStep (false, o) 34 = (true, o) by rfl, foldl_in p o hp]
  rfl

theorem partS_list (n : Nat) : (partS n).cps.toList = 41 :: List.replicate n 40 := by simp [partS]
theorem partS_no (n : Nat) : 34 ∉ (partS n).cps.toList := by
  rw [partS_list]
  intro h
  rcases List.mem_cons.mp h with h | h
  · cases h
  · cases (List.mem_replicate.mp h).2
theorem partS_len (n : Nat) : (partS n).length = n + 1 := by simp [partS, Str.length]
theorem partS_count : ∀ n < 3, Txt.count (partS n) "(" = ((n : Nat) : Int) := by decide +kernel

noncomputable def okC (l : List Nat) : Prop := ∀ c ∈ l, c = 34 ∨ c = 40 ∨ c = 41
theorem okC.plain {x : Str} (h : okC x.cps.toList) : plainX x := plainX_iff.mpr fun c hc => by rcases h c hc with rfl | rfl | rfl <;> decide
theorem okC_part (n : Nat) : okC (partS n).cps.toList := by
  rw [partS_list]
  intro c hc
  rcases List.mem_cons.mp hc with rfl | hc
  · exact .inr (.inr rfl)
  · exact .inr (.inl (List.mem_replicate.mp hc).2)

noncomputable def rowJ (ns : List Nat) (b j : Nat) : List Nat := match ns[b]? with
  | some n => if b < j then [n] else []
  | none => []
noncomputable def bareR (row : List Nat) : List Nat := row.flatMap fun n => 41 :: List.replicate n 40
theorem rowJ_zero (ns : List Nat) (b : Nat) : rowJ ns b 0 = [] := by unfold rowJ; split <;> simp
theorem rowJ_hit {ns : List Nat} {j n : Nat} (h : ns[j]? = some n) : rowJ ns j (j + 1) = [n] ∧ rowJ ns j j = [] := by
  unfold rowJ; rw [h]; simp
theorem rowJ_miss {ns : List Nat} {b j : Nat} (h : b ≠ j) : rowJ ns b (j + 1) = rowJ ns b j := by
  unfold rowJ
  split
  · by_cases h1 : b < j
    · rw [if_pos h1, if_pos (by omega)]
    · rw [if_neg h1, if_neg (by omega)]
  · rfl

/-- the list at l holds the texts of these parts -/
noncomputable def Parts (h : Heap) (l : Addr) (ns : List Nat) : Prop := ∃ ls : List (Str × Tok), h.IsList l (strValues ls).toArray ∧ ls.map (·.1) = ns.map partS
theorem Parts.at {h h' : Heap} {l : Addr} {ns : List Nat} (x : Parts h l ns) (hk : ∀ o, h.get? l = some o → h'.get? l = some o) : Parts h' l ns := by
  obtain ⟨ls, ⟨o, ho, r⟩, e⟩ := x
  exact ⟨ls, ⟨o, hk _ ho, r⟩, e⟩

/-- what the loops over letters and places have made: the row and the text -/
structure RT (h : Heap) (m : Str → Option Value) (Rr : Addr) (row pre : List Nat) (N : Nat) : Prop where
  ref : m "row" = some (.ref Rr)
  list : ∃ vs, PlainL h Rr vs.toArray ∧ IntsAre vs (row.map fun n => ((n : Nat) : Int))
  text : ∃ tx tt, m "text" = some (.str tx tt) ∧ okC tx.cps.toList ∧ unq tx.cps.toList = (false, pre ++ bareR row) ∧ tx.length ≤ N
  few : row.length ≤ 100

theorem pushInt {vs : List Value} {row : List Nat} {n : Nat} {t : Tok} (h : IntsAre vs (row.map fun n => ((n : Nat) : Int))) : IntsAre (vs ++ [.int ((n : Nat) : Int) t]) ((row ++ [n]).map fun n => ((n : Nat) : Int)) := by
  rw [List.map_append]
  exact h.append (.cons _ _ .nil)

theorem place_turn {w : World} {A : Around} {h₀ : Heap} {s : Shared} {L a : Addr} {cd : Value} {m : Str → Option Value} {Rr : Addr} {row0 pre ns : List Nat} {N code k j n : Nat} {t u v : Tok} {Q : Flow → Shared → Prop}
    (F : Fr h₀ L s.heap m) (X : RT s.heap m Rr (row0 ++ rowJ ns (bit code k) j) pre N) (hLR : L ≠ Rr) (h0R : h₀.objs.size ≤ Rr) (hN : N ≤ 90000) (hrl : row0.length ≤ 90)
    (hc : m "code" = some (.int (code : Nat) t)) (hk : m "k" = some (.int (k : Nat) u)) (hcl : code < 16) (hkl : k < 4) (hj : m "place" = some (.int (j : Nat) v)) (hp : ∃ t, m "part" = some (.str (partS n) t)) (hn : n < 3) (hns : ns[j]? = some n)
    (h : ∀ h₂ tk m₂, Fr h₀ L h₂ m₂ → (∀ b o, b ≠ L → b ≠ Rr → s.heap.get? b = some o → h₂.get? b = some o) → (∀ y : Str, y ≠ "text" → m₂ y = m y) → RT h₂ m₂ Rr (row0 ++ rowJ ns (bit code k) (j + 1)) pre (N + 10) → Q .next ⟨h₂, s.gens, s.drawn, tk, s.os⟩) :
    wpAny (model pw w) A (execs pBody (tEnv L a cd)) Q (fun _ _ => False) s := by
  obtain ⟨tp, hp⟩ := hp
  obtain ⟨vs, hvs, hints⟩ := X.list
  obtain ⟨tx, tt, htx, hokc, hunq, htl⟩ := X.text
  have hpl : (partS n).length ≤ 3 := by rw [partS_len]; omega
  refine @wpAny_execs_cons _ _ _ _ _ _ _ _ (wpAny_If ?_)
  refine wpAny_isTrue_Compare1 (PyProof.Rows.ld F hj (bit_eval F hc hk hcl hkl fun tk v' => P.eq_int (wpAny_truthy_bool ?_)))
  by_cases hb : j = bit code k
  · rw [show ((((j : Nat) : Int)) == ((bit code k : Nat) : Int)) = true by rw [beq_iff_eq, hb], if_pos rfl]
    rw [← hb] at hints hunq h
    obtain ⟨e1, e2⟩ := rowJ_hit hns
    rw [e2, List.append_nil] at hints hunq
    rw [e1] at h
    refine @wpAny_execs_cons _ _ _ _ _ _ _ _ (wpAny_Expr ?_)
    refine wpAny_Call_append (by rfl) (by rfl) (by rfl) (by rfl) ?_
    refine PyProof.Rows.ld (s := ⟨s.heap, s.gens, s.drawn, tk, s.os⟩) F X.ref ⟨Rr, _, rfl, hvs, ?_⟩
    refine Call_method1 (prog := pw) (w := w) ?_ ?_ ?_ ?_
    · rfl
    · rfl
    · rfl
    refine PyProof.Rows.ld (s := ⟨s.heap, s.gens, s.drawn, tk, s.os⟩) F hp (SB.count (wpAny_Constant_str ⟨_, _, rfl, ?_⟩))
    rw [partS_count n hn]
    have hlen : (vs.toArray).size ≤ 100 := by
      have e := hints
      have : vs.length = row0.length := by
        have := congrArg List.length hints.nums
        simpa using this
      rw [List.size_toArray]; omega
    refine list_append_plainL hvs (fun h₃ P₃ hs₃ => ?_) (by rw [sizeLine_eq]; omega)
    have F₃ : Fr h₀ L h₃ m := frBut F hs₃ h0R hLR
    refine @wpAny_execs_cons _ _ _ _ _ _ _ _ (wpAny_AugAssign_Name ?_)
    refine PyProof.Rows.ldn F₃ htx (PyProof.Rows.ld F₃ hp (SB.iadd (fun t' k' => ?_) (by rw [sizeLine_eq]; omega)))
    refine wpAny_storeName_local rfl F₃.ns (fun h₄ hn₄ hs₄ => ?_) rfl
    have F₄ := F₃.set hn₄ hs₄
    refine wpAny_execs_nil (wpAny_execs_nil (h h₄ _ _ F₄ (fun b o hbL hbR e => hs₄.extBut b o hbL (hs₃.extBut b o hbR e)) (fun y hy => if_neg hy) ⟨X.ref, ⟨vs ++ [.int (n : Nat) (tk + 1)], ?_, pushInt hints⟩, ⟨tx ++ partS n, t', rfl, ?_, ?_, ?_⟩, ?_⟩))
    · obtain ⟨oR, nR, hoR, rR⟩ := P₃
      refine ⟨oR, nR, hs₄.extBut _ _ (Ne.symm hLR) hoR, ?_⟩
      rw [← List.push_toArray]
      exact rR
    · intro c hcc
      have e : (tx ++ partS n).cps.toList = tx.cps.toList ++ (partS n).cps.toList := Array.toList_append
      rw [e] at hcc
      rcases List.mem_append.mp hcc with hh | hh
      · exact hokc c hh
      · exact okC_part n c hh
    · have e : (tx ++ partS n).cps.toList = tx.cps.toList ++ (partS n).cps.toList := Array.toList_append
      rw [e, unq_add hunq (partS_no n), partS_list]
      simp [bareR]
    · have e : (tx ++ partS n).length = tx.length + (partS n).length := Array.size_append
      omega
    · rw [List.length_append, List.length_singleton]; omega
  · rw [show ((((j : Nat) : Int)) == ((bit code k : Nat) : Int)) = false by rw [beq_eq_false_iff_ne]; omega, if_neg Bool.false_ne_true]
    rw [← rowJ_miss (fun e => hb e.symm)] at hints hunq
    refine @wpAny_execs_cons _ _ _ _ _ _ _ _ (wpAny_AugAssign_Name ?_)
    refine PyProof.Rows.ldn (s := ⟨s.heap, s.gens, s.drawn, tk, s.os⟩) F htx ?_
    refine wpAny_BinOp (wpAny_BinOp (wpAny_Constant_str (PyProof.Rows.ld (s := ⟨s.heap, s.gens, s.drawn, tk + 1, s.os⟩) F hp (SB.add (fun t₁ k₁ => ?_) ?_))))
    · refine wpAny_Constant_str (SB.add (fun t₂ k₂ => SB.iadd (fun t₃ k₃ => ?_) ?_) ?_)
      · refine wpAny_storeName_local rfl F.ns (fun h₄ hn₄ hs₄ => ?_) rfl
        have F₄ := F.set hn₄ hs₄
        have e : (tx ++ (("\"" : Str) ++ partS n ++ ("\"" : Str))).cps.toList = tx.cps.toList ++ (34 :: (partS n).cps.toList ++ [34]) := by
          show (tx.cps ++ (#[34] ++ (partS n).cps ++ #[34])).toList = _
          simp
        refine wpAny_execs_nil (wpAny_execs_nil (h h₄ _ _ F₄ (fun b o hbL hbR e => hs₄.extBut b o hbL e) (fun y hy => if_neg hy) ⟨X.ref, ⟨vs, ?_, hints⟩, ⟨_, t₃, rfl, ?_, ?_, ?_⟩, ?_⟩))
        · obtain ⟨oR, nR, hoR, rR⟩ := hvs
          exact ⟨oR, nR, hs₄.extBut _ _ (Ne.symm hLR) hoR, rR⟩
        · intro c hcc
          rw [e] at hcc
          rcases List.mem_append.mp hcc with hh | hh
          · exact hokc c hh
          · rcases List.mem_append.mp hh with hh | hh
            · rcases List.mem_cons.mp hh with rfl | hh
              · exact .inl rfl
              · exact okC_part n c hh
            · rw [List.mem_singleton.mp hh]; exact .inl rfl
        · rw [e]; exact unq_quoted hunq (partS_no n)
        · show (tx.cps ++ (#[34] ++ (partS n).cps ++ #[34])).size ≤ N + 10
          have h1 : tx.cps.size ≤ N := htl
          have h2 : (partS n).cps.size ≤ 3 := hpl
          simp only [Array.size_append]
          simp
          omega
        · rw [rowJ_miss (fun e => hb e.symm)]; exact X.few
      · rw [sizeLine_eq]
        show tx.length + (#[34] ++ (partS n).cps ++ #[34]).size ≤ _
        have h2 : (partS n).cps.size ≤ 3 := hpl
        simp only [Array.size_append]
        simp
        omega
      · rw [sizeLine_eq]
        show (#[34] ++ (partS n).cps).size + 1 ≤ _
        have h2 : (partS n).cps.size ≤ 3 := hpl
        simp only [Array.size_append]
        simp
        omega
    · rw [sizeLine_eq]
      show 1 + (partS n).length ≤ _
      omega
end Mine

namespace Mine
open PySem PySem.W PySem.Calls PyProof.Rows

noncomputable def Blk (w : World) (h : Heap) (bd : Addr) (cn : Nat → List Nat) : Prop :=
  ∃ f, h.MapOf (PySem.strKind pw w) bd f ∧ ∀ c ∈ [102, 105, 115], ∃ l, f ⟨#[c]⟩ = some (.ref l) ∧ Parts h l (cn c)
theorem Blk.keeps {w : World} {h h' : Heap} {bd : Addr} {cn : Nat → List Nat} (x : Blk w h bd cn) (hk : Ext h h') : Blk w h' bd cn := by
  obtain ⟨f, ⟨o, es, ep, ho, r⟩, hp⟩ := x
  exact ⟨f, ⟨o, es, ep, hk _ _ ho, r⟩, fun c hc => let ⟨l, h1, h2⟩ := hp c hc; ⟨l, h1, h2.at fun o e => hk _ o e⟩⟩

theorem RT.move {h h' : Heap} {m m' : Str → Option Value} {Rr : Addr} {row pre : List Nat} {N : Nat} (X : RT h m Rr row pre N) (hk : ∀ o, h.get? Rr = some o → h'.get? Rr = some o) (hr : m' "row" = m "row") (ht : m' "text" = m "text") : RT h' m' Rr row pre N := by
  obtain ⟨h1, ⟨vs, ⟨o, n, ho, r⟩, hi⟩, ⟨tx, tt, e, r2⟩, h4⟩ := X
  exact ⟨hr.trans h1, ⟨vs, ⟨o, n, hk o ho, r⟩, hi⟩, ⟨tx, tt, ht.trans e, r2⟩, h4⟩

theorem place_loop {w : World} {A : Around} {E : Value → Shared → Prop} {mg mb : Str → Option Value} {h₀ : Heap} {s : Shared} {L a : Addr} {cd : Value} {m : Str → Option Value} {Rr bd : Addr} {row0 pre : List Nat} {cn : Nat → List Nat} {N code k c : Nat} {t u tl : Tok} {Q : Flow → Shared → Prop}
    (B : Base mg mb h₀) (hA : A.handled = none) (K : Blk w h₀ bd cn) (hb : AllBare s.gens) (F : Fr h₀ L s.heap m) (X : RT s.heap m Rr row0 pre N) (hLR : L ≠ Rr) (h0R : h₀.objs.size ≤ Rr) (hN : N ≤ 80000) (hrl : row0.length ≤ 90)
    (hbd : m "blocks" = some (.ref bd)) (hle : m "letter" = some (.str ⟨#[c]⟩ tl)) (hcc : c ∈ [102, 105, 115])
    (hc : m "code" = some (.int (code : Nat) t)) (hk : m "k" = some (.int (k : Nat) u)) (hcl : code < 16) (hkl : k < 4) (hcn : (cn c).length ≤ 2 ∧ ∀ n ∈ cn c, n < 3)
    (h : ∀ h₂ gs tk m₂, AllBare gs → Fr h₀ L h₂ m₂ → (∀ b o, b ≠ L → b ≠ Rr → s.heap.get? b = some o → h₂.get? b = some o) → (∀ y : Str, y ∉ [("place" : Str), "part", "text"] → m₂ y = m y) → RT h₂ m₂ Rr (row0 ++ rowJ (cn c) (bit code k) (cn c).length) pre (N + 20) → Q .next ⟨h₂, gs, s.drawn, tk, s.os⟩) :
    wpAny (model pw w) A (exec pFor (tEnv L a cd)) Q E s := by
  obtain ⟨z1, z2⟩ := blt (x := "enumerate") B (by simp [freeNames]) (by rfl)
  obtain ⟨f, hf, hls⟩ := K
  obtain ⟨l, hfl, hparts⟩ := hls c hcc
  have hf' : s.heap.MapOf (PySem.strKind pw w) bd f := let ⟨o, es, ep, ho, r⟩ := hf; ⟨o, es, ep, F.keep _ _ ho, r⟩
  obtain ⟨ols, hols⟩ : ∃ o, h₀.get? l = some o := let ⟨_, ⟨o, ho, _⟩, _⟩ := hparts; ⟨o, ho⟩
  obtain ⟨ls, hL, hmap⟩ := hparts.at (h' := s.heap) fun o e => F.keep _ o e
  refine @wpAny_For _ _ _ _ _ _ _ _ _ _ _ ?_ (fun _ => rfl)
  refine Call_ (ld_builtin_at F B.g z1 B.b z2 (callWith_type1 (args_cons (Subscript_Name (PyProof.Rows.ld F hbd (PyProof.Rows.ld F hle ⟨"dict", _, slot_dict_getitem.lookup, hf'.typeIs, wpAny_getItem_of (strKind_is pw w _ _) hf' hfl (args_nil ?_)⟩)))))) 
  refine call_enumerate_list hL fun h₁ he₁ hi₁ hz₁ hk₁ => ?_
  refine wpAny_pyIter_enum he₁ ?_
  have hRl : @LT.lt Nat _ Rr s.heap.objs.size := let ⟨vs, ⟨o, n, ho, _⟩, _⟩ := X.list; Heap.lt_size ho
  have hLl : @LT.lt Nat _ L s.heap.objs.size := F.ns.lt
  have hll : @LT.lt Nat _ l s.heap.objs.size := let ⟨o, ho, _⟩ := hL; Heap.lt_size ho
  have hlen : ls.length = (cn c).length := by
    have := congrArg List.length hmap
    simpa using this
  have D := Draws.list (prog := pw) (w := w) (A := A.in1) hA s.heap.objs.size l (Nat.ne_of_lt hll) (strValues ls).toArray
  have hsz : (strValues ls).toArray.size = (cn c).length := by simp [strValues, hlen]
  refine for_enum (n0 := s.heap.objs.size) (s := ⟨h₁, s.gens, s.drawn, _, s.os⟩) (Q := Q) hA D ⟨hi₁, (hL.at fun o e => hk₁ _ o e)⟩ he₁ (Nat.ne_of_gt (Nat.lt_succ_self _)) ?_ (Nat.le_succ _) (Nat.le_refl _) ?_ (frExt F hk₁) hLl hb
    (fun j h' m' => (∀ y : Str, y ∉ [("place" : Str), "part", "text"] → m' y = m y) ∧ RT h' m' Rr (row0 ++ rowJ (cn c) (bit code k) j) pre (N + 10 * j) ∧ (∀ b o, b ≠ L → b ≠ Rr → s.heap.get? b = some o → h'.get? b = some o))
    ⟨fun _ _ => rfl, ?_, fun b o _ _ e => hk₁ b o e⟩ ?_ ?_ ?_ (fun _ _ q => q) rfl rfl rfl
  · intro hm
    rcases List.mem_cons.mp hm with hm | hm
    · exact Nat.succ_ne_self _ hm
    · rw [List.mem_singleton] at hm
      exact absurd hll (by rw [← hm]; exact Nat.not_lt.mpr (Nat.le_succ _))
  · intro b hbm
    rcases List.mem_cons.mp hbm with rfl | hbm
    · exact .inl (Nat.le_refl _)
    · rw [List.mem_singleton.mp hbm]; exact .inr ⟨ols, hols⟩
  · rw [rowJ_zero, List.append_nil]
    exact X.move (fun o e => hk₁ _ o e) rfl rfl
  · rintro j h' h'' m' hk' ⟨h1, h2, h3⟩
    exact ⟨h1, h2.move (fun o e => hk' _ o hRl (Ne.symm hLR) e) rfl rfl, fun b o hbL hbR e => hk' b o (Heap.lt_size e) hbL (h3 b o hbL hbR e)⟩
  · rintro j v t' m₁ s₁ hj hv ⟨h1, h2, h3⟩ F₁ hb₁ hd₁ ho₁
    rw [hsz] at hj
    obtain ⟨n, hn⟩ : ∃ n, (cn c)[j]? = some n := ⟨_, List.getElem?_eq_getElem hj⟩
    have hn3 : n < 3 := hcn.2 n (List.mem_of_getElem? hn)
    have hvv : ∃ tp, v = .str (partS n) tp := by
      have e1 : (strValues ls)[j]? = some v := by simpa using hv
      rw [strValues, List.getElem?_map] at e1
      obtain ⟨p, hp, rfl⟩ := Option.map_eq_some_iff.mp e1
      have e2 : (ls.map (·.1))[j]? = some p.1 := by rw [List.getElem?_map, hp]; rfl
      rw [hmap, List.getElem?_map, hn] at e2
      exact ⟨p.2, by rw [← Option.some.inj e2]⟩
    obtain ⟨tp, rfl⟩ := hvv
    have hj2 : j < 2 := Nat.lt_of_lt_of_le hj hcn.1
    refine place_turn (N := N + 10 * j) F₁ (h2.move (fun _ e => e) rfl rfl) hLR h0R (by omega) hrl ((h1 "code" (by decide)).trans hc) ((h1 "k" (by decide)).trans hk) hcl hkl rfl ⟨tp, rfl⟩ hn3 hn fun h₃ tk m₃ F₃ hk₃ hm₃ X₃ => ?_
    refine ⟨h₃, s₁.gens, tk, m₃, rfl, hb₁, F₃, fun b o hbn e => hk₃ b o (Nat.ne_of_gt (Nat.lt_of_lt_of_le hLl hbn)) (Nat.ne_of_gt (Nat.lt_of_lt_of_le hRl hbn)) e, fun y hy => ?_, ?_, fun b o hbL hbR e => hk₃ b o hbL hbR (h3 b o hbL hbR e)⟩
    · have y1 : y ≠ "text" := fun e => hy (by rw [e]; decide)
      have y2 : y ≠ "part" := fun e => hy (by rw [e]; decide)
      have y3 : y ≠ "place" := fun e => hy (by rw [e]; decide)
      rw [hm₃ y y1, if_neg y2, if_neg y3]
      exact h1 y hy
    · have e : N + 10 * j + 10 = N + 10 * (j + 1) := by omega
      rw [← e]; exact X₃
  · rintro h' gs tk m' ⟨h1, h2, h3⟩ F' hb'
    rw [hsz] at h2
    refine h h' gs tk m' hb' F' h3 h1 ?_
    obtain ⟨e1, e2, ⟨tx, tt, e3, e4, e5, e6⟩, e7⟩ := h2
    exact ⟨e1, e2, ⟨tx, tt, e3, e4, e5, by have := hcn.1; omega⟩, e7⟩
end Mine

namespace Mine
open PySem PySem.W PySem.Calls PyProof.Rows

noncomputable def rowT (cn : Nat → List Nat) (code : Nat) (l : List Nat) : List Nat := l.zipIdx.flatMap fun p => rowJ (cn p.1) (bit code p.2) (cn p.1).length
theorem rowT_snoc (cn : Nat → List Nat) (code : Nat) (l : List Nat) (c : Nat) : rowT cn code (l ++ [c]) = rowT cn code l ++ rowJ (cn c) (bit code l.length) (cn c).length := by
  unfold rowT
  rw [List.zipIdx_append, List.flatMap_append]
  simp
theorem rowJ_len (ns : List Nat) (b j : Nat) : (rowJ ns b j).length ≤ 1 := by
  unfold rowJ; split
  · split <;> simp
  · simp
theorem rowT_len (cn : Nat → List Nat) (code : Nat) (l : List Nat) : (rowT cn code l).length ≤ l.length := by
  unfold rowT
  have : ∀ (l : List (Nat × Nat)), (l.flatMap fun p => rowJ (cn p.1) (bit code p.2) (cn p.1).length).length ≤ l.length := by
    intro l
    induction l with
    | nil => simp
    | cons p r ih =>
      rw [List.flatMap_cons, List.length_append, List.length_cons]
      have := rowJ_len (cn p.1) (bit code p.2) (cn p.1).length
      omega
  have h := this l.zipIdx
  rwa [List.length_zipIdx] at h

structure CnOk (cn : Nat → List Nat) : Prop where
  ok : ∀ c ∈ [102, 105, 115], (cn c).length ≤ 2 ∧ ∀ n ∈ cn c, n < 3
structure WordOk (x : Str) : Prop where
  len : x.length ≤ 4
  ok : ∀ c ∈ x.cps.toList, c ∈ [102, 105, 115]
theorem WordOk.ascii {x : Str} (h : WordOk x) : x.cps.all (· < 128) = true := by
  rw [← Array.all_toList, List.all_eq_true]
  intro c hc
  have := h.ok c hc
  simp only [List.mem_cons, List.not_mem_nil, or_false] at this
  simp only [decide_eq_true_eq]
  omega

theorem letter_loop {w : World} {A : Around} {E : Value → Shared → Prop} {mg mb : Str → Option Value} {h₀ : Heap} {s : Shared} {L a : Addr} {cd : Value} {m : Str → Option Value} {Rr bd : Addr} {pre : List Nat} {cn : Nat → List Nat} {N code : Nat} {x : Str} {t tw : Tok} {Q : Flow → Shared → Prop}
    (B : Base mg mb h₀) (hA : A.handled = none) (K : Blk w h₀ bd cn) (hcn : CnOk cn) (hx : WordOk x) (hb : AllBare s.gens) (F : Fr h₀ L s.heap m) (X : RT s.heap m Rr [] pre N) (hLR : L ≠ Rr) (h0R : h₀.objs.size ≤ Rr) (hN : N ≤ 1000)
    (hbd : m "blocks" = some (.ref bd)) (hw : m "word" = some (.str x tw)) (hc : m "code" = some (.int (code : Nat) t)) (hcl : code < 16)
    (h : ∀ h₂ gs tk m₂, AllBare gs → Fr h₀ L h₂ m₂ → (∀ b o, b ≠ L → b ≠ Rr → s.heap.get? b = some o → h₂.get? b = some o) → (∀ y : Str, y ∉ [("k" : Str), "letter", "place", "part", "text"] → m₂ y = m y) → RT h₂ m₂ Rr (rowT cn code x.cps.toList) pre (N + 80) → Q .next ⟨h₂, gs, s.drawn, tk, s.os⟩) :
    wpAny (model pw w) A (exec kFor (tEnv L a cd)) Q E s := by
  obtain ⟨z1, z2⟩ := blt (x := "enumerate") B (by simp [freeNames]) (by rfl)
  refine @wpAny_For _ _ _ _ _ _ _ _ _ _ _ ?_ (fun _ => rfl)
  refine Call_ (ld_builtin_at F B.g z1 B.b z2 (callWith_type1 (args_cons (PyProof.Rows.ld F hw (args_nil ?_)))))
  refine call_enumerate_str fun h₁ he₁ hi₁ hz₁ hk₁ => ?_
  refine wpAny_pyIter_enum he₁ ?_
  have hRl : @LT.lt Nat _ Rr s.heap.objs.size := let ⟨vs, ⟨o, n, ho, _⟩, _⟩ := X.list; Heap.lt_size ho
  have hLl : @LT.lt Nat _ L s.heap.objs.size := F.ns.lt
  have hxl : x.cps.size ≤ 4 := hx.len
  have hi₁' : h₁.IsStrIter s.heap.objs.size "str_ascii_iterator" x tw 0 := by
    have := hi₁
    simpa [strIterType, hx.ascii] using this
  have D := Draws.strAscii (prog := pw) (w := w) (A := A.in1) hA s.heap.objs.size x tw
  refine for_enum (n0 := s.heap.objs.size) (s := ⟨h₁, s.gens, s.drawn, _, s.os⟩) (Q := Q) hA D hi₁' he₁ (Nat.ne_of_gt (Nat.lt_succ_self _)) ?_ (Nat.le_succ _) (Nat.le_refl _) ?_ (frExt F hk₁) hLl hb
    (fun j h' m' => (∀ y : Str, y ∉ [("k" : Str), "letter", "place", "part", "text"] → m' y = m y) ∧ RT h' m' Rr (rowT cn code (x.cps.toList.take j)) pre (N + 20 * j) ∧ (∀ b o, b ≠ L → b ≠ Rr → s.heap.get? b = some o → h'.get? b = some o))
    ⟨fun _ _ => rfl, ?_, fun b o _ _ e => hk₁ b o e⟩ ?_ ?_ ?_ (fun _ _ q => q) rfl rfl rfl
  · intro hm
    rw [List.mem_singleton] at hm
    exact Nat.succ_ne_self _ hm
  · intro b hbm
    rw [List.mem_singleton.mp hbm]; exact .inl (Nat.le_refl _)
  · rw [List.take_zero]
    exact X.move (fun o e => hk₁ _ o e) rfl rfl
  · rintro j h' h'' m' hk' ⟨h1, h2, h3⟩
    exact ⟨h1, h2.move (fun o e => hk' _ o hRl (Ne.symm hLR) e) rfl rfl, fun b o hbL hbR e => hk' b o (Heap.lt_size e) hbL (h3 b o hbL hbR e)⟩
  · rintro j v t' m₁ s₁ hj ⟨c, u, hcj, rfl⟩ ⟨h1, h2, h3⟩ F₁ hb₁ hd₁ ho₁
    have hcl' : x.cps.toList[j]? = some c := by rw [Array.getElem?_toList]; exact hcj
    have hjl : j < x.cps.toList.length := by rw [Array.length_toList]; exact hj
    have htl : (x.cps.toList.take j).length = j := by rw [List.length_take]; omega
    have hm1 : ∀ y : Str, y ∉ [("k" : Str), "letter", "place", "part", "text"] → (if y = ("letter" : Str) then some (Value.str ⟨#[c]⟩ u) else if y = ("k" : Str) then some (.int (j : Nat) t') else m₁ y) = m y := fun y hy => by
      have y1 : y ≠ "letter" := fun e => hy (by rw [e]; decide)
      have y2 : y ≠ "k" := fun e => hy (by rw [e]; decide)
      rw [if_neg y1, if_neg y2]; exact h1 y hy
    refine @wpAny_execs_cons _ _ _ _ _ _ _ _ ?_
    refine place_loop (N := N + 20 * j) (row0 := rowT cn code (x.cps.toList.take j)) (cn := cn) (k := j) (code := code) (c := c) B hA K hb₁ F₁ (h2.move (fun _ e => e) rfl rfl) hLR h0R (by omega) (by have := rowT_len cn code (x.cps.toList.take j); omega) ((hm1 "blocks" (by decide)).trans hbd) rfl (hx.ok c (List.mem_of_getElem? hcl')) ((hm1 "code" (by decide)).trans hc) rfl hcl (by omega) (hcn.ok c (hx.ok c (List.mem_of_getElem? hcl'))) fun h₃ gs₃ tk₃ m₃ hb₃ F₃ hk₃ hm₃ X₃ => ?_
    refine wpAny_execs_nil ⟨h₃, gs₃, tk₃, m₃, rfl, hb₃, F₃, fun b o hbn e => hk₃ b o (Nat.ne_of_gt (Nat.lt_of_lt_of_le hLl hbn)) (Nat.ne_of_gt (Nat.lt_of_lt_of_le hRl hbn)) e, fun y hy => ?_, ?_, fun b o hbL hbR e => hk₃ b o hbL hbR (h3 b o hbL hbR e)⟩
    · have y3 : y ∉ [("place" : Str), "part", "text"] := fun e => hy (by
        rcases List.mem_cons.mp e with rfl | e
        · decide
        · rcases List.mem_cons.mp e with rfl | e
          · decide
          · rw [List.mem_singleton.mp e]; decide)
      rw [hm₃ y y3]
      exact hm1 y hy
    · rw [take_snoc hcl', rowT_snoc, htl]
      have e : N + 20 * j + 20 = N + 20 * (j + 1) := by omega
      rw [← e]; exact X₃
  · rintro h' gs tk m' ⟨h1, h2, h3⟩ F' hb'
    rw [List.take_of_length_le (by rw [Array.length_toList]; exact Nat.le_refl _)] at h2
    refine h h' gs tk m' hb' F' h3 h1 ?_
    obtain ⟨e1, e2, ⟨tx, tt, e3, e4, e5, e6⟩, e7⟩ := h2
    exact ⟨e1, e2, ⟨tx, tt, e3, e4, e5, by omega⟩, e7⟩
end Mine

namespace Mine
open PySem PySem.W PySem.Calls PyProof.Rows

theorem sum_row {prog : Program} {w : World} {A : Around} {E : Value → Shared → Prop} {s : Shared} {l : Addr} {vs : List Value} {ns : List Int} {Q : Value → Shared → Prop} (hA : A.handled = none) (hl : s.heap.IsList l vs.toArray) (hi : IntsAre vs ns)
    (h : ∀ h' tk t', Ext s.heap h' → Q (.int ns.sum t') { s with heap := h', toks := tk }) : wpAny (model prog w) A (call (.builtin "sum") [.ref l]) Q E s := by
  have hn := hi.numsOf
  obtain ⟨xs, hxs⟩ := hi.allInts.items
  rw [hxs] at hl
  refine sum_intListG hA hl fun h' tk t' hk => ?_
  have e := nums_intItems (xs := xs)
  rw [← hxs] at e
  have e2 : xs.toList.map (·.1) = ns := by rw [← e]; exact hn
  rw [preSum_eq, List.take_of_length_le (by simp), e2]
  exact h h' tk t' hk

theorem mul_paren {prog : Program} {w : World} {A : Around} {E : Value → Shared → Prop} {s : Shared} {n : Nat} {t u : Tok} {Q : Value → Shared → Prop} (hn : n = 1 ∨ n = 2)
    (h : ∀ tk t' y, y.cps.toList = List.replicate n 40 → Q (.str y t') { s with toks := tk }) : wpAny (model prog w) A (binaryOp .Mult (.str "(" t) (.int (n : Nat) u)) Q E s := by
  rcases hn with rfl | rfl
  · exact P.mul_str (by decide) (fun _ h => absurd h (by decide)) (fun _ h => absurd h (by decide)) (h _ _ _ rfl)
  · exact P.mul_str (by decide) (fun _ _ => by decide) (fun _ _ => by decide +kernel) ⟨by decide +kernel, h _ _ _ rfl⟩

/-- rows of ints, lists of their own -/
inductive RowsAre (h : Heap) : List Value → List (List Int) → Prop
  | nil : RowsAre h [] []
  | cons (a : Addr) (vs : List Value) (r : List Int) {as rs} : PlainL h a vs.toArray → IntsAre vs r → RowsAre h as rs → RowsAre h (.ref a :: as) (r :: rs)
theorem RowsAre.keep {h h' : Heap} (hk : Ext h h') : ∀ {as rs}, RowsAre h as rs → RowsAre h' as rs
  | _, _, .nil => .nil
  | _, _, .cons a vs r hp hi x => .cons a vs r (hp.keeps hk) hi (x.keep hk)
theorem RowsAre.keepBut {h h' : Heap} {T L : Addr} : ∀ {as rs}, RowsAre h as rs → (∀ v ∈ as, v ≠ .ref T ∧ v ≠ .ref L) → (∀ b o, b ≠ T → b ≠ L → h.get? b = some o → h'.get? b = some o) → RowsAre h' as rs
  | _, _, .nil, _, _ => .nil
  | _, _, .cons a vs r ⟨o, n, ho, rest⟩ hi x, hn, hk => .cons a vs r ⟨o, n, hk a o (fun e => (hn _ (.head _)).1 (by rw [e])) (fun e => (hn _ (.head _)).2 (by rw [e])) ho, rest⟩ hi (x.keepBut (fun v hv => hn v (.tail _ hv)) hk)
theorem RowsAre.snoc {h : Heap} {a : Addr} {vs : List Value} {r : List Int} (hp : PlainL h a vs.toArray) (hi : IntsAre vs r) : ∀ {as rs}, RowsAre h as rs → RowsAre h (as ++ [.ref a]) (rs ++ [r])
  | _, _, .nil => .cons a vs r hp hi .nil
  | _, _, .cons a' vs' r' hp' hi' x => .cons a' vs' r' hp' hi' (x.snoc hp hi)
theorem RowsAre.len {h : Heap} : ∀ {as rs}, RowsAre h as rs → as.length = rs.length
  | _, _, .nil => rfl
  | _, _, .cons _ _ _ _ _ x => by simp [x.len]

noncomputable def okRow (cn : Nat → List Nat) (l : List Nat) (names code : Nat) : Option (List Int) :=
  if (rowT cn code l).length = l.length ∧ chkB (List.replicate names 40 ++ bareR (rowT cn code l)) = true then some ((rowT cn code l).map fun n => ((n : Nat) : Int)) else none

theorem bareR_len (row : List Nat) : (bareR row).length = row.length + row.sum := by
  induction row with
  | nil => rfl
  | cons n r ih =>
    show ((41 :: List.replicate n 40) ++ bareR r).length = _
    rw [List.length_append, ih, List.length_cons, List.length_replicate, List.length_cons, List.sum_cons]
    omega
theorem sum_cast (row : List Nat) : (row.map fun n => ((n : Nat) : Int)).sum = ((row.sum : Nat) : Int) := by
  induction row with
  | nil => rfl
  | cons n r ih => rw [List.map_cons, List.sum_cons, ih, List.sum_cons, Int.natCast_add]

theorem code_tail {w : World} {A : Around} {mg mb : Str → Option Value} {h₀ : Heap} {s : Shared} {L a : Addr} {cd : Value} {m : Str → Option Value} {Rr TD : Addr} {cn : Nat → List Nat} {names code : Nat} {x : Str} {tw tn : Tok} {as : List Value} {rs : List (List Int)} {Q : Flow → Shared → Prop}
    (B : Base mg mb h₀) (hA : A.handled = none) (hroom : A.depth + 2 < recursionLimit) (hx : WordOk x) (hb : AllBare s.gens) (F : Fr h₀ L s.heap m) (X : RT s.heap m Rr (rowT cn code x.cps.toList) (List.replicate names 40) 1000)
    (hw : m "word" = some (.str x tw)) (hn : m "names" = some (.int (names : Nat) tn)) (htd : m "told" = some (.ref TD)) (hT : PlainL s.heap TD as.toArray) (hR : RowsAre s.heap as rs) (hlen : as.length ≤ 100)
    (hTL : L ≠ TD) (h0T : h₀.objs.size ≤ TD) (hRT : Rr ≠ TD) (hLR : L ≠ Rr) (hnr : ∀ v ∈ as, v ≠ .ref TD ∧ v ≠ .ref L)
    (h : ∀ h₂ gs tk m₂ as₂, AllBare gs → Fr h₀ L h₂ m₂ → (∀ b o, b ≠ L → b ≠ TD → s.heap.get? b = some o → h₂.get? b = some o) → (∀ y : Str, y ≠ "bare" → m₂ y = m y) → PlainL h₂ TD as₂.toArray → RowsAre h₂ as₂ (rs ++ (okRow cn x.cps.toList names code).toList) → as₂.length ≤ as.length + 1 →
      (∀ v ∈ as₂, v ∈ as ∨ v = .ref Rr) → Q .next ⟨h₂, gs, s.drawn, tk, s.os⟩) :
    wpAny (model pw w) A (exec (nthS codeBody 3) (tEnv L a cd)) Q (fun _ _ => False) s := by
  obtain ⟨z1, z2⟩ := blt (x := "len") B (by simp [freeNames]) bootS_len
  obtain ⟨vs, hvs, hints⟩ := X.list
  obtain ⟨tx, tt, htx, hokc, hunq, htl⟩ := X.text
  have hvl : vs.length = (rowT cn code x.cps.toList).length := by
    have := congrArg List.length hints.nums
    simpa using this
  have hrl := rowT_len cn code x.cps.toList
  have hxl : x.cps.toList.length = x.length := Array.length_toList
  have hx4 := hx.len
  refine wpAny_If (wpAny_isTrue_BoolOp (wpAny_allTrue_And_cons ?_))
  refine wpAny_isTrue_Compare1 (Call_ (ld_builtin_at F B.g z1 B.b z2 (PyProof.Rows.callWith_builtin1 (args_cons (PyProof.Rows.ld F X.ref (args_nil (len_list hvs.isList (by rw [List.size_toArray]; omega) ?_)))))))
  refine Call_ (ld_builtin_at (s := ⟨s.heap, s.gens, s.drawn, _, s.os⟩) F B.g z1 B.b z2 (PyProof.Rows.callWith_builtin1 (args_cons (PyProof.Rows.ld F hw (args_nil (P.len_str (by omega) (P.eq_int (wpAny_truthy_bool ?_))))))))
  have none_ : ∀ s' : Shared, okRow cn x.cps.toList names code = none → (∃ h' gs tk, s' = ⟨h', gs, s.drawn, tk, s.os⟩ ∧ Ext s.heap h' ∧ AllBare gs) → wpAny (model pw w) A (execs [] (tEnv L a cd)) Q (fun _ _ => False) s' := by
    rintro s' hno ⟨h', gs, tk, rfl, hk, hb'⟩
    refine wpAny_execs_nil (h h' gs tk m as hb' (frExt F hk) (fun b o _ _ e => hk b o e) (fun _ _ => rfl) (hT.keeps hk) ?_ (Nat.le_succ _) (fun v hv => .inl hv))
    rw [hno]
    simpa using hR.keep hk
  have hcmp : (((vs.toArray.size : Nat) : Int) == ((x.length : Nat) : Int)) = decide ((rowT cn code x.cps.toList).length = x.cps.toList.length) := by
    rw [List.size_toArray, hvl, hxl, Bool.eq_iff_iff, beq_iff_eq, decide_eq_true_eq]
    omega
  rw [hcmp]
  by_cases hl : (rowT cn code x.cps.toList).length = x.cps.toList.length
  · rw [decide_eq_true hl, if_pos rfl]
    refine wpAny_allTrue_And_cons (wpAny_isTrue_value ?_)
    refine fn_call (i := 3) (s := ⟨s.heap, s.gens, s.drawn, _, s.os⟩) B (by decide) F (fun g hg => args_cons (PyProof.Rows.ld F htx (args_nil ⟨F.keep, ?_⟩)))
    refine chk_call (B.keeps F.keep) (hg.keeps F.keep) hA hroom hb hokc.plain (by omega) (by rw [hunq]) fun h₁ gs₁ tk₁ hk₁ hb₁ => wpAny_truthy_bool ?_
    rw [hunq]
    have F₁ := frExt F hk₁
    cases hchk : chkB (List.replicate names 40 ++ bareR (rowT cn code x.cps.toList)) with
    | false =>
      rw [if_neg Bool.false_ne_true, if_neg Bool.false_ne_true]
      exact none_ _ (by unfold okRow; rw [if_neg (fun e => by rw [hchk] at e; cases e.2)]) ⟨h₁, gs₁, _, rfl, hk₁, hb₁⟩
    | true =>
      rw [if_pos rfl]
      refine wpAny_allTrue_And_nil ?_
      rw [if_pos rfl]
      refine @wpAny_execs_cons _ _ _ _ _ _ _ _ (wpAny_Assign_Name ?_)
      refine fn_call (i := 2) (s := ⟨h₁, gs₁, s.drawn, _, s.os⟩) B (by decide) F₁ (fun g hg => args_cons (PyProof.Rows.ld F₁ htx (args_nil ⟨F₁.keep, ?_⟩)))
      refine strip_call (B.keeps F₁.keep) (hg.keeps F₁.keep) hA (Nat.lt_of_succ_lt hroom) hb₁ hokc.plain (by omega) (by rw [hunq]) fun y u h₂ gs₂ tk₂ hy hk₂ hb₂ => ?_
      rw [hunq] at hy
      have F₂ := frExt F₁ hk₂
      refine wpAny_storeName_local rfl F₂.ns (fun h₃ hn₃ hs₃ => ?_) rfl
      have F₃ := F₂.set hn₃ hs₃
      have hk₃ : ∀ b o, b ≠ L → s.heap.get? b = some o → h₃.get? b = some o := fun b o hb e => hs₃.extBut b o hb (hk₂ b o (hk₁ b o e))
      have hT₃ : PlainL h₃ TD as.toArray := let ⟨o, n, ho, r⟩ := hT; ⟨o, n, hk₃ _ _ (Ne.symm hTL) ho, r⟩
      have hV₃ : PlainL h₃ Rr vs.toArray := let ⟨o, n, ho, r⟩ := hvs; ⟨o, n, hk₃ _ _ (Ne.symm hLR) ho, r⟩
      refine @wpAny_execs_cons _ _ _ _ _ _ _ _ (wpAny_Expr ?_)
      refine wpAny_Call_append (by rfl) (by rfl) (by rfl) (by rfl) ?_
      refine PyProof.Rows.ld F₃ htd ⟨TD, _, rfl, hT₃, ?_⟩
      have hyl : y.length = names + x.cps.toList.length + (rowT cn code x.cps.toList).sum := by
        have e : y.length = y.cps.toList.length := Array.length_toList.symm
        rw [e, hy]
        show (List.replicate names 40 ++ bareR (rowT cn code x.cps.toList)).length = _
        rw [List.length_append, List.length_replicate, bareR_len, hl]
        omega
      have hyb : y.length ≤ 100000 := by
        have e : y.length = y.cps.toList.length := Array.length_toList.symm
        have h1 := unq_len tx.cps.toList (false, [])
        have h2 : tx.cps.toList.length = tx.length := Array.length_toList
        have h3 : (unq tx.cps.toList).2 = y.cps.toList := by rw [hunq]; exact hy.symm
        have h4 : (tx.cps.toList.foldl uStep (false, [])).2 = y.cps.toList := h3
        rw [h4] at h1
        simp only [List.length_nil] at h1
        omega
      refine @wpAny_IfExp _ _ _ _ _ _ _ _ _ _ ?_
      refine wpAny_isTrue_Compare1 (Call_ (ld_builtin_at F₃ B.g z1 B.b z2 (PyProof.Rows.callWith_builtin1 (args_cons (PyProof.Rows.ld F₃ (v := .str y u) rfl (args_nil (P.len_str (by omega) ?_)))))))
      obtain ⟨y1, y2⟩ := blt (x := "sum") B (by simp [freeNames]) (by rfl)
      refine wpAny_BinOp (wpAny_BinOp (PyProof.Rows.ld (s := ⟨h₃, gs₂, s.drawn, _, s.os⟩) F₃ hn ?_))
      refine Call_ (ld_builtin_at (s := ⟨h₃, gs₂, s.drawn, _, s.os⟩) F₃ B.g z1 B.b z2 (PyProof.Rows.callWith_builtin1 (args_cons (PyProof.Rows.ld F₃ hw (args_nil (P.len_str (by omega) (P.add_int ?_)))))))
      refine Call_ (ld_builtin_at (s := ⟨h₃, gs₂, s.drawn, _, s.os⟩) F₃ B.g y1 B.b y2 (PyProof.Rows.callWith_builtin1 (args_cons (PyProof.Rows.ld F₃ X.ref (args_nil (sum_row hA hV₃.isList hints fun h₄ tk₄ t₄ hk₄ => P.add_int (P.eq_int (wpAny_truthy_bool ?_))))))))
      have hval : (((y.length : Nat) : Int) == (((names : Nat) : Int) + ((x.length : Nat) : Int) + ((rowT cn code x.cps.toList).map fun n => ((n : Nat) : Int)).sum)) = true := by
        rw [beq_iff_eq, sum_cast, hyl, ← hxl]
        omega
      rw [hval, if_pos rfl]
      have F₄ := frExt F₃ hk₄
      refine PyProof.Rows.ld F₄ X.ref ?_
      refine list_append_plainL (hT₃.keeps hk₄) (fun h₅ P₅ hs₅ => ?_) (by rw [List.size_toArray, sizeLine_eq]; omega)
      have F₅ := frBut F₄ hs₅ h0T hTL
      have hk₅ : ∀ b o, b ≠ L → b ≠ TD → s.heap.get? b = some o → h₅.get? b = some o := fun b o hb hb2 e => hs₅.extBut b o hb2 (hk₄ b o (hk₃ b o hb e))
      refine wpAny_execs_nil (h h₅ gs₂ _ _ (as ++ [.ref Rr]) hb₂ F₅ hk₅ (fun y hy => if_neg hy) (by rw [← List.push_toArray]; exact P₅) ?_ (by simp) (fun v hv => ?_))
      · have e : okRow cn x.cps.toList names code = some ((rowT cn code x.cps.toList).map fun n => ((n : Nat) : Int)) := by unfold okRow; rw [if_pos ⟨hl, hchk⟩]
        rw [e]
        have hV₅ : PlainL h₅ Rr vs.toArray := let ⟨o, n, ho, r⟩ := hvs; ⟨o, n, hk₅ _ _ (Ne.symm hLR) hRT ho, r⟩
        exact RowsAre.snoc hV₅ hints (hR.keepBut hnr fun b o h1 h2 e => hk₅ b o h2 h1 e)
      · rcases List.mem_append.mp hv with hv | hv
        · exact .inl hv
        · exact .inr (List.mem_singleton.mp hv)
  · rw [decide_eq_false hl, if_neg Bool.false_ne_true, if_neg Bool.false_ne_true]
    exact none_ _ (by unfold okRow; rw [if_neg (fun e => hl e.1)]) ⟨s.heap, s.gens, _, rfl, fun _ _ e => e, hb⟩
end Mine

namespace Mine
open PySem PySem.W PySem.Calls PyProof.Rows

theorem code_turn {w : World} {A : Around} {mg mb : Str → Option Value} {h₀ : Heap} {s : Shared} {L a : Addr} {cd : Value} {m : Str → Option Value} {TD bd I : Addr} {cn : Nat → List Nat} {names code : Nat} {x : Str} {tw tn tc : Tok} {as : List Value} {rs : List (List Int)} {Q : Flow → Shared → Prop}
    (B : Base mg mb h₀) (hA : A.handled = none) (hroom : A.depth + 2 < recursionLimit) (K : Blk w h₀ bd cn) (hcn : CnOk cn) (hx : WordOk x) (hnm : names = 1 ∨ names = 2) (hb : AllBare s.gens) (F : Fr h₀ L s.heap m)
    (hbd : m "blocks" = some (.ref bd)) (hw : m "word" = some (.str x tw)) (hn : m "names" = some (.int (names : Nat) tn)) (htd : m "told" = some (.ref TD)) (hc : m "code" = some (.int (code : Nat) tc)) (hcl : code < 16)
    (hT : PlainL s.heap TD as.toArray) (hR : RowsAre s.heap as rs) (hlen : as.length ≤ 100) (hTL : L ≠ TD) (h0T : h₀.objs.size ≤ TD) (hnr : ∀ v ∈ as, v ≠ .ref TD ∧ v ≠ .ref L ∧ v ≠ .ref I) (hI : ∃ o, s.heap.get? I = some o)
    (h : ∀ h₂ gs tk m₂ as₂, AllBare gs → Fr h₀ L h₂ m₂ → (∀ b o, b ≠ L → b ≠ TD → s.heap.get? b = some o → h₂.get? b = some o) → (∀ y ∈ [("blocks" : Str), "word", "names", "told"], m₂ y = m y) → PlainL h₂ TD as₂.toArray → RowsAre h₂ as₂ (rs ++ (okRow cn x.cps.toList names code).toList) → as₂.length ≤ as.length + 1 →
      (∀ v ∈ as₂, v ≠ .ref TD ∧ v ≠ .ref L ∧ v ≠ .ref I) → Q .next ⟨h₂, gs, s.drawn, tk, s.os⟩) :
    wpAny (model pw w) A (execs codeBody (tEnv L a cd)) Q (fun _ _ => False) s := by
  obtain ⟨oI, hI⟩ := hI
  have hIl : @LT.lt Nat _ I s.heap.objs.size := Heap.lt_size hI
  have hTl : @LT.lt Nat _ TD s.heap.objs.size := hT.lt
  have hLl : @LT.lt Nat _ L s.heap.objs.size := F.ns.lt
  refine @wpAny_execs_cons _ _ _ _ _ _ _ _ (wpAny_Assign_Name (List_ (args_nil (wpAny_newObj_type ?_ (by size_fits)))))
  obtain ⟨Rr, hRr⟩ : ∃ R, s.heap.objs.size = R := ⟨_, rfl⟩
  obtain ⟨h₁, hh₁⟩ : ∃ h', s.heap.push { cls := .type "list", data := .seq ([] : List Value).toArray } = h' := ⟨_, rfl⟩
  have g1 : h₁.get? Rr = some { cls := .type "list", data := .seq ([] : List Value).toArray } := by rw [← hh₁, ← hRr]; exact Heap.get?_push_size _ rfl
  have F₁ : Fr h₀ L h₁ m := hh₁ ▸ F.push _
  rw [hRr] at hIl hTl hLl
  rw [hRr, hh₁]
  have hk₁ : ∀ b o, s.heap.get? b = some o → h₁.get? b = some o := fun b o e => by rw [← hh₁]; exact Heap.get?_push_of_some _ e
  refine wpAny_storeName_local rfl F₁.ns (fun h₂ hn₂ hs₂ => ?_) rfl
  have F₂ := F₁.set hn₂ hs₂
  refine @wpAny_execs_cons _ _ _ _ _ _ _ _ (wpAny_Assign_Name (wpAny_BinOp (wpAny_Constant_str (PyProof.Rows.ld F₂ (v := .int (names : Nat) tn) hn (mul_paren hnm fun tk t' y hy => ?_)))))
  refine wpAny_storeName_local rfl F₂.ns (fun h₃ hn₃ hs₃ => ?_) rfl
  have F₃ := F₂.set hn₃ hs₃
  have hLR : L ≠ Rr := Nat.ne_of_lt hLl
  have hk₃ : ∀ b o, b ≠ L → h₁.get? b = some o → h₃.get? b = some o := fun b o hb e => hs₃.extBut b o hb (hs₂.extBut b o hb e)
  have P₃ : PlainL h₃ Rr ([] : List Value).toArray := ⟨_, _, hk₃ _ _ (Ne.symm hLR) g1, rfl, rfl, rfl⟩
  have h0R : h₀.objs.size ≤ Rr := Nat.le_trans F.above (Nat.le_of_lt hLl)
  have hyl : y.length ≤ 2 := by
    have e : y.length = y.cps.toList.length := Array.length_toList.symm
    rw [e, hy, List.length_replicate]; omega
  refine @wpAny_execs_cons _ _ _ _ _ _ _ _ ?_
  refine letter_loop (N := 10) (pre := List.replicate names 40) B hA K hcn hx hb F₃ ⟨rfl, ⟨[], P₃, .nil⟩, ⟨y, t', rfl, ?_, ?_, by omega⟩, by simp⟩ hLR h0R (by omega) hbd hw hc hcl fun h₄ gs₄ tk₄ m₄ hb₄ F₄ hk₄ hm₄ X₄ => ?_
  · intro c hcc
    rw [hy] at hcc
    exact .inr (.inl (List.mem_replicate.mp hcc).2)
  · rw [hy]
    unfold unq
    rw [foldl_plain _ _ (fun e => by cases (List.mem_replicate.mp e).2)]
    simp [bareR]
  have hs₄ : ∀ b o, b ≠ L → s.heap.get? b = some o → h₄.get? b = some o := fun b o hb e => hk₄ b o hb (by
    rintro rfl
    exact absurd (Heap.lt_size e) (by rw [hRr]; exact Nat.lt_irrefl _)) (hk₃ b o hb (hk₁ b o e))
  have hRT : Rr ≠ TD := Nat.ne_of_gt hTl
  have hT₄ : PlainL h₄ TD as.toArray := let ⟨o, n, ho, r⟩ := hT; ⟨o, n, hs₄ _ _ (Ne.symm hTL) ho, r⟩
  have hR₄ : RowsAre h₄ as rs := hR.keepBut (T := L) (L := L) (fun v hv => ⟨(hnr v hv).2.1, (hnr v hv).2.1⟩) fun b o hb _ e => hs₄ b o hb e
  have hmm : ∀ y ∈ [("blocks" : Str), "word", "names", "told"], m₄ y = m y := by
    intro y hy'
    rw [hm₄ y ?_]
    · simp only [List.mem_cons, List.not_mem_nil, or_false] at hy'
      rcases hy' with rfl | rfl | rfl | rfl <;> rfl
    · simp only [List.mem_cons, List.not_mem_nil, or_false] at hy'
      rcases hy' with rfl | rfl | rfl | rfl <;> decide
  refine @wpAny_execs_cons _ _ _ _ _ _ _ _ ?_
  have X₄' : RT h₄ m₄ Rr (rowT cn code x.cps.toList) (List.replicate names 40) 1000 := by
    obtain ⟨e1, e2, ⟨tx, tt, e3, e4, e5, e6⟩, e7⟩ := X₄
    exact ⟨e1, e2, ⟨tx, tt, e3, e4, e5, by omega⟩, e7⟩
  refine code_tail (Rr := Rr) (cn := cn) (code := code) (names := names) (x := x) (s := ⟨h₄, gs₄, s.drawn, tk₄, s.os⟩) B hA hroom hx hb₄ F₄ X₄' ((hmm "word" (by simp)).trans hw) ((hmm "names" (by simp)).trans hn) ((hmm "told" (by simp)).trans htd) hT₄ hR₄ hlen hTL h0T hRT hLR (fun v hv => ⟨(hnr v hv).1, (hnr v hv).2.1⟩) fun h₅ gs₅ tk₅ m₅ as₅ hb₅ F₅ hk₅ hm₅ hT₅ hR₅ hl₅ hv₅ => ?_
  refine wpAny_execs_nil (h h₅ gs₅ tk₅ m₅ as₅ hb₅ F₅ (fun b o hbL hbT e => hk₅ b o hbL hbT (hs₄ b o hbL e)) (fun y hy' => ?_) hT₅ hR₅ hl₅ fun v hv => ?_)
  · rw [hm₅ y ?_]
    · exact hmm y hy'
    · simp only [List.mem_cons, List.not_mem_nil, or_false] at hy'
      rcases hy' with rfl | rfl | rfl | rfl <;> decide
  · rcases hv₅ v hv with hv | rfl
    · exact hnr v hv
    · exact ⟨fun e => hRT (Value.ref.inj e), fun e => hLR (Value.ref.inj e).symm, fun e => Nat.ne_of_gt hIl (Value.ref.inj e)⟩
end Mine

namespace Mine
open PySem PySem.W PySem.Calls PyProof.Rows

/-- iter over range(a, b) -/
theorem range_iter2 {w : World} {A : Around} {E : Value → Shared → Prop} {s : Shared} {r : Addr} {a b : Int} {t u v : Tok} {n : Nat} {Q : Value → Shared → Prop} (hr : IsRange s.heap r a b 1 t u v) (ha : -(2 ^ 62) ≤ a) (ha' : a < 2 ^ 62) (hb : -(2 ^ 62) ≤ b) (hb' : b < 2 ^ 62) (hn : (n : Int) = if a < b then b - a else 0)
    (h : ∀ I h', s.heap.objs.size ≤ I → Ext s.heap h' → IsRangeIter h' I (a + ((0 : Nat) : Int) * 1) ((n : Int) - ((0 : Nat) : Int)) 1 → Q (.ref I) { s with heap := h' }) :
    wpAny (model pw w) A (pyIter (.ref r)) Q E s := by
  refine wpAny_pyIter_range hr (small_one ha ha' hb hb') (h _ _ (Nat.le_refl _) (fun b o e => Heap.get?_push_of_some _ e) ?_)
  have e1 : a + ((0 : Nat) : Int) * 1 = a := by simp
  have e2 : ((n : Int) - ((0 : Nat) : Int)) = Builtin.Range.rangeSize a b 1 := by rw [rangeSize_one, ← hn]; simp
  rw [e1, e2]
  exact Heap.get?_push_size _ rfl

noncomputable def toldR (cn : Nat → List Nat) (l : List Nat) (names : Nat) (j : Nat) : List (List Int) := (List.range j).flatMap fun code => (okRow cn l names code).toList

theorem told_call {w : World} {A : Around} {mg mb : Str → Option Value} {s : Shared} {E : Value → Shared → Prop} {Q : Value → Shared → Prop} {f bd : Addr} {cn : Nat → List Nat} {names : Nat} {x : Str} {tw tn : Tok}
    (B : Base mg mb s.heap) (hf : FnIs s.heap 15 f) (hA : A.handled = none) (hroom : A.depth + 3 < recursionLimit) (hbare : AllBare s.gens) (K : Blk w s.heap bd cn) (hcn : CnOk cn) (hx : WordOk x) (hnm : names = 1 ∨ names = 2)
    (h : ∀ h' gs tk TD as, Ext s.heap h' → AllBare gs → PlainL h' TD as.toArray → RowsAre h' as (toldR cn x.cps.toList names 16) → as.length ≤ 16 → Q (.ref TD) ⟨h', gs, s.drawn, tk, s.os⟩) :
    wpAny (model pw w) A (call (.ref f) [.ref bd, .str x tw, .int (names : Nat) tn]) Q E s := by
  obtain ⟨o, pm, cd, doc, ho, hd, hc⟩ := hf
  refine wpAny_call (call_plain_ret (binds := [(("blocks" : Str), .ref bd), (("word" : Str), .str x tw), (("names" : Str), .int (names : Nat) tn)]) (by omega) ho hd B.nolimit hc rfl ?_ (fun h₁ F => ?_) rfl rfl rfl (show ∀ x ∈ (fnScope (topS 15)).names, x.2 ≠ .cell by decide +kernel))
  · intro y hy
    simp only [List.mem_cons, List.not_mem_nil, or_false] at hy
    rcases hy with rfl | rfl | rfl <;> rfl
  have hA' : (A.deeper (tEnv s.heap.objs.size f cd)).handled = none := hA
  have hr' : (A.deeper (tEnv s.heap.objs.size f cd)).depth + 2 < recursionLimit := hroom
  refine @wpAny_execs_cons _ _ _ _ _ _ _ _ (wpAny_Assign_Name (List_ (args_nil (wpAny_newList ?_ (by size_fits)))))
  obtain ⟨TD, hTD⟩ : ∃ R, h₁.objs.size = R := ⟨_, rfl⟩
  obtain ⟨h₂, hh₂⟩ : ∃ h', h₁.push { cls := .type "list", data := .seq ([] : List Value).toArray } = h' := ⟨_, rfl⟩
  have g₂ : h₂.get? TD = some { cls := .type "list", data := .seq ([] : List Value).toArray } := by rw [← hh₂, ← hTD]; exact Heap.get?_push_size _ rfl
  have F₂ : Fr s.heap s.heap.objs.size h₂ _ := hh₂ ▸ F.push _
  have hLT : @LT.lt Nat _ s.heap.objs.size TD := hTD ▸ F.ns.lt
  dsimp only
  rw [hTD, hh₂]
  refine wpAny_storeName_local rfl F₂.ns (fun h₃ hn₃ hs₃ => ?_) rfl
  have F₃ := F₂.set hn₃ hs₃
  obtain ⟨z1, z2⟩ := blt (x := "range") B (by simp [freeNames]) (by rfl)
  refine @wpAny_execs_cons _ _ _ _ _ _ _ _ ?_
  refine @wpAny_For _ _ _ _ _ _ _ _ _ _ _ ?_ (fun _ => rfl)
  refine Call_ (ld_builtin_at F₃ B.g z1 B.b z2 (callWith_type1 (args_cons (wpAny_Constant_int (args_nil (call_range_1 ?_))))))
  refine range_iter2 (n := 16) (IsRange.new ..) (by decide) (by decide) (by decide) (by decide) (by decide) fun I h₄ hIs hk₄ hi₄ => ?_
  dsimp only at hIs hk₄ hi₄
  have hk₄' : Ext h₃ h₄ := fun b o e => hk₄ b o (Heap.get?_push_of_some _ e)
  have F₄ := frExt F₃ hk₄'
  have P₄ : PlainL h₄ TD ([] : List Value).toArray := ⟨_, _, hk₄' _ _ (hs₃.extBut _ _ (Nat.ne_of_gt hLT) g₂), rfl, rfl, rfl⟩
  rw [Heap.size_push] at hIs
  have hLI : @LT.lt Nat _ s.heap.objs.size I := Nat.lt_of_lt_of_le F₃.ns.lt (Nat.le_of_succ_le hIs)
  have hTI : @LT.lt Nat _ TD I := Nat.lt_of_lt_of_le (Heap.lt_size (hs₃.extBut _ _ (Nat.ne_of_gt hLT) g₂)) (Nat.le_of_succ_le hIs)
  have W := Walks.range (prog := pw) (w := w) hA' I 0 1 16
  refine for_walk (n0 := I) (s := ⟨h₄, s.gens, s.drawn, _, s.os⟩) W hi₄ (fun b hb => by rw [List.mem_singleton.mp hb]; exact Nat.le_refl _) (fun b hb => .inl (by rw [List.mem_singleton.mp hb]; exact Nat.le_refl _)) F₄ hLI hbare
    (fun j h' m' => (m' "blocks" = some (.ref bd) ∧ m' "word" = some (.str x tw) ∧ m' "names" = some (.int (names : Nat) tn) ∧ m' "told" = some (.ref TD)) ∧ ∃ as, PlainL h' TD as.toArray ∧ RowsAre h' as (toldR cn x.cps.toList names j) ∧ as.length ≤ j ∧ ∀ v ∈ as, v ≠ .ref TD ∧ v ≠ .ref s.heap.objs.size ∧ v ≠ .ref I)
    ⟨⟨rfl, rfl, rfl, rfl⟩, [], P₄, .nil, Nat.le_refl _, fun v hv => nomatch hv⟩ (fun i h st b hb => by rw [List.mem_singleton.mp hb]; exact ⟨_, st⟩) ?_ ?_ ?_ (fun _ _ q => q) rfl rfl
  · rintro j h' h'' m' hk' ⟨h1, as, h2, h3, h4, h5⟩
    have hk2 : ∀ b o, b ≠ I → b ≠ s.heap.objs.size → h'.get? b = some o → h''.get? b = some o := fun b o hb hb2 e => hk' b o (by rw [List.mem_singleton]; exact hb) hb2 e
    refine ⟨h1, as, ?_, h3.keepBut (T := I) (L := s.heap.objs.size) (fun v hv => ⟨(h5 v hv).2.2, (h5 v hv).2.1⟩) hk2, h4, h5⟩
    obtain ⟨o, n, ho, r⟩ := h2
    exact ⟨o, n, hk2 _ _ (Nat.ne_of_lt hTI) (Nat.ne_of_gt hLT) ho, r⟩
  · rintro j v m₁ s₁ hj ⟨tj, rfl⟩ ⟨⟨e1, e2, e3, e4⟩, as, h2, h3, h4, h5⟩ F₁ hb₁ hlive hd₁ ho₁
    obtain ⟨oI, hoI⟩ := hlive I (.head _)
    have hcode : ((0 : Int) + ((j : Nat) : Int) * 1) = ((j : Nat) : Int) := by simp
    rw [hcode] at F₁
    refine code_turn (I := I) (rs := toldR cn x.cps.toList names j) (x := x) (cn := cn) (names := names) (code := j) B hA' hr' K hcn hx hnm hb₁ F₁ e1 e2 e3 e4 rfl hj h2 h3 (by omega) (Nat.ne_of_lt hLT) (Nat.le_of_lt hLT) h5 ⟨oI, hoI⟩ fun h₅ gs₅ tk₅ m₅ as₅ hb₅ F₅ hk₅ hm₅ hT₅ hR₅ hl₅ hv₅ => ?_
    refine ⟨h₅, gs₅, tk₅, m₅, rfl, hb₅, F₅, fun b o hbI e => hk₅ b o (Nat.ne_of_gt (Nat.lt_of_lt_of_le hLI hbI)) (Nat.ne_of_gt (Nat.lt_of_lt_of_le hTI hbI)) e, ⟨?_, ?_, ?_, ?_⟩, as₅, hT₅, ?_, by omega, hv₅⟩
    · rw [hm₅ _ (by simp)]; exact e1
    · rw [hm₅ _ (by simp)]; exact e2
    · rw [hm₅ _ (by simp)]; exact e3
    · rw [hm₅ _ (by simp)]; exact e4
    · have e : toldR cn x.cps.toList names (j + 1) = toldR cn x.cps.toList names j ++ (okRow cn x.cps.toList names j).toList := by
        unfold toldR
        rw [List.range_succ, List.flatMap_append, List.flatMap_singleton]
      rw [e]; exact hR₅
  · rintro h' gs tk m' ⟨⟨e1, e2, e3, e4⟩, as, h2, h3, h4, h5⟩ F' hb'
    refine wpAny_execs_cons (wpAny_Return_some (PyProof.Rows.ld F' e4 ?_))
    exact h h' gs tk TD as F'.keep hb' h2 h3 h4
end Mine

namespace Mine
open PySem PySem.W PySem.Calls PyProof.Rows

/-- a loop over any walk, in any frame -/
theorem for_gen {w : World} {A : Around} {s : Shared} {env : Env} {body : List Stmt} {Q : Flow → Shared → Prop} {R : Result → Shared → Prop} {x : Str} {p : Pos} {I : Addr} {fp wr : List Addr} {n : Nat} {P : Nat → Value → Prop} {St : Nat → Heap → Prop}
    (W : Walks pw w A I fp wr n P St) (hst : St 0 s.heap) (J : Nat → Heap → Prop) (h0 : J 0 s.heap)
    (hJ : ∀ j h h', St j h → (∀ b o, b ∉ wr → h.get? b = some o → h'.get? b = some o) → J j h → J j h')
    (turn : ∀ j v s₁, j < n → P j v → J j s₁.heap → St (j + 1) s₁.heap → s₁.gens = s.gens → s₁.drawn = s.drawn → s₁.os = s.os →
      wpAny (model pw w) A (assign (.Name x p) env v) (fun _ s₂ => wpAny (model pw w) A (execs body env) (fun f s₃ => (f = .next ∨ f = .cont) ∧ ∃ h₃ tk, s₃ = { s₁ with heap := h₃, toks := tk } ∧ (∀ b ∈ fp, ∀ o, s₁.heap.get? b = some o → h₃.get? b = some o) ∧ J (j + 1) h₃) (fun _ _ => False) s₂) (fun _ _ => False) s₁)
    (fin : ∀ h' tk, J n h' → Q .next { s with heap := h', toks := tk }) (hR : ∀ f s', Q f s' → R (.ok f) s') :
    codeAny (model pw w) A (.forLoop (.Name x p) (.ref I) body [] env) R s := by
  refine codeAny_forLoop_any (fun k s' => ∃ h' tk j, s' = { s with heap := h', toks := tk } ∧ k = n + 1 - j ∧ j ≤ n ∧ J j h' ∧ St j h') ?_ (n + 1) ⟨s.heap, s.toks, 0, rfl, rfl, Nat.zero_le _, h0, hst⟩
  rintro k' s' ⟨h', tk', j, rfl, rfl, hj, hJ', hst'⟩
  by_cases hlt : j < n
  · refine W.item j _ _ _ hlt hst' fun v h₁ tk₁ hP hst₁ hk₁ => ?_
    refine wpAny_of_eq (show letOwnedTupleGo (.Name x p) (.ref I) v = pure () from rfl) ?_
    refine wpAny_mono (turn j v ⟨h₁, s.gens, s.drawn, tk₁, s.os⟩ hlt hP (hJ _ _ _ hst' hk₁ hJ') hst₁ rfl rfl rfl) (fun _ s₂ h₂ => wpAny_mono h₂ (fun f s₃ h₃ => ?_) fun _ _ e => e.elim) fun _ _ e => e.elim
    obtain ⟨hf, h₃', tk₃, rfl, hfp, hJ₃⟩ := h₃
    have : ∃ m, m < n + 1 - j ∧ ∃ h' tk j, ({ s with heap := h₃', toks := tk₃ } : Shared) = { s with heap := h', toks := tk } ∧ m = n + 1 - j ∧ j ≤ n ∧ J j h' ∧ St j h' :=
      ⟨n + 1 - (j + 1), by omega, h₃', tk₃, j + 1, rfl, rfl, hlt, hJ₃, W.frame _ _ _ hst₁ hfp⟩
    rcases hf with rfl | rfl <;> exact this
  · obtain rfl : j = n := by omega
    exact W.done _ _ _ hst' fun h₁ tk₁ hk₁ => wpAny_execs_nil (hR _ _ (fin h₁ tk₁ (hJ _ _ _ hst' hk₁ hJ')))
end Mine

namespace Mine
open PySem PySem.W PySem.Calls PyProof.Rows

/-- an exact list -/
noncomputable def ExL (h : Heap) (l : Addr) (vs : List Value) : Prop := ∃ n, h.get? l = some { cls := .type "list", data := .seq vs.toArray n }
theorem ExL.plainL {h : Heap} {l : Addr} {vs : List Value} (x : ExL h l vs) : PlainL h l vs.toArray := let ⟨n, e⟩ := x; ⟨_, n, e, rfl, rfl, rfl⟩
theorem ExL.isList {h : Heap} {l : Addr} {vs : List Value} (x : ExL h l vs) : h.IsList l vs.toArray := x.plainL.isList
theorem ExL.at {h h' : Heap} {l : Addr} {vs : List Value} (x : ExL h l vs) (hk : ∀ o, h.get? l = some o → h'.get? l = some o) : ExL h' l vs := let ⟨n, e⟩ := x; ⟨n, hk _ e⟩

theorem add_ext {w : World} {A : Around} {E : Value → Shared → Prop} {s : Shared} {l b : Addr} {vs ws : List Value} {Q : Value → Shared → Prop} (hl : s.heap.IsList l vs.toArray) (hb : s.heap.IsList b ws.toArray)
    (h : ∀ h', Ext s.heap h' → ExL h' s.heap.objs.size (vs ++ ws) → Q (.ref s.heap.objs.size) { s with heap := h' }) (hsz : vs.length + ws.length ≤ 1000000) :
    wpAny (model pw w) A (binaryOp .Add (.ref l) (.ref b)) Q E s := by
  obtain ⟨⟨cls, dd, data, sl⟩, ho, hc, n, hd⟩ := id hl
  obtain ⟨⟨cls2, dd2, data2, sl2⟩, ho2, hc2, n2, hd2⟩ := id hb
  simp only at hc hd hc2 hd2
  subst hc hd hc2 hd2
  have e : vs.toArray ++ ws.toArray = (vs ++ ws).toArray := by simp
  refine concat_meets ⟨_, ho, rfl⟩ ⟨_, ho2, rfl⟩ noFill_list_add seq_list_add PySem.F.slot_list_add PySem.F.entry_list_add (PySem.F.args_list_add_2 _ _)
    (list_addW l b vs.toArray ws.toArray n n2 dd dd2 sl sl2 (by rw [List.size_toArray, List.size_toArray, sizeLine_eq]; omega)) ⟨ho, ho2, ?_⟩
  rw [e]
  exact h _ (fun b o e => Heap.get?_push_of_some _ e) ⟨_, Heap.get?_push_size _ rfl⟩

theorem extend_ext {w : World} {A : Around} {E : Value → Shared → Prop} {s : Shared} {D b : Addr} {vs ws : List Value} {Q : Value → Shared → Prop} (hl : ExL s.heap D vs) (hb : ExL s.heap b ws)
    (h : ∀ h', Heap.SameBut D s.heap h' → ExL h' D (vs ++ ws) → Q .none { s with heap := h' }) (hsz : vs.length + ws.length ≤ 1000000) :
    wpAny (model pw w) A (call (.builtin "list.extend") [.ref D, .ref b]) Q E s := by
  obtain ⟨n, ho⟩ := hl
  obtain ⟨n2, ho2⟩ := hb
  have hsz' : vs.toArray.size + ws.toArray.size ≤ sizeLine := by rw [List.size_toArray, List.size_toArray, sizeLine_eq]; omega
  refine call_meets PySem.F.slot_list_extend ⟨_, ho, rfl⟩ PySem.F.entry_list_extend (PySem.F.args_list_extend_2 _ _) (AutoSeq1.list_extend_list_list_0 D vs.toArray n b ws.toArray n2 (extend_door hsz') (Nat.le_trans (Nat.le_add_right _ _) hsz')) ⟨ho, ho2, ?_⟩
  have e : vs.toArray ++ ws.toArray = (vs ++ ws).toArray := by simp
  have ho' : (s.heap.update D (Obj.mapSeq fun x => x ++ ws.toArray)).get? D = some { cls := .type "list", data := .seq (vs ++ ws).toArray (if (vs.toArray ++ ws.toArray).size == vs.toArray.size then n else n + 1) } := by
    rw [Heap.get?_update_self _ ho (by rw [mapSeq_app]; rfl), mapSeq_app, e]
  exact h _ (Heap.SameBut.update ..) ⟨_, ho'⟩

/-- rows of ints -/
inductive RowsX (h : Heap) : List Value → List (List Int) → Prop
  | nil : RowsX h [] []
  | cons (a : Addr) (vs : List Value) (r : List Int) {as rs} : h.IsList a vs.toArray → IntsAre vs r → RowsX h as rs → RowsX h (.ref a :: as) (r :: rs)
theorem RowsX.keep {h h' : Heap} (hk : Ext h h') : ∀ {as rs}, RowsX h as rs → RowsX h' as rs
  | _, _, .nil => .nil
  | _, _, .cons a vs r hp hi x => .cons a vs r (hp.at fun _ e => hk _ _ e) hi (x.keep hk)
theorem RowsX.append {h : Heap} : ∀ {as rs bs ts}, RowsX h as rs → RowsX h bs ts → RowsX h (as ++ bs) (rs ++ ts)
  | _, _, _, _, .nil, y => y
  | _, _, _, _, .cons a vs r hp hi x, y => .cons a vs r hp hi (x.append y)
theorem RowsX.len {h : Heap} : ∀ {as rs}, RowsX h as rs → as.length = rs.length
  | _, _, .nil => rfl
  | _, _, .cons _ _ _ _ _ x => by simp [x.len]
theorem RowsX.at {h : Heap} : ∀ {as rs}, RowsX h as rs → ∀ (j : Nat) (v : Value), as[j]? = some v → ∃ a vs r, v = .ref a ∧ rs[j]? = some r ∧ h.IsList a vs.toArray ∧ IntsAre vs r
  | _, _, .cons a vs r hp hi x, 0, v, e => ⟨a, vs, r, (Option.some.inj e).symm, rfl, hp, hi⟩
  | _, _, .cons a vs r hp hi x, j + 1, v, e => by
    obtain ⟨a', vs', r', h1, h2, h3, h4⟩ := x.at j v (by simpa using e)
    exact ⟨a', vs', r', h1, by simpa using h2, h3, h4⟩
theorem RowsX.keepBut {h h' : Heap} {T : Addr} : ∀ {as rs}, RowsX h as rs → (∀ v ∈ as, v ≠ .ref T) → (∀ b o, b ≠ T → h.get? b = some o → h'.get? b = some o) → RowsX h' as rs
  | _, _, .nil, _, _ => .nil
  | _, _, .cons a vs r hp hi x, hn, hk => .cons a vs r (hp.at fun o e => hk a o (fun q => hn _ (.head _) (by rw [q])) e) hi (x.keepBut (fun v hv => hn v (.tail _ hv)) hk)
end Mine

namespace Mine
open PySem PySem.W PySem.Calls PyProof.Rows

noncomputable def dB : List Stmt := fnBody (topS 16)
noncomputable def sizeFor : Stmt := nthS dB 2
noncomputable def manyFor : Stmt := nthS (forBody sizeFor) 0
noncomputable def oneFor : Stmt := nthS (forBody manyFor) 0
noncomputable def extStmt : Stmt := nthS (forBody oneFor) 0
noncomputable def lcD : PySem.Expr := callArg (stVal extStmt) 0
noncomputable def dEnv (L a : Addr) (cd : Value) : Env := callEnvC (Calls.docDef (fnName (topS 16)) (fnArgs (topS 16)) (fnBody (topS 16)) (fnScope (topS 16)) .none cd .none) L a
noncomputable def dCl (L : Addr) : List (Str × Addr) := [(("one" : Str), L + 2), (("many" : Str), L + 1)]

theorem due_elt {w : World} {A : Around} {s : Shared} {E : Value → Shared → Prop} {Q : Value → Shared → Prop} {C L a one r : Addr} {cd : Value} {m : Str → Option Value} {many : Nat} {u : Tok} {vs1 vs2 : List Value} {r1 r2 : List Int}
    (hn : s.heap.Ns C m) (hm : m "rest" = some (.ref r)) (k1 : s.heap.IsCell (L + 1) (some (.int (many : Nat) u))) (k2 : s.heap.IsCell (L + 2) (some (.ref one))) (x1 : s.heap.IsList one vs1.toArray) (i1 : IntsAre vs1 r1) (x2 : s.heap.IsList r vs2.toArray) (i2 : IntsAre vs2 r2)
    (hl1 : vs1.length ≤ 1000) (hl2 : vs2.length ≤ 1000)
    (h : ∀ h' tk b vs, Ext s.heap h' → ExL h' b vs → s.heap.get? b = none → IntsAre vs (((many : Nat) : Int) :: r1 ++ r2) → Q (.ref b) { s with heap := h', toks := tk }) :
    wpAny (model pw w) A (eval (lcElt lcD) (compEnvC (lcScope lcD) (dCl L) C (dEnv L a cd))) Q E s := by
  refine @wpAny_BinOp _ _ _ _ _ _ _ _ _ _ ?_
  refine @wpAny_BinOp _ _ _ _ _ _ _ _ _ _ ?_
  refine @List_ _ _ _ _ _ _ _ _ ?_
  refine @args_cons _ _ _ _ _ _ _ _ _ ?_ rfl
  refine wpAny_Name (wpAny_loadName_cell rfl rfl (c := L + 1) rfl k1 (args_nil (wpAny_newList ?_ (by size_fits))))
  obtain ⟨h₁, hh₁⟩ : ∃ h', s.heap.push { cls := .type "list", data := .seq [Value.int (many : Nat) u].toArray } = h' := ⟨_, rfl⟩
  have g1 : ExL h₁ s.heap.objs.size [.int (many : Nat) u] := ⟨0, by rw [← hh₁]; exact Heap.get?_push_size _ rfl⟩
  have hk₁ : Ext s.heap h₁ := fun b o e => by rw [← hh₁]; exact Heap.get?_push_of_some _ e
  rw [hh₁]
  refine wpAny_Name (wpAny_loadName_cell (s := ⟨h₁, s.gens, s.drawn, s.toks, s.os⟩) rfl rfl (c := L + 2) rfl (k2.keeps hk₁) (add_ext g1.isList (x1.at fun o e => hk₁ _ o e) (fun h₂ hk₂ x₂ => ?_) (by simp; omega)))
  refine wpAny_Name (wpAny_loadName_local rfl rfl ((hn.keeps hk₁).keeps hk₂) hm (add_ext x₂.isList (x2.at fun o e => hk₂ _ o (hk₁ _ o e)) (fun h₃ hk₃ x₃ => ?_) (by simp; omega)))
  refine h h₃ _ _ _ (fun b o e => hk₃ b o (hk₂ b o (hk₁ b o e))) x₃ ?_ ?_
  · cases e : s.heap.get? h₂.objs.size with
    | none => rfl
    | some o => exact absurd (Heap.lt_size (hk₂ _ _ (hk₁ _ _ e))) (Nat.lt_irrefl _)
  exact IntsAre.cons _ _ (i1.append i2)
end Mine

namespace Mine
open PySem PySem.W PySem.Calls PyProof.Rows

noncomputable def dueR (cn : Nat → List Nat) : Nat → List Nat → Nat → List (List Int)
  | 0, _, _ => []
  | f + 1, l, n => if n = 0 ∨ l = [] then (if n = 0 ∧ l = [] then [[]] else []) else
      (List.range l.length).flatMap fun i => (cn (l.headD 0)).flatMap fun many => (dueR cn f ((l.drop 1).take i) many).flatMap fun one =>
        (dueR cn f (l.drop (i + 1)) (n - 1)).map fun rest => ((many : Nat) : Int) :: one ++ rest

theorem dueR_rows (cn : Nat → List Nat) : ∀ (f : Nat) (l : List Nat) (n : Nat), ∀ r ∈ dueR cn f l n, r.length ≤ l.length
  | 0, _, _, r, h => nomatch h
  | f + 1, l, n, r, h => by
    unfold dueR at h
    split at h
    · split at h
      · rw [List.mem_singleton.mp h]; exact Nat.zero_le _
      · cases h
    · obtain ⟨i, hi, h⟩ := List.mem_flatMap.mp h
      obtain ⟨many, _, h⟩ := List.mem_flatMap.mp h
      obtain ⟨one, h1, h⟩ := List.mem_flatMap.mp h
      obtain ⟨rest, h2, rfl⟩ := List.mem_map.mp h
      have e1 := dueR_rows cn f _ _ one h1
      have e2 := dueR_rows cn f _ _ rest h2
      rw [List.mem_range] at hi
      rw [List.length_take, List.length_drop] at e1
      rw [List.length_drop] at e2
      show (one ++ rest).length + 1 ≤ _
      rw [List.length_append]
      omega

theorem flat_len {α β : Type} (f : α → List β) (k : Nat) : ∀ l : List α, (∀ a ∈ l, (f a).length ≤ k) → (l.flatMap f).length ≤ l.length * k
  | [], _ => by simp
  | a :: r, h => by
    have h1 := h a (.head _)
    have h2 := flat_len f k r fun b hb => h b (.tail _ hb)
    rw [List.flatMap_cons, List.length_append, List.length_cons, Nat.add_mul]
    omega

theorem dueR_count (cn : Nat → List Nat) (hc : ∀ c, (cn c).length ≤ 2) : ∀ (f : Nat) (l : List Nat) (n : Nat), l.length ≤ 4 → (dueR cn f l n).length ≤ 8 ^ l.length
  | 0, l, _, _ => Nat.zero_le _
  | f + 1, l, n, h => by
    unfold dueR
    split
    · split
      · exact Nat.one_le_pow _ _ (by decide)
      · exact Nat.zero_le _
    · rename_i hne
      have hl : l ≠ [] := fun e => hne (.inr e)
      obtain ⟨c, r, rfl⟩ := List.exists_cons_of_ne_nil hl
      rw [List.length_cons] at h ⊢
      refine Nat.le_trans (flat_len _ (2 * 8 ^ r.length) _ fun i hi => ?_) ?_
      · rw [List.mem_range] at hi
        refine Nat.le_trans (flat_len _ (8 ^ r.length) _ fun many _ => ?_) (Nat.mul_le_mul_right _ (hc _))
        have e1 : (dueR cn f (((c :: r).drop 1).take i) many).length ≤ 8 ^ i := by
          have := dueR_count cn hc f (((c :: r).drop 1).take i) many (by rw [List.length_take, List.length_drop, List.length_cons]; omega)
          refine Nat.le_trans this (Nat.pow_le_pow_right (by decide) ?_)
          rw [List.length_take]; omega
        have e2 : (dueR cn f ((c :: r).drop (i + 1)) (n - 1)).length ≤ 8 ^ (r.length - i) := by
          have := dueR_count cn hc f ((c :: r).drop (i + 1)) (n - 1) (by rw [List.length_drop, List.length_cons]; omega)
          refine Nat.le_trans this (Nat.pow_le_pow_right (by decide) ?_)
          rw [List.length_drop, List.length_cons]; omega
        refine Nat.le_trans (flat_len _ (8 ^ (r.length - i)) _ fun one _ => by rw [List.length_map]; exact e2) ?_
        refine Nat.le_trans (Nat.mul_le_mul_right _ e1) ?_
        rw [← Nat.pow_add]
        exact Nat.pow_le_pow_right (by decide) (by omega)
      · rw [List.length_range, ← Nat.mul_assoc, Nat.pow_succ, Nat.mul_comm (8 ^ r.length) 8]
        exact Nat.mul_le_mul_right _ (by omega)
end Mine

namespace Mine
open PySem PySem.W PySem.Calls PyProof.Rows

noncomputable def Cnt (w : World) (h : Heap) (ct : Addr) (cn : Nat → List Nat) : Prop :=
  ∃ f, h.MapOf (PySem.strKind pw w) ct f ∧ ∀ c ∈ [102, 105, 115], ∃ l vs, f ⟨#[c]⟩ = some (.ref l) ∧ h.IsList l vs.toArray ∧ IntsAre vs ((cn c).map fun n => ((n : Nat) : Int))
theorem Cnt.keeps {w : World} {h h' : Heap} {ct : Addr} {cn : Nat → List Nat} (x : Cnt w h ct cn) (hk : Ext h h') : Cnt w h' ct cn := by
  obtain ⟨f, ⟨o, es, ep, ho, r⟩, hp⟩ := x
  exact ⟨f, ⟨o, es, ep, hk _ _ ho, r⟩, fun c hc => let ⟨l, vs, h1, h2, h3⟩ := hp c hc; ⟨l, vs, h1, h2.at fun o e => hk _ o e, h3⟩⟩

noncomputable def DueC (w : World) (cn : Nat → List Nat) (N : Nat) : Prop :=
  ∀ {A : Around} {E : Value → Shared → Prop} {s : Shared} {mg mb : Str → Option Value} {Q : Value → Shared → Prop} {f ct : Addr} {x : Str} {tx : Tok} {names : Nat} {tn : Tok},
    Base mg mb s.heap → FnIs s.heap 16 f → A.handled = none → A.depth + N < recursionLimit → Cnt w s.heap ct cn → WordOk x → x.length < N →
    (∀ h' tk D as, Ext s.heap h' → ExL h' D as → RowsX h' as (dueR cn N x.cps.toList names) → s.heap.objs.size ≤ D → (∀ v ∈ as, ∃ b, v = .ref b ∧ s.heap.get? b = none) → Q (.ref D) { s with heap := h', toks := tk }) →
    wpAny (model pw w) A (call (.ref f) [.ref ct, .str x tx, .int (names : Nat) tn]) Q E s

structure DI (h₀ h : Heap) (L D ct : Addr) (x : Str) (names : Nat) (rs : List (List Int)) (m : Str → Option Value) (v1 v2 : Option Value) : Prop where
  fr : Fr h₀ L h m
  k1 : h.IsCell (L + 1) v1
  k2 : h.IsCell (L + 2) v2
  mc : m "counts" = some (.ref ct)
  mw : ∃ t, m "word" = some (.str x t)
  mn : ∃ t, m "names" = some (.int (names : Nat) t)
  md : m "due" = some (.ref D)
  due : ∃ as, ExL h D as ∧ RowsX h as rs ∧ ∀ v ∈ as, v ≠ .ref D ∧ ∃ b, v = .ref b ∧ h₀.get? b = none
theorem DI.ext {h₀ h h' : Heap} {L D ct : Addr} {x : Str} {names : Nat} {rs : List (List Int)} {m : Str → Option Value} {v1 v2 : Option Value} (X : DI h₀ h L D ct x names rs m v1 v2) (hk : Ext h h') : DI h₀ h' L D ct x names rs m v1 v2 :=
  ⟨frExt X.fr hk, X.k1.keeps hk, X.k2.keeps hk, X.mc, X.mw, X.mn, X.md, let ⟨as, h1, h2, h3⟩ := X.due; ⟨as, h1.at fun _ e => hk _ _ e, h2.keep hk, h3⟩⟩

theorem WordOk.sub {x y : Str} (h : WordOk x) (hy : ∀ c ∈ y.cps.toList, c ∈ x.cps.toList) (hl : y.length ≤ x.length) : WordOk y := ⟨Nat.le_trans hl h.len, fun c hc => h.ok c (hy c hc)⟩

theorem Ext.none {h h' : Heap} {a : Addr} (hk : Ext h h') (e : h'.get? a = none) : h.get? a = none := by
  cases q : h.get? a with
  | none => rfl
  | some o => rw [hk _ _ q] at e; cases e
theorem paired_rows {hX h₁ h' : Heap} {g : List Int → List Int} : ∀ {vs : List Value} {rs : List (List Int)} {ys : List Value}, RowsX hX vs rs →
    Paired (LstIs h₁ (fun v its => ∀ a ws r, v = .ref a → hX.IsList a ws.toArray → IntsAre ws r → IntsAre its.toList (g r)) h') vs ys → RowsX h' ys (rs.map g)
  | _, _, _, .nil, .nil => .nil
  | _, _, _, .cons a ws r hp hi x, .cons ⟨T, its, e, _, hT, hG⟩ y => by
    subst e
    exact .cons T its.toList _ (by simpa using hT) (hG a ws r rfl hp hi) (paired_rows x y)

theorem dld {M : Model} {A : Around} {E : Value → Shared → Prop} {s : Shared} {L a : Addr} {cd : Value} {m : Str → Option Value} {x : Str} {pos : Pos} {v : Value} {Q : Value → Shared → Prop} (hn : s.heap.Ns L m) (hv : m x = some v) (h : Q v s)
    (hl : (dEnv L a cd).kindOf x = some .local := by rfl) (hd : (x == ("__debug__" : Str)) = false := by decide) :
    wpAny M A (eval (.Name x pos) (dEnv L a cd)) Q E s := wpAny_Name (wpAny_loadName_local rfl hl hn hv h) hd

theorem due_elt' {w : World} {A : Around} {s : Shared} {E : Value → Shared → Prop} {Q : Value → Shared → Prop} {C L a one r : Addr} {cd : Value} {m : Str → Option Value} {many : Nat} {u : Tok} {vs1 vs2 : List Value} {r1 r2 : List Int} {e : PySem.Expr} {env : Env}
    (hn : s.heap.Ns C m) (hm : m "rest" = some (.ref r)) (k1 : s.heap.IsCell (L + 1) (some (.int (many : Nat) u))) (k2 : s.heap.IsCell (L + 2) (some (.ref one))) (x1 : s.heap.IsList one vs1.toArray) (i1 : IntsAre vs1 r1) (x2 : s.heap.IsList r vs2.toArray) (i2 : IntsAre vs2 r2)
    (hl1 : vs1.length ≤ 1000) (hl2 : vs2.length ≤ 1000)
    (h : ∀ h' tk b vs, Ext s.heap h' → ExL h' b vs → s.heap.get? b = none → IntsAre vs (((many : Nat) : Int) :: r1 ++ r2) → Q (.ref b) { s with heap := h', toks := tk })
    (he : e = lcElt lcD) (henv : env = compEnvC (lcScope lcD) (dCl L) C (dEnv L a cd)) :
    wpAny (model pw w) A (eval e env) Q E s := by
  subst he henv
  exact @due_elt w A s E Q C L a one r cd m many u vs1 vs2 r1 r2 hn hm k1 k2 x1 i1 x2 i2 hl1 hl2 h

/-- a comprehension whose elements are new lists, what they hold told after the iterable is known -/
theorem comp_new {w : World} {A : Around} {E : Value → Shared → Prop} {env : Env} {s : Shared} {elt iter : PySem.Expr} {x : Str} {px : Pos} {ifs : List PySem.Expr} {scope : Scope} {cl : List (Str × Addr)} {pos : Pos} {Q : Value → Shared → Prop}
    (h1 : closureFor scope env = pure cl) (h2 : ∀ y ∈ scope.names, y.2 ≠ .cell) (h3 : scope.kind = .function) (h4 : ∀ y ∈ scope.names, y.2 = .local → scope.names.lookup y.1 = some .local) (h5 : scope.names.lookup x = some .local)
    (h : wpAny (model pw w) A (eval iter env) (fun xv s₁ => wpAny (model pw w) A (pyIter xv) (fun it s₂ => ∃ I fp wr n P St G, it = .ref I ∧ Walks pw w A I fp wr n P St ∧ n ≤ sizeLine ∧ (∀ i h, St i h → ∀ b ∈ wr, ∃ o, h.get? b = some o) ∧ St 0 s₂.heap ∧
      (∀ b ∈ fp, b < s₂.heap.objs.size) ∧ QuietOnCO pw w A env scope cl x ifs elt wr P (fun _ => true) G s₂ ∧
      (∀ D h' tk ys (vs : List Value), s₂.heap.get? D = none → ExL h' D ys → vs.length = n → (∀ j v, vs[j]? = some v → P j v) → Paired (LstIs s₂.heap G h') vs ys → (∀ b o, b ∉ wr → s₂.heap.get? b = some o → h'.get? b = some o) →
        Q (.ref D) { s₂ with heap := h', toks := tk })) E s₁) E s)
    (hs : ∀ v, foldedSetIterable iter env v = pure v := by intro _; rfl) : wpAny (model pw w) A (eval (.ListComp elt [⟨.Name x px, iter, ifs, 0⟩] scope pos) env) Q E s := by
  rw [eval_ListComp]
  refine wpAny_comprehension_free (use := none) rfl hs h1 h3 h4 (wpAny_mono h (fun xv s₁ q => wpAny_mono q (fun it s₂ q₂ => ?_) fun _ _ e => e) fun _ _ e => e)
  obtain ⟨I, fp, wr, n, P, St, G, rfl, W, g1, g2, g3, g4, g5, g6⟩ := q₂
  refine comp_block_walkCO (RR := fun acc C => compPost (model pw w) A E none Q acc C) W g1 (fun _ => true) G g2 h2 h3 h5 g3 g4 g5 ?_
  intro D C h' tk m' ys vs nD nC nDC hn _ hp hl hP hF _ hk
  refine ⟨m', hn, fun h'' hs'' => g6 D h'' tk ys.toList vs nD (by rw [ExL, Array.toArray_toList]; exact hp.extBut hs''.extBut nDC) hl hP ?_ fun b o hb e => hs''.extBut b o (by rintro rfl; rw [nC] at e; cases e) (hk b o hb e)⟩
  rw [List.filter_eq_self.mpr (by simp)] at hF
  exact hF.mono fun _ _ hy => by
    obtain ⟨T, its, rfl, a, b, _, _, c, d⟩ := hy
    exact ⟨T, its, rfl, a, c.extBut hs''.extBut b, d⟩

theorem isL {h h' : Heap} {a : Addr} {its : Array Value} (x : h.IsList a its) (hk : Ext h h') : h'.IsList a its := x.at fun _ e => hk _ _ e
theorem IntsAre.inj2 {vs : List Value} {a b : List Int} (x : IntsAre vs a) (y : IntsAre vs b) : a = b := by rw [← x.numsOf, y.numsOf]

theorem ext_stmt {w : World} {A : Around} {mg mb : Str → Option Value} {h₀ : Heap} {s : Shared} {L a D ct one : Addr} {cd : Value} {m : Str → Option Value} {cn : Nat → List Nat} {names f i many : Nat} {x : Str} {tm ts : Tok} {vs1 : List Value} {r1 : List Int} {rs : List (List Int)} {Q : Flow → Shared → Prop}
    (B : Base mg mb h₀) (rec_ : DueC w cn f) (hA : A.handled = none) (hroom : A.depth + f < recursionLimit) (K : Cnt w h₀ ct cn) (hx : WordOk x) (hxf : x.length ≤ f) (hi : i < x.length) (hnm : 1 ≤ names) (hc2 : ∀ c, (cn c).length ≤ 2)
    (X : DI h₀ s.heap L D ct x names rs m (some (.int (many : Nat) tm)) (some (.ref one))) (h0D : h₀.objs.size ≤ D) (hLD : L + 2 < D) (hs : m "size" = some (.int ((i + 1 : Nat) : Int) ts)) (x1 : s.heap.IsList one vs1.toArray) (i1 : IntsAre vs1 r1) (hl1 : r1.length ≤ 10) (hrs : rs.length ≤ 100000)
    (h : ∀ h' tk, (∀ b o, b ≠ D → s.heap.get? b = some o → h'.get? b = some o) → DI h₀ h' L D ct x names (rs ++ (dueR cn f (x.cps.toList.drop (i + 1)) (names - 1)).map fun r => ((many : Nat) : Int) :: r1 ++ r) m (some (.int (many : Nat) tm)) (some (.ref one)) → Q .next { s with heap := h', toks := tk }) :
    wpAny (model pw w) A (exec extStmt (dEnv L a cd)) Q (fun _ _ => False) s := by
  obtain ⟨as, hD, hR, hnD⟩ := X.due
  obtain ⟨tw, hw⟩ := X.mw
  obtain ⟨tn, hn⟩ := X.mn
  have hxl : x.cps.toList.length = x.length := Array.length_toList
  have hx4 := hx.len
  refine wpAny_Expr ?_
  refine Call_method1 (prog := pw) (w := w) ?_ ?_ ?_ ?_
  · rfl
  · rfl
  · rfl
  refine wpAny_Name (wpAny_loadName_local rfl rfl X.fr.ns X.md ⟨"list", _, PySem.F.plainAttrs_list, PySem.F.slot_list_extend, PySem.F.type_list_extend, hD.isList.typeIs, fun b e => ?_, ?_⟩)
  · obtain ⟨n, e2⟩ := hD
    cases e
    exact ⟨_, e2, rfl⟩
  refine Calls.callWith_builtin rfl (Calls.evalArgs_plain (Calls.spliced_cons ?_))
  have hDl : @LT.lt Nat _ D s.heap.objs.size := by obtain ⟨n, e⟩ := hD; exact Heap.lt_size e
  have B' : Base mg mb s.heap := B.keeps X.fr.keep
  have K' : Cnt w s.heap ct cn := K.keeps X.fr.keep
  refine comp_new (cl := dCl L) ?_ ?_ ?_ ?_ ?_ ?_
  · rfl
  · decide +kernel
  · rfl
  · decide +kernel
  · rfl
  refine fn_callC (i := 16) B' (by decide) ?_ ?_ ?_ ?_ ?_ ?_
  · rfl
  · rfl
  · rfl
  · rfl
  · rfl
  intro fa hfa
  refine args_cons (dld X.fr.ns X.mc ?_)
  refine args_cons ?_
  refine Subscript_Slice (dld X.fr.ns hw (wpAny_Slice (dld X.fr.ns hs (evalPart_none_step (evalPart_none_step ?_)))))
  refine SBH.sliceItem_sn (P := fun h => Ext s.heap h) (fun h ob hk b oo e => Heap.get?_push_of_some _ (hk b oo e)) (fun _ _ e => e) (fun h₁ t₁ k₁ hk₁ => ?_) (by rw [sizeLine_eq]; omega)
  have X₁ := X.ext hk₁
  refine args_cons ?_
  refine @wpAny_BinOp _ _ _ _ _ _ _ _ _ _ ?_
  refine dld X₁.fr.ns hn ?_
  refine wpAny_Constant_int (P.sub_int (args_nil ⟨hk₁, ?_⟩))
  have en : ((names : Nat) : Int) - 1 = ((names - 1 : Nat) : Int) := by omega
  rw [en]
  have hsl := slice_a x (a := i + 1) (by omega)
  obtain ⟨y, hy⟩ : ∃ y, Txt.slice x (some ((i + 1 : Nat) : Int)) none = y := ⟨_, rfl⟩
  rw [hy] at hsl ⊢
  have hyl : y.length = x.length - (i + 1) := by
    have : y.cps.toList.length = y.length := Array.length_toList
    rw [← this, hsl, List.length_drop, hxl]
  refine rec_ (B'.keeps hk₁) (hfa.keeps hk₁) hA hroom (K'.keeps hk₁) (hx.sub (fun c hc => by rw [hsl] at hc; exact List.mem_of_mem_drop hc) (by omega)) (by omega) fun h₂ k₂ D₂ as₂ hk₂ x₂ R₂ _ _ => ?_
  rw [hsl] at R₂
  obtain ⟨rows, hrows⟩ : ∃ q, dueR cn f (x.cps.toList.drop (i + 1)) (names - 1) = q := ⟨_, rfl⟩
  have hrl : rows.length ≤ 4096 := by
    rw [← hrows]
    refine Nat.le_trans (dueR_count cn hc2 _ _ _ (by rw [List.length_drop]; omega)) ?_
    exact Nat.le_trans (Nat.pow_le_pow_right (by decide) (by rw [List.length_drop]; omega)) (show 8 ^ 4 ≤ 4096 by decide)
  have hrr : ∀ r ∈ rows, r.length ≤ 4 := fun r hr => by
    rw [← hrows] at hr
    have := dueR_rows cn _ _ _ r hr
    rw [List.length_drop] at this; omega
  rw [hrows] at R₂ h
  have hal : as₂.length = rows.length := R₂.len
  refine wpAny_pyIter_list x₂.isList ?_
  have X₂ := X₁.ext hk₂
  have hD₂l : @LT.lt Nat _ D₂ h₂.objs.size := by obtain ⟨n, e⟩ := x₂; exact Heap.lt_size e
  obtain ⟨h₃, hh₃⟩ : ∃ q, h₂.push { cls := .type "list_iterator", data := .fields #[.ref D₂, .int 0 0] } = q := ⟨_, rfl⟩
  have hk₃ : Ext h₂ h₃ := fun b o e => by rw [← hh₃]; exact Heap.get?_push_of_some _ e
  have hs₃ : h₃.objs.size = h₂.objs.size + 1 := by rw [← hh₃, Heap.size_push]
  have hD₂I : D₂ ≠ h₂.objs.size := Nat.ne_of_lt hD₂l
  have hI : h₃.IsListIter h₂.objs.size D₂ 0 := by rw [← hh₃]; exact ⟨_, Heap.get?_push_size _ rfl, rfl, rfl⟩
  dsimp only
  rw [hh₃]
  refine ⟨h₂.objs.size, _, _, _, _, _, fun v its => ∀ a ws r, v = .ref a → h₂.IsList a ws.toArray → IntsAre ws r → IntsAre its.toList (((many : Nat) : Int) :: r1 ++ r), rfl, Walks.list hA _ D₂ hD₂I as₂.toArray, ?_, ?_, ⟨hI, isL x₂.isList hk₃⟩, ?_, ?_, ?_⟩
  · rw [List.size_toArray, sizeLine_eq]; omega
  · rintro j h ⟨⟨o, ho, _⟩, _⟩ b hb
    rw [List.mem_singleton.mp hb]
    exact ⟨o, ho⟩
  · intro b hb
    simp only [List.mem_cons, List.not_mem_nil, or_false] at hb
    show @LT.lt Nat _ b h₃.objs.size
    rcases hb with rfl | rfl
    · omega
    · omega
  · refine ⟨fun C j v s₃ m₃ E' _ hP hn₃ hm₃ hk htk₃ => ?_, fun C j v s₃ m₃ E' _ hP hpv hn₃ hm₃ hk htk₃ => ?_⟩
    · exact wpAny_pure ⟨rfl, s₃.heap, s₃.toks, rfl, fun _ _ e => e⟩
    · have hold : Ext h₂ s₃.heap := fun b o e => hk b o (by rw [List.mem_singleton]; exact Nat.ne_of_lt (Heap.lt_size e)) (hk₃ b o e)
      obtain ⟨r, ws, rr, rfl, h1, h2, h3⟩ := R₂.at j v (by simpa using hP)
      have X₃ := X₂.ext hold
      refine @due_elt' w _ _ _ _ C L a one r cd _ many tm vs1 ws r1 rr _ _ hn₃ hm₃ X₃.k1 X₃.k2 (isL (isL (isL x1 hk₁) hk₂) hold) i1 (isL h2 hold) h3 ?_ ?_ (fun h' tk b vs hk' hb hnew hi => ⟨⟨b, vs.toArray, rfl, hnew, hb.isList, fun a' ws' r' e hl' hi' => ?_⟩, h', tk, rfl, hk'⟩) ?_ ?_
      · rw [i1.length]; omega
      · rw [h3.length]
        have := hrr rr (List.mem_of_getElem? h1)
        omega
      · cases e
        have : ws' = ws := by
          obtain ⟨o, e1, _, n1, d1⟩ := hl'
          obtain ⟨o', e2, _, n2, d2⟩ := h2
          rw [e1] at e2; cases e2
          rw [d1] at d2; cases d2; rfl
        subst this
        rw [IntsAre.inj2 hi' h3]
        exact hi
      · rfl
      · rfl
  · intro D₃ h₄ tk₄ ys vs hD₃ x₄ hvl hvs hF hk₄
    have hold : Ext h₂ h₄ := fun b o e => hk₄ b o (by rw [List.mem_singleton]; exact Nat.ne_of_lt (Heap.lt_size e)) (hk₃ b o e)
    have hvs' : vs = as₂ := by
      refine List.ext_getElem? fun j => ?_
      cases e : vs[j]? with
      | some v => rw [← hvs j v e]; simp
      | none =>
        have h1 := List.getElem?_eq_none_iff.mp e
        rw [List.getElem?_eq_none]
        rw [hvl, List.size_toArray] at h1
        exact h1
    subst hvs'
    have R₄ := paired_rows R₂ hF
    have X₄ := X₂.ext hold
    have hall : Ext s.heap h₄ := fun b o e => hold b o (hk₂ b o (hk₁ b o e))
    have hyn : ∀ y ∈ ys, y ≠ .ref D ∧ ∃ b, y = .ref b ∧ h₀.get? b = none := by
      intro y hy
      obtain ⟨v, T, its, rfl, hT, _⟩ := Paired.right hF y hy
      have hn : s.heap.get? T = none := Ext.none (fun b o e => hk₃ _ _ (hk₂ _ _ (hk₁ _ _ e))) hT
      refine ⟨fun e => ?_, T, rfl, Ext.none X.fr.keep hn⟩
      cases e
      obtain ⟨n, e2⟩ := hD
      rw [e2] at hn
      cases hn
    have hyl' : ys.length = rows.length := by rw [← hF.length]; exact hal
    have hasl : as.length = rs.length := hR.len
    refine Calls.spliced_nil ?_
    refine @extend_ext w _ _ _ D D₃ as ys _ (hD.at fun o e => hall _ _ e) x₄ (fun h₅ hs₅ x₅ => ?_) (by omega)
    have hk₅ : ∀ b o, b ≠ D → s.heap.get? b = some o → h₅.get? b = some o := fun b o hb e => hs₅.extBut b o hb (hall b o e)
    refine h h₅ _ hk₅ ⟨frBut X₄.fr hs₅ h0D (Nat.ne_of_lt (Nat.lt_of_succ_lt (Nat.lt_of_succ_lt hLD))), X₄.k1.sameBut hs₅ (Nat.ne_of_lt (Nat.lt_of_succ_lt hLD)), X₄.k2.sameBut hs₅ (Nat.ne_of_lt hLD), X.mc, X.mw, X.mn, X.md, as ++ ys, x₅, ?_, ?_⟩
    · exact ((hR.keep hall).append R₄).keepBut (fun v hv => by
        rcases List.mem_append.mp hv with q | q
        · exact (hnD v q).1
        · exact (hyn v q).1) fun b o hb e => hs₅.extBut b o hb e
    · intro v hv
      rcases List.mem_append.mp hv with q | q
      · exact hnD v q
      · exact hyn v q
end Mine

namespace Mine
open PySem PySem.W PySem.Calls PyProof.Rows

theorem DI.cell2 {h₀ h h' : Heap} {L D ct : Addr} {x : Str} {names : Nat} {rs : List (List Int)} {m : Str → Option Value} {v1 v2 v : Option Value} (X : DI h₀ h L D ct x names rs m v1 v2) (hs : Heap.SameBut (L + 2) h h') (hc : h'.IsCell (L + 2) v) (hLD : L + 2 < D) (h0L : h₀.objs.size ≤ L) : DI h₀ h' L D ct x names rs m v1 v := by
  obtain ⟨as, h1, h2, h3⟩ := X.due
  obtain ⟨oc, hoc, hdc⟩ := X.k2
  have hne : ∀ v ∈ as, v ≠ .ref (L + 2) := by
    intro v hv e
    obtain ⟨j, hj⟩ := List.getElem?_of_mem hv
    obtain ⟨a, ws, r, rfl, _, ⟨o, ho, _, n, hd⟩, _⟩ := h2.at j v hj
    cases e
    rw [hoc] at ho; cases ho
    rw [hdc] at hd; cases hd
  exact ⟨frBut X.fr hs (Nat.le_trans h0L (Nat.le_add_right _ _)) (Nat.ne_of_lt (Nat.lt_of_lt_of_le (Nat.lt_succ_self _) (Nat.le_succ _))), X.k1.sameBut hs (Nat.ne_of_lt (Nat.lt_succ_self _)), hc, X.mc, X.mw, X.mn, X.md, as,
    h1.at fun o e => hs.extBut _ o (Nat.ne_of_gt hLD) e, h2.keepBut hne fun b o hb e => hs.extBut b o hb e, h3⟩
theorem DI.cell1 {h₀ h h' : Heap} {L D ct : Addr} {x : Str} {names : Nat} {rs : List (List Int)} {m : Str → Option Value} {v1 v2 v : Option Value} (X : DI h₀ h L D ct x names rs m v1 v2) (hs : Heap.SameBut (L + 1) h h') (hc : h'.IsCell (L + 1) v) (hLD : L + 2 < D) (h0L : h₀.objs.size ≤ L) : DI h₀ h' L D ct x names rs m v v2 := by
  obtain ⟨as, h1, h2, h3⟩ := X.due
  obtain ⟨oc, hoc, hdc⟩ := X.k1
  have hne : ∀ v ∈ as, v ≠ .ref (L + 1) := by
    intro v hv e
    obtain ⟨j, hj⟩ := List.getElem?_of_mem hv
    obtain ⟨a, ws, r, rfl, _, ⟨o, ho, _, n, hd⟩, _⟩ := h2.at j v hj
    cases e
    rw [hoc] at ho; cases ho
    rw [hdc] at hd; cases hd
  exact ⟨frBut X.fr hs (Nat.le_trans h0L (Nat.le_add_right _ _)) (Nat.ne_of_lt (Nat.lt_succ_self _)), hc, X.k2.sameBut hs (Nat.ne_of_gt (Nat.lt_succ_self _)), X.mc, X.mw, X.mn, X.md, as,
    h1.at fun o e => hs.extBut _ o (Nat.ne_of_gt (Nat.lt_of_succ_lt hLD)) e, h2.keepBut hne fun b o hb e => hs.extBut b o hb e, h3⟩
theorem DI.but {h₀ h h' : Heap} {L D ct I : Addr} {x : Str} {names : Nat} {rs : List (List Int)} {m : Str → Option Value} {v1 v2 : Option Value} {oI : Obj} {fs : Array Value} (X : DI h₀ h L D ct x names rs m v1 v2) (hI : h₀.get? I = none) (hIL : I ≠ L) (hIo : h.get? I = some oI) (hId : oI.data = .fields fs)
    (hk : ∀ b o, b ≠ I → h.get? b = some o → h'.get? b = some o) : DI h₀ h' L D ct x names rs m v1 v2 := by
  obtain ⟨as, h1, h2, h3⟩ := X.due
  have hf : Fr h₀ L h' m := ⟨X.fr.ns.at' fun o e => hk _ _ (Ne.symm hIL) e, fun b o e => hk b o (fun q => by rw [q, hI] at e; cases e) (X.fr.keep b o e), X.fr.above⟩
  have hnd : ∀ b o, h.get? b = some o → (∀ fs, o.data ≠ .fields fs) → b ≠ I := by
    rintro b o e hd rfl
    rw [hIo] at e; cases e
    exact hd fs hId
  refine ⟨hf, ?_, ?_, X.mc, X.mw, X.mn, X.md, as, h1.at fun o e => hk _ o (hnd _ _ e ?_) e, h2.keepBut ?_ fun b o hb e => hk b o hb e, h3⟩
  · obtain ⟨o, e, d⟩ := X.k1
    exact ⟨o, hk _ _ (hnd _ _ e fun fs q => by rw [d] at q; cases q) e, d⟩
  · obtain ⟨o, e, d⟩ := X.k2
    exact ⟨o, hk _ _ (hnd _ _ e fun fs q => by rw [d] at q; cases q) e, d⟩
  · obtain ⟨n, e2⟩ := h1
    rw [e2] at e; cases e
    intro fs q; cases q
  · intro v hv e
    obtain ⟨j, hj⟩ := List.getElem?_of_mem hv
    obtain ⟨a, ws, r, rfl, _, ⟨o, ho, _, n, hd⟩, _⟩ := h2.at j v hj
    exact hnd _ _ ho (fun fs q => by rw [hd] at q; cases q) (Value.ref.inj e)
end Mine

namespace Mine
open PySem PySem.W PySem.Calls PyProof.Rows

noncomputable def onesR (cn : Nat → List Nat) (f : Nat) (l : List Nat) (names i many : Nat) : List (List Int) → List (List Int) := fun ones =>
  ones.flatMap fun one => (dueR cn f (l.drop (i + 1)) (names - 1)).map fun rest => ((many : Nat) : Int) :: one ++ rest

theorem one_stmt {w : World} {A : Around} {mg mb : Str → Option Value} {h₀ : Heap} {s : Shared} {L a D ct : Addr} {cd : Value} {m : Str → Option Value} {cn : Nat → List Nat} {names f i many : Nat} {x : Str} {tm ts : Tok} {rs : List (List Int)} {v2 : Option Value} {Q : Flow → Shared → Prop}
    (B : Base mg mb h₀) (rec_ : DueC w cn f) (hA : A.handled = none) (hroom : A.depth + f < recursionLimit) (K : Cnt w h₀ ct cn) (hx : WordOk x) (hxf : x.length ≤ f) (hi : i < x.length) (hnm : 1 ≤ names) (hc2 : ∀ c, (cn c).length ≤ 2)
    (X : DI h₀ s.heap L D ct x names rs m (some (.int (many : Nat) tm)) v2) (h0L : h₀.objs.size ≤ L) (hLD : L + 2 < D) (hs : m "size" = some (.int ((i + 1 : Nat) : Int) ts))
    (hrs : (rs ++ onesR cn f x.cps.toList names i many (dueR cn f ((x.cps.toList.drop 1).take i) many)).length ≤ 100000)
    (h : ∀ h' tk v2', (∀ b o, b ≠ D → b ≠ L + 2 → s.heap.get? b = some o → h'.get? b = some o) → DI h₀ h' L D ct x names (rs ++ onesR cn f x.cps.toList names i many (dueR cn f ((x.cps.toList.drop 1).take i) many)) m (some (.int (many : Nat) tm)) v2' → Q .next { s with heap := h', toks := tk }) :
    wpAny (model pw w) A (exec oneFor (dEnv L a cd)) Q (fun _ _ => False) s := by
  obtain ⟨tw, hw⟩ := X.mw
  have hxl : x.cps.toList.length = x.length := Array.length_toList
  have hx4 := hx.len
  have B' : Base mg mb s.heap := B.keeps X.fr.keep
  have K' : Cnt w s.heap ct cn := K.keeps X.fr.keep
  refine @wpAny_For _ _ _ _ _ _ _ _ _ _ _ ?_ (fun _ => rfl)
  refine fn_callC (i := 16) B' (by decide) ?_ ?_ ?_ ?_ ?_ ?_
  · rfl
  · rfl
  · rfl
  · rfl
  · rfl
  intro fa hfa
  refine args_cons (dld X.fr.ns X.mc ?_)
  refine args_cons ?_
  refine Subscript_Slice (dld X.fr.ns hw (wpAny_Slice (evalPart_some_step (wpAny_Constant_int (dld X.fr.ns hs (evalPart_none_step ?_))))))
  refine SBH.sliceItem_ss (P := fun h => Ext s.heap h) (fun h ob hk b oo e => Heap.get?_push_of_some _ (hk b oo e)) (fun _ _ e => e) (fun h₁ t₁ k₁ hk₁ => ?_) (by rw [sizeLine_eq]; omega)
  have X₁ := X.ext hk₁
  refine args_cons (wpAny_Name (wpAny_loadName_cell rfl rfl (c := L + 1) rfl X₁.k1 (args_nil ⟨hk₁, ?_⟩)))
  have hsl := slice_ab x (a := 1) (b := i + 1) (by omega) (by omega)
  have ets : (x.cps.toList.take (i + 1)).drop 1 = (x.cps.toList.drop 1).take i := by rw [List.drop_take]; rfl
  rw [ets] at hsl
  obtain ⟨y, hy⟩ : ∃ y, Txt.slice x (some ((1 : Nat) : Int)) (some ((i + 1 : Nat) : Int)) = y := ⟨_, rfl⟩
  have hy' : Txt.slice x (some (1 : Int)) (some ((i + 1 : Nat) : Int)) = y := hy
  rw [hy] at hsl
  rw [hy']
  have hyl : y.length = i := by
    have : y.cps.toList.length = y.length := Array.length_toList
    rw [← this, hsl, List.length_take, List.length_drop, hxl]; omega
  refine rec_ (B'.keeps hk₁) (hfa.keeps hk₁) hA hroom (K'.keeps hk₁) (hx.sub (fun c hc => by rw [hsl] at hc; exact List.mem_of_mem_drop (List.mem_of_mem_take hc)) (by omega)) (by omega) fun h₂ k₂ D₂ as₂ hk₂ x₂ R₂ hD₂ hn₂ => ?_
  rw [hsl] at R₂
  obtain ⟨ones, hones⟩ : ∃ q, dueR cn f ((x.cps.toList.drop 1).take i) many = q := ⟨_, rfl⟩
  have hol : ones.length ≤ 4096 := by
    rw [← hones]
    have hll : ((x.cps.toList.drop 1).take i).length ≤ 4 := by rw [List.length_take]; omega
    exact Nat.le_trans (dueR_count cn hc2 _ _ _ hll) (Nat.le_trans (Nat.pow_le_pow_right (by decide) hll) (show 8 ^ 4 ≤ 4096 by decide))
  have hor : ∀ r ∈ ones, r.length ≤ 4 := fun r hr => by
    rw [← hones] at hr
    have := dueR_rows cn _ _ _ r hr
    rw [List.length_take] at this; omega
  rw [hones] at R₂ h hrs
  have hal : as₂.length = ones.length := R₂.len
  refine wpAny_pyIter_list x₂.isList ?_
  have X₂ := X₁.ext hk₂
  have hD₂l : @LT.lt Nat _ D₂ h₂.objs.size := by obtain ⟨n, e⟩ := x₂; exact Heap.lt_size e
  obtain ⟨h₃, hh₃⟩ : ∃ q, h₂.push { cls := .type "list_iterator", data := .fields #[.ref D₂, .int 0 0] } = q := ⟨_, rfl⟩
  have hk₃ : Ext h₂ h₃ := fun b o e => by rw [← hh₃]; exact Heap.get?_push_of_some _ e
  have hD₂I : D₂ ≠ h₂.objs.size := Nat.ne_of_lt hD₂l
  have hI : h₃.IsListIter h₂.objs.size D₂ 0 := by rw [← hh₃]; exact ⟨_, Heap.get?_push_size _ rfl, rfl, rfl⟩
  dsimp only
  rw [hh₃]
  obtain ⟨I, hIe⟩ : ∃ I, h₂.objs.size = I := ⟨_, rfl⟩
  have X₃ := X₂.ext hk₃
  have hDl : @LT.lt Nat _ D h₁.objs.size := by obtain ⟨as, ⟨n, e⟩, _⟩ := X₁.due; exact Heap.lt_size e
  have h12 : @LE.le Nat _ h₁.objs.size h₂.objs.size := Nat.le_of_lt (Nat.lt_of_le_of_lt hD₂ hD₂l)
  have hall : Ext s.heap h₃ := fun b o e => hk₃ b o (hk₂ b o (hk₁ b o e))
  have hg0 : ∀ r, onesR cn f x.cps.toList names i many r = r.flatMap fun one => (dueR cn f (x.cps.toList.drop (i + 1)) (names - 1)).map fun rest => ((many : Nat) : Int) :: one ++ rest := fun _ => rfl
  have asD : ∀ v ∈ as₂, v ≠ .ref D := by
    intro v hv e
    obtain ⟨b, rfl, hb⟩ := hn₂ v hv
    cases e
    obtain ⟨as, ⟨n, e⟩, _⟩ := X₁.due
    rw [e] at hb; cases hb
  have asC : ∀ v ∈ as₂, v ≠ .ref (L + 2) := by
    intro v hv e
    obtain ⟨b, rfl, hb⟩ := hn₂ v hv
    cases e
    obtain ⟨o, e, _⟩ := X₁.k2
    rw [e] at hb; cases hb
  have asI : ∀ v ∈ as₂, v ≠ .ref I := by
    intro v hv e
    obtain ⟨j, hj⟩ := List.getElem?_of_mem hv
    obtain ⟨b, ws, r, rfl, _, ⟨o, ho, _⟩, _⟩ := R₂.at j v hj
    cases e
    exact absurd hIe (Nat.ne_of_gt (Heap.lt_size ho))
  rw [hIe] at hI hD₂I ⊢
  have hID : I ≠ D := Nat.ne_of_gt (by omega)
  have hIlt : ∀ b, @LT.lt Nat _ b h₂.objs.size → b ≠ I := fun b hb => by rw [← hIe]; exact Nat.ne_of_lt hb
  have hD₂D : D₂ ≠ D := Nat.ne_of_gt (Nat.lt_of_lt_of_le hDl hD₂)
  have hD₂C : D₂ ≠ L + 2 := Nat.ne_of_gt (Nat.lt_of_lt_of_le (Nat.lt_trans hLD hDl) hD₂)
  have hIC : I ≠ L + 2 := Nat.ne_of_gt (Nat.lt_of_lt_of_le (Nat.lt_trans hLD hDl) (hIe ▸ h12))
  have hIL : I ≠ L := Nat.ne_of_gt (Nat.lt_of_lt_of_le (Nat.lt_trans (Nat.lt_of_succ_lt (Nat.lt_of_succ_lt hLD)) hDl) (hIe ▸ h12))
  have hI0 : h₀.get? I = none := by
    cases e : h₀.get? I with
    | none => rfl
    | some o => exact absurd hIe (Nat.ne_of_gt (Heap.lt_size (hk₂ _ _ (hk₁ _ _ (X.fr.keep _ _ e)))))
  refine for_gen (Q := Q) (Walks.list hA I D₂ hD₂I as₂.toArray) (s := ⟨h₃, s.gens, s.drawn, k₂, s.os⟩) ⟨hI, isL x₂.isList hk₃⟩ (fun j h' => (∃ v2', DI h₀ h' L D ct x names (rs ++ onesR cn f x.cps.toList names i many (ones.take j)) m (some (.int (many : Nat) tm)) v2') ∧ RowsX h' as₂ ones ∧
    (∀ b o, b ≠ D → b ≠ L + 2 → s.heap.get? b = some o → h'.get? b = some o)) ?_ ?_ ?_ ?_ ?_
  · exact ⟨⟨v2, by simpa [onesR] using X₃⟩, R₂.keep hk₃, fun b o _ _ e => hall b o e⟩
  · rintro j h' h'' ⟨⟨o, ho, _, hd⟩, _⟩ hk ⟨⟨v2', Y⟩, R, hkk⟩
    have hk' : ∀ b o, b ≠ I → h'.get? b = some o → h''.get? b = some o := fun b o hb e => hk b o (by rw [List.mem_singleton]; exact hb) e
    exact ⟨⟨v2', Y.but hI0 hIL ho hd hk'⟩, R.keepBut asI hk', fun b o h1 h2 e => hk' b o (hIlt b (Heap.lt_size (hk₂ _ _ (hk₁ _ _ e)))) (hkk b o h1 h2 e)⟩
  · rintro j v s₁ hj hP ⟨⟨v2', Y⟩, R, hkk⟩ ⟨hit, hil⟩ hg hd ho
    have hP' : as₂[j]? = some v := by simpa using hP
    obtain ⟨b, ws, r, rfl, h1, h2, h3⟩ := R.at j v hP'
    refine wpAny_assign_Name (wpAny_storeName_cell rfl rfl (c := L + 2) rfl Y.k2 (fun h₅ hc₅ hs₅ => ?_))
    have Y₅ := Y.cell2 hs₅ hc₅ hLD h0L
    have hbC : b ≠ L + 2 := fun e => asC _ (List.mem_of_getElem? hP') (by rw [e])
    have etake : onesR cn f x.cps.toList names i many (ones.take (j + 1)) = onesR cn f x.cps.toList names i many (ones.take j) ++ (dueR cn f (x.cps.toList.drop (i + 1)) (names - 1)).map fun rest => ((many : Nat) : Int) :: r ++ rest := by
      unfold onesR
      rw [List.take_add_one, h1, List.flatMap_append]
      simp
    have hpre : (rs ++ onesR cn f x.cps.toList names i many (ones.take j)).length ≤ 100000 := by
      have e := List.take_append_drop j ones
      have : onesR cn f x.cps.toList names i many ones = onesR cn f x.cps.toList names i many (ones.take j) ++ onesR cn f x.cps.toList names i many (ones.drop j) := by
        unfold onesR
        rw [← List.flatMap_append, e]
      rw [this, List.length_append, List.length_append] at hrs
      rw [List.length_append]
      omega
    refine @wpAny_execs_cons _ _ _ _ _ _ _ _ ?_
    refine @ext_stmt w _ mg mb h₀ _ L a D ct b cd m cn names f i many x tm ts ws r _ _ B rec_ hA hroom K hx hxf hi hnm hc2 Y₅ (Nat.le_trans h0L (Nat.le_of_lt (Nat.lt_of_succ_lt (Nat.lt_of_succ_lt hLD)))) hLD hs (h2.at fun o e => hs₅.extBut _ o hbC e) h3 ?_ hpre (fun h₆ tk₆ hk₆ Y₆ => ?_)
    · have := hor r (List.mem_of_getElem? h1)
      omega
    · refine wpAny_execs_nil ⟨.inl rfl, h₆, tk₆, rfl, ?_, ⟨some (.ref b), ?_⟩, ?_, ?_⟩
      · intro b' hb' o e
        simp only [List.mem_cons, List.not_mem_nil, or_false] at hb'
        rcases hb' with rfl | rfl
        · exact hk₆ _ o hID (hs₅.extBut _ o hIC e)
        · exact hk₆ _ o hD₂D (hs₅.extBut _ o hD₂C e)
      · rw [etake, ← List.append_assoc]; exact Y₆
      · exact @RowsX.keepBut h₅ h₆ D _ _ (@RowsX.keepBut _ h₅ (L + 2) _ _ R asC fun b o hb e => hs₅.extBut b o hb e) asD hk₆
      · exact fun b o h1 h2 e => hk₆ b o h1 (hs₅.extBut b o h2 (hkk b o h1 h2 e))
  · rintro h' tk ⟨⟨v2', Y⟩, R, hkk⟩
    refine h h' tk v2' hkk ?_
    have : ones.take as₂.toArray.size = ones := by rw [List.size_toArray, hal, List.take_length]
    rwa [this] at Y
  · exact fun f s' q => q
end Mine

namespace Mine
open PySem PySem.W PySem.Calls PyProof.Rows

noncomputable def manysR (cn : Nat → List Nat) (f : Nat) (l : List Nat) (names i : Nat) (ms : List Nat) : List (List Int) :=
  ms.flatMap fun many => onesR cn f l names i many (dueR cn f ((l.drop 1).take i) many)

theorem many_stmt {w : World} {A : Around} {mg mb : Str → Option Value} {h₀ : Heap} {s : Shared} {L a D ct : Addr} {cd : Value} {m : Str → Option Value} {cn : Nat → List Nat} {names f i : Nat} {x : Str} {ts : Tok} {rs : List (List Int)} {v1 v2 : Option Value} {Q : Flow → Shared → Prop}
    (B : Base mg mb h₀) (rec_ : DueC w cn f) (hA : A.handled = none) (hroom : A.depth + f < recursionLimit) (K : Cnt w h₀ ct cn) (hx : WordOk x) (hxf : x.length ≤ f) (hi : i < x.length) (hnm : 1 ≤ names) (hc2 : ∀ c, (cn c).length ≤ 2)
    (X : DI h₀ s.heap L D ct x names rs m v1 v2) (h0L : h₀.objs.size ≤ L) (hLD : L + 2 < D) (hs : m "size" = some (.int ((i + 1 : Nat) : Int) ts))
    (hrs : (rs ++ manysR cn f x.cps.toList names i (cn (x.cps.toList.headD 0))).length ≤ 100000)
    (h : ∀ h' tk v1' v2', (∀ b o, b ≠ D → b ≠ L + 1 → b ≠ L + 2 → s.heap.get? b = some o → h'.get? b = some o) → DI h₀ h' L D ct x names (rs ++ manysR cn f x.cps.toList names i (cn (x.cps.toList.headD 0))) m v1' v2' → Q .next { s with heap := h', toks := tk }) :
    wpAny (model pw w) A (exec manyFor (dEnv L a cd)) Q (fun _ _ => False) s := by
  obtain ⟨tw, hw⟩ := X.mw
  have hxl : x.cps.toList.length = x.length := Array.length_toList
  have hx4 := hx.len
  have K' : Cnt w s.heap ct cn := K.keeps X.fr.keep
  refine @wpAny_For _ _ _ _ _ _ _ _ _ _ _ ?_ (fun _ => rfl)
  have hne : x.cps.toList ≠ [] := fun e => by rw [e] at hxl; simp at hxl; omega
  obtain ⟨c, hc⟩ : ∃ c, x.cps[0]? = some c := by
    cases e : x.cps[0]? with
    | some c => exact ⟨c, rfl⟩
    | none =>
      have := Array.getElem?_eq_none_iff.mp e
      have hxs : x.cps.size = x.length := rfl
      omega
  have hcl : x.cps.toList[0]? = some c := by rw [Array.getElem?_toList]; exact hc
  have hhd : x.cps.toList.headD 0 = c := by
    cases e : x.cps.toList with
    | nil => exact absurd e hne
    | cons a r => rw [e] at hcl; exact Option.some.inj hcl
  have hcm : c ∈ [102, 105, 115] := hx.ok c (List.mem_of_getElem? hcl)
  rw [hhd] at h hrs
  obtain ⟨fm, hf₀, hls⟩ := id K
  obtain ⟨l, vs, hfl, hL₀, hIn⟩ := hls c hcm
  have hf : s.heap.MapOf (PySem.strKind pw w) ct fm := let ⟨o, es, ep, ho, r⟩ := hf₀; ⟨o, es, ep, X.fr.keep _ _ ho, r⟩
  have hL : s.heap.IsList l vs.toArray := isL hL₀ X.fr.keep
  have hl0 : @LT.lt Nat _ l h₀.objs.size := let ⟨o, e, _⟩ := hL₀; Heap.lt_size e
  have hvl : vs.length = (cn c).length := by rw [hIn.length, List.length_map]
  have hDl : @LT.lt Nat _ D s.heap.objs.size := by obtain ⟨as, ⟨n, e⟩, _⟩ := X.due; exact Heap.lt_size e
  have hls' : @LT.lt Nat _ l s.heap.objs.size := let ⟨o, e, _⟩ := hL; Heap.lt_size e
  have hLl : @LT.lt Nat _ L s.heap.objs.size := X.fr.ns.lt
  refine @Subscript_ _ _ _ _ _ _ _ _ _ ?_
  refine dld X.fr.ns X.mc ?_
  refine Subscript_Constant (dld X.fr.ns hw (wpAny_Constant_int (item_at (i := 0) hc (by decide) ?_)))
  refine subscriptTail_builtin hf.typeIs slot_dict_getitem.lookup (wpAny_getItem_of (strKind_is pw w _ _) hf hfl ?_) ?_ ?_
  · refine wpAny_pyIter_list hL ?_
    dsimp only
    obtain ⟨h₃, hh₃⟩ : ∃ q, s.heap.push { cls := .type "list_iterator", data := .fields #[.ref l, .int 0 0] } = q := ⟨_, rfl⟩
    have hk₃ : Ext s.heap h₃ := fun b o e => by rw [← hh₃]; exact Heap.get?_push_of_some _ e
    have hI : h₃.IsListIter s.heap.objs.size l 0 := by rw [← hh₃]; exact ⟨_, Heap.get?_push_size _ rfl, rfl, rfl⟩
    rw [hh₃]
    have hIlt : ∀ b, @LT.lt Nat _ b s.heap.objs.size → s.heap.objs.size ≠ b := fun b hb => Nat.ne_of_gt hb
    have hI0 : h₀.get? s.heap.objs.size = none := by
      cases e : h₀.get? s.heap.objs.size with
      | none => rfl
      | some o => exact absurd (Heap.lt_size (X.fr.keep _ _ e)) (Nat.lt_irrefl _)
    refine for_gen (Q := Q) (Walks.list hA s.heap.objs.size l (Nat.ne_of_lt hls') vs.toArray) (s := ⟨h₃, s.gens, s.drawn, _, s.os⟩) ⟨hI, isL hL hk₃⟩ (fun j h' => (∃ v1' v2', DI h₀ h' L D ct x names (rs ++ manysR cn f x.cps.toList names i ((cn c).take j)) m v1' v2') ∧
      (∀ b o, b ≠ D → b ≠ L + 1 → b ≠ L + 2 → s.heap.get? b = some o → h'.get? b = some o)) ?_ ?_ ?_ ?_ ?_
    · exact ⟨⟨v1, v2, by simpa [manysR] using X.ext hk₃⟩, fun b o _ _ _ e => hk₃ b o e⟩
    · rintro j h' h'' ⟨⟨o, ho, _, hd⟩, _⟩ hk ⟨⟨v1', v2', Y⟩, hkk⟩
      have hk' : ∀ b o, b ≠ s.heap.objs.size → h'.get? b = some o → h''.get? b = some o := fun b o hb e => hk b o (by rw [List.mem_singleton]; exact hb) e
      exact ⟨⟨v1', v2', Y.but hI0 (hIlt _ hLl) ho hd hk'⟩, fun b o h1 h2 h3 e => hk' b o (Ne.symm (hIlt _ (Heap.lt_size e))) (hkk b o h1 h2 h3 e)⟩
    · rintro j v s₁ hj hP ⟨⟨v1', v2', Y⟩, hkk⟩ ⟨hit, hil⟩ hg hd ho
      have hP' : vs[j]? = some v := by simpa using hP
      obtain ⟨n, t, rfl, hn⟩ := hIn.at j v hP'
      rw [List.getElem?_map] at hn
      obtain ⟨many, hmany, rfl⟩ := Option.map_eq_some_iff.mp hn
      refine wpAny_assign_Name (wpAny_storeName_cell rfl rfl (c := L + 1) rfl Y.k1 (fun h₅ hc₅ hs₅ => ?_))
      have Y₅ := Y.cell1 hs₅ hc₅ hLD h0L
      have etake : manysR cn f x.cps.toList names i ((cn c).take (j + 1)) = manysR cn f x.cps.toList names i ((cn c).take j) ++ onesR cn f x.cps.toList names i many (dueR cn f ((x.cps.toList.drop 1).take i) many) := by
        unfold manysR
        rw [List.take_add_one, hmany, List.flatMap_append]
        simp
      have hpre : (rs ++ manysR cn f x.cps.toList names i ((cn c).take (j + 1))).length ≤ 100000 := by
        have e := List.take_append_drop (j + 1) (cn c)
        have : manysR cn f x.cps.toList names i (cn c) = manysR cn f x.cps.toList names i ((cn c).take (j + 1)) ++ manysR cn f x.cps.toList names i ((cn c).drop (j + 1)) := by
          unfold manysR
          rw [← List.flatMap_append, e]
        rw [this, List.length_append, List.length_append] at hrs
        rw [List.length_append]
        omega
      rw [etake, ← List.append_assoc] at hpre
      have hID : s.heap.objs.size ≠ D := hIlt _ hDl
      have hI1 : s.heap.objs.size ≠ L + 1 := hIlt _ (Nat.lt_trans (Nat.lt_of_succ_lt hLD) hDl)
      have hI2 : s.heap.objs.size ≠ L + 2 := hIlt _ (Nat.lt_trans hLD hDl)
      have hlL : @LT.lt Nat _ l L := Nat.lt_of_lt_of_le hl0 h0L
      have hl1 : l ≠ L + 1 := Nat.ne_of_lt (Nat.lt_succ_of_lt hlL)
      have hl2 : l ≠ L + 2 := Nat.ne_of_lt (Nat.lt_succ_of_lt (Nat.lt_succ_of_lt hlL))
      have hlD : l ≠ D := Nat.ne_of_lt (Nat.lt_trans (Nat.lt_succ_of_lt (Nat.lt_succ_of_lt hlL)) hLD)
      refine @wpAny_execs_cons _ _ _ _ _ _ _ _ ?_
      refine @one_stmt w _ mg mb h₀ _ L a D ct cd m cn names f i many x t ts _ v2' _ B rec_ hA hroom K hx hxf hi hnm hc2 Y₅ h0L hLD hs hpre (fun h₆ tk₆ v2'' hk₆ Y₆ => ?_)
      refine wpAny_execs_nil ⟨.inl rfl, h₆, tk₆, rfl, ?_, ⟨some (.int (many : Nat) t), v2'', ?_⟩, ?_⟩
      · intro b' hb' o e
        simp only [List.mem_cons, List.not_mem_nil, or_false] at hb'
        rcases hb' with rfl | rfl
        · exact hk₆ _ o hID hI2 (hs₅.extBut _ o hI1 e)
        · exact hk₆ _ o hlD hl2 (hs₅.extBut _ o hl1 e)
      · rw [etake, ← List.append_assoc]; exact Y₆
      · exact fun b o h1 h2 h3 e => hk₆ b o h1 h3 (hs₅.extBut b o h2 (hkk b o h1 h2 h3 e))
    · rintro h' tk ⟨⟨v1', v2', Y⟩, hkk⟩
      refine h h' tk v1' v2' hkk ?_
      have : (cn c).take vs.toArray.size = cn c := by rw [List.size_toArray, hvl, List.take_length]
      rwa [this] at Y
    · exact fun f s' q => q
  · rfl
  · intro _; rfl
end Mine

namespace Mine
open PySem PySem.W PySem.Calls PyProof.Rows

theorem dbi {M : Model} {A : Around} {E : Value → Shared → Prop} {s : Shared} {mg mb : Str → Option Value} {L a : Addr} {cd : Value} {x : Str} {pos : Pos} {v : Value} {Q : Value → Shared → Prop} (hg : s.heap.Ns mainGlobals mg) (hmiss : mg x = none) (hb : s.heap.Ns builtinsNs mb) (hv : mb x = some v) (h : Q v s)
    (hx : (dEnv L a cd).kindOf x = some .globalImplicit := by rfl) (hd : (x == ("__debug__" : Str)) = false := by decide) : wpAny M A (eval (.Name x pos) (dEnv L a cd)) Q E s :=
  Calls.Name_function_global rfl hx (Calls.loadGlobal_builtin (env := dEnv L a cd) hg hmiss hb hv h) hd

noncomputable def sizesR (cn : Nat → List Nat) (f : Nat) (l : List Nat) (names : Nat) (is : List Nat) : List (List Int) := is.flatMap fun i => manysR cn f l names i (cn (l.headD 0))

theorem DI.names {h₀ h : Heap} {L D ct : Addr} {x : Str} {names : Nat} {rs : List (List Int)} {m m' : Str → Option Value} {v1 v2 : Option Value} (X : DI h₀ h L D ct x names rs m v1 v2) {h' : Heap} {v : Value} (hn : h'.Ns L m') (hm : m' = fun (y : Str) => if y = ("size" : Str) then some v else m y)
    (hs : ∀ b o, b ≠ L → h.get? b = some o → h'.get? b = some o) (h0L : h₀.objs.size ≤ L) (hLD : L + 2 < D) : DI h₀ h' L D ct x names rs m' v1 v2 := by
  obtain ⟨as, h1, h2, h3⟩ := X.due
  subst hm
  have hne : ∀ v ∈ as, v ≠ .ref L := by
    intro v hv e
    obtain ⟨j, hj⟩ := List.getElem?_of_mem hv
    obtain ⟨a, ws, r, rfl, _, ⟨o, ho, _, n, hd⟩, _⟩ := h2.at j v hj
    cases e
    obtain ⟨_, _, _, ho', hd', _⟩ := X.fr.ns
    rw [ho] at ho'; cases ho'
    rw [hd] at hd'; cases hd'
  exact ⟨⟨hn, fun b o e => hs b o (Nat.ne_of_lt (Nat.lt_of_lt_of_le (Heap.lt_size e) h0L)) (X.fr.keep b o e), h0L⟩, (let ⟨o, e, d⟩ := X.k1; ⟨o, hs _ o (Nat.ne_of_gt (Nat.lt_succ_self _)) e, d⟩), (let ⟨o, e, d⟩ := X.k2; ⟨o, hs _ o (Nat.ne_of_gt (Nat.lt_of_lt_of_le (Nat.lt_succ_self _) (Nat.le_succ _))) e, d⟩),
    X.mc, X.mw, X.mn, X.md, as, h1.at fun o e => hs _ o (Nat.ne_of_gt (Nat.lt_of_succ_lt (Nat.lt_of_succ_lt hLD))) e, h2.keepBut hne hs, h3⟩
end Mine

namespace Mine
open PySem PySem.W PySem.Calls PyProof.Rows

theorem size_stmt {w : World} {A : Around} {mg mb : Str → Option Value} {h₀ : Heap} {s : Shared} {L a D ct : Addr} {cd : Value} {m : Str → Option Value} {cn : Nat → List Nat} {names f : Nat} {x : Str} {rs : List (List Int)} {v1 v2 : Option Value} {Q : Flow → Shared → Prop}
    (B : Base mg mb h₀) (rec_ : DueC w cn f) (hA : A.handled = none) (hroom : A.depth + f < recursionLimit) (K : Cnt w h₀ ct cn) (hx : WordOk x) (hxf : x.length ≤ f) (hnm : 1 ≤ names) (hc2 : ∀ c, (cn c).length ≤ 2)
    (X : DI h₀ s.heap L D ct x names rs m v1 v2) (h0L : h₀.objs.size ≤ L) (hLD : L + 2 < D)
    (hrs : (rs ++ sizesR cn f x.cps.toList names (List.range x.length)).length ≤ 100000)
    (h : ∀ h' tk m' v1' v2', DI h₀ h' L D ct x names (rs ++ sizesR cn f x.cps.toList names (List.range x.length)) m' v1' v2' → Q .next { s with heap := h', toks := tk }) :
    wpAny (model pw w) A (exec sizeFor (dEnv L a cd)) Q (fun _ _ => False) s := by
  obtain ⟨tw, hw⟩ := X.mw
  have hx4 := hx.len
  have B' : Base mg mb s.heap := B.keeps X.fr.keep
  obtain ⟨z1, z2⟩ := blt (x := "range") B' (by simp [freeNames]) (by rfl)
  obtain ⟨y1, y2⟩ := blt (x := "len") B' (by simp [freeNames]) (by rfl)
  refine @wpAny_For _ _ _ _ _ _ _ _ _ _ _ ?_ (fun _ => rfl)
  refine @Call_ _ _ _ _ _ _ _ _ _ ?_ ?_
  rotate_left
  · rfl
  refine @dbi _ _ _ _ mg mb L a cd _ _ _ _ B'.g z1 B'.b z2 ?_ ?_ ?_
  rotate_left
  · rfl
  · decide
  refine @callWith_type1 _ _ _ _ _ _ _ _ _ _ ?_ ?_ ?_
  rotate_left
  · rfl
  · rfl
  refine @args_cons _ _ _ _ _ _ _ _ _ ?_ rfl
  refine wpAny_Constant_int ?_
  refine @args_cons _ _ _ _ _ _ _ _ _ ?_ rfl
  refine @wpAny_BinOp _ _ _ _ _ _ _ _ _ _ ?_
  refine @Call_ _ _ _ _ _ _ _ _ _ ?_ ?_
  rotate_left
  · rfl
  refine @dbi _ _ _ _ mg mb L a cd _ _ _ _ B'.g y1 B'.b y2 ?_ ?_ ?_
  rotate_left
  · rfl
  · decide
  refine @PyProof.Rows.callWith_builtin1 _ _ _ _ _ _ _ _ _ _ ?_ ?_ ?_
  rotate_left
  · rfl
  · rfl
  refine @args_cons _ _ _ _ _ _ _ _ _ ?_ rfl
  refine dld X.fr.ns hw ?_
  refine args_nil ?_
  refine P.len_str (by omega) ?_
  refine wpAny_Constant_int ?_
  refine P.add_int ?_
  refine args_nil ?_
  refine call_range_2 ?_
  have en : ((x.length : Nat) : Int) + 1 = ((x.length + 1 : Nat) : Int) := by omega
  rw [en]
  refine range_iter2 (n := x.length) (IsRange.new ..) (by decide) (by decide) (by omega) (by omega) (by
    by_cases e : x.length = 0
    · rw [e]; decide
    · rw [if_pos (by omega)]; omega) fun I h₄ hIs hk₄ hi₄ => ?_
  dsimp only at hIs hk₄ hi₄
  rw [Heap.size_push] at hIs
  have hk₄' : Ext s.heap h₄ := fun b o e => hk₄ b o (Heap.get?_push_of_some _ e)
  have hDl : @LT.lt Nat _ D s.heap.objs.size := by obtain ⟨as, ⟨n, e⟩, _⟩ := X.due; exact Heap.lt_size e
  have hIl : ∀ b, @LT.lt Nat _ b s.heap.objs.size → I ≠ b := fun b hb => Nat.ne_of_gt (Nat.lt_of_lt_of_le hb (Nat.le_of_succ_le hIs))
  have hI0 : h₀.get? I = none := by
    cases e : h₀.get? I with
    | none => rfl
    | some o => exact absurd rfl (hIl _ (Heap.lt_size (X.fr.keep _ _ e)))
  have hID : I ≠ D := hIl _ hDl
  have hIL : I ≠ L := hIl _ X.fr.ns.lt
  have hI1 : I ≠ L + 1 := hIl _ (Nat.lt_trans (Nat.lt_of_succ_lt hLD) hDl)
  have hI2 : I ≠ L + 2 := hIl _ (Nat.lt_trans hLD hDl)
  refine for_gen (Q := Q) (Walks.range hA I 1 1 x.length) (s := ⟨h₄, s.gens, s.drawn, _, s.os⟩) hi₄ (fun j h' => ∃ m' v1' v2', DI h₀ h' L D ct x names (rs ++ sizesR cn f x.cps.toList names (List.range j)) m' v1' v2') ?_ ?_ ?_ ?_ ?_
  · exact ⟨m, v1, v2, by simpa [sizesR] using X.ext hk₄'⟩
  · rintro j h' h'' hi hk ⟨m', v1', v2', Y⟩
    have hk' : ∀ b o, b ≠ I → h'.get? b = some o → h''.get? b = some o := fun b o hb e => hk b o (by rw [List.mem_singleton]; exact hb) e
    exact ⟨m', v1', v2', Y.but hI0 hIL hi rfl hk'⟩
  · rintro j v s₁ hj ⟨tj, rfl⟩ ⟨m', v1', v2', Y⟩ hi hg hd ho
    have ej : (1 : Int) + ((j : Nat) : Int) * 1 = ((j + 1 : Nat) : Int) := by omega
    rw [ej]
    refine wpAny_assign_Name (wpAny_storeName_local rfl Y.fr.ns (fun h₅ hn₅ hs₅ => ?_) rfl)
    have Y₅ := Y.names hn₅ rfl (fun b o hb e => hs₅.extBut b o hb e) h0L hLD
    have etake : sizesR cn f x.cps.toList names (List.range (j + 1)) = sizesR cn f x.cps.toList names (List.range j) ++ manysR cn f x.cps.toList names j (cn (x.cps.toList.headD 0)) := by
      unfold sizesR
      rw [List.range_succ, List.flatMap_append]
      simp
    have hpre : (rs ++ sizesR cn f x.cps.toList names (List.range (j + 1))).length ≤ 100000 := by
      have e : List.range x.length = List.range (j + 1) ++ (List.range (x.length - (j + 1))).map (j + 1 + ·) := by
        rw [← List.range_add]; congr 1; omega
      rw [e] at hrs
      unfold sizesR at hrs ⊢
      rw [List.flatMap_append, List.length_append, List.length_append] at hrs
      rw [List.length_append]
      omega
    rw [etake, ← List.append_assoc] at hpre
    refine @wpAny_execs_cons _ _ _ _ _ _ _ _ ?_
    refine @many_stmt w _ mg mb h₀ _ L a D ct cd _ cn names f j x _ _ v1' v2' _ B rec_ hA hroom K hx hxf hj hnm hc2 Y₅ h0L hLD rfl hpre (fun h₆ tk₆ v1'' v2'' hk₆ Y₆ => ?_)
    refine wpAny_execs_nil ⟨.inl rfl, h₆, tk₆, rfl, ?_, ?_⟩
    · intro b' hb' o e
      rw [List.mem_singleton.mp hb'] at e ⊢
      exact hk₆ _ o hID hI1 hI2 (hs₅.extBut _ o hIL e)
    · rw [etake, ← List.append_assoc]; exact ⟨_, v1'', v2'', Y₆⟩
  · rintro h' tk ⟨m', v1', v2', Y⟩
    exact h h' tk m' v1' v2' Y
  · exact fun f s' q => q
end Mine

namespace Mine
open PySem PySem.W PySem.Calls PyProof.Rows

theorem dueR_succ (cn : Nat → List Nat) (f : Nat) (l : List Nat) (n : Nat) (h : ¬ (n = 0 ∨ l = [])) : dueR cn (f + 1) l n = sizesR cn f l n (List.range l.length) := by
  rw [dueR, if_neg h]; rfl

/-- the body of _law_due, its cells laid -/
theorem due_body {w : World} {A : Around} {mg mb : Str → Option Value} {h₀ : Heap} {s : Shared} {L a ct : Addr} {cd : Value} {m : Str → Option Value} {cn : Nat → List Nat} {names f : Nat} {x : Str} {tw tn : Tok} {v1 v2 : Option Value} {Q : Value → Shared → Prop}
    (B : Base mg mb h₀) (rec_ : DueC w cn f) (hA : A.handled = none) (hroom : A.depth + f < recursionLimit) (K : Cnt w h₀ ct cn) (hx : WordOk x) (hxf : x.length ≤ f) (hc2 : ∀ c, (cn c).length ≤ 2)
    (F : Fr h₀ L s.heap m) (k1 : s.heap.IsCell (L + 1) v1) (k2 : s.heap.IsCell (L + 2) v2) (mc : m "counts" = some (.ref ct)) (mw : m "word" = some (.str x tw)) (mn : m "names" = some (.int (names : Nat) tn))
    (h : ∀ h' tk D as, Ext h₀ h' → ExL h' D as → RowsX h' as (dueR cn (f + 1) x.cps.toList names) → h₀.objs.size ≤ D → (∀ v ∈ as, ∃ b, v = .ref b ∧ h₀.get? b = none) → Q (.ref D) { s with heap := h', toks := tk }) :
    wpAny (model pw w) A (execs dB (dEnv L a cd)) (fun f s' => Q (match f with | .ret v => v | _ => .none) s') (fun _ _ => False) s := by
  have hxl : x.cps.toList.length = x.length := Array.length_toList
  have hx4 := hx.len
  have hLl : @LT.lt Nat _ L s.heap.objs.size := F.ns.lt
  have h0L : @LE.le Nat _ h₀.objs.size L := F.above
  have e0 : (((names : Nat) : Int) == 0) = decide (names = 0) := by rw [Bool.eq_iff_iff, beq_iff_eq, decide_eq_true_eq]; omega
  have ew : (x == ("" : Str)) = decide (x.cps.toList = []) := by
    rw [Bool.eq_iff_iff, beq_iff_eq, decide_eq_true_eq]
    constructor
    · rintro rfl; rfl
    · intro e
      cases x with
      | mk cps =>
        have : cps = #[] := by simpa using e
        subst this; rfl
  have fresh : ∀ b, @LE.le Nat _ s.heap.objs.size b → h₀.get? b = none := fun b hb => by
    cases e : h₀.get? b with
    | none => rfl
    | some o => exact absurd (Heap.lt_size (F.keep _ _ e)) (Nat.not_lt.mpr hb)
  refine @wpAny_execs_cons _ _ _ _ _ _ _ _ (@wpAny_If _ _ _ _ _ _ _ _ _ _ ?_)
  refine wpAny_isTrue_BoolOp (wpAny_allTrue_Or_cons ?_)
  refine wpAny_isTrue_Compare1 (dld F.ns mn ?_)
  refine wpAny_Constant_int (P.eq_int (wpAny_truthy_bool ?_))
  rw [e0]
  -- the early return
  have early : ∀ s' : Shared, (∃ tk, s' = { s with toks := tk }) → (names = 0 ∨ x.cps.toList = []) →
      wpAny (model pw w) A (execs (ifBody (nthS dB 0)) (dEnv L a cd)) (fun f s' => match f with | .next => wpAny (model pw w) A (execs (dB.drop 1) (dEnv L a cd)) (fun f s' => Q (match f with | .ret v => v | _ => .none) s') (fun _ _ => False) s' | f => Q (match f with | .ret v => v | _ => .none) s') (fun _ _ => False) s' := by
    rintro s' ⟨tk, rfl⟩ hor
    refine @wpAny_execs_cons _ _ _ _ _ _ _ _ (wpAny_Return_some ?_)
    refine @wpAny_IfExp _ _ _ _ _ _ _ _ _ _ ?_
    refine wpAny_isTrue_BoolOp (wpAny_allTrue_And_cons ?_)
    refine wpAny_isTrue_Compare1 (dld F.ns mn ?_)
    refine wpAny_Constant_int (P.eq_int (wpAny_truthy_bool ?_))
    rw [e0]
    have none_ : ∀ tk', ¬ (names = 0 ∧ x.cps.toList = []) → wpAny (model pw w) A (eval (.List [] ⟨100, 54, 100, 56⟩) (dEnv L a cd)) (fun v s' => Q v s') (fun _ _ => False) { s with toks := tk' } := by
      intro tk' hno
      refine @List_ _ _ _ _ _ _ _ _ ?_
      refine args_nil (wpAny_newList ?_ (by size_fits))
      refine h _ _ _ [] (fun b o e => Heap.get?_push_of_some _ (F.keep _ _ e)) ⟨_, Heap.get?_push_size _ rfl⟩ ?_ (Nat.le_of_lt (Nat.lt_of_le_of_lt h0L hLl)) (fun v hv => nomatch hv)
      rw [dueR, if_pos hor, if_neg hno]
      exact .nil
    by_cases hn0 : names = 0
    · rw [decide_eq_true hn0, if_pos rfl]
      refine wpAny_allTrue_And_cons (wpAny_isTrue_Compare1 (dld F.ns mw ?_))
      refine wpAny_Constant_str (PyProof.Rows.eq_str (wpAny_truthy_bool ?_))
      rw [ew]
      by_cases he : x.cps.toList = []
      · rw [decide_eq_true he, if_pos rfl]
        refine wpAny_allTrue_And_nil ?_
        rw [if_pos rfl]
        refine @List_ _ _ _ _ _ _ _ _ ?_
        refine @args_cons _ _ _ _ _ _ _ _ _ ?_ rfl
        refine @List_ _ _ _ _ _ _ _ _ ?_
        refine args_nil (wpAny_newList ?_ (by size_fits))
        refine args_nil (wpAny_newList ?_ (by size_fits))
        refine h _ _ _ [.ref s.heap.objs.size] (fun b o e => Heap.get?_push_of_some _ (Heap.get?_push_of_some _ (F.keep _ _ e))) ⟨_, Heap.get?_push_size _ rfl⟩ ?_ ?_ (fun v hv => ?_)
        · rw [dueR, if_pos hor, if_pos ⟨hn0, he⟩]
          exact .cons _ [] [] ⟨_, Heap.get?_push_of_some _ (Heap.get?_push_size _ rfl), rfl, _, rfl⟩ .nil .nil
        · show @LE.le Nat _ h₀.objs.size (s.heap.push _).objs.size
          rw [Heap.size_push]
          exact Nat.le_succ_of_le (Nat.le_of_lt (Nat.lt_of_le_of_lt h0L hLl))
        · rw [List.mem_singleton.mp hv]
          exact ⟨_, rfl, fresh _ (Nat.le_refl _)⟩
      · rw [decide_eq_false he, if_neg Bool.false_ne_true, if_neg Bool.false_ne_true]
        exact none_ _ fun e => he e.2
    · rw [decide_eq_false hn0, if_neg Bool.false_ne_true, if_neg Bool.false_ne_true]
      exact none_ _ fun e => hn0 e.1
  -- the loops
  have long : ∀ s' : Shared, (∃ tk, s' = { s with toks := tk }) → ¬ (names = 0 ∨ x.cps.toList = []) →
      wpAny (model pw w) A (execs (dB.drop 1) (dEnv L a cd)) (fun f s' => Q (match f with | .ret v => v | _ => .none) s') (fun _ _ => False) s' := by
    rintro s' ⟨tk, rfl⟩ hno
    refine @wpAny_execs_cons _ _ _ _ _ _ _ _ (wpAny_Assign_Name ?_)
    refine @List_ _ _ _ _ _ _ _ _ ?_
    refine args_nil (wpAny_newList ?_ (by size_fits))
    obtain ⟨D, hD⟩ : ∃ D, s.heap.objs.size = D := ⟨_, rfl⟩
    obtain ⟨h₁, hh₁⟩ : ∃ h', s.heap.push { cls := .type "list", data := .seq ([] : List Value).toArray } = h' := ⟨_, rfl⟩
    have g₁ : ExL h₁ D [] := ⟨_, by rw [← hh₁, ← hD]; exact Heap.get?_push_size _ rfl⟩
    have hk₁ : Ext s.heap h₁ := fun b o e => by rw [← hh₁]; exact Heap.get?_push_of_some _ e
    have F₁ := frExt F hk₁
    have hc2l : @LT.lt Nat _ (L + 2) D := by obtain ⟨o, e, _⟩ := k2; rw [← hD]; exact Heap.lt_size e
    dsimp only
    rw [hD, hh₁]
    refine wpAny_storeName_local rfl F₁.ns (fun h₂ hn₂ hs₂ => ?_) rfl
    have hLD : L ≠ D := Nat.ne_of_lt (Nat.lt_of_succ_lt (Nat.lt_of_succ_lt hc2l))
    have X₂ : DI h₀ h₂ L D ct x names [] (fun y => if y = ("due" : Str) then some (Value.ref D) else m y) v1 v2 :=
      ⟨F₁.set hn₂ hs₂, (k1.keeps hk₁).sameBut hs₂ (Nat.ne_of_gt (Nat.lt_succ_self _)), (k2.keeps hk₁).sameBut hs₂ (Nat.ne_of_gt (Nat.lt_of_lt_of_le (Nat.lt_succ_self _) (Nat.le_succ _))), mc, ⟨tw, mw⟩, ⟨tn, mn⟩, rfl, [], g₁.at fun o e => hs₂.extBut _ o (Ne.symm hLD) e, .nil, fun v hv => nomatch hv⟩
    have hcount : (dueR cn (f + 1) x.cps.toList names).length ≤ 100000 :=
      Nat.le_trans (dueR_count cn hc2 _ _ _ (by omega)) (Nat.le_trans (Nat.pow_le_pow_right (by decide) (show x.cps.toList.length ≤ 4 by omega)) (show 8 ^ 4 ≤ 100000 by decide))
    have esz := dueR_succ cn f x.cps.toList names hno
    rw [hxl] at esz
    refine @wpAny_execs_cons _ _ _ _ _ _ _ _ ?_
    refine @size_stmt w _ mg mb h₀ _ L a D ct cd _ cn names f x [] v1 v2 _ B rec_ hA hroom K hx hxf (by omega) hc2 X₂ h0L hc2l (by rw [List.nil_append, ← esz]; exact hcount) (fun h₃ tk₃ m₃ v1' v2' X₃ => ?_)
    rw [List.nil_append, ← esz] at X₃
    refine @wpAny_execs_cons _ _ _ _ _ _ _ _ (wpAny_Return_some ?_)
    refine dld X₃.fr.ns X₃.md ?_
    obtain ⟨as, q1, q2, q3⟩ := X₃.due
    exact h h₃ _ D as X₃.fr.keep q1 q2 (Nat.le_trans h0L (Nat.le_of_lt (Nat.lt_of_succ_lt (Nat.lt_of_succ_lt hc2l)))) fun v hv => (q3 v hv).2
  by_cases hn0 : names = 0
  · rw [decide_eq_true hn0, if_pos rfl, if_pos rfl]
    exact early _ ⟨_, rfl⟩ (.inl hn0)
  · rw [decide_eq_false hn0, if_neg Bool.false_ne_true]
    refine wpAny_allTrue_Or_cons (wpAny_isTrue_Compare1 (dld F.ns mw ?_))
    refine wpAny_Constant_str (PyProof.Rows.eq_str (wpAny_truthy_bool ?_))
    rw [ew]
    by_cases he : x.cps.toList = []
    · rw [decide_eq_true he, if_pos rfl, if_pos rfl]
      exact early _ ⟨_, rfl⟩ (.inr he)
    · rw [decide_eq_false he, if_neg Bool.false_ne_true]
      refine wpAny_allTrue_Or_nil ?_
      rw [if_neg Bool.false_ne_true]
      exact wpAny_execs_nil (long _ ⟨_, rfl⟩ fun e => e.elim hn0 he)
end Mine

namespace Mine
open PySem PySem.W PySem.Calls PyProof.Rows

theorem due_step {w : World} {cn : Nat → List Nat} {f : Nat} (rec_ : DueC w cn f) (hc2 : ∀ c, (cn c).length ≤ 2) : DueC w cn (f + 1) := by
  intro A E s mg mb Q fa ct x tx names tn B hf hA hroom K hx hxf h
  obtain ⟨o, pm, cd, doc, ho, hd, hc⟩ := hf
  refine wpAny_call (codeAny_call_cells (binds := [(("counts" : Str), .ref ct), (("word" : Str), .str x tx), (("names" : Str), .int (names : Nat) tn)]) (body := dB) (Nat.lt_of_le_of_lt (Nat.le_add_right _ _) hroom) ho hd B.nolimit hc rfl rfl rfl ?_ (fun s₁ X => ?_) rfl rfl rfl)
  · intro y hy
    simp only [List.mem_cons, List.not_mem_nil, or_false] at hy
    rcases hy with rfl | rfl | rfl <;> exact .inl rfl
  · obtain ⟨⟨⟨h₁, tk, rfl⟩, hns, hkeep, hfresh⟩, hcell, _, _⟩ := X
    have F : Fr s.heap s.heap.objs.size h₁ _ := ⟨hns, hkeep, Nat.le_refl _⟩
    have hA' : (A.deeper (dEnv s.heap.objs.size fa cd)).handled = none := hA
    have hr' : (A.deeper (dEnv s.heap.objs.size fa cd)).depth + f < recursionLimit := by
      show A.depth + 1 + f < recursionLimit
      omega
    refine wpAny_mono (@due_body w (A.deeper (dEnv s.heap.objs.size fa cd)) mg mb s.heap ⟨h₁, s.gens, s.drawn, tk, s.os⟩ s.heap.objs.size fa ct cd _ cn names f x tx tn _ _ Q B rec_ hA' hr' K hx (by omega) hc2 F (hcell "many" _ rfl) (hcell "one" _ rfl) rfl rfl rfl
      (fun h' tk' D as e1 e2 e3 e4 e5 => h h' tk' D as e1 e2 e3 e4 e5)) (fun _ _ q => q) fun _ _ e => e.elim

theorem due_call (w : World) (cn : Nat → List Nat) (hc2 : ∀ c, (cn c).length ≤ 2) : ∀ f, DueC w cn f
  | 0 => fun _ _ _ _ _ _ hxf _ => absurd hxf (Nat.not_lt_zero _)
  | f + 1 => due_step (due_call w cn hc2 f) hc2
end Mine

namespace Mine
open PySem PySem.W PySem.Calls PyProof.Rows
open PySem.AutoSeq1 (wpAny_loadPart')
open PySem.MeetsSeq3 (plain_eq_loop entry_eq_loop)

noncomputable def ltR : List Int → List Int → Bool
  | [], [] => false
  | [], _ :: _ => true
  | _ :: _, [] => false
  | a :: r, b :: q => if a = b then ltR r q else decide (a < b)

theorem ltR_nil_l (ms : List Int) : ltR [] ms = decide (0 < ms.length) := by cases ms <;> simp [ltR]
theorem ltR_nil_r (ns : List Int) : ltR ns [] = false := by cases ns <;> rfl

theorem drop_atI {l : List Int} {i : Nat} {c : Int} (h : l[i]? = some c) : l.drop i = c :: l.drop (i + 1) := by
  obtain ⟨hl, rfl⟩ := List.getElem?_eq_some_iff.mp h
  exact List.drop_eq_getElem_cons hl

theorem lt_loop (l b : Addr) (vs us : List Value) (ns ms : List Int) (hi : IntsAre vs ns) (hj : IntsAre us ms) (n n2 : Nat) (dd dd2 : Option Addr) (sl sl2 : Array (Option Value)) (k : Nat) :
    ∀ i : Nat, vs.length - i = k → i ≤ vs.length → i ≤ us.length → Meets (Builtin.«list.__eq__.loop» ⟨[.ref l, .ref b, rawInt i, rawInt 0], []⟩)
      (fun _ R s => s.heap.get? l = some { cls := .type "list", dict := dd, data := .seq vs.toArray n, slots := sl } ∧ s.heap.get? b = some { cls := .type "list", dict := dd2, data := .seq us.toArray n2, slots := sl2 } ∧
        R (.ok (.ret (.bool (ltR (ns.drop i) (ms.drop i))))) s) := by
  have hl1 : vs.length = ns.length := hi.length
  have hl2 : us.length = ms.length := hj.length
  have fin : ∀ i : Nat, i ≤ vs.length → i ≤ us.length → (i = vs.length ∨ i = us.length) → ltR (ns.drop i) (ms.drop i) = decide (vs.length < us.length) := by
    rintro i h1 h2 (rfl | rfl)
    · rw [List.drop_eq_nil_of_le (by omega), ltR_nil_l, List.length_drop]
      congr 1
      exact propext (by omega)
    · rw [show ms.drop us.length = [] from List.drop_eq_nil_of_le (by omega), ltR_nil_r]
      exact (decide_eq_false (by omega)).symm
  induction k with
  | zero =>
    intro i hk h1 h2 prog w A R s h
    obtain ⟨hp, g, d, tk, os⟩ := s; obtain ⟨hl, hb, h⟩ := h
    wp_walk using wpAny_loadPart' hl, wpAny_loadPart' hb
    have hi1 : vs.toArray[((i : Nat) : Int).toNat]? = none := by simp; omega
    rw [hi1]
    wp_walk using wpAny_loadPart' hl, wpAny_loadPart' hb
    rw [fin i h1 h2 (.inl (by omega))] at h
    show R (.ok (.ret (.bool (decide (vs.toArray.size < us.toArray.size))))) _
    rw [List.size_toArray, List.size_toArray]
    exact h
  | succ k ih =>
    intro i hk h1 h2 prog w A R s h
    obtain ⟨hp, g, d, tk, os⟩ := s; obtain ⟨hl, hb, h⟩ := h
    wp_walk using wpAny_loadPart' hl, wpAny_loadPart' hb
    have hlt : i < vs.length := by omega
    have hi1 : vs.toArray[((i : Nat) : Int).toNat]? = some vs[i] := by simp [hlt]
    by_cases hlt2 : i < us.length
    · have hi2 : us.toArray[((i : Nat) : Int).toNat]? = some us[i] := by simp [hlt2]
      obtain ⟨a, t, e1, ea⟩ := hi.at i vs[i] (List.getElem?_eq_getElem hlt)
      obtain ⟨c, u, e2, ec⟩ := hj.at i us[i] (List.getElem?_eq_getElem hlt2)
      have hc : ((i : Int) + 1) = ((i + 1 : Nat) : Int) := by push_cast; rfl
      have hd1 : ns.drop i = a :: ns.drop (i + 1) := drop_atI ea
      have hd2 : ms.drop i = c :: ms.drop (i + 1) := drop_atI ec
      rw [hd1, hd2] at h
      rw [hi1, hi2, e1, e2]
      refine wpAny_bind (wpAny_eqBool_int ?_)
      by_cases hac : a = c
      · rw [ltR, if_pos hac] at h
        rw [show (a == c) = true from beq_iff_eq.mpr hac]
        wp_walk
        rw [hc]
        exact ⟨plainId_quiet plain_eq_loop _, codeAny_builtin entry_eq_loop (by
          rw [Around.under_plainId plain_eq_loop _]
          exact ih (i + 1) (by omega) hlt hlt2 prog w A R _ ⟨hl, hb, h⟩)⟩
      · rw [ltR, if_neg hac] at h
        rw [show (a == c) = false from beq_eq_false_iff_ne.mpr hac]
        wp_walk using wpAny_loadPart' hl, wpAny_loadPart' hb
        rw [hi1, hi2, e1, e2]
        show wpAny (model prog w) A.in1 (do let v ← richCompare .Lt (.int a t) (.int c u); ret v) _ _ _
        refine wpAny_bind (show wpAny (model prog w) A.in1 (compareOp .Lt (.int a t) (.int c u)) _ _ _ from P.lt_int ?_)
        exact wpAny_pure h
    · have hi2 : us.toArray[((i : Nat) : Int).toNat]? = none := by simp; omega
      rw [hi1, hi2]
      wp_walk using wpAny_loadPart' hl, wpAny_loadPart' hb
      rw [fin i h1 h2 (.inr (by omega))] at h
      show R (.ok (.ret (.bool (decide (vs.toArray.size < us.toArray.size))))) _
      rw [List.size_toArray, List.size_toArray]
      exact h
theorem list_lt (l b : Addr) (vs us : List Value) (ns ms : List Int) (hi : IntsAre vs ns) (hj : IntsAre us ms) (n n2 : Nat) (dd dd2 : Option Addr) (sl sl2 : Array (Option Value)) :
    Meets (Builtin.«list.__lt__» ⟨[.ref l, .ref b], []⟩)
      (fun _ R s => s.heap.get? l = some { cls := .type "list", dict := dd, data := .seq vs.toArray n, slots := sl } ∧ s.heap.get? b = some { cls := .type "list", dict := dd2, data := .seq us.toArray n2, slots := sl2 } ∧
        R (.ok (.ret (.bool (ltR ns ms)))) s) := by
  intro prog w A R s h
  obtain ⟨hp, g, d, tk, os⟩ := s; obtain ⟨hl, hb, h⟩ := h
  have f3 := AutoSeq1.sub_list_list
  wp_walk using wpAny_loadPart' hl, wpAny_loadPart' hb
  exact ⟨plainId_quiet plain_eq_loop _, codeAny_builtin entry_eq_loop (by
    rw [Around.under_plainId plain_eq_loop _]
    exact lt_loop l b vs us ns ms hi hj n n2 dd dd2 sl sl2 _ 0 rfl (Nat.zero_le _) (Nat.zero_le _) prog w A R _ ⟨hl, hb, h⟩)⟩

theorem key_lt {prog : Program} {w : World} {A : Around} {E : Value → Shared → Prop} {s : Shared} {l b : Addr} {vs us : List Value} {ns ms : List Int} {Q : Bool → Shared → Prop} (hu : A.units < cLine)
    (hl : s.heap.IsList l vs.toArray) (hi : IntsAre vs ns) (hb : s.heap.IsList b us.toArray) (hj : IntsAre us ms) (h : Q (ltR ns ms) s) : wpAny (model prog w) A (keyLt' oneType' (.ref l) (.ref b)) Q E s := by
  rw [keyLt'_oneType, oneLt'_eq]
  simp only [if_true]
  refine wpAny_bind (wpAny_cRoomFor hu ?_)
  obtain ⟨⟨cls, dd, data, sl⟩, ho, hc, n, hd⟩ := id hl
  obtain ⟨⟨cls2, dd2, data2, sl2⟩, ho2, hc2, n2, hd2⟩ := id hb
  simp only at hc hd hc2 hd2
  subst hc hd hc2 hd2
  refine wpAny_bind (wpAny_callSpecialIfBound?_slot ⟨_, ho, rfl⟩ PySem.F.slot_list_lt ?_)
  refine call_meets PySem.F.slot_list_lt ⟨_, ho, rfl⟩ PySem.F.entry_list_lt (PySem.F.args_list_lt_2 _ _) (list_lt l b vs us ns ms hi hj n n2 dd dd2 sl sl2) ⟨ho, ho2, ?_⟩
  exact wpAny_truthy_bool h
end Mine

namespace Mine
open PySem PySem.W PySem.Calls PyProof.Rows

/-- a decision tree run by a plain comparison -/
noncomputable def trun {α : Type} (c : Nat → Nat → Bool) : KasT α → α
  | .ret a => a
  | .ask i j k => trun c (k (c i j))
noncomputable def tin {α : Type} (n : Nat) (c : Nat → Nat → Bool) : KasT α → Bool
  | .ret _ => true
  | .ask i j k => (decide (i < n) && decide (j < n)) && tin n c (k (c i j))

theorem trun_wp {α : Type} {n : Nat} {c : Nat → Nat → Bool} {cmp : Nat → Nat → (Bool → Shared → Prop) → Shared → Prop} {s : Shared} (hc : ∀ i j (C : Bool → Shared → Prop), i < n → j < n → C (c i j) s → cmp i j C s) {Q : α → Shared → Prop} :
    ∀ t : KasT α, tin n c t = true → Q (trun c t) s → t.kasWp cmp Q s
  | .ret _, _, h => h
  | .ask i j k, hi, h => by
    simp only [tin, Bool.and_eq_true, decide_eq_true_eq] at hi
    exact hc i j _ hi.1.1 hi.1.2 (trun_wp hc (k (c i j)) hi.2 h)

noncomputable def cmpR (rows : List (List Int)) (i j : Nat) : Bool := ltR (rows.getD i []) (rows.getD j [])
noncomputable def srtP (rows : List (List Int)) : List Nat := if rows.length < 2 then List.range rows.length else (trun (cmpR rows) (kas_sort rows.length)).toList
noncomputable def srt (rows : List (List Int)) : List (List Int) := (srtP rows).map fun i => rows.getD i []
noncomputable def srtOk (rows : List (List Int)) : Bool := decide (rows.length < 2) || (decide (rows.length < 64) && tin rows.length (cmpR rows) (kas_sort rows.length))
  && (srtP rows).all fun i => decide (i < rows.length)

theorem RowsX.pick {h : Heap} {vs : List Value} {rows : List (List Int)} (R : RowsX h vs rows) : ∀ is : List Nat, (∀ i ∈ is, i < rows.length) → RowsX h (is.map fun i => vs.getD i Value.none) (is.map fun i => rows.getD i [])
  | [], _ => .nil
  | i :: is, hi => by
    have hl := hi i (.head _)
    have e : vs[i]? = some (vs.getD i Value.none) := by rw [List.getD_eq_getElem?_getD, List.getElem?_eq_getElem (by rw [R.len]; exact hl)]; rfl
    obtain ⟨a, ws, r, e1, e2, e3, e4⟩ := R.at i _ e
    have e5 : rows.getD i [] = r := by rw [List.getD_eq_getElem?_getD, e2]; rfl
    show RowsX h (vs.getD i Value.none :: _) (rows.getD i [] :: _)
    rw [e1, e5]
    exact .cons a ws r e3 e4 (R.pick is fun j hj => hi j (.tail _ hj))

theorem map_range_getD {α : Type} (d : α) (l : List α) : (List.range l.length).map (fun i => l.getD i d) = l := by
  refine List.ext_getElem? fun i => ?_
  by_cases h : i < l.length
  · rw [List.getElem?_map, List.getElem?_range h]
    simp [h]
  · rw [List.getElem?_eq_none (by simp; omega), List.getElem?_eq_none (by omega)]

section
variable {prog : Program} {w : World} {A : Around} {E : Value → Shared → Prop} {s : Shared}

theorem rows_sort {a : Addr} {vs : List Value} {rows : List (List Int)} {n : Nat} {P : Fin → Shared → Prop} (hu : A.units < cLine) (ho : s.heap.get? a = some (seqObj "list" vs.toArray n)) (hR : RowsX s.heap vs rows) (hna : ∀ v ∈ vs, v ≠ .ref a) (hok : srtOk rows = true)
    (h : ∀ h' n', (∀ b o, b ≠ a → s.heap.get? b = some o → h'.get? b = some o) → h'.get? a = some (seqObj "list" ((srtP rows).map fun i => vs.getD i Value.none).toArray n') → P (.done (.ret .none)) { s with heap := h' }) :
    wpAny (model prog w) A (Builtin.«list.sort» ⟨[.ref a], []⟩) P E s := by
  have hal : @LT.lt Nat _ a s.heap.objs.size := Heap.lt_size ho
  have hlen : vs.length = rows.length := hR.len
  have hle : vs.length < 64 := by
    simp only [srtOk, Bool.or_eq_true, Bool.and_eq_true, decide_eq_true_eq] at hok
    rcases hok with q | q
    · omega
    · omega
  rw [list_sort_plain]
  refine wpAny_bind (listItems_at ho rfl ?_)
  refine wpAny_bind (listUpdate_at ho rfl ?_ (by rw [List.size_toArray, sizeLine_eq]; omega) (Nat.zero_le _))
  obtain ⟨e1, ho1⟩ : ∃ e1, (s.heap.update a (Obj.mapSeq fun _ => (#[] : Array Value))).get? a = some (seqObj "list" #[] e1) := ⟨_, get?_update_seq ho fun _ => #[]⟩
  have s1 := Heap.SameBut.update s.heap a (Obj.mapSeq fun _ => (#[] : Array Value))
  refine wpAny_bind (seqEpoch_at ho1 rfl ?_)
  refine wpAny_bind (wpAny_newTuple ?_ (by show vs.length ≤ _; rw [sizeLine_eq]; omega))
  refine wpAny_bind (wpAny_newList ?_ (Nat.zero_le _))
  refine wpAny_holding ?_
  obtain ⟨h₁, hh₁⟩ : ∃ q, ((s.heap.update a (Obj.mapSeq fun _ => (#[] : Array Value))).push (seqObj "tuple" vs.toArray 0)).push (seqObj "list" #[] 0) = q := ⟨_, rfl⟩
  have hk₁ : ∀ b o, b ≠ a → s.heap.get? b = some o → h₁.get? b = some o := fun b o hb e => by
    rw [← hh₁]; exact Heap.get?_push_of_some _ (Heap.get?_push_of_some _ (s1.extBut b o hb e))
  have hoa : h₁.get? a = some (seqObj "list" #[] e1) := by rw [← hh₁]; exact Heap.get?_push_of_some _ (Heap.get?_push_of_some _ ho1)
  show wpAny (model prog w) A _ P E { s with heap := ((s.heap.update a (Obj.mapSeq fun _ => (#[] : Array Value))).push (seqObj "tuple" vs.toArray 0)).push (seqObj "list" #[] 0) }
  rw [hh₁]
  dsimp only
  have hR₁ : RowsX h₁ vs rows := hR.keepBut hna hk₁
  have put : ∀ (out : Array Value) (P' : Unit → Shared → Prop), out.size ≤ 64 → (∀ h' n', (∀ b o, b ≠ a → s.heap.get? b = some o → h'.get? b = some o) → h'.get? a = some (seqObj "list" out n') → P' () { s with heap := h' }) →
      wpAny (model prog w) A (Builtin.List.listUpdate (.ref a) fun _ => out) P' E { s with heap := h₁ } := fun out P' hs hP => by
    obtain ⟨n', hn'⟩ : ∃ n', (h₁.update a (Obj.mapSeq fun _ => out)).get? a = some (seqObj "list" out n') := ⟨_, get?_update_seq hoa fun _ => out⟩
    have s2 := Heap.SameBut.update h₁ a (Obj.mapSeq fun _ => out)
    exact listUpdate_at hoa rfl (hP _ n' (fun b o hb e => s2.extBut b o hb (hk₁ b o hb e)) hn') (Nat.zero_le _) (Nat.le_trans hs (by rw [sizeLine_eq]; omega))
  by_cases h2 : vs.length < 2
  · rw [if_pos (show vs.toArray.size < 2 by rw [List.size_toArray]; exact h2), if_pos (show vs.toArray.size < 2 by rw [List.size_toArray]; exact h2)]
    refine wpAny_bind (wpAny_pure ?_)
    rw [StateT.run_pure]
    refine wpAny_bind (wpAny_pure ?_)
    dsimp only
    refine wpAny_bind (seqEpoch_at hoa rfl ?_)
    have e : ((vs.toArray.zip vs.toArray).map (·.2)) = ((srtP rows).map fun i => vs.getD i Value.none).toArray := by
      apply Array.toList_inj.mp
      rw [srtP, if_pos (by omega), ← hlen, map_range_getD]
      simp
      rw [List.map_snd_zip]
      exact Nat.le_refl _
    rw [show ((arrOf (SortSt.mk' general' (vs.toArray.zip vs.toArray) #[] 7 none)).map (·.2)) = ((srtP rows).map fun i => vs.getD i Value.none).toArray from e]
    refine wpAny_bind (put _ _ ?_ fun h' n' q1 q2 => ?_)
    · rw [← e, Array.size_map]; simp; omega
    · simp only [bne_self_eq_false, Bool.false_eq_true, if_false]
      exact wpAny_pure (h h' n' q1 q2)
  · have hok' : (tin rows.length (cmpR rows) (kas_sort rows.length) = true) ∧ (∀ i ∈ srtP rows, i < rows.length) := by
      simp only [srtOk, Bool.or_eq_true, Bool.and_eq_true, decide_eq_true_eq, List.all_eq_true] at hok
      rcases hok with q | q
      · omega
      · exact ⟨q.1.2, q.2⟩
    rw [if_neg (show ¬ vs.toArray.size < 2 by rw [List.size_toArray]; exact h2), if_neg (show ¬ vs.toArray.size < 2 by rw [List.size_toArray]; exact h2)]
    have hT : ∀ v ∈ vs, Looks (model prog w) h₁ (typeOf v) (Value.type "list") := by
      intro v hv
      obtain ⟨j, hj⟩ := List.getElem?_of_mem hv
      obtain ⟨b, ws, r, rfl, _, ⟨o, hb, hc, _⟩, _⟩ := hR₁.at j v hj
      rw [← hc]
      exact (Looks.ld hb).andThen .now
    refine wpAny_bind (kas_kind (by omega) hT (by decide) (by decide) ?_)
    have est : SortSt.mk' oneType' (vs.toArray.zip vs.toArray) #[] 7 none = kas_st oneType' (pairsOf vs) (List.toArray (List.range vs.length)) := by
      have e := kas_range (pairsOf vs)
      rw [pairsOf_size] at e
      show SortSt.mk' oneType' (pairsOf vs) #[] 7 none = SortSt.mk' oneType' ((List.toArray (List.range vs.length)).map (kas_item (pairsOf vs))) #[] 7 none
      rw [e]
    have ask : (kas_sort vs.length).kasWp (kas_cmp prog w A oneType' (pairsOf vs)) (fun p s' => p.toList = srtP rows ∧ s' = { s with heap := h₁ }) { s with heap := h₁ } := by
      rw [← kas_ask_eq]
      refine trun_wp (n := rows.length) (c := cmpR rows) (fun i j C hi hj hC => ?_) _ (by rw [hlen]; exact hok'.1) ⟨by rw [srtP, if_neg (by omega), hlen], rfl⟩
      have ei : vs[i]? = some (vs.getD i Value.none) := by rw [List.getD_eq_getElem?_getD, List.getElem?_eq_getElem (by omega)]; rfl
      have ej : vs[j]? = some (vs.getD j Value.none) := by rw [List.getD_eq_getElem?_getD, List.getElem?_eq_getElem (by omega)]; rfl
      obtain ⟨x1, ws1, r1, a1, a2, a3, a4⟩ := hR₁.at i _ ei
      obtain ⟨x2, ws2, r2, b1, b2, b3, b4⟩ := hR₁.at j _ ej
      unfold kas_ask
      rw [a1, b1]
      refine key_lt hu a3 a4 b3 b4 ?_
      have e1 : rows.getD i [] = r1 := by rw [List.getD_eq_getElem?_getD, a2]; rfl
      have e2 : rows.getD j [] = r2 := by rw [List.getD_eq_getElem?_getD, b2]; rfl
      unfold cmpR at hC
      rw [e1, e2] at hC
      exact hC
    have run := kas_runs (E := E) (Q := fun _ st' s' => ∃ p : Array Nat, p.size = vs.length ∧ arrOf st' = p.map (kas_item (pairsOf vs)) ∧ failedOf st' = none ∧ p.toList = srtP rows ∧ s' = { s with heap := h₁ })
      (by omega) hle (fun p' st' s' a1 a2 a3 a4 => ⟨p', a1, a2, a3, a4⟩) ask
    rw [← est] at run
    refine wpAny_bind (wpAny_mono run ?_ fun _ _ e => e)
    rintro ⟨⟨⟩, st'⟩ s' ⟨p, hp, har, hf, hps, rfl⟩
    dsimp only
    have hout : (arrOf st').map (·.2) = ((srtP rows).map fun i => vs.getD i Value.none).toArray := by
      apply Array.toList_inj.mp
      rw [har, Array.map_map, Array.toList_map, hps]
      exact List.map_congr_left fun i _ => by show (kas_item (pairsOf vs) i).2 = _; rw [kas_item_eq]
    rw [hout]
    refine wpAny_bind (seqEpoch_at hoa rfl ?_)
    refine wpAny_bind (put _ _ ?_ fun h' n' q1 q2 => ?_)
    · rw [List.size_toArray, List.length_map, ← hps, Array.length_toList, hp]; omega
    · rw [hf]
      simp only [bne_self_eq_false, Bool.false_eq_true, if_false]
      exact wpAny_pure (h h' n' q1 q2)

theorem rows_sorted {l : Addr} {vs : List Value} {rows : List (List Int)} {Q : Value → Shared → Prop} (hu : A.units + 2 < cLine) (hl : s.heap.IsList l vs.toArray) (hR : RowsX s.heap vs rows) (hok : srtOk rows = true)
    (h : ∀ h' D vs', Ext s.heap h' → ExL h' D vs' → RowsX h' vs' (srt rows) → Q (.ref D) { s with heap := h' }) :
    wpAny (model prog w) A (call (.builtin "sorted") [.ref l]) Q E s := by
  have hlen : vs.length = rows.length := hR.len
  have hle : vs.length < 64 := by
    simp only [srtOk, Bool.or_eq_true, Bool.and_eq_true, decide_eq_true_eq] at hok
    rcases hok with q | q
    · omega
    · omega
  refine Calls.call_function_entry kind_sorted plain_sorted entry_sorted (args_sorted1 _) ?_
  unfold Builtin.«sorted»
  refine wpAny_bind (m := checkCount "sorted" 1 1 _) (wpAny_pure ?_)
  refine wpAny_bind (collect_list hl ?_ (by rw [sizeLine_eq]; omega))
  refine wpAny_bind (wpAny_newList ?_ (by rw [sizeLine_eq]; omega))
  obtain ⟨h₁, hh₁⟩ : ∃ q, (s.heap.push (seqObj "list" #[] 0)).update s.heap.objs.size (Obj.mapSeq (· ++ vs.toArray)) = q := ⟨_, rfl⟩
  have hk₁ : Ext s.heap h₁ := fun b o e => by
    rw [← hh₁, Heap.get?_update_ne _ _ _ _ (Nat.ne_of_lt (Heap.lt_size e))]
    exact Heap.get?_push_of_some _ e
  show wpAny _ _ _ _ _ { s with heap := ((s.heap.push (seqObj "list" #[] 0)).update s.heap.objs.size (Obj.mapSeq (· ++ vs.toArray))).push (seqObj "list" vs.toArray 0) }
  rw [hh₁]
  have hoL : (h₁.push (seqObj "list" vs.toArray 0)).get? h₁.objs.size = some (seqObj "list" vs.toArray 0) := Heap.get?_push_size _ rfl
  have hk₂ : Ext s.heap (h₁.push (seqObj "list" vs.toArray 0)) := fun b o e => Heap.get?_push_of_some _ (hk₁ b o e)
  have hnew : ∀ v ∈ vs, v ≠ .ref h₁.objs.size := by
    intro v hv e
    obtain ⟨j, hj⟩ := List.getElem?_of_mem hv
    obtain ⟨b, ws, r, rfl, _, ⟨o, hb, _⟩, _⟩ := hR.at j v hj
    cases e
    exact absurd (Heap.lt_size (hk₁ _ _ hb)) (Nat.lt_irrefl _)
  refine wpAny_bind (wpAny_holding (wpAny_call_entry slot_list_sort ⟨_, hoL, rfl⟩ entry_list_sort (rows_sort (s := ⟨h₁.push (seqObj "list" vs.toArray 0), s.gens, s.drawn, s.toks, s.os⟩) (show A.units + 1 + 1 < cLine from hu) hoL (hR.keep hk₂) hnew hok fun h' n' q1 q2 => ⟨_, rfl, ?_⟩) (args_list_sort _)))
  have hk₃ : Ext s.heap h' := fun b o e => q1 b o (Nat.ne_of_lt (Heap.lt_size (hk₁ _ _ e))) (hk₂ b o e)
  have hall : ∀ i ∈ srtP rows, i < rows.length := by
    simp only [srtOk, Bool.or_eq_true, Bool.and_eq_true, decide_eq_true_eq, List.all_eq_true] at hok
    rcases hok with q | q
    · intro i hi
      rw [srtP, if_pos q] at hi
      exact List.mem_range.mp hi
    · exact q.2
  exact wpAny_pure ⟨_, rfl, h h' _ _ hk₃ ⟨n', q2⟩ ((hR.keep hk₃).pick _ hall)⟩
end
end Mine

namespace Mine
open PySem PySem.W PySem.Calls PyProof.Rows

noncomputable def lB : List Stmt := fnBody (topS 17)
noncomputable def lEnv (L a : Addr) (cd : Value) : Env := callEnvC (Calls.docDef (fnName (topS 17)) (fnArgs (topS 17)) (fnBody (topS 17)) (fnScope (topS 17)) .none cd .none) L a

theorem lld {M : Model} {A : Around} {E : Value → Shared → Prop} {s : Shared} {L a : Addr} {cd : Value} {m : Str → Option Value} {x : Str} {pos : Pos} {v : Value} {Q : Value → Shared → Prop} (hn : s.heap.Ns L m) (hv : m x = some v) (h : Q v s)
    (hl : (lEnv L a cd).kindOf x = some .local := by rfl) (hd : (x == ("__debug__" : Str)) = false := by decide) :
    wpAny M A (eval (.Name x pos) (lEnv L a cd)) Q E s := wpAny_Name (wpAny_loadName_local rfl hl hn hv h) hd
theorem lbi {M : Model} {A : Around} {E : Value → Shared → Prop} {s : Shared} {mg mb : Str → Option Value} {L a : Addr} {cd : Value} {x : Str} {pos : Pos} {v : Value} {Q : Value → Shared → Prop} (hg : s.heap.Ns mainGlobals mg) (hmiss : mg x = none) (hb : s.heap.Ns builtinsNs mb) (hv : mb x = some v) (h : Q v s)
    (hx : (lEnv L a cd).kindOf x = some .globalImplicit := by rfl) (hd : (x == ("__debug__" : Str)) = false := by decide) : wpAny M A (eval (.Name x pos) (lEnv L a cd)) Q E s :=
  Calls.Name_function_global rfl hx (Calls.loadGlobal_builtin (env := lEnv L a cd) hg hmiss hb hv h) hd

theorem tailR {prog : Program} {w : World} {A : Around} {E : Value → Shared → Prop} {s : Shared} {value slice : PySem.Expr} {o i : Value} {T id : String} {ops : List Value} {Q : Value → Shared → Prop} (hT : s.TypeIs o T)
    (hl : typeLookup (.type T) "__getitem__" = pure (some (.builtin id))) (h : wpAny (model prog w) A (getItem o i) Q E s)
    (hs : subscripted slice false o i = operate ops (getItem o i)) :
    wpAny (model prog w) A (subscriptTail value slice o i) Q E s := by
  unfold subscriptTail
  refine wpAny_bind ?_
  rw [getitemInPython_of_ne hT.not_modules]
  refine wpAny_bind (wpAny_specialOf hT hl ?_)
  have fin : wpAny (model prog w) A (subscripted slice false o i) (fun r s₃ => wpAny (model prog w) A (letTemporaryGo value o r >>= fun _ => pure r) Q E s₃) E s := by
    rw [hs]
    exact wpAny_operating (wpAny_mono h (fun r s₃ h₃ => wpAny_bind (wpAny_letTemporaryGo (wpAny_pure h₃))) fun _ _ x => x)
  first
    | exact wpAny_pure (wpAny_bind fin)
    | exact wpAny_bind (wpAny_pure (wpAny_bind fin))
    | exact wpAny_bind fin

/-- l[a:b] of a list, the slice laid -/
theorem cutR {prog : Program} {w : World} {A : Around} {E : Value → Shared → Prop} {s : Shared} {value : PySem.Expr} {lower upper : Option PySem.Expr} {p : Pos} {l : Addr} {items : Array Value} {vl vu : Value} {lo hi : Option Int} {Q : Value → Shared → Prop}
    (hl : s.heap.IsList l items) (pl : IsPart vl lo) (pu : IsPart vu hi) (hsz : items.size ≤ 100000)
    (h : ∀ h' D, Ext s.heap h' → ExL h' D (slicePick items lo hi none).toList → Q (.ref D) { s with heap := h' }) :
    wpAny (model prog w) A (subscriptTail value (.Slice lower upper none p) (.ref l) (.ref s.heap.objs.size)) Q E { s with heap := s.heap.push { cls := .type "slice", data := .fields #[vl, vu, .none] } } := by
  refine tailR (ops := [.ref s.heap.objs.size, .ref l]) (Heap.IsList.typeIs (s := { s with heap := s.heap.push { cls := .type "slice", data := .fields #[vl, vu, .none] } }) (hl.push _)) list_getitem_lookup
    (wpAny_getItem_list_slice (hl.push _) (Heap.IsSliceOf.new ..) pl pu .none (by simp) ?_ (by rw [sizeLine_eq]; omega)) ?_
  · exact h _ _ (fun b o e => Heap.get?_push_of_some _ (Heap.get?_push_of_some _ e)) ⟨_, Heap.get?_push_size _ rfl⟩
  · with_unfolding_all rfl

noncomputable def dfl : List Int := [3, 0, 5, 29, 0]
noncomputable def numsR (ns : List Int) : List Int := ns.take 5 ++ dfl.drop ns.length
theorem numsR_len (ns : List Int) : (numsR ns).length = 5 := by
  unfold numsR
  rw [List.length_append, List.length_take, List.length_drop]
  show min 5 ns.length + (5 - ns.length) = 5
  omega

theorem num_stmt {w : World} {A : Around} {mg mb : Str → Option Value} {h₀ : Heap} {s : Shared} {L a l : Addr} {cd : Value} {m : Str → Option Value} {vs : List Value} {ns : List Int} {v0 : Option Value} {Q : Flow → Shared → Prop}
    (B : Base mg mb h₀) (F : Fr h₀ L s.heap m) (k1 : s.heap.IsCell (L + 1) v0) (hs : m "script" = some (.ref l)) (hl : s.heap.IsList l vs.toArray) (hi : IntsAre vs ns) (hn : ns.length ≤ 63)
    (h : ∀ h' tk D us, Fr h₀ L h' m → h'.IsCell (L + 1) (some (.ref D)) → h'.IsList D us.toArray → IntsAre us (numsR ns) → L + 1 < D → Q .next { s with heap := h', toks := tk }) :
    wpAny (model pw w) A (exec (nthS lB 0) (lEnv L a cd)) Q (fun _ _ => False) s := by
  have hLl : @LT.lt Nat _ (L + 1) s.heap.objs.size := let ⟨o, e, _⟩ := k1; Heap.lt_size e
  have hvl : vs.length = ns.length := hi.length
  have B' : Base mg mb s.heap := B.keeps F.keep
  obtain ⟨y1, y2⟩ := blt (x := "len") B' (by simp [freeNames]) (by rfl)
  refine wpAny_Assign_Name ?_
  refine @wpAny_BinOp _ _ _ _ _ _ _ _ _ _ ?_
  refine @Subscript_ _ _ _ _ _ _ _ _ _ ?_
  refine lld F.ns hs ?_
  refine wpAny_Slice (evalPart_none_step (evalPart_some_step (wpAny_Constant_int (evalPart_none_step ?_))))
  refine cutR hl .none (.int 5 _) (by rw [List.size_toArray]; omega) fun h₁ D₁ hk₁ x₁ => ?_
  have F₁ := frExt F hk₁
  refine @Subscript_ _ _ _ _ _ _ _ _ _ ?_
  refine @List_ _ _ _ _ _ _ _ _ ?_
  refine @args_cons _ _ _ _ _ _ _ _ _ ?_ rfl
  refine wpAny_Constant_int ?_
  refine @args_cons _ _ _ _ _ _ _ _ _ ?_ rfl
  refine wpAny_Constant_int ?_
  refine @args_cons _ _ _ _ _ _ _ _ _ ?_ rfl
  refine wpAny_Constant_int ?_
  refine @args_cons _ _ _ _ _ _ _ _ _ ?_ rfl
  refine wpAny_Constant_int ?_
  refine @args_cons _ _ _ _ _ _ _ _ _ ?_ rfl
  refine wpAny_Constant_int ?_
  refine args_nil (wpAny_newList ?_ (by size_fits))
  dsimp only
  obtain ⟨vd, hvd⟩ : ∃ vd, [Value.int 3 (s.toks + 1), Value.int 0 (s.toks + 1 + 1), Value.int 5 (s.toks + 1 + 1 + 1), Value.int 29 (s.toks + 1 + 1 + 1 + 1), Value.int 0 (s.toks + 1 + 1 + 1 + 1 + 1)] = vd := ⟨_, rfl⟩
  have hid : IntsAre vd dfl := by rw [← hvd]; exact .cons _ _ (.cons _ _ (.cons _ _ (.cons _ _ (.cons _ _ .nil))))
  rw [hvd]
  obtain ⟨h₂, hh₂⟩ : ∃ q, h₁.push { cls := .type "list", data := .seq vd.toArray } = q := ⟨_, rfl⟩
  have x₂ : ExL h₂ h₁.objs.size vd := by rw [← hh₂]; exact ⟨_, Heap.get?_push_size _ rfl⟩
  have hk₂ : Ext h₁ h₂ := fun b o e => by rw [← hh₂]; exact Heap.get?_push_of_some _ e
  rw [hh₂]
  have F₂ := frExt F₁ hk₂
  have B₂ : Base mg mb h₂ := B.keeps F₂.keep
  refine wpAny_Slice (evalPart_some_step ?_)
  refine @Call_ _ _ _ _ _ _ _ _ _ ?_ ?_
  rotate_left
  · rfl
  refine @lbi _ _ _ _ mg mb L a cd _ _ _ _ B₂.g y1 B₂.b y2 ?_ ?_ ?_
  rotate_left
  · rfl
  · decide
  refine @PyProof.Rows.callWith_builtin1 _ _ _ _ _ _ _ _ _ _ ?_ ?_ ?_
  rotate_left
  · rfl
  · rfl
  refine @args_cons _ _ _ _ _ _ _ _ _ ?_ rfl
  refine lld F₂.ns hs ?_
  refine args_nil ?_
  refine len_list (isL (isL hl hk₁) hk₂) (by rw [List.size_toArray]; omega) ?_
  refine evalPart_none_step (evalPart_none_step ?_)
  refine cutR x₂.isList (.int _ _) .none (by rw [← hvd]; simp) fun h₃ D₃ hk₃ x₃ => ?_
  have F₃ := frExt F₂ hk₃
  have i₁ := slice_ints_uptoW hi (y := 5) (by decide)
  have i₃ := slice_ints_fromW hid (x := ((vs.toArray.size : Nat) : Int)) (by omega)
  have e5 : (5 : Int).toNat = 5 := rfl
  rw [e5] at i₁
  have ez : ((vs.toArray.size : Nat) : Int).toNat = ns.length := by rw [Int.toNat_natCast, List.size_toArray, hvl]
  rw [ez] at i₃
  refine add_ext (isL (isL x₁.isList hk₂) hk₃) x₃.isList (fun h₄ hk₄ x₄ => ?_) ?_
  · have F₄ := frExt F₃ hk₄
    have k₄ := (((k1.keeps hk₁).keeps hk₂).keeps hk₃).keeps hk₄
    refine wpAny_storeName_cell rfl rfl (c := L + 1) rfl k₄ (fun h₅ hc₅ hs₅ => ?_)
    have hall : Ext s.heap h₃ := fun b o e => hk₃ b o (hk₂ b o (hk₁ b o e))
    have hD : @LT.lt Nat _ (L + 1) h₃.objs.size := by
      obtain ⟨o, e, _⟩ := k1
      exact Heap.lt_size (hall _ _ e)
    refine h h₅ _ _ _ (frBut F₄ hs₅ (Nat.le_succ_of_le F₄.above) (Nat.ne_of_lt (Nat.lt_succ_self _))) hc₅ ((x₄.at fun o e => hs₅.extBut _ o (Nat.ne_of_gt hD) e).isList) (i₁.append i₃) hD
  · have := i₁.length
    have := i₃.length
    rw [List.length_take] at *
    rw [List.length_drop] at *
    have e : dfl.length = 5 := rfl
    omega
end Mine

namespace Mine
open PySem PySem.W PySem.Calls PyProof.Rows

theorem fresh_none {h h' : Heap} (hk : Ext h h') : h.get? h'.objs.size = none := by
  cases e : h.get? h'.objs.size with
  | none => rfl
  | some o => exact absurd (Heap.lt_size (hk _ _ e)) (Nat.lt_irrefl _)

theorem il1 {M : Model} {A : Around} {E : Value → Shared → Prop} {s : Shared} {env : Env} {n1 : Int} {k1 : Nat} {p1 pos : Pos} {Q : Value → Shared → Prop}
    (h : ∀ h' tk D vs, Ext s.heap h' → ExL h' D vs → s.heap.get? D = none → IntsAre vs [n1] → Q (.ref D) { s with heap := h', toks := tk }) :
    wpAny M A (eval (.List [.Constant (.int n1) k1 p1] pos) env) Q E s := by
  refine @List_ _ _ _ _ _ _ _ _ ?_
  refine @args_cons _ _ _ _ _ _ _ _ _ ?_ rfl
  refine wpAny_Constant_int (args_nil (wpAny_newList ?_ (by size_fits)))
  exact h _ _ _ _ (fun b o e => Heap.get?_push_of_some _ e) ⟨_, Heap.get?_push_size _ rfl⟩ (fresh_none (h := s.heap) (h' := s.heap) fun _ _ e => e) (.cons _ _ .nil)
theorem il2 {M : Model} {A : Around} {E : Value → Shared → Prop} {s : Shared} {env : Env} {n1 n2 : Int} {k1 k2 : Nat} {p1 p2 pos : Pos} {Q : Value → Shared → Prop}
    (h : ∀ h' tk D vs, Ext s.heap h' → ExL h' D vs → s.heap.get? D = none → IntsAre vs [n1, n2] → Q (.ref D) { s with heap := h', toks := tk }) :
    wpAny M A (eval (.List [.Constant (.int n1) k1 p1, .Constant (.int n2) k2 p2] pos) env) Q E s := by
  refine @List_ _ _ _ _ _ _ _ _ ?_
  refine @args_cons _ _ _ _ _ _ _ _ _ ?_ rfl
  refine wpAny_Constant_int ?_
  refine @args_cons _ _ _ _ _ _ _ _ _ ?_ rfl
  refine wpAny_Constant_int (args_nil (wpAny_newList ?_ (by size_fits)))
  exact h _ _ _ _ (fun b o e => Heap.get?_push_of_some _ e) ⟨_, Heap.get?_push_size _ rfl⟩ (fresh_none (h := s.heap) (h' := s.heap) fun _ _ e => e) (.cons _ _ (.cons _ _ .nil))

noncomputable def kinds : List (List Nat) := [[0], [0, 1], [0, 2], [0, 1], [0, 2], [1, 2]]
noncomputable def kindR (z : Int) : List Nat := kinds.getD (z.fmod 6).toNat []
noncomputable def natI (l : List Nat) : List Int := l.map fun n => ((n : Nat) : Int)

noncomputable def dcOf : Stmt → PySem.Expr := stVal
noncomputable def dcC : PySem.Expr := stVal (nthS lB 1)
noncomputable def dcVal : PySem.Expr → PySem.Expr
  | .DictComp _ v _ _ _ => v
  | _ => default
noncomputable def dcScope : PySem.Expr → Scope
  | .DictComp _ _ _ sc _ => sc
  | _ => default

theorem kind_elt {w : World} {A : Around} {s : Shared} {E : Value → Shared → Prop} {Q : Value → Shared → Prop} {C L a : Addr} {cd : Value} {m : Str → Option Value} {z : Int} {u : Tok}
    (hn : s.heap.Ns C m) (hm : m "v" = some (.int z u))
    (h : ∀ h' tk b vs, Ext s.heap h' → ExL h' b vs → s.heap.get? b = none → IntsAre vs (natI (kindR z)) → Q (.ref b) { s with heap := h', toks := tk }) :
    wpAny (model pw w) A (eval (dcVal dcC) (compEnvC (dcScope dcC) [] C (lEnv L a cd))) Q E s := by
  refine @Subscript_ _ _ _ _ _ _ _ _ _ ?_
  refine @List_ _ _ _ _ _ _ _ _ ?_
  refine @args_cons _ _ _ _ _ _ _ _ _ ?_ rfl
  refine @il1 _ _ _ _ _ _ _ _ _ _ fun h₁ k₁ D₁ vs₁ e₁ x₁ f₁ i₁ => ?_
  refine @args_cons _ _ _ _ _ _ _ _ _ ?_ rfl
  refine @il2 _ _ _ _ _ _ _ _ _ _ _ _ _ fun h₂ k₂ D₂ vs₂ e₂ x₂ f₂ i₂ => ?_
  refine @args_cons _ _ _ _ _ _ _ _ _ ?_ rfl
  refine @il2 _ _ _ _ _ _ _ _ _ _ _ _ _ fun h₃ k₃ D₃ vs₃ e₃ x₃ f₃ i₃ => ?_
  refine @args_cons _ _ _ _ _ _ _ _ _ ?_ rfl
  refine @il2 _ _ _ _ _ _ _ _ _ _ _ _ _ fun h₄ k₄ D₄ vs₄ e₄ x₄ f₄ i₄ => ?_
  refine @args_cons _ _ _ _ _ _ _ _ _ ?_ rfl
  refine @il2 _ _ _ _ _ _ _ _ _ _ _ _ _ fun h₅ k₅ D₅ vs₅ e₅ x₅ f₅ i₅ => ?_
  refine @args_cons _ _ _ _ _ _ _ _ _ ?_ rfl
  refine @il2 _ _ _ _ _ _ _ _ _ _ _ _ _ fun h₆ k₆ D₆ vs₆ e₆ x₆ f₆ i₆ => ?_
  dsimp only at e₁ e₂ e₃ e₄ e₅ e₆ f₁ f₂ f₃ f₄ f₅ f₆
  refine args_nil (wpAny_newList ?_ (by size_fits))
  dsimp only
  obtain ⟨h₇, hh₇⟩ : ∃ q, h₆.push { cls := .type "list", data := .seq [Value.ref D₁, .ref D₂, .ref D₃, .ref D₄, .ref D₅, .ref D₆].toArray } = q := ⟨_, rfl⟩
  have x₇ : h₇.IsList h₆.objs.size [Value.ref D₁, .ref D₂, .ref D₃, .ref D₄, .ref D₅, .ref D₆].toArray := by rw [← hh₇]; exact ⟨_, Heap.get?_push_size _ rfl, rfl, _, rfl⟩
  have e₇ : Ext h₆ h₇ := fun b o e => by rw [← hh₇]; exact Heap.get?_push_of_some _ e
  rw [hh₇]
  have e67 : Ext h₆ h₇ := e₇
  have e57 : Ext h₅ h₇ := fun b o e => e67 _ _ (e₆ _ _ e)
  have e47 : Ext h₄ h₇ := fun b o e => e57 _ _ (e₅ _ _ e)
  have e37 : Ext h₃ h₇ := fun b o e => e47 _ _ (e₄ _ _ e)
  have e27 : Ext h₂ h₇ := fun b o e => e37 _ _ (e₃ _ _ e)
  have e17 : Ext h₁ h₇ := fun b o e => e27 _ _ (e₂ _ _ e)
  have e07 : Ext s.heap h₇ := fun b o e => e17 _ _ (e₁ _ _ e)
  have e01 : Ext s.heap h₁ := e₁
  have e02 : Ext s.heap h₂ := fun b o e => e₂ _ _ (e01 _ _ e)
  have e03 : Ext s.heap h₃ := fun b o e => e₃ _ _ (e02 _ _ e)
  have e04 : Ext s.heap h₄ := fun b o e => e₄ _ _ (e03 _ _ e)
  have e05 : Ext s.heap h₅ := fun b o e => e₅ _ _ (e04 _ _ e)
  refine @wpAny_BinOp _ _ _ _ _ _ _ _ _ _ ?_
  refine wpAny_Name (wpAny_loadName_local rfl rfl (hn.keeps e07) hm ?_)
  refine wpAny_Constant_int (mod_int' (by decide) ?_)
  have h0 : 0 ≤ z.fmod 6 := Int.fmod_nonneg_of_pos _ (by decide)
  have h6 : z.fmod 6 < 6 := Int.fmod_lt_of_pos _ (by decide)
  refine tailR (ops := [.ref h₆.objs.size, .int (z.fmod 6) _]) x₇.typeIs list_getitem_lookup ?_ (by with_unfolding_all rfl)
  have fin : ∀ (k : Nat) (D : Addr) (vs : List Value), z.fmod 6 = (k : Int) → [Value.ref D₁, .ref D₂, .ref D₃, .ref D₄, .ref D₅, .ref D₆][k]? = some (.ref D) → ExL h₇ D vs → s.heap.get? D = none → IntsAre vs (natI (kinds.getD k [])) → ∀ tk t,
      wpAny (model pw w) A (getItem (.ref h₆.objs.size) (.int (z.fmod 6) t)) Q E { s with heap := h₇, toks := tk } := by
    intro k D vs hk hg hx hf hi tk t
    have hk' : (z.fmod 6).toNat = k := by omega
    refine wpAny_getItem_list (x := .ref D) x₇ h0 (by omega) (by rw [hk']; simpa using hg) ?_
    refine h h₇ tk D vs e07 hx hf ?_
    unfold kindR
    rw [hk']; exact hi
  have hcases : z.fmod 6 = ((0 : Nat) : Int) ∨ z.fmod 6 = ((1 : Nat) : Int) ∨ z.fmod 6 = ((2 : Nat) : Int) ∨ z.fmod 6 = ((3 : Nat) : Int) ∨ z.fmod 6 = ((4 : Nat) : Int) ∨ z.fmod 6 = ((5 : Nat) : Int) := by omega
  rcases hcases with q | q | q | q | q | q
  · exact fin 0 D₁ vs₁ q rfl (x₁.at fun _ e => e17 _ _ e) f₁ i₁ _ _
  · exact fin 1 D₂ vs₂ q rfl (x₂.at fun _ e => e27 _ _ e) (Ext.none e01 f₂) i₂ _ _
  · exact fin 2 D₃ vs₃ q rfl (x₃.at fun _ e => e37 _ _ e) (Ext.none e02 f₃) i₃ _ _
  · exact fin 3 D₄ vs₄ q rfl (x₄.at fun _ e => e47 _ _ e) (Ext.none e03 f₄) i₄ _ _
  · exact fin 4 D₅ vs₅ q rfl (x₅.at fun _ e => e57 _ _ e) (Ext.none e04 f₅) i₅ _ _
  · exact fin 5 D₆ vs₆ q rfl (x₆.at fun _ e => e67 _ _ e) (Ext.none e05 f₆) i₆ _ _
end Mine

namespace Mine
open PySem PySem.W PySem.Calls PyProof.Rows

noncomputable abbrev zA (h : Heap) (x : Str) (t : Tok) : Heap := h.push { cls := .type "str_ascii_iterator", data := .fields #[.str x t, .int 0 0] }
noncomputable abbrev zB (h : Heap) (x : Str) (t : Tok) (l : Addr) : Heap := (zA h x t).push { cls := .type "list_iterator", data := .fields #[.ref l, .int 0 0] }
noncomputable abbrev zC (h : Heap) (x : Str) (t : Tok) (l : Addr) : Heap := (zB h x t l).push { cls := .type "tuple", data := .seq #[.ref h.objs.size, .ref (zA h x t).objs.size] }
noncomputable abbrev zD (h : Heap) (x : Str) (t : Tok) (l : Addr) : Heap := (zC h x t l).push { cls := .type "tuple", data := .seq #[.none, .none] }
noncomputable abbrev zE (h : Heap) (x : Str) (t : Tok) (l : Addr) : Heap := (zD h x t l).push { cls := .type "zip", data := .fields #[.none, .bool false, .bool false, .ref (zB h x t l).objs.size, .ref (zC h x t l).objs.size] }

theorem zip_new_sl (x : Str) (t : Tok) (l : Addr) (ys : Array Value) (hx : x.cps.all (· < 128) = true) :
    Meets (Builtin.«zip.__new__» ⟨[.type "zip", .str x t, .ref l], []⟩) (fun _ R s => s.heap.IsList l ys ∧ R (.ok (.ret (.ref (zD s.heap x t l).objs.size))) { s with heap := zE s.heap x t l }) :=
  .of_wp fun prog w A R s h => by
    obtain ⟨hp, g, d, tk, os⟩ := s; obtain ⟨hl, h⟩ := h
    have hsub := sub_zip
    have hL : Heap.IsList (Shared.heap ⟨hp.push { cls := .type "str_ascii_iterator", data := .fields #[.str x t, .int 0 0] }, g, d, tk, os⟩) l ys := Heap.IsList.push hl _
    wp_walk using wpAny_pyIter_ascii hx, wpAny_pyIter_list hL
    exact ⟨_, rfl, h⟩

/-- zip of a plain text and a list -/
theorem zip_sl {w : World} {A : Around} {E : Value → Shared → Prop} {s : Shared} {x : Str} {t : Tok} {l : Addr} {ys : Array Value} {Q : Value → Shared → Prop} (hx : x.cps.all (· < 128) = true) (hl : s.heap.IsList l ys)
    (h : ∀ h' z TI TO i1 i2, Ext s.heap h' → IsZip h' z TI TO .none → IsPair h' TI (.ref i1) (.ref i2) → IsPair h' TO .none .none → h'.IsStrIter i1 "str_ascii_iterator" x t 0 → h'.IsListIter i2 l 0 →
      @LE.le Nat _ s.heap.objs.size i1 → @LT.lt Nat _ i1 i2 → @LT.lt Nat _ i2 TI → @LT.lt Nat _ TI TO → @LT.lt Nat _ TO z → Q (.ref z) { s with heap := h' }) :
    wpAny (model pw w) A (call (.type "zip") [.str x t, .ref l]) Q E s := by
  refine callType_new F.called_zip (by decide) (F.typeCall_zip_2 _ _) (F.newCall_zip_2 _ _) (fun obj => F.args_object_init_3 obj _ _) F.entry_zip_new
    (zip_new_sl x t l ys hx) ⟨hl, ⟨_, Heap.get?_push_size _ rfl, rfl⟩, ?_⟩
  refine h _ _ (zB s.heap x t l).objs.size (zC s.heap x t l).objs.size s.heap.objs.size (zA s.heap x t).objs.size ?_ (Heap.get?_push_size _ rfl) ?_ ?_ ?_ ?_ (Nat.le_refl _) ?_ ?_ ?_ ?_
  · exact fun b o e => Heap.get?_push_of_some _ (Heap.get?_push_of_some _ (Heap.get?_push_of_some _ (Heap.get?_push_of_some _ (Heap.get?_push_of_some _ e))))
  · exact Heap.get?_push_of_some _ (Heap.get?_push_of_some _ (Heap.get?_push_size _ rfl))
  · exact Heap.get?_push_of_some _ (Heap.get?_push_size _ rfl)
  · exact ⟨_, Heap.get?_push_of_some _ (Heap.get?_push_of_some _ (Heap.get?_push_of_some _ (Heap.get?_push_of_some _ (Heap.get?_push_size _ rfl)))), rfl, rfl⟩
  · exact ⟨_, Heap.get?_push_of_some _ (Heap.get?_push_of_some _ (Heap.get?_push_of_some _ (Heap.get?_push_size _ rfl))), rfl, rfl⟩
  · show @LT.lt Nat _ _ (zA s.heap x t).objs.size
    rw [Heap.size_push]; exact Nat.lt_succ_self _
  · show @LT.lt Nat _ _ (zB s.heap x t l).objs.size
    rw [Heap.size_push (zA s.heap x t)]; exact Nat.lt_succ_self _
  · show @LT.lt Nat _ _ (zC s.heap x t l).objs.size
    rw [Heap.size_push (zB s.heap x t l)]; exact Nat.lt_succ_self _
  · show @LT.lt Nat _ _ (zD s.heap x t l).objs.size
    rw [Heap.size_push (zC s.heap x t l)]; exact Nat.lt_succ_self _
end Mine

namespace Mine
open PySem PySem.W PySem.Calls PyProof.Rows

/-- a zip of a plain text and a list, at its turn j -/
structure ZS (h : Heap) (z TI TO i1 i2 l : Addr) (x : Str) (t : Tok) (ys : Array Value) (f0 : Value) (j : Nat) : Prop where
  z : IsZip h z TI TO f0
  ti : IsPair h TI (.ref i1) (.ref i2)
  to : ∃ a b, IsPair h TO a b
  s1 : h.IsStrIter i1 "str_ascii_iterator" x t j
  s2 : h.IsListIter i2 l j
  l : h.IsList l ys
structure ZAp (z TI TO i1 i2 l : Addr) : Prop where
  l1 : @LT.lt Nat _ l i1
  a : @LT.lt Nat _ i1 i2
  b : @LT.lt Nat _ i2 TI
  c : @LT.lt Nat _ TI TO
  d : @LT.lt Nat _ TO z
theorem ZS.at {h h' : Heap} {z TI TO i1 i2 l : Addr} {x : Str} {t : Tok} {ys : Array Value} {f0 : Value} {j : Nat} (X : ZS h z TI TO i1 i2 l x t ys f0 j) (hk : ∀ b o, b = z ∨ b = TI ∨ b = TO ∨ b = i1 ∨ b = i2 ∨ b = l → h.get? b = some o → h'.get? b = some o) : ZS h' z TI TO i1 i2 l x t ys f0 j := by
  obtain ⟨a, b, ⟨u, v, c⟩, ⟨o1, d, r1⟩, ⟨o2, e, r2⟩, f⟩ := X
  exact ⟨hk _ _ (by simp) a, hk _ _ (by simp) b, ⟨u, v, hk _ _ (by simp) c⟩, ⟨o1, hk _ _ (by simp) d, r1⟩, ⟨o2, hk _ _ (by simp) e, r2⟩, f.at fun o q => hk _ o (by simp) q⟩

section
variable {prog : Program} {w : World} {A : Around} {E : Value → Shared → Prop} {s : Shared} {z TI TO i1 i2 l : Addr} {x : Str} {t : Tok} {ys : Array Value} {j : Nat}

theorem zs_next (hA : A.handled = none) {Q : Option Value → Shared → Prop} (D : ZAp z TI TO i1 i2 l) (X : ZS s.heap z TI TO i1 i2 l x t ys .none j) (hxj : j < x.cps.size) (hyj : j < ys.size)
    (hQ : ∀ h' tk (T : Nat) c u, x.cps[j]? = some c → ZS h' z TI TO i1 i2 l x t ys (rawInt T) (j + 1) → h'.IsTuple T #[.str ⟨#[c]⟩ u, ys[j]] → @LE.le Nat _ s.heap.objs.size T → (∀ b o, b ≠ z → b ≠ TO → b ≠ i1 → b ≠ i2 → s.heap.get? b = some o → h'.get? b = some o) →
      Q (some (.ref T)) { s with heap := h', toks := tk }) : wpAny (model prog w) A (pyNext (.ref z)) Q E s := by
  obtain ⟨hz, hTI, ⟨a, b, hTO⟩, h1, h2, hl⟩ := X
  obtain ⟨dl, da, db, dc, dd⟩ := D
  have hT : s.TypeIs (.ref z) "zip" := ⟨_, hz, rfl⟩
  have zTO : z ≠ TO := Nat.ne_of_gt dd
  have zi1 : z ≠ i1 := Nat.ne_of_gt (by omega)
  have zi2 : z ≠ i2 := Nat.ne_of_gt (by omega)
  have zl : z ≠ l := Nat.ne_of_gt (by omega)
  have zTI : z ≠ TI := Nat.ne_of_gt (by omega)
  have Oi1 : TO ≠ i1 := Nat.ne_of_gt (by omega)
  have Oi2 : TO ≠ i2 := Nat.ne_of_gt (by omega)
  have Ol : TO ≠ l := Nat.ne_of_gt (by omega)
  have OTI : TO ≠ TI := Nat.ne_of_gt dc
  have i12 : i1 ≠ i2 := Nat.ne_of_lt da
  have i1l : i1 ≠ l := Nat.ne_of_gt dl
  have i2l : i2 ≠ l := Nat.ne_of_gt (by omega)
  have i1T : i1 ≠ TI := Nat.ne_of_lt (by omega)
  have i2T : i2 ≠ TI := Nat.ne_of_lt db
  have hA' : A.in1.handled = none := hA
  have D1 := Draws.strAscii (prog := prog) (w := w) (A := A.in1) hA' i1 x t
  have D2 := Draws.list (prog := prog) (w := w) (A := A.in1) hA' i2 l (Ne.symm i2l) ys
  unfold pyNext
  refine wpAny_bind (wpAny_attempt (wpAny_callSpecial?_slot (name := Str.ofString "__next__") hT F.slot_zip_next
    (wpAny_call_entry F.slot_zip_next hT F.entry_zip_next ?_ (F.args_zip_next_1 _))))
  show wpAny _ _ (field (.ref z) 2 >>= _) _ _ _
  refine wpAny_bind (wpAny_field hz rfl (x := .bool false) rfl ?_)
  show wpAny _ _ (field (.ref z) 3 >>= _) _ _ _
  refine wpAny_bind (wpAny_field hz rfl (x := .ref TI) rfl ?_)
  refine wpAny_bind (wpAny_seqItems hTI rfl ?_)
  show wpAny _ _ (Builtin.SmallTypes.ownedTupleIsFree (.ref z) >>= _) _ _ _
  refine wpAny_bind ?_
  unfold Builtin.SmallTypes.ownedTupleIsFree
  refine wpAny_bind (wpAny_field hz rfl (x := .none) rfl (wpAny_pure ?_))
  simp only [if_true]
  refine wpAny_bind (wpAny_rule ?_)
  refine wpAny_bind (wpAny_field hz rfl (x := .ref TO) rfl ?_)
  refine wpAny_bind (wpAny_setField_rec hz (by simp) fun h₁ hz₁ hs₁ => ?_)
  replace hz₁ : IsZip h₁ z TI TO .ellipsis := hz₁
  refine wpAny_bind ?_
  simp only [List.zipIdx_cons, List.zipIdx_nil, List.forIn_cons, List.forIn_nil]
  refine wpAny_bind (wpAny_bind (wpAny_onRaise ?_))
  show wpAny _ _ (Builtin.SmallTypes.nextOf (.ref i1) >>= _) _ _ _
  refine wpAny_bind (D1.item j _ _ _ hxj (let ⟨o, e, r⟩ := h1; ⟨o, hs₁.extBut _ o (Ne.symm zi1) e, r⟩) fun c1 h₂ tk₂ hP1 hS1 hs₂ => wpAny_pure ?_)
  obtain ⟨c, u, hc, rfl⟩ := hP1
  have hTO₂ : IsPair h₂ TO a b := hs₂.extBut _ _ Oi1 (hs₁.extBut _ _ (Ne.symm zTO) hTO)
  refine wpAny_bind (wpAny_seqItems hTO₂ rfl ?_)
  refine wpAny_bind (wpAny_updateSeq_pair hTO₂ fun h₃ hTO₃ hs₃ => ?_)
  replace hTO₃ : IsPair h₃ TO (.str ⟨#[c]⟩ u) b := hTO₃
  refine wpAny_bind (wpAny_letGo (wpAny_pure ?_))
  refine wpAny_bind (wpAny_bind (wpAny_onRaise ?_))
  show wpAny _ _ (Builtin.SmallTypes.nextOf (.ref i2) >>= _) _ _ _
  have k13 : ∀ b o, b ≠ z → b ≠ i1 → b ≠ TO → s.heap.get? b = some o → h₃.get? b = some o := fun b o q1 q2 q3 e => hs₃.extBut b o q3 (hs₂.extBut b o q2 (hs₁.extBut b o q1 e))
  refine wpAny_bind (D2.item j _ _ _ hyj ⟨let ⟨o, e, r⟩ := h2; ⟨o, k13 _ o (Ne.symm zi2) (Ne.symm i12) (Ne.symm Oi2) e, r⟩, hl.at fun o e => k13 _ o (Ne.symm zl) (Ne.symm i1l) (Ne.symm Ol) e⟩ fun y h₄ tk₄ hP2 hS2 hs₄ => wpAny_pure ?_)
  have hy : y = ys[j] := by rw [Array.getElem?_eq_getElem hyj] at hP2; exact (Option.some.inj hP2).symm
  subst hy
  have hTO₄ : IsPair h₄ TO (.str ⟨#[c]⟩ u) b := hs₄.extBut _ _ Oi2 hTO₃
  refine wpAny_bind (wpAny_seqItems hTO₄ rfl ?_)
  refine wpAny_bind (wpAny_updateSeq_pair hTO₄ fun h₅ hTO₅ hs₅ => ?_)
  replace hTO₅ : IsPair h₅ TO (.str ⟨#[c]⟩ u) ys[j] := hTO₅
  refine wpAny_bind (wpAny_letGo (wpAny_pure (wpAny_pure ?_)))
  refine wpAny_bind (wpAny_seqItems hTO₅ rfl ?_)
  refine wpAny_bind (wpAny_newTuple ?_)
  have hz₅ : IsZip h₅ z TI TO .ellipsis := hs₅.extBut _ _ zTO (hs₄.extBut _ _ zi2 (hs₃.extBut _ _ zTO (hs₂.extBut _ _ zi1 hz₁)))
  have hk₅ : ∀ b o, b ≠ z → b ≠ TO → b ≠ i1 → b ≠ i2 → s.heap.get? b = some o → h₅.get? b = some o := fun b o q1 q2 q3 q4 e => hs₅.extBut b o q2 (hs₄.extBut b o q4 (k13 b o q1 q3 q2 e))
  have hzl : @LT.lt Nat _ z h₅.objs.size := Heap.lt_size hz₅
  show wpAny _ _ (Builtin.SmallTypes.ownedTupleHandOut (.ref z) (.ref h₅.objs.size) >>= _) _ _ _
  refine wpAny_bind ?_
  unfold Builtin.SmallTypes.ownedTupleHandOut
  have hz₆ : IsZip (h₅.push { cls := .type "tuple", data := .seq #[.str ⟨#[c]⟩ u, ys[j]] }) z TI TO .ellipsis := Heap.get?_push_of_some _ hz₅
  refine wpAny_bind (wpAny_setField_rec hz₆ (by simp) fun h₇ hz₇ hs₇ => ?_)
  replace hz₇ : IsZip h₇ z TI TO (rawInt h₅.objs.size) := hz₇
  refine wpAny_setField_rec hz₇ (by simp) fun h₈ hz₈ hs₈ => ?_
  replace hz₈ : IsZip h₈ z TI TO (rawInt h₅.objs.size) := hz₈
  have up : ∀ b o, b ≠ z → h₅.get? b = some o → h₈.get? b = some o := fun b o q e => hs₈.extBut _ _ q (hs₇.extBut _ _ q (Heap.get?_push_of_some _ e))
  have hT₈ : IsPair h₈ h₅.objs.size (.str ⟨#[c]⟩ u) ys[j] := hs₈.extBut _ _ (Nat.ne_of_gt hzl) (hs₇.extBut _ _ (Nat.ne_of_gt hzl) (Heap.get?_push_size _ rfl))
  have hsz : h₅.objs.size = s.heap.objs.size := by rw [hs₅.1, hs₄.1, hs₃.1, hs₂.1, hs₁.1]
  refine wpAny_pure ⟨_, rfl, wpAny_pure ?_⟩
  refine hQ h₈ _ h₅.objs.size c u hc ⟨hz₈, up _ _ (Ne.symm zTI) (hk₅ _ _ (Ne.symm zTI) (Ne.symm OTI) (Ne.symm i1T) (Ne.symm i2T) hTI), ⟨_, _, up _ _ (Ne.symm zTO) hTO₅⟩, ?_, ?_, ?_⟩ ⟨_, hT₈, rfl, _, rfl⟩ (Nat.le_of_eq hsz.symm) fun b o q1 q2 q3 q4 e => up b o q1 (hk₅ b o q1 q2 q3 q4 e)
  · obtain ⟨o, e, r⟩ := hS1
    exact ⟨o, up _ o (Ne.symm zi1) (hs₅.extBut _ o (Ne.symm Oi1) (hs₄.extBut _ o i12 (hs₃.extBut _ o (Ne.symm Oi1) e))), r⟩
  · obtain ⟨⟨o, e, r⟩, _⟩ := hS2
    exact ⟨o, up _ o (Ne.symm zi2) (hs₅.extBut _ o (Ne.symm Oi2) e), r⟩
  · exact hl.at fun o e => up _ o (Ne.symm zl) (hk₅ _ o (Ne.symm zl) (Ne.symm Ol) (Ne.symm i1l) (Ne.symm i2l) e)

theorem zs_end (hA : A.handled = none) {Q : Option Value → Shared → Prop} (D : ZAp z TI TO i1 i2 l) (X : ZS s.heap z TI TO i1 i2 l x t ys .none x.cps.size)
    (hQ : ∀ h', (∀ b o, b ≠ z → b ≠ TO → b ≠ i1 → b ≠ i2 → s.heap.get? b = some o → h'.get? b = some o) → Q none { s with heap := h' }) : wpAny (model prog w) A (pyNext (.ref z)) Q E s := by
  obtain ⟨hz, hTI, ⟨a, b, hTO⟩, h1, h2, hl⟩ := X
  obtain ⟨dl, da, db, dc, dd⟩ := D
  have hT : s.TypeIs (.ref z) "zip" := ⟨_, hz, rfl⟩
  have zi1 : z ≠ i1 := Nat.ne_of_gt (by omega)
  have hA' : A.in1.handled = none := hA
  have D1 := Draws.strAscii (prog := prog) (w := w) (A := A.in1) hA' i1 x t
  unfold pyNext
  refine wpAny_bind (wpAny_attempt (wpAny_callSpecial?_slot (name := Str.ofString "__next__") hT F.slot_zip_next
    (wpAny_call_entry F.slot_zip_next hT F.entry_zip_next ?_ (F.args_zip_next_1 _))))
  show wpAny _ _ (field (.ref z) 2 >>= _) _ _ _
  refine wpAny_bind (wpAny_field hz rfl (x := .bool false) rfl ?_)
  show wpAny _ _ (field (.ref z) 3 >>= _) _ _ _
  refine wpAny_bind (wpAny_field hz rfl (x := .ref TI) rfl ?_)
  refine wpAny_bind (wpAny_seqItems hTI rfl ?_)
  show wpAny _ _ (Builtin.SmallTypes.ownedTupleIsFree (.ref z) >>= _) _ _ _
  refine wpAny_bind ?_
  unfold Builtin.SmallTypes.ownedTupleIsFree
  refine wpAny_bind (wpAny_field hz rfl (x := .none) rfl (wpAny_pure ?_))
  simp only [if_true]
  refine wpAny_bind (wpAny_rule ?_)
  refine wpAny_bind (wpAny_field hz rfl (x := .ref TO) rfl ?_)
  refine wpAny_bind (wpAny_setField_rec hz (by simp) fun h₁ hz₁ hs₁ => ?_)
  replace hz₁ : IsZip h₁ z TI TO .ellipsis := hz₁
  refine wpAny_bind ?_
  simp only [List.zipIdx_cons, List.zipIdx_nil, List.forIn_cons, List.forIn_nil]
  refine wpAny_bind (wpAny_bind (wpAny_onRaise ?_))
  show wpAny _ _ (Builtin.SmallTypes.nextOf (.ref i1) >>= _) _ _ _
  refine wpAny_bind (D1.done _ _ _ (let ⟨o, e, r⟩ := h1; ⟨o, hs₁.extBut _ o (Ne.symm zi1) e, r⟩) fun h₂ e hs₂ he => ?_)
  obtain ⟨oe, hoe, hce⟩ := he
  have hz₂ : IsZip h₂ z TI TO .ellipsis := hs₂ _ _ zi1 hz₁
  have hez : e ≠ z := fun q => by subst q; rw [hz₂] at hoe; cases hoe; simp at hce
  refine wpAny_setField_rec hz₂ (by simp) fun h₃ _ hs₃ => ?_
  refine wpAny_bind (wpAny_isInstance (T := "StopIteration") (b := true) ⟨oe, hs₃.extBut _ _ hez hoe, hce⟩ isSubtype_stop ?_)
  exact wpAny_pure (hQ _ fun b o q1 q2 q3 q4 x => hs₃.extBut _ _ q1 (hs₂ _ _ q3 (hs₁.extBut _ _ q1 x)))
end
end Mine

namespace Mine
open PySem PySem.W PySem.Calls PyProof.Rows

theorem valueAt_stored {K : Type} [DecidableEq K] (kvs : List (K × Value)) (k : K) (v : Value) (y : K) : valueAt (stored kvs k v) y = if y = k then some v else valueAt kvs y := by
  have miss : ∀ l : List (K × Value), (l.any fun kv => kv.1 = k) = false → valueAt (l ++ [(k, v)]) y = if y = k then some v else valueAt l y := by
    intro l
    induction l with
    | nil =>
      intro _
      by_cases h : y = k
      · subst h; simp [valueAt]
      · have : ¬ k = y := fun e => h e.symm
        simp [valueAt, h, this]
    | cons p r ih =>
      intro hl
      simp only [List.any_cons, Bool.or_eq_false_iff, decide_eq_false_iff_not] at hl
      have e := ih hl.2
      by_cases hp : p.1 = y
      · have : y ≠ k := fun e => hl.1 (hp.trans e)
        rw [if_neg this]
        simp [valueAt, hp]
      · simp only [valueAt, List.cons_append, List.find?_cons, hp, decide_false] at e ⊢
        exact e
  have hit : ∀ l : List (K × Value), (l.any fun kv => kv.1 = k) = true → valueAt (l.map fun kv => if kv.1 = k then (kv.1, v) else kv) y = if y = k then some v else valueAt l y := by
    intro l
    induction l with
    | nil => intro h; simp at h
    | cons p r ih =>
      intro hl
      by_cases hp : p.1 = k
      · by_cases hy : y = k
        · simp [valueAt, hp, hy]
        · rw [if_neg hy]
          have hk : ¬ k = y := fun e => hy e.symm
          by_cases hr : (r.any fun kv => kv.1 = k) = true
          · have e := ih hr
            rw [if_neg hy] at e
            simp only [valueAt, List.map_cons, List.find?_cons, hp, if_true, hk, decide_false] at e ⊢
            exact e
          · have hr' : ∀ q ∈ r, q.1 ≠ k := fun q hq e => hr (List.any_eq_true.mpr ⟨q, hq, by simpa using e⟩)
            have er : (r.map fun kv => if kv.1 = k then (kv.1, v) else kv) = r := by
              conv => rhs; rw [← List.map_id r]
              exact List.map_congr_left fun q hq => by rw [if_neg (hr' q hq)]; rfl
            simp only [valueAt, List.map_cons, List.find?_cons, hp, if_true, hk, decide_false]
            rw [er]
      · have hr : (r.any fun kv => kv.1 = k) = true := by simpa [hp] using hl
        have e := ih hr
        by_cases hy : p.1 = y
        · have hyk : ¬ y = k := fun e => hp (hy.trans e)
          rw [if_neg hyk]
          simp [valueAt, hy, hyk]
        · simp only [valueAt, List.map_cons, List.find?_cons, hp, if_false, hy, decide_false] at e ⊢
          exact e
  unfold stored
  by_cases h : (kvs.any fun kv => kv.1 = k) = true
  · rw [if_pos h]; exact hit kvs h
  · rw [if_neg h]; exact miss kvs (by cases e : (kvs.any fun kv => kv.1 = k) with | false => rfl | true => exact absurd e h)

noncomputable def fisL : List Nat := [102, 105, 115]
noncomputable def ltr (i : Nat) : Str := ⟨#[fisL.getD i 0]⟩
theorem ltr_ne : ∀ i < 3, ∀ j < 3, i ≠ j → ltr i ≠ ltr j := by decide

theorem kind_elt' {w : World} {A : Around} {s : Shared} {E : Value → Shared → Prop} {Q : Value → Shared → Prop} {C L a : Addr} {cd : Value} {m : Str → Option Value} {z : Int} {u : Tok} {e : PySem.Expr} {env : Env}
    (hn : s.heap.Ns C m) (hm : m "v" = some (.int z u))
    (h : ∀ h' tk b vs, Ext s.heap h' → ExL h' b vs → s.heap.get? b = none → IntsAre vs (natI (kindR z)) → Q (.ref b) { s with heap := h', toks := tk })
    (he : e = dcVal dcC) (henv : env = compEnvC (dcScope dcC) [] C (lEnv L a cd)) : wpAny (model pw w) A (eval e env) Q E s := by
  subst he henv
  exact @kind_elt w A s E Q C L a cd m z u hn hm h

structure Six (z TO i1 i2 D C b : Addr) : Prop where
  z : b ≠ z
  o : b ≠ TO
  i : b ≠ i1
  j : b ≠ i2
  d : b ≠ D
  c : b ≠ C

/-- the cells of counts, the first j laid -/
noncomputable def CntJ (zs : List Int) (z TO i1 i2 D C : Addr) (h : Heap) (kvs : List (Str × Value)) (j : Nat) : Prop :=
  ∀ i < j, ∃ b vs, valueAt kvs (ltr i) = some (.ref b) ∧ h.IsList b vs.toArray ∧ IntsAre vs (natI (kindR (zs.getD i 0))) ∧ Six z TO i1 i2 D C b

theorem cnt_loop {w : World} {A : Around} {R : Result → Shared → Prop} {s : Shared} {L a C D z TI TO i1 i2 l : Addr} {cd : Value} {t : Tok} {us : List Value} {zs : List Int} {m : Str → Option Value}
    {kx vx iter target : PySem.Expr} {p1 p2 p3 p4 pos : Pos} {kt : Nat} {scope : Scope} {env : Env}
    (hA : A.handled = none) (Dz : ZAp z TI TO i1 i2 l) (X : ZS s.heap z TI TO i1 i2 l "fis" t us.toArray .none 0) (hi : IntsAre us zs) (h5 : zs.length = 5) (hD : s.heap.DictOf (PySem.strKind pw w) D []) (hn : s.heap.Ns C m)
    (hDC : D ≠ C) (hzD : @LT.lt Nat _ z D) (hzC : @LT.lt Nat _ z C)
    (hkx : kx = .Name "letter" p4) (hvx : vx = dcVal dcC) (htg : target = .Tuple [.Name "letter" p1, .Name "v" p2] kt p3) (hsc : scope = dcScope dcC) (henv : env = compEnvC (dcScope dcC) [] C (lEnv L a cd))
    (hR : ∀ h' tk m' kvs, h'.Ns C m' → h'.DictOf (PySem.strKind pw w) D kvs → CntJ zs z TO i1 i2 D C h' kvs 3 → (∀ b o, Six z TO i1 i2 D C b → s.heap.get? b = some o → h'.get? b = some o) → R (.ok .next) { s with heap := h', toks := tk }) :
    codeAny (model pw w) A (.compLoop (.DictComp kx vx [⟨target, iter, [], 0⟩] scope pos) 0 (.ref z) (.ref D) env) R s := by
  subst hkx hvx htg hsc henv
  have hzl : @LT.lt Nat _ l z := by obtain ⟨a, b, c, d, e⟩ := Dz; omega
  have hlen : ("fis" : Str).cps.size = 3 := rfl
  have six_l : Six z TO i1 i2 D C l := by
    obtain ⟨a, b, c, d, e⟩ := Dz
    exact ⟨Nat.ne_of_lt hzl, Nat.ne_of_lt (by omega), Nat.ne_of_lt (by omega), Nat.ne_of_lt (by omega), Nat.ne_of_lt (by omega), Nat.ne_of_lt (by omega)⟩
  have low : ∀ b : Nat, b ≤ z → b ≠ D ∧ b ≠ C := fun b hb => ⟨Nat.ne_of_lt (Nat.lt_of_le_of_lt hb hzD), Nat.ne_of_lt (Nat.lt_of_le_of_lt hb hzC)⟩
  have zst : ∀ {h h' : Heap} {f0 : Value} {j : Nat}, ZS h z TI TO i1 i2 l "fis" t us.toArray f0 j → (∀ b o, b ≠ D → b ≠ C → h.get? b = some o → h'.get? b = some o) → ZS h' z TI TO i1 i2 l "fis" t us.toArray f0 j := fun X hk => X.at fun b o hb e => by
    obtain ⟨q1, q2, q3, q4, q5⟩ := Dz
    have : @LE.le Nat _ b z := by rcases hb with rfl | rfl | rfl | rfl | rfl | rfl <;> omega
    exact hk b o (low b this).1 (low b this).2 e
  refine codeAny_loop rfl (fun n s' => ∃ h' tk m' j kvs, s' = { s with heap := h', toks := tk } ∧ n = 3 - j ∧ j ≤ 3 ∧ ZS h' z TI TO i1 i2 l "fis" t us.toArray .none j ∧ h'.DictOf (PySem.strKind pw w) D kvs ∧ kvs.length ≤ j ∧ h'.Ns C m' ∧
    CntJ zs z TO i1 i2 D C h' kvs j ∧ ∀ b o, Six z TO i1 i2 D C b → s.heap.get? b = some o → h'.get? b = some o) (fun n s' hI => ?_) 3
    ⟨s.heap, s.toks, m, 0, [], rfl, rfl, Nat.zero_le _, X, hD, Nat.le_refl _, hn, fun i hi => absurd hi (Nat.not_lt_zero _), fun b o _ e => e⟩
  obtain ⟨h', tk, m', j, kvs, rfl, rfl, hj, X', hD', hkl, hn', hc', hk'⟩ := hI
  show wpAny _ A ((compTurn (.DictComp _ _ [⟨_, iter, [], 0⟩] _ pos) 0 (.ref z) (.ref D) _).onRaise (fun x => do noteFrame x _; theTreesLotGoes x)) _ _ _
  refine wpAny_noted ?_
  rw [compTurn_dict]
  refine wpAny_bind (wpAny_standAt (wpAny_bind ?_))
  by_cases hj3 : j < 3
  · have hul : us.length = 5 := hi.length.trans h5
    have hyj : j < us.toArray.size := by rw [List.size_toArray]; omega
    refine zs_next hA Dz X' (by rw [hlen]; exact hj3) hyj fun h₁ tk₁ T c u hc X₁ hT₁ hTs hk₁ => ?_
    have hcl : c = fisL.getD j 0 := by
      have : (("fis" : Str).cps.toList)[j]? = some c := by rw [Array.getElem?_toList]; exact hc
      have e : (("fis" : Str).cps.toList) = fisL := by decide +kernel
      rw [e] at this
      rw [List.getD_eq_getElem?_getD, this]; rfl
    subst hcl
    obtain ⟨zj, uj, hzj⟩ : ∃ zj uj, us.toArray[j] = .int zj uj ∧ zs[j]? = some zj := by
      obtain ⟨n, q, e1, e2⟩ := hi.at j us[j] (List.getElem?_eq_getElem (by omega))
      exact ⟨n, q, by simpa using e1, e2⟩
    obtain ⟨hzj, hzs⟩ := hzj
    rw [hzj] at hT₁
    have hzd : zs.getD j 0 = zj := by rw [List.getD_eq_getElem?_getD, hzs]; rfl
    refine wpAny_bind (wpAny_letOwnedTupleGo_zip X₁.z fun h₂ hz₂ hs₂ => ?_)
    have hTz : T ≠ z := Nat.ne_of_gt (Nat.lt_of_lt_of_le (Heap.lt_size X'.z) hTs)
    have X₂ : ZS h₂ z TI TO i1 i2 l "fis" t us.toArray .none (j + 1) := by
      obtain ⟨q1, q2, q3, q4, q5⟩ := Dz
      obtain ⟨_, b, ⟨u', v', c'⟩, ⟨o1, d, r1⟩, ⟨o2, e, r2⟩, f⟩ := X₁
      exact ⟨hz₂, hs₂.extBut _ _ (Nat.ne_of_lt (by omega)) b, ⟨u', v', hs₂.extBut _ _ (Nat.ne_of_lt q5) c'⟩, ⟨o1, hs₂.extBut _ _ (Nat.ne_of_lt (by omega)) d, r1⟩, ⟨o2, hs₂.extBut _ _ (Nat.ne_of_lt (by omega)) e, r2⟩, f.at fun o q => hs₂.extBut _ o (Nat.ne_of_lt hzl) q⟩
    have hT₂ : h₂.IsTuple T #[.str (ltr j) u, .int zj uj] := let ⟨o, e, r⟩ := hT₁; ⟨o, hs₂.extBut _ o hTz e, r⟩
    have hk₂ : ∀ b o, b ≠ z → b ≠ TO → b ≠ i1 → b ≠ i2 → h'.get? b = some o → h₂.get? b = some o := fun b o q1 q2 q3 q4 e => hs₂.extBut b o q1 (hk₁ b o q1 q2 q3 q4 e)
    have hDlow : D ≠ z ∧ D ≠ TO ∧ D ≠ i1 ∧ D ≠ i2 := by
      obtain ⟨q1, q2, q3, q4, q5⟩ := Dz
      exact ⟨Nat.ne_of_gt hzD, Nat.ne_of_gt (by omega), Nat.ne_of_gt (by omega), Nat.ne_of_gt (by omega)⟩
    have hClow : C ≠ z ∧ C ≠ TO ∧ C ≠ i1 ∧ C ≠ i2 := by
      obtain ⟨q1, q2, q3, q4, q5⟩ := Dz
      exact ⟨Nat.ne_of_gt hzC, Nat.ne_of_gt (by omega), Nat.ne_of_gt (by omega), Nat.ne_of_gt (by omega)⟩
    have hn₂ : h₂.Ns C m' := hn'.at' fun o e => hk₂ _ o hClow.1 hClow.2.1 hClow.2.2.1 hClow.2.2.2 e
    have hD₂ : h₂.DictOf (PySem.strKind pw w) D kvs := hD'.at fun o e => hk₂ _ o hDlow.1 hDlow.2.1 hDlow.2.2.1 hDlow.2.2.2 e
    refine wpAny_bind ?_
    refine @wpAny_assign_Tuple _ _ _ _ _ _ _ _ _ T _ _ hA hT₂ rfl rfl fun h₃ hx₃ => ?_
    have hk₃ : Ext h₂ h₃ := fun b o e => hx₃ b o (Nat.ne_of_lt (Heap.lt_size e)) e
    show wpAny _ A (do holding [.int zj uj] (assign (.Name "letter" p1) _ (.str (ltr j) u)); do holding [] (assign (.Name "v" p2) _ (.int zj uj)); pure ()) _ _ _
    refine wpAny_bind (wpAny_holding (wpAny_assign_Name (wpAny_storeName_local rfl (hn₂.keeps hk₃) (fun h₄ hn₄ hs₄ => ?_) rfl)))
    refine wpAny_bind (wpAny_holding (wpAny_assign_Name (wpAny_storeName_local rfl hn₄ (fun h₅ hn₅ hs₅ => wpAny_pure ?_) rfl)))
    have hk₅ : ∀ b o, b ≠ C → h₂.get? b = some o → h₅.get? b = some o := fun b o hb e => hs₅.extBut b o hb (hs₄.extBut b o hb (hk₃ b o e))
    refine wpAny_bind (wpAny_pure ?_)
    rw [if_pos rfl]
    refine wpAny_bind (wpAny_bind ?_)
    refine wpAny_Name (wpAny_loadName_local rfl rfl hn₅ (v := .str (ltr j) u) rfl ?_)
    refine @wpAny_bind _ _ _ _ _ _ _ _ _ ?_
    refine @wpAny_holding _ _ _ _ _ _ _ _ ?_
    refine @kind_elt' w _ _ _ _ C L a cd _ zj uj _ _ hn₅ rfl (fun h₆ tk₆ b vs hk₆ x₆ f₆ i₆ => ?_) ?_ ?_
    · refine wpAny_bind (wpAny_standAt (wpAny_holding ?_))
      have hD₆ : h₆.DictOf (PySem.strKind pw w) D kvs := hD₂.at fun o e => hk₆ _ o (hk₅ _ o hDC e)
      refine wpAny_dictSet_pairs (knd := PySem.strKind pw w) (strKind_is pw w _ _) hD₆ (fun h₇ hD₇ hs₇ => ?_) (by rw [sizeLine_eq]; omega)
      refine wpAny_pure ⟨rfl, 3 - (j + 1), by omega, h₇, _, _, j + 1, _, rfl, rfl, hj3, ?_, hD₇, ?_, (hn₅.keeps hk₆).sameBut hs₇ (Ne.symm hDC), ?_, ?_⟩
      · exact zst X₂ fun b o q1 q2 e => hs₇.extBut b o q1 (hk₆ b o (hk₅ b o q2 e))
      · exact Nat.le_trans (stored_length_le _ _ _) (by omega)
      · intro i hij
        have bSix : Six z TO i1 i2 D C b := by
          have ex : ∀ a o, h₅.get? a = some o → b ≠ a := fun a o e q => by rw [q, e] at f₆; cases f₆
          have e5 : ∀ a o, a ≠ C → h₂.get? a = some o → b ≠ a := fun a o hc e => ex a o (hk₅ a o hc e)
          obtain ⟨_, _, _, hnz, _⟩ := hn₅
          obtain ⟨dz, _, _, dDz, _⟩ := hD₂
          obtain ⟨ta, tb, hto⟩ := X₂.to
          obtain ⟨o1, g1, _⟩ := X₂.s1
          obtain ⟨o2, g2, _⟩ := X₂.s2
          exact ⟨e5 _ _ (Ne.symm hClow.1) X₂.z, e5 _ _ (Ne.symm hClow.2.1) hto, e5 _ _ (Ne.symm hClow.2.2.1) g1, e5 _ _ (Ne.symm hClow.2.2.2) g2, e5 _ _ hDC dDz, ex _ _ (by assumption)⟩
        by_cases hie : i = j
        · subst hie
          refine ⟨b, vs, by rw [valueAt_stored, if_pos rfl], (x₆.at fun o e => hs₇.extBut _ o bSix.d e).isList, by rw [hzd]; exact i₆, bSix⟩
        · obtain ⟨b', vs', v1, v2, v3, v4⟩ := hc' i (by omega)
          refine ⟨b', vs', by rw [valueAt_stored, if_neg (ltr_ne i (by omega) j hj3 hie)]; exact v1, v2.at fun o e => hs₇.extBut _ o v4.d (hk₆ _ o (hk₅ _ o v4.c (hk₂ _ o v4.z v4.o v4.i v4.j e))), v3, v4⟩
      · exact fun b' o hb e => hs₇.extBut _ o hb.d (hk₆ _ o (hk₅ _ o hb.c (hk₂ _ o hb.z hb.o hb.i hb.j (hk' b' o hb e))))
    · rfl
    · rfl
  · obtain rfl : j = 3 := by omega
    refine zs_end hA Dz X' fun h₁ hk₁ => ?_
    refine wpAny_pure ?_
    have hDlow : D ≠ z ∧ D ≠ TO ∧ D ≠ i1 ∧ D ≠ i2 := by
      obtain ⟨q1, q2, q3, q4, q5⟩ := Dz
      exact ⟨Nat.ne_of_gt hzD, Nat.ne_of_gt (by omega), Nat.ne_of_gt (by omega), Nat.ne_of_gt (by omega)⟩
    have hClow : C ≠ z ∧ C ≠ TO ∧ C ≠ i1 ∧ C ≠ i2 := by
      obtain ⟨q1, q2, q3, q4, q5⟩ := Dz
      exact ⟨Nat.ne_of_gt hzC, Nat.ne_of_gt (by omega), Nat.ne_of_gt (by omega), Nat.ne_of_gt (by omega)⟩
    refine hR h₁ tk m' kvs (hn'.at' fun o e => hk₁ _ o hClow.1 hClow.2.1 hClow.2.2.1 hClow.2.2.2 e) (hD'.at fun o e => hk₁ _ o hDlow.1 hDlow.2.1 hDlow.2.2.1 hDlow.2.2.2 e) (fun i hi => ?_) fun b o hb e => hk₁ b o hb.z hb.o hb.i hb.j (hk' b o hb e)
    obtain ⟨b', vs', v1, v2, v3, v4⟩ := hc' i hi
    exact ⟨b', vs', v1, v2.at fun o e => hk₁ _ o v4.z v4.o v4.i v4.j e, v3, v4⟩
end Mine

namespace Mine
open PySem PySem.W PySem.Calls PyProof.Rows

theorem assign_dc {M : Model} {A : Around} {E : Value → Shared → Prop} {s : Shared} {env : Env} {x : Str} {p pos spos : Pos} {kx vx : PySem.Expr} {g : Comprehension} {scope : Scope} {cl : List (Str × Addr)} {Q : Flow → Shared → Prop}
    (hs : swapsWith (.DictComp kx vx [g] scope pos) (some (.Name x p)) spos.line env = pure true) (hg : g.is_async = 0)
    (hfold : ∀ v, foldedSetIterable g.iter env v = pure v) (hcl : closureFor scope env = pure cl) (hk : scope.kind = .function) (hn : ∀ y ∈ scope.names, y.2 = .local → scope.names.lookup y.1 = some .local)
    (h : wpAny M A (eval g.iter env) (fun xv s₁ => wpAny M A (pyIter xv) (fun it s₂ => wpAny M A newDict (fun acc s₃ => wpAny M A (newFunctionEnv scope env.globals cl [] env.qual none .none (some env)) (fun cenv s₄ =>
      codeAny M A (.compStart (.DictComp kx vx [g] scope pos) 0 it acc { cenv with scope := relabel scope env }) (compPost M A E (some (assign (.Name x p) env)) (fun _ s' => Q .next s') acc cenv.locals) s₄) E s₃) E s₂) E s₁) E s) :
    wpAny M A (exec (.Assign [.Name x p] (.DictComp kx vx [g] scope pos) spos) env) Q E s := by
  obtain ⟨target, iter, ifs, as⟩ := g
  dsimp only at hg
  subst hg
  rw [exec_Assign_Name_used _ _ _ _ hs]
  refine wpAny_bind (wpAny_standAt (wpAny_bind ?_))
  show wpAny _ A (do let _ ← comprehension (.DictComp kx vx [⟨target, iter, ifs, 0⟩] scope pos) scope env _ newDict false (eval iter env) (some (assign (.Name x p) env))) _ _ s
  exact wpAny_bind (wpAny_mono (wpAny_comprehension_free (use := some (assign (.Name x p) env)) (Q := fun _ s' => Q .next s') rfl hfold hcl hk hn h) (fun _ s' hq => wpAny_pure (wpAny_pure hq)) fun _ _ e => e)

noncomputable def cnR (zs : List Int) (c : Nat) : List Nat := if c = 102 then kindR (zs.getD 0 0) else if c = 105 then kindR (zs.getD 1 0) else if c = 115 then kindR (zs.getD 2 0) else []
theorem kinds_ok : ∀ k < 6, (kinds.getD k []).length ≤ 2 ∧ ∀ n ∈ kinds.getD k [], n < 3 := by decide
theorem kindR_ok (z : Int) : (kindR z).length ≤ 2 ∧ ∀ n ∈ kindR z, n < 3 := by
  have h0 : 0 ≤ z.fmod 6 := Int.fmod_nonneg_of_pos _ (by decide)
  have h6 : z.fmod 6 < 6 := Int.fmod_lt_of_pos _ (by decide)
  exact kinds_ok _ (by omega)
theorem cnR_ok (zs : List Int) (c : Nat) : (cnR zs c).length ≤ 2 ∧ ∀ n ∈ cnR zs c, n < 3 := by
  unfold cnR
  split
  · exact kindR_ok _
  · split
    · exact kindR_ok _
    · split
      · exact kindR_ok _
      · exact ⟨Nat.zero_le _, fun n hn => nomatch hn⟩

theorem counts_stmt {w : World} {A : Around} {mg mb : Str → Option Value} {h₀ : Heap} {s : Shared} {L a N : Addr} {cd : Value} {m : Str → Option Value} {us : List Value} {zs : List Int} {Q : Flow → Shared → Prop}
    (B : Base mg mb h₀) (hA : A.handled = none) (F : Fr h₀ L s.heap m) (k1 : s.heap.IsCell (L + 1) (some (.ref N))) (hl : s.heap.IsList N us.toArray) (hi : IntsAre us zs) (h5 : zs.length = 5)
    (h : ∀ h' tk D, @LT.lt Nat _ L D → Fr h₀ L h' (fun y => if y = ("counts" : Str) then some (.ref D) else m y) → (∀ b o, b ≠ L → s.heap.get? b = some o → h'.get? b = some o) → Cnt w h' D (cnR zs) → Q .next { s with heap := h', toks := tk }) :
    wpAny (model pw w) A (exec (nthS lB 1) (lEnv L a cd)) Q (fun _ _ => False) s := by
  have B' : Base mg mb s.heap := B.keeps F.keep
  obtain ⟨z1, z2⟩ := blt (x := "zip") B' (by simp [freeNames]) (by rfl)
  have hLl : @LT.lt Nat _ L s.heap.objs.size := F.ns.lt
  refine @assign_dc _ _ _ _ _ _ _ _ _ _ _ _ _ [] _ ?_ ?_ ?_ ?_ ?_ ?_ ?_
  · rfl
  · rfl
  · intro _; rfl
  · rfl
  · rfl
  · decide +kernel
  refine @Call_ _ _ _ _ _ _ _ _ _ ?_ ?_
  rotate_left
  · rfl
  refine @lbi _ _ _ _ mg mb L a cd _ _ _ _ B'.g z1 B'.b z2 ?_ ?_ ?_
  rotate_left
  · rfl
  · decide
  refine @callWith_type1 _ _ _ _ _ _ _ _ _ _ ?_ ?_ ?_
  rotate_left
  · rfl
  · rfl
  refine @args_cons _ _ _ _ _ _ _ _ _ ?_ rfl
  refine wpAny_Constant_str ?_
  refine @args_cons _ _ _ _ _ _ _ _ _ ?_ rfl
  refine wpAny_Name (wpAny_loadName_cell rfl rfl (c := L + 1) rfl k1 (args_nil ?_))
  refine @zip_sl w _ _ _ "fis" _ N us.toArray _ (by decide +kernel) hl fun h₁ z TI TO i1 i2 hk₁ q1 q2 q3 q4 q5 q6 q7 q8 q9 q10 => ?_
  refine wpAny_pyIter_zip q1 ?_
  refine wpAny_newObj_type ?_ (by size_fits)
  obtain ⟨D, hD⟩ : ∃ D, h₁.objs.size = D := ⟨_, rfl⟩
  obtain ⟨h₂, hh₂⟩ : ∃ q, h₁.push { cls := .type "dict", data := .dict #[] } = q := ⟨_, rfl⟩
  have d₂ : h₂.DictOf (PySem.strKind pw w) D [] := by rw [← hh₂, ← hD]; exact Heap.DictOf.new _
  have hk₂ : Ext h₁ h₂ := fun b o e => by rw [← hh₂]; exact Heap.get?_push_of_some _ e
  have hs₂ : h₂.objs.size = D + 1 := by rw [← hh₂, Heap.size_push, hD]
  dsimp only
  rw [hD, hh₂]
  refine wpAny_newFunctionEnv (by decide +kernel) (by intro y hy; simp at hy) (fun h₃ hn₃ hs₃ => ?_) rfl
  dsimp only at hn₃ hs₃
  rw [hs₂] at hn₃ hs₃
  have hk₃ : Ext h₂ h₃ := fun b o e => hs₃.extBut b o (Nat.ne_of_lt (by have : @LT.lt Nat _ b h₂.objs.size := Heap.lt_size e; omega)) (Heap.get?_push_of_some _ e)
  have hzD : @LT.lt Nat _ z D := by rw [← hD]; exact Heap.lt_size q1
  have hNl : @LT.lt Nat _ N s.heap.objs.size := let ⟨o, e, _⟩ := hl; Heap.lt_size e
  have hall : Ext s.heap h₃ := fun b o e => hk₃ b o (hk₂ b o (hk₁ b o e))
  have k13 : Ext h₁ h₃ := fun b o e => hk₃ b o (hk₂ b o e)
  have ZX : ZS h₃ z TI TO i1 i2 N "fis" s.toks us.toArray .none 0 := ⟨k13 _ _ q1, k13 _ _ q2, ⟨_, _, k13 _ _ q3⟩, (let ⟨o, e, r⟩ := q4; ⟨o, k13 _ _ e, r⟩), (let ⟨o, e, r⟩ := q5; ⟨o, k13 _ _ e, r⟩), isL hl hall⟩
  have ZD : ZAp z TI TO i1 i2 N := ⟨Nat.lt_of_lt_of_le hNl q6, q7, q8, q9, q10⟩
  have d₃ : h₃.DictOf (PySem.strKind pw w) D [] := d₂.at fun o e => hk₃ _ o e
  have six : ∀ b : Nat, b < i1 → Six z TO i1 i2 D (D + 1) b := fun b hb => ⟨Nat.ne_of_lt (by omega), Nat.ne_of_lt (by omega), Nat.ne_of_lt (by omega), Nat.ne_of_lt (by omega), Nat.ne_of_lt (by omega), Nat.ne_of_lt (by omega)⟩
  refine codeAny_compStart_dict ?loop (wpAny_pyIter_zip ZX.z ?loop2)
  case loop | loop2 =>
    refine @cnt_loop w A _ _ L a (D + 1) D z TI TO i1 i2 N cd _ us zs _ _ _ _ _ _ _ _ _ _ _ _ _ hA ZD ZX hi h5 d₃ hn₃ (Nat.ne_of_lt (Nat.lt_succ_self _)) hzD (Nat.lt_succ_of_lt hzD) rfl rfl rfl ?_ ?_ ?_
    · rfl
    · rw [← hs₂]; rfl
    · intro h₄ tk₄ m₄ kvs hn₄ hd₄ hc₄ hk₄
      have up : ∀ b o, s.heap.get? b = some o → h₄.get? b = some o := fun b o e => hk₄ b o (six b (Nat.lt_of_lt_of_le (Heap.lt_size e) q6)) (hall _ _ e)
      show wpAny _ A (assign (.Name "counts" _) (lEnv L a cd) (.ref D)) _ _ _
      refine wpAny_assign_Name (wpAny_storeName_local rfl ((frExt F up).ns) (fun h₅ hn₅ hs₅ => ?_) rfl)
      have hLD : @LT.lt Nat _ L D := Nat.lt_trans (Nat.lt_of_lt_of_le hLl q6) (Nat.lt_trans (Nat.lt_trans q7 (Nat.lt_trans q8 (Nat.lt_trans q9 q10))) hzD)
      have hLC : L ≠ D + 1 := Nat.ne_of_lt (Nat.lt_succ_of_lt hLD)
      refine ⟨m₄, (show h₅.Ns h₂.objs.size m₄ by rw [hs₂]; exact hn₄.sameBut hs₅ (Ne.symm hLC)), fun h₆ hs₆ => ?_⟩
      replace hs₆ : Heap.SameBut h₂.objs.size h₅ h₆ := hs₆
      rw [hs₂] at hs₆
      have k46 : ∀ b o, b ≠ L → b ≠ D + 1 → h₄.get? b = some o → h₆.get? b = some o := fun b o a1 a2 e => hs₆.extBut b o a2 (hs₅.extBut b o a1 e)
      refine h h₆ _ D hLD ?_ (fun b o hb e => k46 b o hb (six b (Nat.lt_of_lt_of_le (Heap.lt_size e) q6)).c (up b o e)) ?_
      · exact frBut ((frExt F up).set hn₅ hs₅) hs₆ (Nat.le_succ_of_le (Nat.le_of_lt (Nat.lt_of_le_of_lt F.above hLD))) hLC
      · refine ⟨_, (hd₄.at fun o e => k46 _ o (Nat.ne_of_gt hLD) (Nat.ne_of_lt (Nat.lt_succ_self _)) e).mapOf, fun c hc => ?_⟩
        have get : ∀ i < 3, ∃ b vs, valueAt kvs (ltr i) = some (.ref b) ∧ h₆.IsList b vs.toArray ∧ IntsAre vs (natI (kindR (zs.getD i 0))) := fun i hi3 => by
          obtain ⟨b, vs, v1, v2, v3, v4⟩ := hc₄ i hi3
          have hbL : b ≠ L := fun e => by
            obtain ⟨o, ho, _, n, hd⟩ := v2
            obtain ⟨_, _, _, ho', hd', _⟩ := (frExt F up).ns
            rw [e] at ho
            rw [ho] at ho'; cases ho'
            rw [hd] at hd'; cases hd'
          exact ⟨b, vs, v1, v2.at fun o e => k46 _ o hbL v4.c e, v3⟩
        simp only [List.mem_cons, List.not_mem_nil, or_false] at hc
        rcases hc with rfl | rfl | rfl
        · exact get 0 (by decide)
        · exact get 1 (by decide)
        · exact get 2 (by decide)
end Mine

namespace Mine
open PySem PySem.W PySem.Calls PyProof.Rows

noncomputable def textS (ns : List Nat) (c : Nat) : Str := ((("257 \"" ++ Txt.join ("\"\"" : Str) (ns.map partS)) ++ "\" for \"") ++ ⟨#[c]⟩) ++ "\""
noncomputable def blkOk (ns : List Nat) (c : Nat) : Bool :=
  JoinOk ("\"\"" : Str) (ns.map partS) && decide ((textS ns c).length ≤ 100) && decide (5 ≤ (textS ns c).length) && decide (Txt.slice (textS ns c) none (some 3) = "257") && decide (Txt.slice (textS ns c) (some 3) (some 5) = " \"")
    && decide (Txt.split ⟨(go ((textS ns c).cps.toList.drop 5)).toArray⟩ ("\"" : Str) = ns.map partS)
theorem blk_ok : ∀ ns ∈ kinds, ∀ c ∈ fisL, blkOk ns c = true := by decide +kernel

theorem kindR_mem (z : Int) : kindR z ∈ kinds := by
  have h0 : 0 ≤ z.fmod 6 := Int.fmod_nonneg_of_pos _ (by decide)
  have h6 : z.fmod 6 < 6 := Int.fmod_lt_of_pos _ (by decide)
  unfold kindR
  have hl : (z.fmod 6).toNat < kinds.length := by show _ < 6; omega
  rw [List.getD_eq_getElem?_getD, List.getElem?_eq_getElem hl]
  exact List.getElem_mem hl
theorem cnR_mem (zs : List Int) : ∀ c ∈ fisL, cnR zs c ∈ kinds := by
  intro c hc
  simp only [fisL, List.mem_cons, List.not_mem_nil, or_false] at hc
  rcases hc with rfl | rfl | rfl
  · exact kindR_mem _
  · exact kindR_mem _
  · exact kindR_mem _
end Mine

namespace Mine
open PySem PySem.W PySem.Calls PyProof.Rows

noncomputable def bFor : Stmt := nthS lB 3
noncomputable def bBody : List Stmt := forBody bFor

theorem mul3 {prog : Program} {w : World} {A : Around} {E : Value → Shared → Prop} {s : Shared} {n : Nat} {t u : Tok} {Q : Value → Shared → Prop} (hn : n < 3)
    (h : ∀ tk t' y, y.cps.toList = List.replicate n 40 → Q (.str y t') { s with toks := tk }) : wpAny (model prog w) A (binaryOp .Mult (.str "(" t) (.int (n : Nat) u)) Q E s := by
  rcases n with _ | _ | _ | n
  · exact P.mul_str_none (by decide) (by decide) (h _ _ _ rfl)
  · exact mul_paren (.inl rfl) h
  · exact mul_paren (.inr rfl) h
  · omega

theorem comp_parts : ∀ (ns : List Nat) (vs ys : List Value), IntsAre vs (natI ns) → Paired (fun v y => ∃ n t u, v = .int ((n : Nat) : Int) t ∧ y = .str (partS n) u) vs ys → ∃ ls : List (Str × Tok), ys = strValues ls ∧ ls.map (·.1) = ns.map partS
  | [], vs, ys, hi, hP => by
    cases hi
    cases hP
    exact ⟨[], rfl, rfl⟩
  | n :: ns, vs, ys, hi, hP => by
    cases hi with
    | cons _ t hr =>
      cases hP with
      | cons hF hP =>
        obtain ⟨n', t', u, e, rfl⟩ := hF
        injection e with e _
        obtain rfl : n = n' := Int.ofNat.inj e
        obtain ⟨ls, rfl, e2⟩ := comp_parts ns _ _ hr hP
        exact ⟨(partS n, u) :: ls, rfl, by rw [List.map_cons, e2, List.map_cons]⟩

theorem parts_stmt {w : World} {A : Around} {h₀ : Heap} {s : Shared} {L a ct c : Addr} {cd : Value} {m : Str → Option Value} {cn : Nat → List Nat} {u : Tok} {Q : Flow → Shared → Prop}
    (hA : A.handled = none) (F : Fr h₀ L s.heap m) (K : Cnt w s.heap ct cn) (hc : c ∈ fisL) (hcn : ∀ c, (cn c).length ≤ 2 ∧ ∀ n ∈ cn c, n < 3)
    (mc : m "counts" = some (.ref ct)) (ml : m "letter" = some (.str ⟨#[c]⟩ u))
    (h : ∀ h' tk P ls, Fr h₀ L h' (fun y => if y = ("parts" : Str) then some (.ref P) else m y) → (∀ b o, b ≠ L → s.heap.get? b = some o → h'.get? b = some o) → h'.IsList P (strValues ls).toArray → ls.map (·.1) = (cn c).map partS → Q .next { s with heap := h', toks := tk }) :
    wpAny (model pw w) A (exec (nthS bBody 0) (lEnv L a cd)) Q (fun _ _ => False) s := by
  obtain ⟨fm, hf, hls⟩ := K
  obtain ⟨l, vs, hfl, hL, hIn⟩ := hls c hc
  have hvl : vs.length = (cn c).length := by rw [hIn.length, List.length_map]
  have hll : @LT.lt Nat _ l s.heap.objs.size := let ⟨o, e, _⟩ := hL; Heap.lt_size e
  have hLl : @LT.lt Nat _ L s.heap.objs.size := F.ns.lt
  refine @wpAny_Assign_ListComp_free pw w A _ (lEnv L a cd) s _ _ _ _ _ _ _ _ [] _ _ Q (fun _ => true) (fun v y => ∃ n t u, v = .int ((n : Nat) : Int) t ∧ y = .str (partS n) u) ?_ ?_ ?_ ?_ ?_ ?_ ?_ ?_ ?_ ?_
  · rfl
  · rfl
  · decide +kernel
  · rfl
  · decide +kernel
  · rfl
  · rfl
  · rfl
  · refine @Subscript_ _ _ _ _ _ _ _ _ _ ?_
    refine lld F.ns mc ?_
    refine lld F.ns ml ?_
    refine subscriptTail_builtin hf.typeIs slot_dict_getitem.lookup (wpAny_getItem_of (strKind_is pw w _ _) hf hfl ?_) ?_ ?_
    · refine wpAny_pyIter_list hL ?_
      refine ⟨s.heap.objs.size, _, _, _, _, _, m, rfl, Walks.list hA _ l (Nat.ne_of_lt hll) vs.toArray, ?_, ⟨⟨_, Heap.get?_push_size _ rfl, rfl, rfl⟩, hL.push _⟩, ?_, ?_, ?_, ?_, ?_⟩
      · rw [List.size_toArray, sizeLine_eq]
        have := (hcn c).1
        omega
      · intro b hb
        show @LT.lt Nat _ b (s.heap.push _).objs.size
        rw [Heap.size_push]
        simp only [List.mem_cons, List.not_mem_nil, or_false] at hb
        rcases hb with rfl | rfl
        · exact Nat.lt_succ_self _
        · exact Nat.lt_succ_of_lt hll
      · intro hm
        exact absurd (List.mem_singleton.mp hm) (Nat.ne_of_lt hLl)
      · exact F.ns.keeps fun b o e => Heap.get?_push_of_some _ e
      · refine ⟨fun C i v s₃ m₃ E' hC hP hn₃ hm₃ hk htk => ?_, fun C i v s₃ m₃ E' hC hP hpv hn₃ hm₃ hk htk => ?_⟩
        · exact wpAny_pure ⟨rfl, s₃.heap, s₃.toks, rfl, fun _ _ e => e⟩
        · obtain ⟨n, t, rfl, hn⟩ := hIn.at i v (by simpa using hP)
          rw [List.getElem?_map] at hn
          obtain ⟨k, hk', rfl⟩ := Option.map_eq_some_iff.mp hn
          have hk3 : k < 3 := (hcn c).2 k (List.mem_of_getElem? hk')
          refine @wpAny_BinOp _ _ _ _ _ _ _ _ _ _ ?_
          refine wpAny_Constant_str ?_
          refine @wpAny_BinOp _ _ _ _ _ _ _ _ _ _ ?_
          refine wpAny_Constant_str ?_
          refine wpAny_Name (wpAny_loadName_local rfl rfl hn₃ hm₃ ?_)
          refine mul3 hk3 fun tk₄ t₄ y hy => ?_
          have hyl : y.length = k := by
            have : y.cps.toList.length = y.length := Array.length_toList
            rw [← this, hy, List.length_replicate]
          refine SB.add (fun t₅ k₅ => ?_) (by rw [sizeLine_eq]; show 1 + y.length ≤ _; omega)
          refine ⟨⟨k, t, t₅, rfl, ?_⟩, s₃.heap, k₅, rfl, fun _ _ e => e⟩
          congr 1
          show (⟨#[41] ++ y.cps⟩ : Str) = partS k
          unfold partS
          congr 1
          apply Array.toList_inj.mp
          simp [hy]
      · intro D h' tk ys vs' _ hl' _ hlen hvs hP hn hk
        have hvs' : vs' = vs := by
          refine List.ext_getElem? fun j => ?_
          cases e : vs'[j]? with
          | some v => rw [← hvs j v e]; simp
          | none =>
            have h1 := List.getElem?_eq_none_iff.mp e
            rw [List.getElem?_eq_none]
            rw [hlen, List.size_toArray] at h1
            exact h1
        subst hvs'
        rw [List.filter_eq_self.mpr (by simp)] at hP
        obtain ⟨ls, hls', hmap⟩ := comp_parts (cn c) vs' ys.toList hIn hP
        have hys : ys = (strValues ls).toArray := by rw [← hls']
        subst hys
        have up : ∀ b o, b ≠ L → s.heap.get? b = some o → h'.get? b = some o := fun b o hb e => hk b o hb (by rw [List.mem_singleton]; exact Nat.ne_of_lt (Heap.lt_size e)) (Heap.get?_push_of_some _ e)
        exact h h' tk D ls ⟨hn, fun b o e => up b o (Nat.ne_of_lt (Nat.lt_of_lt_of_le (Heap.lt_size e) F.above)) (F.keep b o e), F.above⟩ up hl' hmap
    · rfl
    · intro _; rfl
  · intro _; rfl
end Mine

namespace Mine
open PySem PySem.W PySem.Calls PyProof.Rows

theorem str_app_assoc (a b c : Str) : a ++ b ++ c = a ++ (b ++ c) := by
  show (⟨(a.cps ++ b.cps) ++ c.cps⟩ : Str) = ⟨a.cps ++ (b.cps ++ c.cps)⟩
  rw [Array.append_assoc]

theorem blk_stmt {w : World} {A : Around} {mg mb : Str → Option Value} {h₀ : Heap} {s : Shared} {L a bd P : Addr} {c : Nat} {cd : Value} {m : Str → Option Value} {ns : List Nat} {u : Tok} {kvs : List (Str × Value)} {ls : List (Str × Tok)} {Q : Flow → Shared → Prop}
    (B : Base mg mb h₀) (hA : A.handled = none) (hroom : A.depth < recursionLimit) (F : Fr h₀ L s.heap m) (hc : c ∈ fisL) (hns : ns ∈ kinds) (hP : s.heap.IsList P (strValues ls).toArray) (hls : ls.map (·.1) = ns.map partS)
    (mp : m "parts" = some (.ref P)) (ml : m "letter" = some (.str ⟨#[c]⟩ u)) (mb' : m "blocks" = some (.ref bd)) (hD : s.heap.DictOf (PySem.strKind pw w) bd kvs) (hk : kvs.length ≤ 10)
    (h : ∀ h' tk D l, (∀ b o, b ≠ bd → s.heap.get? b = some o → h'.get? b = some o) → h'.DictOf (PySem.strKind pw w) bd (stored kvs ⟨#[c]⟩ (.ref D)) → h'.IsList D (strValues l).toArray → l.map (·.1) = ns.map partS → Q .next { s with heap := h', toks := tk }) :
    wpAny (model pw w) A (exec (nthS bBody 1) (lEnv L a cd)) Q (fun _ _ => False) s := by
  have ok := blk_ok ns hns c hc
  simp only [blkOk, Bool.and_eq_true, decide_eq_true_eq] at ok
  obtain ⟨⟨⟨⟨⟨o1, o2⟩, o3⟩, o4⟩, o5⟩, o6⟩ := ok
  have B' : Base mg mb s.heap := B.keeps F.keep
  refine @wpAny_Assign_Subscript _ _ _ _ _ _ _ _ _ _ _ ?_ ?_
  · refine Call_method1 (prog := pw) (w := w) ?_ ?_ ?_ ?_
    · rfl
    · rfl
    · rfl
    refine fn_callC (i := 7) B' (by decide) ?_ ?_ ?_ ?_ ?_ ?_
    · rfl
    · rfl
    · rfl
    · rfl
    · rfl
    intro f hf
    refine @args_cons _ _ _ _ _ _ _ _ _ ?_ rfl
    have hx : (textS ns c) = ((("257 \"" ++ Txt.join ("\"\"" : Str) (ls.map (·.1))) ++ "\" for \"") ++ ⟨#[c]⟩) ++ "\"" := by rw [hls]; rfl
    have fit : ∀ y z : Str, (∃ w : Str, textS ns c = (y ++ z) ++ w ∨ textS ns c = y ++ z) → y.length + z.length ≤ sizeLine := by
      rintro y z ⟨w', e⟩
      rw [sizeLine_eq]
      have e1 : (y ++ z).length = y.length + z.length := Array.size_append
      rcases e with e | e
      · have e2 : (textS ns c).length = (y ++ z).length + w'.length := by rw [e]; exact Array.size_append
        omega
      · rw [e] at o2; omega
    refine @wpAny_BinOp _ _ _ _ _ _ _ _ _ _ ?_
    refine @wpAny_BinOp _ _ _ _ _ _ _ _ _ _ ?_
    refine @wpAny_BinOp _ _ _ _ _ _ _ _ _ _ ?_
    refine @wpAny_BinOp _ _ _ _ _ _ _ _ _ _ ?_
    refine wpAny_Constant_str ?_
    refine join_call ?_
    refine lld F.ns mp ⟨P, ls, rfl, hP, by rw [hls]; exact o1, fun t₁ k₁ => ?_⟩
    refine SB.add (fun t₂ k₂ => ?_) (fit _ _ ⟨("\" for \"" : Str) ++ (⟨#[c]⟩ ++ "\""), .inl (by rw [hx, ← str_app_assoc, ← str_app_assoc])⟩)
    refine wpAny_Constant_str (SB.add (fun t₃ k₃ => ?_) (fit _ _ ⟨⟨#[c]⟩ ++ "\"", .inl (by rw [hx, ← str_app_assoc])⟩))
    refine lld F.ns ml (SB.add (fun t₄ k₄ => ?_) (fit _ _ ⟨"\"", .inl (by rw [hx])⟩))
    refine wpAny_Constant_str (SB.add (fun t₅ k₅ => ?_) (fit _ _ ⟨"", .inr (by rw [hx])⟩))
    refine args_nil ⟨fun _ _ e => e, ?_⟩
    rw [← hx]
    refine p257_call (s := ⟨s.heap, s.gens, s.drawn, k₅, s.os⟩) B' hf hroom (by omega) o3 o4 o5 fun h₁ tk₁ y v hy hk₁ => ?_
    refine ⟨"str", _, PySem.F.plainAttrs_str, PySem.F.slot_str_split, PySem.F.type_str_split, typeIs_str _ _ _, (fun _ e => nomatch e), ?_⟩
    refine Calls.callWith_builtin rfl (Calls.evalArgs_plain (Calls.spliced_cons (wpAny_Constant_str (Calls.spliced_nil ?_))))
    have hye : y = ⟨(go ((textS ns c).cps.toList.drop 5)).toArray⟩ := by
      rw [← hy]
    have hyl : y.length ≤ 100 := by
      have go_len : ∀ l : List Nat, (go l).length ≤ l.length := by
        intro l
        induction l using go.induct with
        | case1 => simp [go]
        | case2 => simp [go]
        | case3 c h => simp [go, h]
        | case4 r ih => simp [go]; omega
        | case5 d r h => simp [go, h]
        | case6 c d r h ih => simp [go, h] at *; omega
      have e1 : y.cps.toList.length = y.length := Array.length_toList
      have e2 : (textS ns c).cps.toList.length = (textS ns c).length := Array.length_toList
      have := go_len ((textS ns c).cps.toList.drop 5)
      rw [← hy, List.length_drop] at this
      omega
    have hparts : (Txt.split y ("\"" : Str)).length ≤ y.length + 2 := split_le _ _
    refine SCG.split1 (Fm := fun s' => ∃ h' tk, s' = { s with heap := h', toks := tk } ∧ Ext s.heap h') (by rintro s' o tk ⟨h', tk', rfl, hk'⟩; exact ⟨_, _, rfl, fun b o' e => Heap.get?_push_of_some _ (hk' b o' e)⟩) ⟨h₁, _, rfl, hk₁⟩ (by decide) ?_ (by rw [sizeLine_eq]; omega) ?_
    · rintro D l s₂ hl ⟨h₂, tk₂, rfl, hk₂⟩ hDl
      rw [hye, o6] at hl
      refine lld (s := ⟨h₂, s.gens, s.drawn, tk₂, s.os⟩) (F.ns.keeps hk₂) mb' ?_
      refine lld (s := ⟨h₂, s.gens, s.drawn, tk₂, s.os⟩) (F.ns.keeps hk₂) ml ?_
      refine wpAny_setItem_pairs (knd := PySem.strKind pw w) (strKind_is pw w _ _) (hD.at fun o e => hk₂ _ o e) (fun h₃ hD₃ hs₃ => ?_) (by rw [sizeLine_eq]; omega)
      have hne : D ≠ bd := fun e => by
        obtain ⟨o, ho, _, n, hd⟩ := hDl
        obtain ⟨o', _, _, ho', _, hd', _⟩ := hD
        rw [e] at ho
        have := hk₂ _ _ ho'
        rw [ho] at this; cases this
        rw [hd] at hd'; cases hd'
      exact h h₃ _ D l (fun b o hb e => hs₃.extBut b o hb (hk₂ b o e)) hD₃ (hDl.at fun o e => hs₃.extBut _ o hne e) hl
    · have e1 := StrLaws.occ_length_le y ("\"" : Str) 0 y.length (y.length + 1)
      rw [length_partsBetween, sizeLine_eq]; omega
  · rfl
end Mine

namespace Mine
open PySem PySem.W PySem.Calls PyProof.Rows

noncomputable def BlkJ (cn : Nat → List Nat) (h : Heap) (kvs : List (Str × Value)) (j : Nat) : Prop :=
  ∀ i < j, ∃ D l, valueAt kvs (ltr i) = some (.ref D) ∧ h.IsList D (strValues l).toArray ∧ l.map (·.1) = (cn (fisL.getD i 0)).map partS

theorem isList_ne {h : Heap} {D x : Addr} {vs : Array Value} {o : Obj} (hD : h.IsList D vs) (ho : h.get? x = some o) (hn : ∀ vs n, o.data ≠ .seq vs n) : D ≠ x := by
  rintro rfl
  obtain ⟨o', ho', _, n, hd⟩ := hD
  rw [ho] at ho'; cases ho'
  exact hn _ _ hd

theorem BlkJ.but {cn : Nat → List Nat} {h h' : Heap} {kvs : List (Str × Value)} {j : Nat} {x : Addr} {o : Obj} (X : BlkJ cn h kvs j) (ho : h.get? x = some o) (hn : ∀ vs n, o.data ≠ .seq vs n) (hk : ∀ b o, b ≠ x → h.get? b = some o → h'.get? b = some o) : BlkJ cn h' kvs j := fun i hi => by
  obtain ⟨D, l, a, b, c⟩ := X i hi
  exact ⟨D, l, a, b.at fun o e => hk _ o (isList_ne b ho hn) e, c⟩

theorem blk_loop {w : World} {A : Around} {mg mb : Str → Option Value} {h₀ : Heap} {s : Shared} {L a bd ct : Addr} {cd : Value} {m : Str → Option Value} {zs : List Int} {Q : Flow → Shared → Prop}
    (B : Base mg mb h₀) (hA : A.handled = none) (hroom : A.depth < recursionLimit) (F : Fr h₀ L s.heap m) (K : Cnt w s.heap ct (cnR zs)) (hLb : @LT.lt Nat _ L bd) (h1 : @LT.lt Nat _ (L + 1) bd)
    (mc : m "counts" = some (.ref ct)) (mb' : m "blocks" = some (.ref bd)) (hD : s.heap.DictOf (PySem.strKind pw w) bd []) (hcb : ct ≠ bd ∧ ∀ c ∈ fisL, ∀ f l, s.heap.MapOf (PySem.strKind pw w) ct f → f ⟨#[c]⟩ = some (.ref l) → l ≠ bd) (hctL : ct ≠ L)
    (h : ∀ h' tk m', Fr h₀ L h' m' → m' "counts" = some (.ref ct) → m' "blocks" = some (.ref bd) → (∀ b o, b ≠ L → b ≠ bd → s.heap.get? b = some o → h'.get? b = some o) → Blk w h' bd (cnR zs) → Q .next { s with heap := h', toks := tk }) :
    wpAny (model pw w) A (exec bFor (lEnv L a cd)) Q (fun _ _ => False) s := by
  have hLl : @LT.lt Nat _ L s.heap.objs.size := F.ns.lt
  obtain ⟨od, _, _, hod, _, hdd, _⟩ := id hD
  have hbl : @LT.lt Nat _ bd s.heap.objs.size := Heap.lt_size hod
  refine @wpAny_For _ _ _ _ _ _ _ _ _ _ _ ?_ (fun _ => rfl)
  refine wpAny_Constant_str ?_
  refine wpAny_pyIter_ascii (by decide +kernel) ?_
  dsimp only
  obtain ⟨I, hI⟩ : ∃ I, s.heap.objs.size = I := ⟨_, rfl⟩
  obtain ⟨h₁, hh₁⟩ : ∃ q, s.heap.push { cls := .type "str_ascii_iterator", data := .fields #[.str "fis" s.toks, .int 0 0] } = q := ⟨_, rfl⟩
  have hi₁ : h₁.IsStrIter I "str_ascii_iterator" "fis" s.toks 0 := by rw [← hh₁, ← hI]; exact ⟨_, Heap.get?_push_size _ rfl, rfl, rfl⟩
  have hk₁ : Ext s.heap h₁ := fun b o e => by rw [← hh₁]; exact Heap.get?_push_of_some _ e
  rw [hh₁, hI]
  have hIn : s.heap.get? I = none := by rw [← hI]; exact fresh_none (h := s.heap) (h' := s.heap) fun _ _ e => e
  have hI0 : h₀.get? I = none := Ext.none F.keep hIn
  have hIL : I ≠ L := by rw [← hI]; exact Nat.ne_of_gt hLl
  have hIb : I ≠ bd := by rw [← hI]; exact Nat.ne_of_gt hbl
  have hIlt : ∀ b o, s.heap.get? b = some o → b ≠ I := fun b o e => by rw [← hI]; exact Nat.ne_of_lt (Heap.lt_size e)
  have hbL : bd ≠ L := Nat.ne_of_gt hLb
  have hlen : ("fis" : Str).cps.size = 3 := rfl
  refine for_gen (Q := Q) (Walks.strAscii hA I "fis" s.toks) (s := ⟨h₁, s.gens, s.drawn, _, s.os⟩) hi₁ (fun j h' => ∃ m' kvs, Fr h₀ L h' m' ∧ m' "counts" = some (.ref ct) ∧ m' "blocks" = some (.ref bd) ∧ h'.DictOf (PySem.strKind pw w) bd kvs ∧ kvs.length ≤ j ∧ BlkJ (cnR zs) h' kvs j ∧
    (∀ b o, b ≠ L → b ≠ bd → s.heap.get? b = some o → h'.get? b = some o)) ?_ ?_ ?_ ?_ ?_
  · exact ⟨m, [], frExt F hk₁, mc, mb', hD.at fun o e => hk₁ _ o e, Nat.le_refl _, fun i hi => absurd hi (Nat.not_lt_zero _), fun b o _ _ e => hk₁ b o e⟩
  · rintro j h' h'' ⟨oi, hoi, _, hdi⟩ hk ⟨m', kvs, F', e1, e2, e3, e4, e5, e6⟩
    have hk' : ∀ b o, b ≠ I → h'.get? b = some o → h''.get? b = some o := fun b o hb e => hk b o (by rw [List.mem_singleton]; exact hb) e
    exact ⟨m', kvs, ⟨F'.ns.at' fun o e => hk' _ o (Ne.symm hIL) e, fun b o e => hk' b o (fun q => by rw [q, hI0] at e; cases e) (F'.keep b o e), F'.above⟩, e1, e2, e3.at fun o e => hk' _ o (Ne.symm hIb) e, e4,
      e5.but hoi (fun vs n q => by rw [hdi] at q; cases q) hk', fun b o q1 q2 e => hk' b o (hIlt b o e) (e6 b o q1 q2 e)⟩
  · rintro j v s₁ hj ⟨c, u, hc, rfl⟩ ⟨m', kvs, F', e1, e2, e3, e4, e5, e6⟩ hi hg hd ho
    have hcl : c = fisL.getD j 0 := by
      have : (("fis" : Str).cps.toList)[j]? = some c := by rw [Array.getElem?_toList]; exact hc
      have e : (("fis" : Str).cps.toList) = fisL := by decide +kernel
      rw [e] at this
      rw [List.getD_eq_getElem?_getD, this]; rfl
    have hj3 : j < 3 := hj
    have hcm : c ∈ fisL := by
      have : (("fis" : Str).cps.toList)[j]? = some c := by rw [Array.getElem?_toList]; exact hc
      have e : (("fis" : Str).cps.toList) = fisL := by decide +kernel
      rw [e] at this
      exact List.mem_of_getElem? this
    obtain ⟨oi, hoi, _, hdi⟩ := hi
    refine wpAny_assign_Name (wpAny_storeName_local rfl F'.ns (fun h₂ hn₂ hs₂ => ?_) rfl)
    have F₂ := F'.set hn₂ hs₂
    have K₂ : Cnt w h₂ ct (cnR zs) := by
      obtain ⟨f, hf, hp⟩ := K
      have up : ∀ b o, b ≠ L → b ≠ bd → s.heap.get? b = some o → h₂.get? b = some o := fun b o q1 q2 e => hs₂.extBut b o q1 (e6 b o q1 q2 e)
      obtain ⟨_, _, _, hnL, hdL, _⟩ := F.ns
      refine ⟨f, ?_, fun c hc => ?_⟩
      · obtain ⟨o, es, ep, ho, r⟩ := hf
        exact ⟨o, es, ep, up _ _ hctL hcb.1 ho, r⟩
      · obtain ⟨l, vs, q1, q2, q3⟩ := hp c hc
        refine ⟨l, vs, q1, q2.at fun o e => up _ o (isList_ne q2 hnL fun vs n q => by rw [hdL] at q; cases q) (hcb.2 c hc f l hf q1) e, q3⟩
    refine @wpAny_execs_cons _ _ _ _ _ _ _ _ ?_
    refine @parts_stmt w A h₀ _ L a ct c cd _ (cnR zs) u _ hA F₂ K₂ hcm (cnR_ok zs) e1 rfl fun h₃ tk₃ P ls F₃ hk₃ hP₃ hls₃ => ?_
    have hD₂ : h₂.DictOf (PySem.strKind pw w) bd kvs := e3.at fun o e => hs₂.extBut _ o hbL e
    have hD₃ : h₃.DictOf (PySem.strKind pw w) bd kvs := hD₂.at fun o e => hk₃ _ o hbL e
    refine @wpAny_execs_cons _ _ _ _ _ _ _ _ ?_
    refine @blk_stmt w A mg mb h₀ _ L a bd P c cd _ (cnR zs c) u kvs ls _ B hA hroom F₃ hcm (cnR_mem zs c hcm) hP₃ hls₃ rfl rfl e2 hD₃ (by omega) fun h₄ tk₄ D l hk₄ hD₄ hl₄ hm₄ => ?_
    have F₄ : Fr h₀ L h₄ _ := ⟨F₃.ns.at' fun o e => hk₄ _ o (Ne.symm hbL) e, fun b o e => hk₄ b o (Nat.ne_of_lt (Nat.lt_trans (Nat.lt_of_lt_of_le (Heap.lt_size e) F.above) hLb)) (F₃.keep b o e), F₃.above⟩
    refine wpAny_execs_nil ⟨.inl rfl, h₄, tk₄, rfl, ?_, _, _, F₄, e1, e2, hD₄, ?_, ?_, ?_⟩
    · intro b' hb' o e
      rw [List.mem_singleton.mp hb'] at e ⊢
      exact hk₄ _ o hIb (hk₃ _ o hIL (hs₂.extBut _ o hIL e))
    · exact Nat.le_trans (stored_length_le _ _ _) (by omega)
    · intro i hij
      by_cases hie : i = j
      · subst hie
        refine ⟨D, l, ?_, hl₄, by rw [← hcl]; exact hm₄⟩
        have : (⟨#[c]⟩ : Str) = ltr i := by rw [hcl]; rfl
        rw [this, valueAt_stored, if_pos rfl]
      · obtain ⟨D', l', q1, q2, q3⟩ := e5 i (by omega)
        have : (⟨#[c]⟩ : Str) = ltr j := by rw [hcl]; rfl
        obtain ⟨_, _, _, hnL, hdL, _⟩ := F'.ns
        obtain ⟨ob, _, _, hob, _, hdb, _⟩ := e3
        refine ⟨D', l', by rw [this, valueAt_stored, if_neg (ltr_ne i (by omega) j hj3 hie)]; exact q1, q2.at fun o e => hk₄ _ o (isList_ne q2 hob fun vs n q => by rw [hdb] at q; cases q) (hk₃ _ o ?_ (hs₂.extBut _ o ?_ e)), q3⟩
        · exact isList_ne q2 hnL fun vs n q => by rw [hdL] at q; cases q
        · exact isList_ne q2 hnL fun vs n q => by rw [hdL] at q; cases q
    · exact fun b o q1 q2 e => hk₄ b o q2 (hk₃ b o q1 (hs₂.extBut b o q1 (e6 b o q1 q2 e)))
  · rintro h' tk ⟨m', kvs, F', e1, e2, e3, e4, e5, e6⟩
    refine h h' tk m' F' e1 e2 e6 ⟨_, e3.mapOf, fun c hc => ?_⟩
    have get : ∀ i < 3, ∃ l, valueAt kvs (ltr i) = some (.ref l) ∧ Parts h' l (cnR zs (fisL.getD i 0)) := fun i hi => by
      obtain ⟨D, l, q1, q2, q3⟩ := e5 i hi
      exact ⟨D, q1, l, q2, q3⟩
    simp only [List.mem_cons, List.not_mem_nil, or_false] at hc
    rcases hc with rfl | rfl | rfl
    · exact get 0 (by decide)
    · exact get 1 (by decide)
    · exact get 2 (by decide)
  · exact fun f s' q => q
end Mine

namespace Mine
open PySem PySem.W PySem.Calls PyProof.Rows

noncomputable def digR (z : Int) (k : Nat) : Nat := ((z.fdiv ((3 : Int) ^ ((k : Nat) : Int).toNat)).fmod 3).toNat
noncomputable def wordR (z : Int) : List Nat := (List.range 4).map fun k => fisL.getD (digR z k) 0
theorem digR_lt (z : Int) (k : Nat) : digR z k < 3 := by
  have h0 := Int.fmod_nonneg_of_pos (z.fdiv ((3 : Int) ^ ((k : Nat) : Int).toNat)) (b := 3) (by decide)
  have h3 := Int.fmod_lt_of_pos (z.fdiv ((3 : Int) ^ ((k : Nat) : Int).toNat)) (b := 3) (by decide)
  unfold digR
  omega

noncomputable def wS : Stmt := nthS lB 4
noncomputable def lcW : PySem.Expr := callArg (stVal wS) 0
noncomputable def wCl (L : Addr) : List (Str × Addr) := [(("numbers" : Str), L + 1)]

theorem pow3 : ∀ k < 4, ((3 : Int) ^ ((k : Nat) : Int).toNat != 0) = true ∧ decide (((3 : Int) ^ ((k : Nat) : Int).toNat).natAbs < 1073741824) = true := by decide +kernel

theorem word_elt {w : World} {A : Around} {s : Shared} {E : Value → Shared → Prop} {Q : Value → Shared → Prop} {C L a N : Addr} {cd : Value} {m : Str → Option Value} {k : Nat} {u : Tok} {us : List Value} {zs : List Int}
    (hn : s.heap.Ns C m) (hm : m "k" = some (.int (k : Nat) u)) (hk4 : k < 4) (k1 : s.heap.IsCell (L + 1) (some (.ref N))) (hl : s.heap.IsList N us.toArray) (hi : IntsAre us zs) (h5 : zs.length = 5)
    (h : ∀ tk t, Q (.str ⟨#[fisL.getD (digR (zs.getD 3 0) k) 0]⟩ t) { s with toks := tk }) :
    wpAny (model pw w) A (eval (lcElt lcW) (compEnvC (lcScope lcW) (wCl L) C (lEnv L a cd))) Q E s := by
  obtain ⟨h1, h2⟩ := pow3 k hk4
  have hne : ((3 : Int) ^ ((k : Nat) : Int).toNat) ≠ 0 := bne_iff_ne.mp h1
  obtain ⟨z, t3, e3, hz⟩ : ∃ z t, us[3]? = some (.int z t) ∧ zs.getD 3 0 = z := by
    have hul : us.length = 5 := hi.length.trans h5
    obtain ⟨n, q, e1, e2⟩ := hi.at 3 us[3] (List.getElem?_eq_getElem (by omega))
    exact ⟨n, q, by rw [List.getElem?_eq_getElem (by omega), e1], by rw [List.getD_eq_getElem?_getD, e2]; rfl⟩
  rw [hz] at h
  refine @Subscript_ _ _ _ _ _ _ _ _ _ ?_
  refine wpAny_Constant_str ?_
  refine @wpAny_BinOp _ _ _ _ _ _ _ _ _ _ ?_
  refine @wpAny_BinOp _ _ _ _ _ _ _ _ _ _ ?_
  refine @Subscript_ _ _ _ _ _ _ _ _ _ ?_
  refine wpAny_Name (wpAny_loadName_cell (s := ⟨s.heap, s.gens, s.drawn, s.toks + 1, s.os⟩) rfl rfl (c := L + 1) rfl k1 ?_)
  refine wpAny_Constant_int ?_
  refine tailR (ops := [.ref N, .int 3 _]) hl.typeIs list_getitem_lookup (wpAny_getItem_list (x := .int z t3) hl (by decide) (by decide) (by simpa using e3) ?_) (by with_unfolding_all rfl)
  refine @wpAny_BinOp _ _ _ _ _ _ _ _ _ _ ?_
  refine wpAny_Constant_int ?_
  refine wpAny_Name (wpAny_loadName_local rfl rfl hn hm ?_)
  have pw_ : ∀ (s' : Shared) (t : Tok) (Q' : Value → Shared → Prop), Q' (.int ((3 : Int) ^ ((k : Nat) : Int).toNat) s'.toks) { s' with toks := s'.toks + 1 } → wpAny (model pw w) A (binaryOp .Pow (.int 3 t) (.int (k : Nat) u)) Q' E s' := fun s' t Q' hq => by
    rcases k with _ | k
    · exact AutoIntOps.pow_0 (by decide) rfl hq
    · refine AutoIntOps.pow_4 (Int.natCast_nonneg _) ?_ (by decide) (by decide) ?_ hq
      · simp; omega
      · have : k = 0 ∨ k = 1 ∨ k = 2 := by omega
        rcases this with rfl | rfl | rfl <;> decide +kernel
  refine pw_ _ _ _ ?_
  refine floordiv_int hne ?_ (Or.inl (PyProof.noPylong_small (of_decide_eq_true h2)))
  refine wpAny_Constant_int (mod_int' (by decide) ?_)
  have hd := digR_lt z k
  have h0 := Int.fmod_nonneg_of_pos (z.fdiv ((3 : Int) ^ ((k : Nat) : Int).toNat)) (b := 3) (by decide)
  have hdz : (z.fdiv ((3 : Int) ^ ((k : Nat) : Int).toNat)).fmod 3 = ((digR z k : Nat) : Int) := by
    unfold digR; omega
  rw [hdz]
  refine tailR (ops := [.str ("fis" : Str) _, .int ((digR z k : Nat) : Int) _]) (typeIs_str _ _ _) PySem.F.slot_str_getitem.lookup (P.getItem_str (c := fisL.getD (digR z k) 0) ?_ ?_ (h _ _)) (by with_unfolding_all rfl)
  · rw [Bool.or_eq_false_iff, decide_eq_false_iff_not, decide_eq_false_iff_not]
    omega
  · revert hd
    generalize digR z k = d
    intro hd
    have : d = 0 ∨ d = 1 ∨ d = 2 := by omega
    rcases this with rfl | rfl | rfl <;> decide +kernel
end Mine

namespace Mine
open PySem PySem.W PySem.Calls PyProof.Rows

theorem word_elt' {w : World} {A : Around} {s : Shared} {E : Value → Shared → Prop} {Q : Value → Shared → Prop} {C L a N : Addr} {cd : Value} {m : Str → Option Value} {k : Nat} {u : Tok} {us : List Value} {zs : List Int} {e : PySem.Expr} {env : Env}
    (hn : s.heap.Ns C m) (hm : m "k" = some (.int (k : Nat) u)) (hk4 : k < 4) (k1 : s.heap.IsCell (L + 1) (some (.ref N))) (hl : s.heap.IsList N us.toArray) (hi : IntsAre us zs) (h5 : zs.length = 5)
    (h : ∀ tk t, Q (.str ⟨#[fisL.getD (digR (zs.getD 3 0) k) 0]⟩ t) { s with toks := tk })
    (he : e = lcElt lcW) (henv : env = compEnvC (lcScope lcW) (wCl L) C (lEnv L a cd)) : wpAny (model pw w) A (eval e env) Q E s := by
  subst he henv
  exact @word_elt w A s E Q C L a N cd m k u us zs hn hm hk4 k1 hl hi h5 h

theorem comp_chars {n : Nat} {g : Nat → Str} : ∀ (l : List Nat) (vs ys : List Value), vs.length = l.length → (∀ (j : Nat) v, vs[j]? = some v → ∃ k t, l[j]? = some k ∧ v = .int ((k : Nat) : Int) t) →
    Paired (fun v y => ∃ k t u, v = .int ((k : Nat) : Int) t ∧ y = .str (g k) u) vs ys → ∃ ls : List (Str × Tok), ys = strValues ls ∧ ls.map (·.1) = l.map g
  | [], [], ys, _, _, hP => by cases hP; exact ⟨[], rfl, rfl⟩
  | [], _ :: _, _, h, _, _ => by simp at h
  | _ :: _, [], _, h, _, _ => by simp at h
  | k :: l, v :: vs, ys, h, hv, hP => by
    obtain ⟨k', t, hk, rfl⟩ := hv 0 v rfl
    cases hk
    cases hP with
    | cons hF hP =>
      obtain ⟨k'', t', u, e, rfl⟩ := hF
      injection e with e _
      obtain rfl : k = k'' := Int.ofNat.inj e
      obtain ⟨ls, rfl, e2⟩ := comp_chars (n := n) l vs _ (by simpa using h) (fun j w e => hv (j + 1) w (by simpa using e)) hP
      exact ⟨(g k, u) :: ls, rfl, by rw [List.map_cons, e2, List.map_cons]⟩

theorem walks_lt {prog : Program} {w : World} {A : Around} {I : Addr} {fp wr : List Addr} {n : Nat} {P : Nat → Value → Prop} {St : Nat → Heap → Prop} (W : Walks prog w A I fp wr n P St) : Walks prog w A I fp wr n (fun i v => P i v ∧ i < n) St where
  sub := W.sub
  frame := W.frame
  item := fun i s Q E hi st hQ => W.item i s Q E hi st fun v h' tk hP => hQ v h' tk ⟨hP, hi⟩
  done := W.done
  self := W.self

theorem word_stmt {w : World} {A : Around} {mg mb : Str → Option Value} {h₀ : Heap} {s : Shared} {L a N : Addr} {cd : Value} {m : Str → Option Value} {us : List Value} {zs : List Int} {Q : Flow → Shared → Prop}
    (B : Base mg mb h₀) (hA : A.handled = none) (F : Fr h₀ L s.heap m) (k1 : s.heap.IsCell (L + 1) (some (.ref N))) (hl : s.heap.IsList N us.toArray) (hi : IntsAre us zs) (h5 : zs.length = 5)
    (h : ∀ h' tk x t, Fr h₀ L h' (fun y => if y = ("word" : Str) then some (.str x t) else m y) → x.cps.toList = wordR (zs.getD 3 0) → (∀ b o, b ≠ L → s.heap.get? b = some o → h'.get? b = some o) → Q .next { s with heap := h', toks := tk }) :
    wpAny (model pw w) A (exec wS (lEnv L a cd)) Q (fun _ _ => False) s := by
  have B' : Base mg mb s.heap := B.keeps F.keep
  obtain ⟨z1, z2⟩ := blt (x := "range") B' (by simp [freeNames]) (by rfl)
  refine wpAny_Assign_Name ?_
  refine join_call ?_
  refine @wpAny_ListComp_free pw w A _ (lEnv L a cd) _ _ _ _ _ _ _ (wCl L) _ _ (fun _ => true) (fun v y => ∃ k t u, v = .int ((k : Nat) : Int) t ∧ y = .str ⟨#[fisL.getD (digR (zs.getD 3 0) k) 0]⟩ u) ?_ ?_ ?_ ?_ ?_ ?_ ?_
  · rfl
  · decide +kernel
  · rfl
  · decide +kernel
  · rfl
  · refine @Call_ _ _ _ _ _ _ _ _ _ ?_ ?_
    rotate_left
    · rfl
    refine @lbi _ _ _ ⟨s.heap, s.gens, s.drawn, s.toks + 1, s.os⟩ mg mb L a cd _ _ _ _ B'.g z1 B'.b z2 ?_ ?_ ?_
    rotate_left
    · rfl
    · decide
    refine @callWith_type1 _ _ _ _ _ _ _ _ _ _ ?_ ?_ ?_
    rotate_left
    · rfl
    · rfl
    refine @args_cons _ _ _ _ _ _ _ _ _ ?_ rfl
    refine wpAny_Constant_int (args_nil ?_)
    refine call_range_1 ?_
    refine range_iter2 (n := 4) (IsRange.new ..) (by decide) (by decide) (by decide) (by decide) (by decide) fun I h₁ hIs hk₁ hi₁ => ?_
    dsimp only at hIs hk₁ hi₁
    rw [Heap.size_push] at hIs
    have hk₁' : Ext s.heap h₁ := fun b o e => hk₁ b o (Heap.get?_push_of_some _ e)
    have hIl : ∀ b o, s.heap.get? b = some o → b ≠ I := fun b o e => Nat.ne_of_lt (Nat.lt_of_lt_of_le (Heap.lt_size e) (Nat.le_of_succ_le hIs))
    refine ⟨I, _, _, _, _, _, rfl, walks_lt (Walks.range hA I 0 1 4), by decide, hi₁, ?_, ?_, ?_⟩
    · intro b hb
      rw [List.mem_singleton.mp hb]
      exact Heap.lt_size hi₁
    · refine ⟨fun C i v s₃ m₃ E' hC hP hn₃ hm₃ hk htk => ?_, fun C i v s₃ m₃ E' hC hP hpv hn₃ hm₃ hk htk => ?_⟩
      · exact wpAny_pure ⟨rfl, s₃.heap, s₃.toks, rfl, fun _ _ e => e⟩
      · obtain ⟨⟨t, rfl⟩, hi4⟩ := hP
        have hki : ((0 : Int) + ((i : Nat) : Int) * 1) = ((i : Nat) : Int) := by omega
        rw [hki] at hm₃ ⊢
        have hold : Ext s.heap s₃.heap := fun b o e => hk b o (by rw [List.mem_singleton]; exact hIl b o e) (hk₁' b o e)
        refine @word_elt' w _ _ _ _ C L a N cd _ i t us zs _ _ hn₃ hm₃ hi4 (k1.keeps hold) (isL hl hold) hi h5 (fun tk' t' => ⟨⟨i, t, t', rfl, rfl⟩, s₃.heap, tk', rfl, fun _ _ e => e⟩) ?_ ?_
        · rfl
        · rfl
    · intro D h₂ tk₂ ys vs hD hL hPl hlen hvs hP hk
      have hold : Ext s.heap h₂ := fun b o e => hk b o (by rw [List.mem_singleton]; exact hIl b o e) (hk₁' b o e)
      rw [List.filter_eq_self.mpr (by simp)] at hP
      obtain ⟨ls, hls, hmap⟩ := comp_chars (n := 4) (g := fun k => ⟨#[fisL.getD (digR (zs.getD 3 0) k) 0]⟩) (List.range 4) vs ys.toList (by rw [hlen]; rfl) (fun j v e => by
        obtain ⟨⟨t, rfl⟩, hj⟩ := hvs j v e
        exact ⟨j, t, List.getElem?_range hj, by simp⟩) hP
      have hys : ys = (strValues ls).toArray := by rw [← hls]
      subst hys
      have hwt : ((ls.map (·.1)).map (·.length)).sum + (ls.map (·.1)).length ≤ 8 := by
        rw [hmap, List.map_map]
        exact Nat.le_of_eq rfl
      refine ⟨D, ls, rfl, hL, joinOk_of_weight (by omega) (by decide), fun t' k => ?_⟩
      have hj : (Txt.join ("" : Str) (ls.map (·.1))).cps.toList = wordR (zs.getD 3 0) := by
        rw [join_flat, hmap, List.flatMap_map]
        rfl
      generalize Txt.join ("" : Str) (ls.map (·.1)) = x at hj
      refine wpAny_storeName_local rfl (F.ns.keeps hold) (fun h₃ hn₃ hs₃ => ?_) rfl
      exact h h₃ _ x t' ((frExt F hold).set hn₃ hs₃) hj fun b o hb e => hs₃.extBut b o hb (hold b o e)
  · intro _; rfl
end Mine

namespace Mine
open PySem PySem.W PySem.Calls PyProof.Rows

noncomputable def k4 : List (List Nat) := [[0], [0, 1], [0, 2], [1, 2]]
noncomputable def lawB (P : Nat → List Nat) (names : Nat) : Bool :=
  let t := toldR P [0, 1, 2, 3] names 16
  let d := dueR P 5 [0, 1, 2, 3] names
  srtOk t && srtOk d && decide (srt t = srt d)
noncomputable def posF (a b c d : List Nat) (i : Nat) : List Nat := match i with | 0 => a | 1 => b | 2 => c | _ => d
theorem law_0 : ∀ b ∈ k4, ∀ c ∈ k4, ∀ d ∈ k4, ∀ n ∈ [1, 2], lawB (posF [0] b c d) n = true := by decide +kernel
theorem law_1 : ∀ b ∈ k4, ∀ c ∈ k4, ∀ d ∈ k4, ∀ n ∈ [1, 2], lawB (posF [0, 1] b c d) n = true := by decide +kernel
theorem law_2 : ∀ b ∈ k4, ∀ c ∈ k4, ∀ d ∈ k4, ∀ n ∈ [1, 2], lawB (posF [0, 2] b c d) n = true := by decide +kernel
theorem law_3 : ∀ b ∈ k4, ∀ c ∈ k4, ∀ d ∈ k4, ∀ n ∈ [1, 2], lawB (posF [1, 2] b c d) n = true := by decide +kernel
theorem law_all : ∀ a ∈ k4, ∀ b ∈ k4, ∀ c ∈ k4, ∀ d ∈ k4, ∀ n ∈ [1, 2], lawB (posF a b c d) n = true := by
  intro a ha
  simp only [k4, List.mem_cons, List.not_mem_nil, or_false] at ha
  rcases ha with rfl | rfl | rfl | rfl
  · exact law_0
  · exact law_1
  · exact law_2
  · exact law_3

theorem rowT_map (cn : Nat → List Nat) (g : Nat → Nat) (code : Nat) (l : List Nat) : rowT cn code (l.map g) = rowT (fun i => cn (g i)) code l := by
  unfold rowT
  rw [List.zipIdx_map, List.flatMap_map]
  rfl
theorem toldR_map (cn : Nat → List Nat) (g : Nat → Nat) (l : List Nat) (n j : Nat) : toldR cn (l.map g) n j = toldR (fun i => cn (g i)) l n j := by
  unfold toldR okRow
  simp only [rowT_map, List.length_map]
theorem dueR_map (cn : Nat → List Nat) (g : Nat → Nat) : ∀ (f : Nat) (l : List Nat) (n : Nat), dueR cn f (l.map g) n = dueR (fun i => cn (g i)) f l n
  | 0, _, _ => rfl
  | f + 1, l, n => by
    unfold dueR
    by_cases h : n = 0 ∨ l = []
    · have h' : n = 0 ∨ l.map g = [] := h.imp id fun e => by rw [e]; rfl
      rw [if_pos h, if_pos h']
      by_cases e : n = 0 ∧ l = []
      · rw [if_pos e, if_pos ⟨e.1, by rw [e.2]; rfl⟩]
      · rw [if_neg e, if_neg (fun q => e ⟨q.1, List.map_eq_nil_iff.mp q.2⟩)]
    · have h' : ¬ (n = 0 ∨ l.map g = []) := fun q => h (q.imp id List.map_eq_nil_iff.mp)
      rw [if_neg h, if_neg h']
      obtain ⟨c, r, rfl⟩ := List.exists_cons_of_ne_nil (fun e => h (.inr e))
      simp only [List.map_cons, List.headD_cons, List.drop_succ_cons, List.drop_zero, List.length_cons, List.length_map, ← List.map_take, ← List.map_drop]
      congr 1
      funext i
      congr 1
      funext many
      rw [dueR_map cn g f, dueR_map cn g f]

theorem posF_of (P : Nat → List Nat) : ∀ i < 4, P i = posF (P 0) (P 1) (P 2) (P 3) i := by
  intro i hi
  rcases i with _ | _ | _ | _ | i
  · rfl
  · rfl
  · rfl
  · rfl
  · omega

theorem rowT_congr {cn cn' : Nat → List Nat} {code : Nat} {l : List Nat} (h : ∀ c ∈ l, cn c = cn' c) : rowT cn code l = rowT cn' code l := by
  unfold rowT
  have : ∀ (l : List Nat) (k : Nat), (∀ c ∈ l, cn c = cn' c) → ((l.zipIdx k).flatMap fun p => rowJ (cn p.1) (bit code p.2) (cn p.1).length) = (l.zipIdx k).flatMap fun p => rowJ (cn' p.1) (bit code p.2) (cn' p.1).length := by
    intro l
    induction l with
    | nil => intro k _; rfl
    | cons c r ih =>
      intro k h
      rw [List.zipIdx_cons, List.flatMap_cons, List.flatMap_cons, ih (k + 1) fun d hd => h d (.tail _ hd), h c (.head _)]
  exact this l 0 h
theorem toldR_congr {cn cn' : Nat → List Nat} {l : List Nat} {n j : Nat} (h : ∀ c ∈ l, cn c = cn' c) : toldR cn l n j = toldR cn' l n j := by
  unfold toldR okRow
  simp only [rowT_congr h]
theorem dueR_congr {cn cn' : Nat → List Nat} : ∀ (f : Nat) (l : List Nat) (n : Nat), (∀ c ∈ l, cn c = cn' c) → dueR cn f l n = dueR cn' f l n
  | 0, _, _, _ => rfl
  | f + 1, l, n, h => by
    unfold dueR
    by_cases hn : n = 0 ∨ l = []
    · rw [if_pos hn, if_pos hn]
    · rw [if_neg hn, if_neg hn]
      obtain ⟨c, r, rfl⟩ := List.exists_cons_of_ne_nil (fun e => hn (.inr e))
      rw [List.headD_cons, h c (.head _)]
      congr 1
      funext i
      congr 1
      funext many
      rw [dueR_congr f _ _ fun d hd => h d (List.mem_of_mem_drop (List.mem_of_mem_take hd)), dueR_congr f ((c :: r).drop (i + 1)) _ fun d hd => h d (List.mem_of_mem_drop hd)]

theorem kinds_k4 : ∀ k ∈ kinds, k ∈ k4 := by decide

theorem plain_law (cn : Nat → List Nat) (l : List Nat) (hl : l.length = 4) (hcn : ∀ c ∈ l, cn c ∈ kinds) (n : Nat) (hn : n = 1 ∨ n = 2) :
    srtOk (toldR cn l n 16) = true ∧ srtOk (dueR cn 5 l n) = true ∧ srt (toldR cn l n 16) = srt (dueR cn 5 l n) := by
  obtain ⟨a, b, c, d, rfl⟩ : ∃ a b c d, l = [a, b, c, d] := by
    match l, hl with
    | [a, b, c, d], _ => exact ⟨a, b, c, d, rfl⟩
  have e : [a, b, c, d] = [0, 1, 2, 3].map (fun i => [a, b, c, d].getD i 0) := rfl
  have hp := posF_of fun i => cn ([a, b, c, d].getD i 0)
  have hc : ∀ i ∈ [0, 1, 2, 3], cn ([a, b, c, d].getD i 0) = posF (cn a) (cn b) (cn c) (cn d) i := fun i hi => by
    have : i < 4 := by
      simp only [List.mem_cons, List.not_mem_nil, or_false] at hi
      omega
    exact hp i this
  have h1 : toldR cn [a, b, c, d] n 16 = toldR (posF (cn a) (cn b) (cn c) (cn d)) [0, 1, 2, 3] n 16 := by
    rw [e, toldR_map]; exact toldR_congr hc
  have h2 : dueR cn 5 [a, b, c, d] n = dueR (posF (cn a) (cn b) (cn c) (cn d)) 5 [0, 1, 2, 3] n := by
    rw [e, dueR_map]; exact dueR_congr _ _ _ hc
  have key := law_all (cn a) (kinds_k4 _ (hcn a (by simp))) (cn b) (kinds_k4 _ (hcn b (by simp))) (cn c) (kinds_k4 _ (hcn c (by simp))) (cn d) (kinds_k4 _ (hcn d (by simp))) n (by simp; omega)
  simp only [lawB, Bool.and_eq_true, decide_eq_true_eq] at key
  rw [h1, h2]
  exact ⟨key.1.1, key.1.2, key.2⟩

/-- the 81 words -/
theorem words_ok : ∀ a ∈ fisL, ∀ b ∈ fisL, ∀ c ∈ fisL, ∀ d ∈ fisL, (wordOk ⟨#[a, b, c, d]⟩ && decide (readW ⟨#[a, b, c, d]⟩ = [a, b, c, d])) = true := by decide +kernel
end Mine

namespace Mine
open PySem PySem.W PySem.Calls PyProof.Rows PySem.Spec PySem.SeqAt

noncomputable def rowD (r : List Int) : PyData := .list (r.map PyData.int)
theorem reads_rows {h : Heap} : ∀ {vs : List Value} {rs : List (List Int)}, RowsX h vs rs → ∃ as, ReadsAll h vs (rs.map rowD) as
  | _, _, .nil => ⟨_, .nil⟩
  | _, _, .cons a ws r hp hi x => by
    obtain ⟨as, h1⟩ := reads_rows x
    exact ⟨_, .cons (reads_of_ints hp hi) h1⟩
theorem canLay_rows : ∀ rs : List (List Int), PyData.canLayAll0 (rs.map rowD) = true
  | [] => by simp [PyData.canLayAll0]
  | r :: rs => by
    have h1 : PyData.canLayAll0 (r.map PyData.int) = true := canLayAll0_ints r
    simp [PyData.canLayAll0, rowD, PyData.canLay0, h1, canLay_rows rs]
theorem depth_rows : ∀ rs : List (List Int), PyData.depthAll (rs.map rowD) ≤ 2
  | [] => by simp [PyData.depthAll]
  | r :: rs => by
    have h1 := PySem.W.depthAll_ints r
    have h2 := depth_rows rs
    simp only [List.map_cons, PyData.depthAll, rowD, PyData.depth]
    omega
theorem shaped_rows (rs : List (List Int)) : shaped (.list (rs.map rowD)) = true := by
  have h1 := depth_rows rs
  have h2 : PyData.depth (.list (rs.map rowD)) ≤ 64 := by simp only [PyData.depth]; omega
  show (PyData.canLay0 (.list (rs.map rowD)) && decide (PyData.depth (.list (rs.map rowD)) ≤ 64)) = true
  rw [Bool.and_eq_true]
  exact ⟨by simp only [PyData.canLay0]; exact canLay_rows rs, decide_eq_true h2⟩
theorem noMix_rows : ∀ rs : List (List Int), noMixAll (rs.map rowD) (rs.map rowD) = true
  | [] => by simp [noMixAll]
  | r :: rs => by
    have h1 := noMix_ints r r
    simp [noMixAll, rowD, noMix, h1, noMix_rows rs]
theorem same_rows : ∀ rs : List (List Int), PySem.Spec.sameAll (rs.map rowD) (rs.map rowD) = true
  | [] => by simp [PySem.Spec.sameAll]
  | r :: rs => by
    have h1 : PySem.Spec.sameAll (r.map PyData.int) (r.map PyData.int) = true := by rw [same_ints]; simp
    simp [PySem.Spec.sameAll, rowD, PySem.Spec.same, h1, same_rows rs]

theorem eq_rows {prog : Program} {w : World} {A : Around} {E : Value → Shared → Prop} {s : Shared} {a b : Addr} {vs us : List Value} {rs : List (List Int)} {Q : Value → Shared → Prop} (hu : A.units + 64 < cLine)
    (ha : s.heap.IsList a vs.toArray) (hva : RowsX s.heap vs rs) (hb : s.heap.IsList b us.toArray) (hub : RowsX s.heap us rs) (h : Q (.bool true) s) :
    wpAny (model prog w) A (compareOp .Eq (.ref a) (.ref b)) Q E s := by
  obtain ⟨o1, g1, c1, n1, d1⟩ := ha
  obtain ⟨o2, g2, c2, n2, d2⟩ := hb
  obtain ⟨as, r1⟩ := reads_rows hva
  obtain ⟨bs, r2⟩ := reads_rows hub
  refine eq_dataH_same (Reads.list g1 c1 d1 r1) (Reads.list g2 c2 d2 r2) (shaped_rows rs) (shaped_rows rs) hu (by simp only [noMix]; exact noMix_rows rs) ?_
  rw [show PySem.Spec.same (.list (rs.map rowD)) (.list (rs.map rowD)) = true by simp only [PySem.Spec.same]; exact same_rows rs]
  exact h

theorem RowsAre.x {h : Heap} : ∀ {as : List Value} {rs : List (List Int)}, RowsAre h as rs → RowsX h as rs
  | _, _, .nil => .nil
  | _, _, .cons a vs r hp hi x => .cons a vs r hp.isList hi x.x

theorem wordR_mem (z : Int) : ∀ c ∈ wordR z, c ∈ fisL := by
  intro c hc
  obtain ⟨k, _, rfl⟩ := List.mem_map.mp hc
  have := digR_lt z k
  have hl : digR z k < fisL.length := this
  rw [List.getD_eq_getElem?_getD, List.getElem?_eq_getElem hl]
  exact List.getElem_mem hl
theorem word_facts {z : Int} {x : Str} (hx : x.cps.toList = wordR z) : WordOk x ∧ wordOk x = true ∧ readW x = x.cps.toList ∧ x.cps.toList.length = 4 := by
  have hl : x.cps.toList.length = 4 := by rw [hx]; rfl
  have hm := wordR_mem z
  rw [← hx] at hm
  have hs : x.length = 4 := by rw [← hl]; exact Array.length_toList.symm
  obtain ⟨a, b, c, d, e⟩ : ∃ a b c d, x.cps.toList = [a, b, c, d] := by
    match x.cps.toList, hl with
    | [a, b, c, d], _ => exact ⟨a, b, c, d, rfl⟩
  have ex : x = ⟨#[a, b, c, d]⟩ := by
    cases x with
    | mk cps =>
      congr 1
      exact Array.toList_inj.mp e
  rw [e] at hm
  have := words_ok a (hm a (by simp)) b (hm b (by simp)) c (hm c (by simp)) d (hm d (by simp))
  rw [Bool.and_eq_true, decide_eq_true_eq] at this
  refine ⟨⟨by omega, fun c hc => ?_⟩, by rw [ex]; exact this.1, by rw [e, ex]; exact this.2, hl⟩
  rw [e] at hc
  exact hm c hc

theorem ret_stmt {w : World} {A : Around} {mg mb : Str → Option Value} {h₀ : Heap} {s : Shared} {L a ct bd : Addr} {cd : Value} {m : Str → Option Value} {zs : List Int} {x : Str} {tx tn : Tok} {names : Nat} {z3 : Int} {Q : Flow → Shared → Prop}
    (B : Base mg mb h₀) (T : Tabs w mg h₀) (hA : A.handled = none) (hroom : A.depth + 100 < recursionLimit) (hu : A.units + 200 < cLine) (hbare : AllBare s.gens) (F : Fr h₀ L s.heap m) (K : Cnt w s.heap ct (cnR zs)) (Kb : Blk w s.heap bd (cnR zs))
    (mc : m "counts" = some (.ref ct)) (mbk : m "blocks" = some (.ref bd)) (mw : m "word" = some (.str x tx)) (mn : m "names" = some (.int (names : Nat) tn)) (hx : x.cps.toList = wordR z3) (hn : names = 1 ∨ names = 2)
    (h : ∀ h' gs tk, Ext h₀ h' → AllBare gs → Q (.ret (.bool true)) ⟨h', gs, s.drawn, tk, s.os⟩) :
    wpAny (model pw w) A (exec (nthS lB 6) (lEnv L a cd)) Q (fun _ _ => False) s := by
  obtain ⟨w1, w2, w3, w4⟩ := word_facts hx
  have hcn : CnOk (cnR zs) := ⟨fun c _ => cnR_ok zs c⟩
  have pl := plain_law (cnR zs) x.cps.toList w4 (fun c hc => cnR_mem zs c (w1.ok c hc)) names hn
  have B' : Base mg mb s.heap := B.keeps F.keep
  have T' : Tabs w mg s.heap := T.keeps F.keep
  obtain ⟨z1, z2⟩ := blt (x := "sorted") B' (by simp [freeNames]) (by rfl)
  refine wpAny_Return_some (wpAny_Compare1 ?_)
  refine @Call_ _ _ _ _ _ _ _ _ _ ?_ ?_
  rotate_left
  · rfl
  refine @lbi _ _ _ _ mg mb L a cd _ _ _ _ B'.g z1 B'.b z2 ?_ ?_ ?_
  rotate_left
  · rfl
  · decide
  refine @PyProof.Rows.callWith_builtin1 _ _ _ _ _ _ _ _ _ _ ?_ ?_ ?_
  rotate_left
  · rfl
  · rfl
  refine @args_cons _ _ _ _ _ _ _ _ _ ?_ rfl
  refine fn_callC (i := 15) B' (by decide) ?_ ?_ ?_ ?_ ?_ ?_
  · rfl
  · rfl
  · rfl
  · rfl
  · rfl
  intro ft hft
  refine @args_cons _ _ _ _ _ _ _ _ _ ?_ rfl
  refine lld F.ns mbk ?_
  refine @args_cons _ _ _ _ _ _ _ _ _ ?_ rfl
  refine fn_callC (i := 14) B' (by decide) ?_ ?_ ?_ ?_ ?_ ?_
  · rfl
  · rfl
  · rfl
  · rfl
  · rfl
  intro fr hfr
  refine @args_cons _ _ _ _ _ _ _ _ _ ?_ rfl
  refine lld F.ns mw ?_
  refine args_nil ⟨fun _ _ e => e, ?_⟩
  refine read_call B' T' hfr hA (by omega) w2 fun h₁ tk₁ y u hy hk₁ => ?_
  have hyx : y = x := by
    rw [w3] at hy
    cases x; cases y
    congr 1
    exact Array.toList_inj.mp hy
  subst hyx
  have F₁ := frExt F hk₁
  refine @args_cons _ _ _ _ _ _ _ _ _ ?_ rfl
  refine lld (s := ⟨h₁, s.gens, s.drawn, tk₁, s.os⟩) F₁.ns mn ?_
  refine args_nil ⟨hk₁, ?_⟩
  refine told_call (s := ⟨h₁, s.gens, s.drawn, tk₁, s.os⟩) (B'.keeps hk₁) (hft.keeps hk₁) hA (by omega) hbare (Kb.keeps hk₁) hcn w1 hn fun h₂ gs₂ tk₂ TD as hk₂ hb₂ hT₂ hR₂ hl₂ => ?_
  refine args_nil ?_
  refine rows_sorted (s := ⟨h₂, gs₂, s.drawn, tk₂, s.os⟩) (by omega) hT₂.isList hR₂.x pl.1 fun h₃ D₃ vs₃ hk₃ x₃ R₃ => ?_
  have hall₃ : Ext s.heap h₃ := fun b o e => hk₃ b o (hk₂ b o (hk₁ b o e))
  have F₃ := frExt F hall₃
  have B₃ := B'.keeps hall₃
  refine @Call_ _ _ _ _ _ _ _ _ _ ?_ ?_
  rotate_left
  · rfl
  refine @lbi _ _ _ ⟨h₃, gs₂, s.drawn, tk₂, s.os⟩ mg mb L a cd _ _ _ _ B₃.g z1 B₃.b z2 ?_ ?_ ?_
  rotate_left
  · rfl
  · decide
  refine @PyProof.Rows.callWith_builtin1 _ _ _ _ _ _ _ _ _ _ ?_ ?_ ?_
  rotate_left
  · rfl
  · rfl
  refine @args_cons _ _ _ _ _ _ _ _ _ ?_ rfl
  refine fn_callC (i := 16) (s := ⟨h₃, gs₂, s.drawn, tk₂, s.os⟩) B₃ (by decide) ?_ ?_ ?_ ?_ ?_ ?_
  · rfl
  · rfl
  · rfl
  · rfl
  · rfl
  intro fd hfd
  refine @args_cons _ _ _ _ _ _ _ _ _ ?_ rfl
  refine lld (s := ⟨h₃, gs₂, s.drawn, tk₂, s.os⟩) F₃.ns mc ?_
  refine @args_cons _ _ _ _ _ _ _ _ _ ?_ rfl
  refine lld (s := ⟨h₃, gs₂, s.drawn, tk₂, s.os⟩) F₃.ns mw ?_
  refine @args_cons _ _ _ _ _ _ _ _ _ ?_ rfl
  refine lld (s := ⟨h₃, gs₂, s.drawn, tk₂, s.os⟩) F₃.ns mn ?_
  refine args_nil ⟨fun _ _ e => e, ?_⟩
  have due : DueC w (cnR zs) 5 := due_call w (cnR zs) (fun c => (cnR_ok zs c).1) 5
  refine due (s := ⟨h₃, gs₂, s.drawn, tk₂, s.os⟩) B₃ hfd hA (by omega) (K.keeps hall₃) w1 (by have := w1.len; omega) fun h₄ tk₄ D₄ as₄ hk₄ x₄ R₄ _ _ => ?_
  refine args_nil ?_
  refine rows_sorted (s := ⟨h₄, gs₂, s.drawn, tk₄, s.os⟩) (by omega) x₄.isList R₄ pl.2.1 fun h₅ D₅ vs₅ hk₅ x₅ R₅ => ?_
  rw [← pl.2.2] at R₅
  have k35 : Ext h₃ h₅ := fun b o e => hk₅ b o (hk₄ b o e)
  refine eq_rows (s := ⟨h₅, gs₂, s.drawn, tk₄, s.os⟩) (by omega) (isL x₃.isList k35) (R₃.keep k35) x₅.isList R₅ ?_
  exact h h₅ gs₂ tk₄ (fun b o e => k35 b o (hall₃ b o (F.keep b o e))) hb₂
end Mine

namespace Mine
open PySem PySem.W PySem.Calls PyProof.Rows

theorem frame_no {h₀ h : Heap} {L : Addr} {m : Str → Option Value} (F : Fr h₀ L h m) : ∃ o, h.get? L = some o ∧ ∀ vs n, o.data ≠ .seq vs n := by
  obtain ⟨o, _, _, ho, hd, _⟩ := F.ns
  exact ⟨o, ho, fun vs n q => by rw [hd] at q; cases q⟩

theorem Cnt.butL {w : World} {h h' : Heap} {ct x : Addr} {cn : Nat → List Nat} {o : Obj} (K : Cnt w h ct cn) (ho : h.get? x = some o) (hn : ∀ vs n, o.data ≠ .seq vs n) (hx : ct ≠ x) (hk : ∀ b o, b ≠ x → h.get? b = some o → h'.get? b = some o) : Cnt w h' ct cn := by
  obtain ⟨f, ⟨o', es, ep, ho', r⟩, hp⟩ := K
  exact ⟨f, ⟨o', es, ep, hk _ _ hx ho', r⟩, fun c hc => let ⟨l, vs, h1, h2, h3⟩ := hp c hc; ⟨l, vs, h1, h2.at fun o e => hk _ o (isList_ne h2 ho hn) e, h3⟩⟩
theorem Blk.butL {w : World} {h h' : Heap} {bd x : Addr} {cn : Nat → List Nat} {o : Obj} (K : Blk w h bd cn) (ho : h.get? x = some o) (hn : ∀ vs n, o.data ≠ .seq vs n) (hx : bd ≠ x) (hk : ∀ b o, b ≠ x → h.get? b = some o → h'.get? b = some o) : Blk w h' bd cn := by
  obtain ⟨f, ⟨o', es, ep, ho', r⟩, hp⟩ := K
  exact ⟨f, ⟨o', es, ep, hk _ _ hx ho', r⟩, fun c hc => let ⟨l, h1, ls, h2, h3⟩ := hp c hc; ⟨l, h1, ls, h2.at fun o e => hk _ o (isList_ne h2 ho hn) e, h3⟩⟩

theorem law_body {w : World} {A : Around} {mg mb : Str → Option Value} {h₀ : Heap} {s : Shared} {L a l : Addr} {cd : Value} {m : Str → Option Value} {vs : List Value} {ns : List Int} {v0 : Option Value} {Q : Flow → Shared → Prop}
    (B : Base mg mb h₀) (T : Tabs w mg h₀) (hA : A.handled = none) (hroom : A.depth + 100 < recursionLimit) (hu : A.units + 200 < cLine) (hbare : AllBare s.gens) (F : Fr h₀ L s.heap m) (k1 : s.heap.IsCell (L + 1) v0) (hs : m "script" = some (.ref l)) (hl : s.heap.IsList l vs.toArray) (hi : IntsAre vs ns) (hn : ns.length ≤ 63)
    (h : ∀ h' gs tk, Ext h₀ h' → AllBare gs → Q (.ret (.bool true)) ⟨h', gs, s.drawn, tk, s.os⟩) :
    wpAny (model pw w) A (execs lB (lEnv L a cd)) Q (fun _ _ => False) s := by
  have h5 := numsR_len ns
  refine @wpAny_execs_cons _ _ _ _ _ _ _ _ ?_
  refine @num_stmt w A mg mb h₀ s L a l cd m vs ns v0 _ B F k1 hs hl hi hn fun h₁ tk₁ N us F₁ c₁ l₁ i₁ hLN => ?_
  refine @wpAny_execs_cons _ _ _ _ _ _ _ _ ?_
  refine @counts_stmt w A mg mb h₀ _ L a N cd m us (numsR ns) _ B hA F₁ c₁ l₁ i₁ h5 fun h₂ tk₂ ct hLc F₂ hk₂ K₂ => ?_
  have hNL : N ≠ L := Nat.ne_of_gt (Nat.lt_of_succ_lt hLN)
  have l₂ : h₂.IsList N us.toArray := l₁.at fun o e => hk₂ _ o hNL e
  have c₂ : h₂.IsCell (L + 1) (some (.ref N)) := let ⟨o, e, d⟩ := c₁; ⟨o, hk₂ _ o (Nat.ne_of_gt (Nat.lt_succ_self _)) e, d⟩
  refine @wpAny_execs_cons _ _ _ _ _ _ _ _ (wpAny_Assign_Name ?_)
  refine wpAny_Dict_empty ?_
  dsimp only
  obtain ⟨bd, hbd⟩ : ∃ b, h₂.objs.size = b := ⟨_, rfl⟩
  obtain ⟨h₃, hh₃⟩ : ∃ q, h₂.push { cls := .type "dict", data := .dict #[] } = q := ⟨_, rfl⟩
  have d₃ : h₃.DictOf (PySem.strKind pw w) bd [] := by rw [← hh₃, ← hbd]; exact Heap.DictOf.new _
  have hk₃ : Ext h₂ h₃ := fun b o e => by rw [← hh₃]; exact Heap.get?_push_of_some _ e
  rw [hbd, hh₃]
  have F₃ := frExt F₂ hk₃
  have hLb : @LT.lt Nat _ L bd := by rw [← hbd]; exact F₂.ns.lt
  have hLb1 : @LT.lt Nat _ (L + 1) bd := by obtain ⟨o, e, _⟩ := c₂; rw [← hbd]; exact Heap.lt_size e
  refine wpAny_storeName_local rfl F₃.ns (fun h₄ hn₄ hs₄ => ?_) rfl
  have F₄ := F₃.set hn₄ hs₄
  obtain ⟨oL, gL, nL⟩ := frame_no F₃
  have hctL : ct ≠ L := Nat.ne_of_gt hLc
  have K₄ : Cnt w h₄ ct (cnR (numsR ns)) := (K₂.keeps hk₃).butL gL nL hctL fun b o hb e => hs₄.extBut b o hb e
  have hbL : bd ≠ L := Nat.ne_of_gt hLb
  have d₄ : h₄.DictOf (PySem.strKind pw w) bd [] := d₃.at fun o e => hs₄.extBut _ o hbL e
  obtain ⟨ob, _, _, hob, _, hdb, _⟩ := id d₄
  have hcb : ct ≠ bd := by
    obtain ⟨f, ⟨o, es, ep, ho, _⟩, _⟩ := K₂
    rw [← hbd]; exact Nat.ne_of_lt (Heap.lt_size ho)
  refine @wpAny_execs_cons _ _ _ _ _ _ _ _ ?_
  refine @blk_loop w A mg mb h₀ _ L a bd ct cd _ (numsR ns) _ B hA (by omega) F₄ K₄ hLb hLb1 rfl rfl d₄ ⟨hcb, fun c hc f l hf hfl => ?_⟩ hctL fun h₅ tk₅ m₅ F₅ mc₅ mb₅ hk₅ Kb₅ => ?_
  · obtain ⟨f', hf', hp⟩ := K₄
    obtain ⟨l', vs', q1, q2, q3⟩ := hp c hc
    have : f ⟨#[c]⟩ = f' ⟨#[c]⟩ := by
      obtain ⟨o, es, ep, g1, _, g2, _, g3⟩ := hf
      obtain ⟨o', es', ep', g1', _, g2', _, g3'⟩ := hf'
      rw [g1] at g1'; cases g1'
      rw [g2] at g2'; cases g2'
      rw [← g3, ← g3']
    rw [this, q1] at hfl
    cases hfl
    exact isList_ne q2 hob fun vs n q => by rw [hdb] at q; cases q
  have K₅ : Cnt w h₅ ct (cnR (numsR ns)) := by
    obtain ⟨oL, gL, nL⟩ := frame_no F₄
    obtain ⟨f, ⟨o', es, ep, ho', r⟩, hp⟩ := K₄
    refine ⟨f, ⟨o', es, ep, hk₅ _ _ hctL hcb ho', r⟩, fun c hc => ?_⟩
    obtain ⟨l, vs, q1, q2, q3⟩ := hp c hc
    exact ⟨l, vs, q1, q2.at fun o e => hk₅ _ o (isList_ne q2 gL nL) (isList_ne q2 hob fun vs n q => by rw [hdb] at q; cases q) e, q3⟩
  have up45 : ∀ b o, b ≠ L → b ≠ bd → h₂.get? b = some o → h₅.get? b = some o := fun b o q1 q2 e => hk₅ b o q1 q2 (hs₄.extBut b o q1 (hk₃ b o e))
  have hN2 : N ≠ bd := by rw [← hbd]; obtain ⟨o, e, _⟩ := l₂; exact Nat.ne_of_lt (Heap.lt_size e)
  have l₅ : h₅.IsList N us.toArray := l₂.at fun o e => up45 _ o hNL hN2 e
  have c₅ : h₅.IsCell (L + 1) (some (.ref N)) := let ⟨o, e, d⟩ := c₂; ⟨o, up45 _ o (Nat.ne_of_gt (Nat.lt_succ_self _)) (Nat.ne_of_lt hLb1) e, d⟩
  refine @wpAny_execs_cons _ _ _ _ _ _ _ _ ?_
  refine @word_stmt w A mg mb h₀ _ L a N cd m₅ us (numsR ns) _ B hA F₅ c₅ l₅ i₁ h5 fun h₆ tk₆ x tx F₆ hx₆ hk₆ => ?_
  obtain ⟨oL₅, gL₅, nL₅⟩ := frame_no F₅
  have K₆ := K₅.butL gL₅ nL₅ hctL hk₆
  have Kb₆ := Kb₅.butL gL₅ nL₅ hbL hk₆
  have l₆ : h₆.IsList N us.toArray := l₅.at fun o e => hk₆ _ o hNL e
  have c₆ : h₆.IsCell (L + 1) (some (.ref N)) := let ⟨o, e, d⟩ := c₅; ⟨o, hk₆ _ o (Nat.ne_of_gt (Nat.lt_succ_self _)) e, d⟩
  obtain ⟨z, t4, e4⟩ : ∃ z t, us[4]? = some (.int z t) := by
    have hul : us.length = 5 := i₁.length.trans h5
    obtain ⟨n, q, e1, e2⟩ := i₁.at 4 us[4] (List.getElem?_eq_getElem (by omega))
    exact ⟨n, q, by rw [List.getElem?_eq_getElem (by omega), e1]⟩
  have h0 : 0 ≤ z.fmod 2 := Int.fmod_nonneg_of_pos _ (by decide)
  have h2 : z.fmod 2 < 2 := Int.fmod_lt_of_pos _ (by decide)
  refine @wpAny_execs_cons _ _ _ _ _ _ _ _ (wpAny_Assign_Name ?_)
  refine @wpAny_BinOp _ _ _ _ _ _ _ _ _ _ ?_
  refine wpAny_Constant_int ?_
  refine @wpAny_BinOp _ _ _ _ _ _ _ _ _ _ ?_
  refine @Subscript_ _ _ _ _ _ _ _ _ _ ?_
  refine wpAny_Name (wpAny_loadName_cell (s := ⟨h₆, s.gens, s.drawn, tk₆ + 1, s.os⟩) rfl rfl (c := L + 1) rfl c₆ ?_)
  refine wpAny_Constant_int ?_
  refine tailR (ops := [.ref N, .int 4 _]) l₆.typeIs list_getitem_lookup (wpAny_getItem_list (x := .int z t4) l₆ (by decide) (by decide) (by simpa using e4) ?_) (by with_unfolding_all rfl)
  refine wpAny_Constant_int (mod_int' (by decide) (P.add_int ?_))
  have en : (1 : Int) + z.fmod 2 = ((1 + (z.fmod 2).toNat : Nat) : Int) := by omega
  rw [en]
  refine wpAny_storeName_local rfl F₆.ns (fun h₇ hn₇ hs₇ => ?_) rfl
  have F₇ := F₆.set hn₇ hs₇
  obtain ⟨oL₆, gL₆, nL₆⟩ := frame_no F₆
  have K₇ := K₆.butL gL₆ nL₆ hctL fun b o hb e => hs₇.extBut b o hb e
  have Kb₇ := Kb₆.butL gL₆ nL₆ hbL fun b o hb e => hs₇.extBut b o hb e
  refine @wpAny_execs_cons _ _ _ _ _ _ _ _ ?_
  refine @ret_stmt w A mg mb h₀ _ L a ct bd cd _ (numsR ns) x tx _ (1 + (z.fmod 2).toNat) _ _ B T hA hroom hu hbare F₇ K₇ Kb₇ mc₅ mb₅ rfl rfl hx₆ (by omega) fun h' gs tk hk hb => ?_
  exact h h' gs tk hk hb

theorem law_call {w : World} {A : Around} {E : Value → Shared → Prop} {mg mb : Str → Option Value} {s : Shared} {f l : Addr} {vs : List Value} {ns : List Int} {Q : Value → Shared → Prop}
    (B : Base mg mb s.heap) (T : Tabs w mg s.heap) (hf : FnIs s.heap 17 f) (hA : A.handled = none) (hroom : A.depth + 101 < recursionLimit) (hu : A.units + 203 < cLine) (hbare : AllBare s.gens) (hl : s.heap.IsList l vs.toArray) (hi : IntsAre vs ns) (hn : ns.length ≤ 63)
    (h : ∀ h' gs tk, Ext s.heap h' → AllBare gs → Q (.bool true) ⟨h', gs, s.drawn, tk, s.os⟩) :
    wpAny (model pw w) A (call (.ref f) [.ref l]) Q E s := by
  obtain ⟨o, pm, cd, doc, ho, hd, hc⟩ := hf
  refine wpAny_call (codeAny_call_cells (binds := [(("script" : Str), .ref l)]) (body := lB) (by omega) ho hd B.nolimit hc rfl rfl rfl ?_ (fun s₁ X => ?_) rfl rfl rfl)
  · intro y hy
    obtain rfl := List.mem_singleton.mp hy
    exact .inl rfl
  · obtain ⟨⟨⟨h₁, tk, rfl⟩, hns, hkeep, hfresh⟩, hcell, _, _⟩ := X
    have F : Fr s.heap s.heap.objs.size h₁ _ := ⟨hns, hkeep, Nat.le_refl _⟩
    have hA' : (A.deeper (lEnv s.heap.objs.size f cd)).handled = none := hA
    have hr' : (A.deeper (lEnv s.heap.objs.size f cd)).depth + 100 < recursionLimit := by
      show A.depth + 1 + 100 < recursionLimit
      omega
    have hu' : (A.deeper (lEnv s.heap.objs.size f cd)).units + 200 < cLine := by
      show A.units + 3 + 200 < cLine
      omega
    refine wpAny_mono (@law_body w (A.deeper (lEnv s.heap.objs.size f cd)) mg mb s.heap ⟨h₁, s.gens, s.drawn, tk, s.os⟩ s.heap.objs.size f l cd _ vs ns _ (fun fl s' => Q (match fl with | .ret v => v | _ => .none) s') B T hA' hr' hu' hbare F (hcell "numbers" _ rfl) rfl (isL hl hkeep) hi hn
      (fun h' gs tk' e1 e2 => h h' gs tk' e1 e2)) (fun _ _ q => q) fun _ _ e => e.elim
end Mine

namespace Mine
open PySem PySem.W PySem.Calls PyProof.Rows
open_shared hd for PySem.Challenge.pw_wk0039_01 leaving 9
noncomputable section
noncomputable abbrev sT (x : String) : Str := Str.ofString x
noncomputable abbrev kH (P : Params) (x : String) : Int := PyData.keyHash P (Str.ofString x)
noncomputable abbrev z0 : Pos := ⟨0, 0, 0, 0⟩
noncomputable abbrev B0 : List Frame := [topFrame z0]
noncomputable abbrev ann0 : Option Value := some (.ref 6)
noncomputable def x9_3 (P : Params) : Obj :=
{ cls := .type "dict",
  data :=
    .dict
      #[{ hash := kH P "__name__", key := .str (sT "__name__") 165,
          val := .str (sT "cpy313.stringprep") 270 },
        { hash := kH P "__doc__", key := .str (sT "__doc__") 166, val := .none },
        { hash := kH P "__package__", key := .str (sT "__package__") 167, val := .none },
        { hash := kH P "__loader__", key := .str (sT "__loader__") 168, val := .builtin "__main__.__loader__#opaque" },
        { hash := kH P "__spec__", key := .str (sT "__spec__") 169, val := .none },
        { hash := kH P "__annotations__", key := .str (sT "__annotations__") 170, val := .ref 6 },
        { hash := kH P "__builtins__", key := .str (sT "__builtins__") 171, val := .ref 4 },
        { hash := kH P "__file__", key := .str (sT "__file__") 173, val := .str (sT "/claim/cut.py") 172 },
        { hash := kH P "__cached__", key := .str (sT "__cached__") 174, val := .none },
        { hash := kH P "_iter_escaped_chars", key := .str (sT "_iter_escaped_chars") 198, val := .ref 21 },
        { hash := kH P "_strip_quoted_realnames", key := .str (sT "_strip_quoted_realnames") 210, val := .ref 28 },
        { hash := kH P "_check_parenthesis", key := .str (sT "_check_parenthesis") 220, val := .ref 35 },
        { hash := kH P "Error", key := .str (sT "Error") 242, val := .ref 45 },
        { hash := kH P "error_reply", key := .str (sT "error_reply") 258, val := .ref 58 },
        { hash := kH P "parse257", key := .str (sT "parse257") 269, val := .ref 67 },
        { hash := kH P "b1_set", key := .str (sT "b1_set") 331, val := .ref 75 }]
      16 }
noncomputable def x9_68 (P : Params) : Obj :=
{ cls := .type "list",
  data :=
    .seq
      #[.int 173 272, .int 847 273, .int 6150 274, .int 6155 275, .int 6156 276, .int 6157 277, .int 8203 278,
        .int 8204 279, .int 8205 280, .int 8288 281, .int 65279 282] }
noncomputable def x9_69 (P : Params) : Obj :=
{ cls := .type "range", data := .fields #[.int 65024 283, .int 65040 284, .int 1 285] }
noncomputable def x9_70 (P : Params) : Obj :=
{ cls := .type "list",
  data :=
    .seq
      #[.int 65024 288, .int 65025 289, .int 65026 290, .int 65027 291, .int 65028 292, .int 65029 293, .int 65030 294,
        .int 65031 295, .int 65032 296, .int 65033 297, .int 65034 298, .int 65035 299, .int 65036 300, .int 65037 301,
        .int 65038 302, .int 65039 303]
      18 }
noncomputable def x9_71 (P : Params) : Obj :=
{ cls := .type "range_iterator", data := .fields #[.int 65040 0, .int 0 0, .int 1 0] }
noncomputable def x9_72 (P : Params) : Obj :=
{ cls := .type "tuple", data := .seq #[] }
noncomputable def x9_73 (P : Params) : Obj :=
{ cls := .type "StopIteration", data := .fields #[.ref 72, .none, .none, .none, .bool false, .none] }
noncomputable def x9_74 (P : Params) : Obj :=
{ cls := .type "list",
  data :=
    .seq
      #[.int 173 272, .int 847 273, .int 6150 274, .int 6155 275, .int 6156 276, .int 6157 277, .int 8203 278,
        .int 8204 279, .int 8205 280, .int 8288 281, .int 65279 282, .int 65024 288, .int 65025 289, .int 65026 290,
        .int 65027 291, .int 65028 292, .int 65029 293, .int 65030 294, .int 65031 295, .int 65032 296, .int 65033 297,
        .int 65034 298, .int 65035 299, .int 65036 300, .int 65037 301, .int 65038 302, .int 65039 303] }
noncomputable def x9_75 (P : Params) : Obj :=
{ cls := .type "set",
  data :=
    .set
      #[(65024, .int 65024 288), (65025, .int 65025 289), (65026, .int 65026 290), (65027, .int 65027 291), (65028, .int 65028 292),
        (65029, .int 65029 293), (6150, .int 6150 274), (65030, .int 65030 294), (65031, .int 65031 295), (65032, .int 65032 296),
        (65033, .int 65033 297), (6155, .int 6155 275), (6156, .int 6156 276), (6157, .int 6157 277), (8203, .int 8203 278),
        (8204, .int 8204 279), (8205, .int 8205 280), (65034, .int 65034 298), (65035, .int 65035 299), (65036, .int 65036 300),
        (65037, .int 65037 301), (65038, .int 65038 302), (65039, .int 65039 303), (173, .int 173 272), (847, .int 847 273),
        (8288, .int 8288 281), (65279, .int 65279 282)]
      29
      { mask := 127, place := #[0, 1, 2, 3, 4, 5, 6, 7, 8, 9, 10, 11, 12, 13, 14, 15, 16, 17, 18, 19, 20, 21, 22, 45, 79, 96, 127], dummies := #[], finger := 0, led := !(P.followText "set-order"), moves := 2,
        plain := true } }
noncomputable def x9_76 (P : Params) : Obj :=
{ cls := .type "list_iterator", data := .fields #[.none, .int 27 0] }
noncomputable def x9_77 (P : Params) : Obj :=
{ cls := .type "tuple", data := .seq #[] }
noncomputable def x9_78 (P : Params) : Obj :=
{ cls := .type "StopIteration", data := .fields #[.ref 77, .none, .none, .none, .bool false, .none] }
noncomputable def x9 (P : Params) : BT := (.node (boot_o_0 P) (.node (boot_o_1 P) (.node (x9_3 P) (.node (boot_o_7 P) (.node (hd.o_8 P) (.node (hd.o_24 P) (.node (hd.o_60 P) .nil .nil) .nil) (.node (hd.o_40 P) .nil .nil)) (.node (hd.o_16 P) (.node (hd.o_32 P) (.node (x9_71 P) .nil .nil) .nil) (.node (hd.o_52 P) .nil .nil))) (.node (hd.o_1 P) (.node (hd.o_12 P) (.node (hd.o_28 P) (.node (hd.o_64 P) .nil .nil) .nil) (.node (hd.o_48 P) .nil .nil)) (.node (hd.o_20 P) (.node (hd.o_36 P) (.node (x9_75 P) .nil .nil) .nil) (.node (hd.o_56 P) .nil .nil)))) (.node (boot_o_5 P) (.node (boot_o_9 P) (.node (hd.o_10 P) (.node (hd.o_26 P) (.node (hd.o_62 P) .nil .nil) .nil) (.node (hd.o_46 P) .nil .nil)) (.node (hd.o_18 P) (.node (hd.o_34 P) (.node (x9_73 P) .nil .nil) .nil) (.node (hd.o_54 P) .nil .nil))) (.node (hd.o_3 P) (.node (hd.o_14 P) (.node (hd.o_30 P) (.node (x9_69 P) .nil .nil) .nil) (.node (hd.o_50 P) .nil .nil)) (.node (hd.o_22 P) (.node (hd.o_45 P) (.node (x9_77 P) .nil .nil) .nil) (.node (hd.o_58 P) .nil .nil))))) (.node (hd.o_5 P) (.node (boot_o_4 P) (.node (boot_o_8 P) (.node (hd.o_9 P) (.node (hd.o_25 P) (.node (hd.o_61 P) .nil .nil) .nil) (.node (hd.o_41 P) .nil .nil)) (.node (hd.o_17 P) (.node (hd.o_33 P) (.node (x9_72 P) .nil .nil) .nil) (.node (hd.o_53 P) .nil .nil))) (.node (hd.o_44 P) (.node (hd.o_13 P) (.node (hd.o_29 P) (.node (x9_68 P) .nil .nil) .nil) (.node (hd.o_49 P) .nil .nil)) (.node (hd.o_21 P) (.node (hd.o_37 P) (.node (x9_76 P) .nil .nil) .nil) (.node (hd.o_57 P) .nil .nil)))) (.node (boot_o_6 P) (.node (boot_o_10 P) (.node (hd.o_11 P) (.node (hd.o_27 P) (.node (hd.o_63 P) .nil .nil) .nil) (.node (hd.o_47 P) .nil .nil)) (.node (hd.o_19 P) (.node (hd.o_35 P) (.node (x9_74 P) .nil .nil) .nil) (.node (hd.o_55 P) .nil .nil))) (.node (hd.o_4 P) (.node (hd.o_15 P) (.node (hd.o_31 P) (.node (x9_70 P) .nil .nil) .nil) (.node (hd.o_51 P) .nil .nil)) (.node (hd.o_23 P) (.node (hd.o_39 P) (.node (x9_78 P) .nil .nil) .nil) (.node (hd.o_59 P) .nil .nil))))))
theorem q1 : @segRunT = @PySem.W.Fast.tw10110043849684766642 := PySem.W.Fast.te10110043849684766642
theorem q2 : treeTable = PySem.W.Fast.tw14364793385576792824 := PySem.W.Fast.te14364793385576792824
noncomputable def pcG9 (w : World) : Prop := ∀ (p : Program) (b : List Stmt) (os : OsState), segRunT treeTable p w 11 ann0 1 999 ⟨hd.tree_64 w.params, 68, {}, #[], {}, 272, os⟩ (piecesOf [topS 9] hd.env_1 (.body b hd.env_1) ⟨66, 0, 66, 8⟩ B0) =
  some (.next, ⟨x9 w.params, 79, {}, #[], {}, 332, os⟩, .body b hd.env_1, ⟨67, 0, 67, 6⟩)
theorem pc9_ff (w : World) : pcG9 ((w.withFollow "set-order" false).withFollow "special-get-raises" false) := by unfold pcG9; intro p b os; rw [q1, q2]; kernel_rfl
theorem pc9_ft (w : World) : pcG9 ((w.withFollow "set-order" true).withFollow "special-get-raises" false) := by unfold pcG9; intro p b os; rw [q1, q2]; kernel_rfl
theorem pc9_tf (w : World) : pcG9 ((w.withFollow "set-order" false).withFollow "special-get-raises" true) := by unfold pcG9; intro p b os; rw [q1, q2]; kernel_rfl
theorem pc9_tt (w : World) : pcG9 ((w.withFollow "set-order" true).withFollow "special-get-raises" true) := by unfold pcG9; intro p b os; rw [q1, q2]; kernel_rfl
theorem pc9_f (w : World) : pcG9 (w.withFollow "special-get-raises" false) := byRow2 "set-order" (P := fun w => pcG9 (w.withFollow "special-get-raises" false)) pc9_ff pc9_ft w
theorem pc9_t (w : World) : pcG9 (w.withFollow "special-get-raises" true) := byRow2 "set-order" (P := fun w => pcG9 (w.withFollow "special-get-raises" true)) pc9_tf pc9_tt w
theorem pc9 (w : World) : pcG9 w := byRow2 "special-get-raises" (P := pcG9) pc9_f pc9_t w
end
end Mine

namespace Mine
open PySem PySem.W PySem.Calls PyProof.Rows
noncomputable section
noncomputable def x10_3 (P : Params) : Obj :=
{ cls := .type "dict",
  data :=
    .dict
      #[{ hash := kH P "__name__", key := .str (sT "__name__") 165,
          val := .str (sT "cpy313.stringprep") 270 },
        { hash := kH P "__doc__", key := .str (sT "__doc__") 166, val := .none },
        { hash := kH P "__package__", key := .str (sT "__package__") 167, val := .none },
        { hash := kH P "__loader__", key := .str (sT "__loader__") 168, val := .builtin "__main__.__loader__#opaque" },
        { hash := kH P "__spec__", key := .str (sT "__spec__") 169, val := .none },
        { hash := kH P "__annotations__", key := .str (sT "__annotations__") 170, val := .ref 6 },
        { hash := kH P "__builtins__", key := .str (sT "__builtins__") 171, val := .ref 4 },
        { hash := kH P "__file__", key := .str (sT "__file__") 173, val := .str (sT "/claim/cut.py") 172 },
        { hash := kH P "__cached__", key := .str (sT "__cached__") 174, val := .none },
        { hash := kH P "_iter_escaped_chars", key := .str (sT "_iter_escaped_chars") 198, val := .ref 21 },
        { hash := kH P "_strip_quoted_realnames", key := .str (sT "_strip_quoted_realnames") 210, val := .ref 28 },
        { hash := kH P "_check_parenthesis", key := .str (sT "_check_parenthesis") 220, val := .ref 35 },
        { hash := kH P "Error", key := .str (sT "Error") 242, val := .ref 45 },
        { hash := kH P "error_reply", key := .str (sT "error_reply") 258, val := .ref 58 },
        { hash := kH P "parse257", key := .str (sT "parse257") 269, val := .ref 67 },
        { hash := kH P "b1_set", key := .str (sT "b1_set") 331, val := .ref 75 },
        { hash := kH P "in_table_b1", key := .str (sT "in_table_b1") 338, val := .ref 85 }]
      17 }
noncomputable def x10_12 (P : Params) : Obj :=
{ cls := .none,
  data :=
    .fields
      #[.int 2 0, .int 0 0, .ref 20, .int 15 0, .int 0 0, .ref 27, .int 33 0, .int 0 0, .ref 34,
        .int 45 0, .int 0 0, .ref 41, .int 47 0, .int 0 0, .ref 54, .int 49 0, .int 0 0, .ref 66,
        .int 68 0, .int 0 0, .ref 84] }
noncomputable def x10_79 (P : Params) : Obj :=
{ cls := .type "tuple", data := .seq #[] }
noncomputable def x10_80 (P : Params) : Obj :=
{ cls := .none, data := .fields #[] }
noncomputable def x10_81 (P : Params) : Obj :=
{ cls := .type "tuple", data := .seq #[.str (sT "code") 335] }
noncomputable def x10_82 (P : Params) : Obj :=
{ cls := .type "tuple", data := .seq #[] }
noncomputable def x10_83 (P : Params) : Obj :=
{ cls := .none,
  data :=
    .func
      { name := sT "in_table_b1", qualname := sT "in_table_b1", params := fnArgs (topS 10), body := .stmts (fnBody (topS 10)),
        scope := fnScope (topS 10), globals := 0, closure := [], defaults := .none, kwdefaults := .none } }
noncomputable def x10_84 (P : Params) : Obj :=
{ cls := .type "code",
  data :=
    .fields
      #[.str (sT "in_table_b1") 332, .str (sT "in_table_b1") 333, .str (sT "/claim/cut.py") 334, .int 68 0,
        .int 1 0, .int 0 0, .int 0 0, .int 3 0, .ref 79, .bool true, .int 181 0, .ref 80, .none,
        .ref 81, .ref 82, .ref 83, .int 336 0, .int 68 0, .str (sT "/claim/cut.py") 337] }
noncomputable def x10_85 (P : Params) : Obj :=
{ cls := .type "function",
  data :=
    .func
      { name := sT "in_table_b1", qualname := sT "in_table_b1", params := fnArgs (topS 10), body := .stmts (fnBody (topS 10)),
        scope := fnScope (topS 10), globals := 3, closure := [], defaults := .none, kwdefaults := .none,
        pyModule := .str (sT "cpy313.stringprep") 270, code := .ref 84 } }
noncomputable def x10 (P : Params) : BT := (.node (boot_o_0 P) (.node (boot_o_1 P) (.node (x10_3 P) (.node (boot_o_7 P) (.node (hd.o_8 P) (.node (hd.o_24 P) (.node (hd.o_60 P) .nil .nil) .nil) (.node (hd.o_40 P) (.node (x10_79 P) .nil .nil) .nil)) (.node (hd.o_16 P) (.node (hd.o_32 P) (.node (x9_71 P) .nil .nil) .nil) (.node (hd.o_52 P) .nil .nil))) (.node (hd.o_1 P) (.node (hd.o_12 P) (.node (hd.o_28 P) (.node (hd.o_64 P) .nil .nil) .nil) (.node (hd.o_48 P) (.node (x10_83 P) .nil .nil) .nil)) (.node (hd.o_20 P) (.node (hd.o_36 P) (.node (x9_75 P) .nil .nil) .nil) (.node (hd.o_56 P) .nil .nil)))) (.node (boot_o_5 P) (.node (boot_o_9 P) (.node (hd.o_10 P) (.node (hd.o_26 P) (.node (hd.o_62 P) .nil .nil) .nil) (.node (hd.o_46 P) (.node (x10_81 P) .nil .nil) .nil)) (.node (hd.o_18 P) (.node (hd.o_34 P) (.node (x9_73 P) .nil .nil) .nil) (.node (hd.o_54 P) .nil .nil))) (.node (hd.o_3 P) (.node (hd.o_14 P) (.node (hd.o_30 P) (.node (x9_69 P) .nil .nil) .nil) (.node (hd.o_50 P) (.node (x10_85 P) .nil .nil) .nil)) (.node (hd.o_22 P) (.node (hd.o_45 P) (.node (x9_77 P) .nil .nil) .nil) (.node (hd.o_58 P) .nil .nil))))) (.node (hd.o_5 P) (.node (boot_o_4 P) (.node (boot_o_8 P) (.node (hd.o_9 P) (.node (hd.o_25 P) (.node (hd.o_61 P) .nil .nil) .nil) (.node (hd.o_41 P) (.node (x10_80 P) .nil .nil) .nil)) (.node (hd.o_17 P) (.node (hd.o_33 P) (.node (x9_72 P) .nil .nil) .nil) (.node (hd.o_53 P) .nil .nil))) (.node (x10_12 P) (.node (hd.o_13 P) (.node (hd.o_29 P) (.node (x9_68 P) .nil .nil) .nil) (.node (hd.o_49 P) (.node (x10_84 P) .nil .nil) .nil)) (.node (hd.o_21 P) (.node (hd.o_37 P) (.node (x9_76 P) .nil .nil) .nil) (.node (hd.o_57 P) .nil .nil)))) (.node (boot_o_6 P) (.node (boot_o_10 P) (.node (hd.o_11 P) (.node (hd.o_27 P) (.node (hd.o_63 P) .nil .nil) .nil) (.node (hd.o_47 P) (.node (x10_82 P) .nil .nil) .nil)) (.node (hd.o_19 P) (.node (hd.o_35 P) (.node (x9_74 P) .nil .nil) .nil) (.node (hd.o_55 P) .nil .nil))) (.node (hd.o_4 P) (.node (hd.o_15 P) (.node (hd.o_31 P) (.node (x9_70 P) .nil .nil) .nil) (.node (hd.o_51 P) .nil .nil)) (.node (hd.o_23 P) (.node (hd.o_39 P) (.node (x9_78 P) .nil .nil) .nil) (.node (hd.o_59 P) .nil .nil))))))
theorem pc10 (p : Program) (b : List Stmt) (w : World) (os : OsState) : segRunT treeTable p w 11 ann0 1 30 ⟨x9 w.params, 79, {}, #[], {}, 332, os⟩ (piecesOf [topS 10] hd.env_1 (.body b hd.env_1) ⟨67, 0, 67, 6⟩ B0) =
  some (.next, ⟨x10 w.params, 86, {}, #[], {}, 339, os⟩, .body b hd.env_1, ⟨68, 0, 69, 30⟩) := by rw [q1, q2]; kernel_rfl
end
end Mine

namespace Mine
open PySem PySem.W PySem.Calls PyProof.Rows

/-- a piece of the top's run: `m` at `s` ends with `a` at `s'` after `n` steps, whatever stands behind it -/
noncomputable def TG (p : Program) (w : World) (n₀ : Nat) (ann : Option Value) {α : Type} (m : Sem α) (s : Shared) (pos : Pos) (n : Nat) (a : α) (s' : Shared) (pos' : Pos) : Prop :=
  ∀ (K : α → Sem Fin) (H : Value → Sem Fin) (gd : Bool → Bool) (lv : List Value → List Value) (code : Code) (f : Frame) (rest : List Frame) (N : Nat) (r : Shared),
    topRun treeTable p w n₀ ann N s' ⟨K a, code, pos', f :: rest⟩ = some r → topRun treeTable p w n₀ ann (n + N) s ⟨m.wrap K H gd lv, code, pos, f :: rest⟩ = some r

section
variable {p : Program} {w : World} {n₀ : Nat} {ann : Option Value} {α β : Type} {s s₁ s' : Shared} {pos pos₁ pos' : Pos}

theorem TG.pure {a : α} : TG p w n₀ ann (Sem.pure a) s pos 0 a s pos := fun K H gd lv code f rest N r h => by rw [Nat.zero_add]; exact h
theorem TG.bind {m : Sem α} {f : α → Sem β} {n k : Nat} {a : α} {b : β} (h : TG p w n₀ ann m s pos n a s₁ pos₁) (h' : TG p w n₀ ann (f a) s₁ pos₁ k b s' pos') : TG p w n₀ ann (m >>= f) s pos (n + k) b s' pos' :=
  fun K H gd lv code fr rest N r hr => by
    rw [Sem.bind_eq_wrap', Sem.wrap_wrap, Nat.add_assoc]
    exact h _ _ _ _ code fr rest (k + N) r (h' K H gd lv code fr rest N r hr)
theorem TG.keep {vs : List Value} {m : Sem α} {n : Nat} {a : α} (h : TG p w n₀ ann m s pos n a s' pos') : TG p w n₀ ann (m.keep vs) s pos n a s' pos' :=
  fun K H gd lv code fr rest N r hr => by
    rw [Sem.keep_eq_wrap, Sem.wrap_wrap]
    exact h _ _ _ _ code fr rest N r hr
theorem TG.holding {vs : List Value} {m : Sem α} {n : Nat} {a : α} (h : TG p w n₀ ann m s pos n a s' pos') : TG p w n₀ ann (holding vs m) s pos n a s' pos' := by
  unfold PySem.holding
  split
  · exact h
  · exact h.keep
theorem TG.onRaise {m : Sem α} {g : Value → Sem Unit} {n : Nat} {a : α} (h : TG p w n₀ ann m s pos n a s' pos') : TG p w n₀ ann (m.onRaise g) s pos n a s' pos' :=
  fun K H gd lv code fr rest N r hr => by
    rw [Sem.onRaise_eq_wrap, Sem.wrap_wrap]
    exact h _ _ _ _ code fr rest N r hr
theorem TG.mono {m : Sem α} {n k : Nat} {a : α} (h : TG p w n₀ ann m s pos n a s' pos') (e : n = k) : TG p w n₀ ann m s pos k a s' pos' := e ▸ h
theorem TG.of_eq {m m' : Sem α} {n : Nat} {a : α} (e : m' = m) (h : TG p w n₀ ann m s pos n a s' pos') : TG p w n₀ ann m' s pos n a s' pos' := e ▸ h

theorem one_step {t t' : Thread} {r : Shared} {N : Nat} (h1 : through t = false) (h2 : stepOk n₀ ann t = true) (h3 : step (denote treeTable) p w s t = .go s' t') (h : topRun treeTable p w n₀ ann N s' t' = some r) :
    topRun treeTable p w n₀ ann (1 + N) s t = some r := by
  rw [Nat.add_comm]
  unfold topRun
  rw [h1, h2, h3]
  exact h

theorem TG.rule {x : String} : TG p w n₀ ann (PySem.rule x) s pos 1 () s pos := fun K H gd lv code f rest N r h => one_step rfl rfl rfl h
theorem TG.at {q : Pos} : TG p w n₀ ann (standAt q) s pos 1 () s q := fun K H gd lv code f rest N r h => one_step rfl rfl rfl h
theorem TG.fresh {h : Heap} {g : Array GenState} {d : Drawn} {k : Nat} {os : OsState} : TG p w n₀ ann PySem.fresh ⟨h, g, d, k, os⟩ pos 1 k ⟨h, g, d, k + 1, os⟩ pos := fun K H gd lv code f rest N r h => one_step rfl rfl rfl h
theorem TG.alloc {h : Heap} {g : Array GenState} {d : Drawn} {k : Nat} {os : OsState} {o : Obj} : TG p w n₀ ann (PySem.alloc o) ⟨h, g, d, k, os⟩ pos 1 h.objs.size ⟨h.push o, g, d, k, os⟩ pos :=
  fun K H gd lv code f rest N r h => one_step rfl rfl rfl h
theorem TG.load {h : Heap} {g : Array GenState} {d : Drawn} {k : Nat} {os : OsState} {o : Obj} {a : Addr} {part : Option Value} (e : h.get? a = some o) : TG p w n₀ ann (loadPart a part) ⟨h, g, d, k, os⟩ pos 1 o ⟨h, g, d, k, os⟩ pos :=
  fun K H gd lv code f rest N r hr => by
    refine one_step rfl rfl ?_ hr
    show (match h.get? a with | some o => _ | none => _) = _
    rw [e]
    rfl
theorem TG.update {h : Heap} {g : Array GenState} {d : Drawn} {k : Nat} {os : OsState} {o : Obj} {a : Addr} {part : Option Value} {fn : Obj → Obj} (e : h.get? a = some o) (hle : Nat.ble n₀ a = true) :
    TG p w n₀ ann (updatePart a part fn) ⟨h, g, d, k, os⟩ pos 1 () ⟨h.update a fn, g, d, k, os⟩ pos :=
  fun K H gd lv code f rest N r hr => by
    refine one_step rfl ?_ ?_ hr
    · show (true && (Nat.ble n₀ a || a == mainNs || a == cStatics || ann == some (.ref a))) = true
      rw [hle]; rfl
    · show (if (h.get? a).isSome = true then _ else _) = _
      rw [e]
      rfl
end
end Mine

namespace Mine
open PySem PySem.W PySem.Calls PyProof.Rows

theorem qT : treeTable = PySem.W.Fast.tw14364793385576792824 := PySem.W.Fast.te14364793385576792824
theorem qGo : @topGo = @PySem.W.Fast.tw15667345088766844465 := PySem.W.Fast.te15667345088766844465

noncomputable def HashGo (w : World) : Prop := ∀ (p : Program) (n₀ : Nat) (ann : Option Value) (k : Int) (t : Tok) (h : Heap) (g : Array GenState) (d : Drawn) (tk : Nat) (os : OsState)
  (K : Int → Sem Fin) (H : Value → Sem Fin) (gd : Bool → Bool) (lv : List Value → List Value) (code : Code) (pos : Pos) (f : Frame) (rest : List Frame),
  topGo treeTable p w n₀ ann 5 ⟨h, g, d, tk, os⟩ ⟨(pyHash (.int k t)).wrap K H gd lv, code, pos, f :: rest⟩ =
    some (⟨h, g, d, tk + 1, os⟩, ⟨(pyHashByItsType.reduced (rawHash k)).wrap K H gd lv, code, pos, f :: rest⟩)
theorem hash_go_f (w : World) : HashGo (w.withFollow "special-get-raises" false) := by
  unfold HashGo; intros; rw [qGo, qT]; kernel_rfl
theorem hash_go_t (w : World) : HashGo (w.withFollow "special-get-raises" true) := by
  unfold HashGo; intros; rw [qGo, qT]; kernel_rfl
theorem hash_go (w : World) : HashGo w := byRow2 "special-get-raises" (P := HashGo) hash_go_f hash_go_t w

theorem reduced_eq (k : Int) : pyHashByItsType.reduced (rawHash k) = (Pure.pure (hashInt k) : Sem Int) := by
  have hr := rawHash_range k
  unfold pyHashByItsType.reduced
  show (if (decide (-(2 : Int) ^ 63 ≤ rawHash k) && decide (rawHash k < 2 ^ 63)) = true then _ else _) = _
  rw [if_pos (by rw [decide_eq_true hr.1, decide_eq_true hr.2]; rfl)]
  rfl

/-- a dict's object -/
noncomputable def dObj (es : List DictEntry) : Obj := { cls := .type "dict", data := .dict es.toArray es.length }
theorem dObj_push (es : List DictEntry) (e : DictEntry) : Obj.mapDictKeys (·.push e) (dObj es) = dObj (es ++ [e]) := by
  simp [dObj, Obj.mapDictKeys]

/-- a heap about one of its places -/
noncomputable def hp (A : List Obj) (m : Obj) (S : List Obj) : Heap := ⟨(A ++ m :: S).toArray, {}⟩
theorem hp_get {A S : List Obj} {es : List DictEntry} : (hp A (dObj es) S).get? A.length = some (dObj es) := by
  unfold hp Heap.get?
  simp [dObj]
theorem hp_update {A S : List Obj} {m : Obj} {f : Obj → Obj} : (hp A m S).update A.length f = hp A (f m) S := by
  unfold hp Heap.update
  simp only [Heap.mk.injEq, and_true]
  apply Array.ext_getElem?
  intro i
  rw [Array.getElem?_modify]
  simp only [List.getElem?_toArray]
  by_cases h : A.length = i
  · subst h; simp
  · rw [if_neg h]
    rcases Nat.lt_or_ge i A.length with q | q
    · rw [List.getElem?_append_left q, List.getElem?_append_left q]
    · rw [List.getElem?_append_right q, List.getElem?_append_right q]
      obtain ⟨j, hj⟩ : ∃ j, i - A.length = j + 1 := ⟨i - A.length - 1, by omega⟩
      rw [hj]; rfl
theorem hp_push {A S : List Obj} {m x : Obj} : (hp A m S).push x = hp A m (S ++ [x]) := by
  unfold hp Heap.push
  simp
theorem hp_size {A S : List Obj} {m : Obj} : (hp A m S).objs.size = A.length + 1 + S.length := by
  unfold hp
  simp; omega
theorem hp_last {A S : List Obj} {m x : Obj} : hp A m (S ++ [x]) = hp (A ++ m :: S) x [] := by
  unfold hp
  simp

section
variable {p : Program} {w : World} {n₀ : Nat} {ann : Option Value} {h : Heap} {g : Array GenState} {d : Drawn} {tk : Nat} {os : OsState} {pos pos' : Pos}

theorem TG.hash {k : Int} {t : Tok} : TG p w n₀ ann (pyHash (.int k t)) ⟨h, g, d, tk, os⟩ pos 5 (hashInt k) ⟨h, g, d, tk + 1, os⟩ pos :=
  fun K H gd lv code f rest N r hr => go_top (hash_go w p n₀ ann k t h g d tk os K H gd lv code pos f rest) (by rw [reduced_eq]; exact hr)

theorem TG.entries {a : Addr} {es : List DictEntry} {part : Option Value} (e : h.get? a = some (dObj es)) : TG p w n₀ ann (dictEntries a part) ⟨h, g, d, tk, os⟩ pos 1 es.toArray ⟨h, g, d, tk, os⟩ pos := by
  unfold dictEntries
  exact TG.bind (k := 0) (TG.load e) TG.pure
theorem TG.epoch {a : Addr} {es : List DictEntry} {part : Option Value} (e : h.get? a = some (dObj es)) : TG p w n₀ ann (dictEpoch a part) ⟨h, g, d, tk, os⟩ pos 1 es.length ⟨h, g, d, tk, os⟩ pos := by
  unfold dictEpoch
  exact TG.bind (k := 0) (TG.load e) TG.pure

theorem TG.find_none {a : Addr} {es : List DictEntry} {k : Int} {t : Tok} (e : h.get? a = some (dObj es)) (hn : ∀ e ∈ es, e.hash ≠ hashInt k) :
    TG p w n₀ ann (dictFind a (.int k t) (hashInt k)) ⟨h, g, d, tk, os⟩ pos 1 none ⟨h, g, d, tk, os⟩ pos := by
  have hpl : placesWithHash es.toArray.size (fun i => es.toArray[i]?.map (·.hash)) (hashInt k) = [] := by
    unfold placesWithHash
    rw [List.filter_eq_nil_iff]
    intro i hi
    have hi' : i < es.length := by simpa using hi
    simp only [List.getElem?_toArray, List.getElem?_eq_getElem hi', Option.map_some, beq_iff_eq, Option.some.injEq]
    exact hn _ (List.getElem_mem hi')
  unfold dictFind
  refine TG.holding ?_
  refine TG.bind (k := 0) (TG.entries e) ?_
  dsimp only
  rw [hpl]
  exact TG.pure

theorem TG.writeKeys {A S : List Obj} {es : List DictEntry} {e : DictEntry} {part : Option Value} (hle : Nat.ble n₀ A.length = true) (hsz : es.length ≤ 100000) :
    TG p w n₀ ann (updateDictKeys A.length (·.push e) part) ⟨hp A (dObj es) S, g, d, tk, os⟩ pos 3 () ⟨hp A (dObj (es ++ [e])) S, g, d, tk, os⟩ pos := by
  unfold updateDictKeys
  refine (TG.bind (n := 1) (k := 2) (TG.load hp_get) ?_).mono rfl
  show TG p w n₀ ann (updatePart _ _ _ >>= fun _ => lookBehind _ _) _ _ _ _ _ _
  refine TG.bind (n := 1) (k := 1) (TG.update hp_get hle) ?_
  rw [hp_update, dObj_push]
  unfold lookBehind
  refine TG.bind (n := 1) (k := 0) (TG.load hp_get) ?_
  have : (dObj (es ++ [e])).data.pastItsLine = none := by
    show (if _ > _ then _ else _) = _
    rw [if_neg]
    simp [sizeLine]
    omega
  rw [this]
  exact TG.pure

theorem TG.set_new {A S : List Obj} {es : List DictEntry} {k : Int} {t : Tok} {v : Value} (hle : Nat.ble n₀ A.length = true) (hsz : es.length ≤ 100000) (hn : ∀ e ∈ es, e.hash ≠ hashInt k) :
    TG p w n₀ ann (dictSet A.length (.int k t) v) ⟨hp A (dObj es) S, g, d, tk, os⟩ pos 10 () ⟨hp A (dObj (es ++ [⟨hashInt k, .int k t, v⟩])) S, g, d, tk + 1, os⟩ pos := by
  unfold dictSet
  refine TG.holding (TG.bind (n := 5) (k := 5) TG.hash ?_)
  unfold dictSetHashed
  refine TG.holding (TG.bind (n := 1) (k := 4) (TG.find_none hp_get hn) ?_)
  exact TG.bind (n := 1) (k := 3) TG.rule (TG.writeKeys hle hsz)
theorem TG.put_new {A S : List Obj} {es : List DictEntry} {k : Int} {t : Tok} {v : Value} (hle : Nat.ble n₀ A.length = true) (hsz : es.length ≤ 100000) (hn : ∀ e ∈ es, e.hash ≠ hashInt k) :
    TG p w n₀ ann (dictPut A.length (hashInt k) (.int k t) v) ⟨hp A (dObj es) S, g, d, tk, os⟩ pos 4 () ⟨hp A (dObj (es ++ [⟨hashInt k, .int k t, v⟩])) S, g, d, tk, os⟩ pos := by
  unfold dictPut
  exact TG.bind (n := 1) (k := 3) (TG.find_none hp_get hn) (TG.writeKeys hle hsz)
end
end Mine

namespace Mine
open PySem PySem.W PySem.Calls PyProof.Rows

/-- one pair of a display as the model holds it: both yet to be read -/
noncomputable def pr (q : Pos) (x : Int × Str) : Sem Value × Sem Value := (mkInt x.1, do let y ← mkText x.2; standAt q; pure y)
/-- the entries that a run of pairs leaves, the tokens counted from `T` -/
noncomputable def ents : Nat → List (Int × Str) → List DictEntry
  | _, [] => []
  | T, x :: r => ⟨hashInt x.1, .int x.1 T, .str x.2 (T + 1)⟩ :: ents (T + 3) r
/-- the same where all is read before the first is set -/
noncomputable def entsE : Nat → List (Int × Str) → List DictEntry
  | _, [] => []
  | T, x :: r => ⟨hashInt x.1, .int x.1 T, .str x.2 (T + 1)⟩ :: entsE (T + 2) r
noncomputable abbrev Dist (c : List (Int × Str)) : Prop := c.Pairwise fun x y => hashInt x.1 ≠ hashInt y.1
noncomputable abbrev Off (es : List DictEntry) (c : List (Int × Str)) : Prop := ∀ e ∈ es, ∀ x ∈ c, e.hash ≠ hashInt x.1

section
variable {p : Program} {w : World} {n₀ : Nat} {ann : Option Value} {g : Array GenState} {d : Drawn} {os : OsState} {q : Pos}

theorem TG.mkInt {h : Heap} {tk : Nat} {pos : Pos} {i : Int} : TG p w n₀ ann (mkInt i) ⟨h, g, d, tk, os⟩ pos 1 (.int i tk) ⟨h, g, d, tk + 1, os⟩ pos := by
  unfold PySem.mkInt
  exact TG.bind (n := 1) (k := 0) TG.fresh TG.pure
theorem TG.mkText {h : Heap} {tk : Nat} {pos : Pos} {x : Str} : TG p w n₀ ann (mkText x) ⟨h, g, d, tk, os⟩ pos 1 (.str x tk) ⟨h, g, d, tk + 1, os⟩ pos := by
  unfold PySem.mkText
  exact TG.bind (n := 1) (k := 0) TG.fresh TG.pure
theorem TG.val {h : Heap} {tk : Nat} {pos : Pos} {x : Int × Str} : TG p w n₀ ann (pr q x).2 ⟨h, g, d, tk, os⟩ pos 2 (.str x.2 tk) ⟨h, g, d, tk + 1, os⟩ q := by
  show TG p w n₀ ann (PySem.mkText x.2 >>= fun y => standAt q >>= fun _ => Pure.pure y) _ _ _ _ _ _
  exact TG.bind (n := 1) (k := 1) TG.mkText (TG.bind (n := 1) (k := 0) TG.at TG.pure)

theorem TG.each {α β : Type} {f : α → β → Sem (ForInStep β)} {x : α} {l : List α} {b b₁ b₂ : β} {s s₁ s' : Shared} {pos pos₁ pos' : Pos} {n k : Nat}
    (h : TG p w n₀ ann (f x b) s pos n (.yield b₁) s₁ pos₁) (h' : TG p w n₀ ann (forIn l b₁ f) s₁ pos₁ k b₂ s' pos') : TG p w n₀ ann (forIn (x :: l) b f) s pos (n + k) b₂ s' pos' := by
  rw [List.forIn_cons]
  exact TG.bind h h'

noncomputable def setBody (a : Addr) (x : Sem Value × Sem Value) (_ : PUnit) : Sem (ForInStep PUnit) := match x with
  | (k, v) => do
    let kv ← k
    let vv ← holding [kv] v
    holding [kv, vv] (dictSet a kv vv)
    pure (.yield ⟨⟩)

theorem set_loop {A S : List Obj} (hle : Nat.ble n₀ A.length = true) : ∀ (c : List (Int × Str)) (es : List DictEntry) (tk : Nat), es.length + c.length ≤ 100000 → Dist c → Off es c →
    TG p w n₀ ann (forIn (c.map (pr q)) PUnit.unit (setBody A.length)) ⟨hp A (dObj es) S, g, d, tk, os⟩ q (13 * c.length) PUnit.unit ⟨hp A (dObj (es ++ ents tk c)) S, g, d, tk + 3 * c.length, os⟩ q
  | [], es, tk, _, _, _ => by rw [show ents tk [] = [] from rfl, List.append_nil]; exact TG.pure
  | x :: c, es, tk, hl, hd, ho => by
    obtain ⟨h1, h2⟩ := List.pairwise_cons.mp hd
    have hl' : es.length + (c.length + 1) ≤ 100000 := hl
    rw [List.map_cons]
    have ih := set_loop (A := A) (S := S) hle c (es ++ [⟨hashInt x.1, .int x.1 tk, .str x.2 (tk + 1)⟩]) (tk + 3) (by simp; omega) h2 (by
      intro e he y hy
      rcases List.mem_append.mp he with he | he
      · exact ho e he y (List.mem_cons_of_mem _ hy)
      · obtain rfl := List.mem_singleton.mp he
        exact h1 y hy)
    rw [show es ++ ents tk (x :: c) = es ++ [⟨hashInt x.1, .int x.1 tk, .str x.2 (tk + 1)⟩] ++ ents (tk + 3) c by simp [ents],
      show 13 * (x :: c).length = 13 + 13 * c.length by simp; omega, show tk + 3 * (x :: c).length = tk + 3 + 3 * c.length by simp; omega]
    refine TG.each ?_ ih
    show TG p w n₀ ann (PySem.mkInt x.1 >>= fun kv => holding [kv] (pr q x).2 >>= fun vv => holding [kv, vv] (dictSet A.length kv vv) >>= fun _ => (Pure.pure (ForInStep.yield PUnit.unit) : Sem (ForInStep PUnit))) _ _ _ _ _ _
    refine TG.bind (n := 1) (k := 12) TG.mkInt (TG.bind (n := 2) (k := 10) (TG.holding TG.val) (TG.bind (n := 10) (k := 0) (a := ()) (TG.holding ?_) TG.pure))
    exact TG.set_new hle (by omega) fun e he => ho e he x (List.mem_cons_self ..)

theorem sub_long {h : List Obj} {c : List (Int × Str)} {tk : Nat} (hle : Nat.ble n₀ h.length = true) (h15 : 15 < c.length) (hsz : c.length ≤ 100000) (hd : Dist c) :
    TG p w n₀ ann (subDict (c.map (pr q))) ⟨⟨h.toArray, {}⟩, g, d, tk, os⟩ q (2 + 13 * c.length) h.length ⟨hp h (dObj (ents tk c)) [], g, d, tk + 3 * c.length, os⟩ q := by
  unfold subDict
  refine (TG.bind (n := 1) (k := 1 + 13 * c.length) TG.alloc ?_).mono (by omega)
  have e : (⟨h.toArray, {}⟩ : Heap).push { cls := .type "dict", data := .dict #[] } = hp h (dObj []) [] := by simp [hp, dObj, Heap.push]
  rw [e]
  have e2 : (⟨h.toArray, {}⟩ : Heap).objs.size = h.length := by simp
  rw [e2]
  refine TG.bind (n := 1 + 13 * c.length) (k := 0) (a := ()) (TG.holding ?_) TG.pure
  rw [if_neg (by rw [List.length_map]; omega)]
  refine TG.bind (n := 1) (k := 13 * c.length) TG.rule ?_
  have := set_loop (p := p) (w := w) (ann := ann) (A := h) (S := []) (g := g) (d := d) (os := os) (q := q) hle c [] tk (by simp; omega) hd (by intro e he; cases he)
  rw [List.nil_append] at this
  exact TG.bind (n := 13 * c.length) (k := 0) this TG.pure

noncomputable def pairsOf : Nat → List (Int × Str) → List (Value × Value)
  | _, [] => []
  | T, x :: r => (.int x.1 T, .str x.2 (T + 1)) :: pairsOf (T + 2) r
theorem eval_pairs {h : Heap} : ∀ (c : List (Int × Str)) (tk : Nat), TG p w n₀ ann (evalPairs (c.map (pr q))) ⟨h, g, d, tk, os⟩ q (3 * c.length) (pairsOf tk c) ⟨h, g, d, tk + 2 * c.length, os⟩ q
  | [], tk => TG.pure
  | x :: c, tk => by
    rw [show 3 * (x :: c).length = 1 + (2 + 3 * c.length) by simp; omega, show tk + 2 * (x :: c).length = tk + 2 + 2 * c.length by simp; omega]
    show TG p w n₀ ann (PySem.mkInt x.1 >>= fun kv => holding [kv] (pr q x).2 >>= fun vv => holding [kv, vv] (evalPairs (c.map (pr q))) >>= fun r => (Pure.pure ((kv, vv) :: r) : Sem (List (Value × Value)))) _ _ _ _ _ _
    exact TG.bind TG.mkInt (TG.bind (TG.holding TG.val) (TG.bind (k := 0) (TG.holding (eval_pairs c (tk + 2))) TG.pure))

noncomputable def setBodyE (a : Addr) (x : Value × Value) (_ : PUnit) : Sem (ForInStep PUnit) := match x with
  | (k, v) => do
    dictSet a k v
    pure (.yield PUnit.unit)
theorem set_loopE {A S : List Obj} (hle : Nat.ble n₀ A.length = true) : ∀ (c : List (Int × Str)) (es : List DictEntry) (T tk : Nat), es.length + c.length ≤ 100000 → Dist c → Off es c →
    TG p w n₀ ann (forIn (pairsOf T c) PUnit.unit (setBodyE A.length)) ⟨hp A (dObj es) S, g, d, tk, os⟩ q (10 * c.length) PUnit.unit ⟨hp A (dObj (es ++ entsE T c)) S, g, d, tk + c.length, os⟩ q
  | [], es, T, tk, _, _, _ => by rw [show entsE T [] = [] from rfl, List.append_nil]; exact TG.pure
  | x :: c, es, T, tk, hl, hd, ho => by
    obtain ⟨h1, h2⟩ := List.pairwise_cons.mp hd
    have hl' : es.length + (c.length + 1) ≤ 100000 := hl
    have ih := set_loopE (A := A) (S := S) hle c (es ++ [⟨hashInt x.1, .int x.1 T, .str x.2 (T + 1)⟩]) (T + 2) (tk + 1) (by simp; omega) h2 (by
      intro e he y hy
      rcases List.mem_append.mp he with he | he
      · exact ho e he y (List.mem_cons_of_mem _ hy)
      · obtain rfl := List.mem_singleton.mp he
        exact h1 y hy)
    rw [show es ++ entsE T (x :: c) = es ++ [⟨hashInt x.1, .int x.1 T, .str x.2 (T + 1)⟩] ++ entsE (T + 2) c by simp [entsE],
      show 10 * (x :: c).length = 10 + 10 * c.length by simp; omega, show tk + (x :: c).length = tk + 1 + c.length by simp; omega]
    refine TG.each ?_ ih
    show TG p w n₀ ann (dictSet A.length (.int x.1 T) (.str x.2 (T + 1)) >>= fun _ => (Pure.pure (ForInStep.yield PUnit.unit) : Sem (ForInStep PUnit))) _ _ _ _ _ _
    exact TG.bind (n := 10) (k := 0) (TG.set_new hle (by omega) fun e he => ho e he x (List.mem_cons_self ..)) TG.pure

theorem sub_short {h : List Obj} {c : List (Int × Str)} {tk : Nat} (hle : Nat.ble n₀ h.length = true) (h15 : c.length ≤ 15) (hd : Dist c) :
    TG p w n₀ ann (subDict (c.map (pr q))) ⟨⟨h.toArray, {}⟩, g, d, tk, os⟩ q (1 + 13 * c.length) h.length ⟨hp h (dObj (entsE tk c)) [], g, d, tk + 3 * c.length, os⟩ q := by
  unfold subDict
  refine (TG.bind (n := 1) (k := 13 * c.length) TG.alloc ?_).mono (by omega)
  have e : (⟨h.toArray, {}⟩ : Heap).push { cls := .type "dict", data := .dict #[] } = hp h (dObj []) [] := by simp [hp, dObj, Heap.push]
  rw [e]
  have e2 : (⟨h.toArray, {}⟩ : Heap).objs.size = h.length := by simp
  rw [e2]
  refine TG.bind (n := 13 * c.length) (k := 0) (a := ()) (TG.holding ?_) TG.pure
  rw [if_pos (by rw [List.length_map]; omega)]
  refine (TG.bind (n := 3 * c.length) (k := 10 * c.length) (eval_pairs c tk) (TG.holding ?_)).mono (by omega)
  have := set_loopE (p := p) (w := w) (ann := ann) (A := h) (S := []) (g := g) (d := d) (os := os) (q := q) hle c [] tk (tk + 2 * c.length) (by simp; omega) hd (by intro e he; cases he)
  rw [List.nil_append, show tk + 2 * c.length + c.length = tk + 3 * c.length by omega] at this
  exact TG.bind (n := 10 * c.length) (k := 0) this TG.pure
end
end Mine

namespace Mine
open PySem PySem.W PySem.Calls PyProof.Rows

section
variable {p : Program} {w : World} {n₀ : Nat} {ann : Option Value} {g : Array GenState} {d : Drawn} {tk : Nat} {os : OsState} {q : Pos}

theorem hp_at {A S : List Obj} {m : Obj} {es : List DictEntry} : (hp A m (S ++ [dObj es])).get? (A.length + 1 + S.length) = some (dObj es) := by
  rw [hp_last, show A.length + 1 + S.length = (A ++ m :: S).length by simp; omega]
  exact hp_get

noncomputable def mergeBody (dd a : Addr) (epoch : Nat) (i : Nat) (_ : PUnit) : Sem (ForInStep PUnit) := do
  let some e := (← dictEntries a)[i]? | unsupported "dict.changed-during-merge"
  holding [e.key, e.val] do
    if false then
      if (← dictFind dd e.key e.hash).isSome then rule "dict.merge.duplicate-key"; raiseNew (← newExc (.type "KeyError") [e.key])
    dictPut dd e.hash e.key e.val
  if (← dictEpoch a) != epoch then unsupported "dict.changed-during-merge"
  pure (.yield PUnit.unit)

theorem merge_loop {A S : List Obj} {E es : List DictEntry} (hle : Nat.ble n₀ A.length = true) (hsz : E.length + es.length ≤ 100000) (hk : ∀ e ∈ es, ∃ k t, e.key = .int k t ∧ e.hash = hashInt k)
    (hp1 : es.Pairwise fun x y => x.hash ≠ y.hash) (hp2 : ∀ e ∈ E, ∀ y ∈ es, e.hash ≠ y.hash) : ∀ (k i : Nat), i + k = es.length →
    TG p w n₀ ann (forIn (List.range' i k) PUnit.unit (mergeBody A.length (A.length + 1 + S.length) es.length)) ⟨hp A (dObj (E ++ es.take i)) (S ++ [dObj es]), g, d, tk, os⟩ q (6 * k) PUnit.unit
      ⟨hp A (dObj (E ++ es)) (S ++ [dObj es]), g, d, tk, os⟩ q
  | 0, i, hi => by rw [List.take_of_length_le (by omega)]; exact TG.pure
  | k + 1, i, hi => by
    have hlt : i < es.length := by omega
    have ih := merge_loop (A := A) (S := S) hle hsz hk hp1 hp2 k (i + 1) (by omega)
    rw [List.range'_succ, show 6 * (k + 1) = 6 + 6 * k by omega]
    refine TG.each ?_ ih
    unfold mergeBody
    refine TG.bind (n := 1) (k := 5) (TG.entries hp_at) ?_
    rw [List.getElem?_toArray, List.getElem?_eq_getElem hlt]
    obtain ⟨kk, t, h1, h2⟩ := hk es[i] (List.getElem_mem hlt)
    have hput : TG p w n₀ ann (dictPut A.length es[i].hash es[i].key es[i].val) ⟨hp A (dObj (E ++ es.take i)) (S ++ [dObj es]), g, d, tk, os⟩ q 4 ()
        ⟨hp A (dObj (E ++ es.take (i + 1))) (S ++ [dObj es]), g, d, tk, os⟩ q := by
      have := TG.put_new (p := p) (w := w) (n₀ := n₀) (ann := ann) (g := g) (d := d) (tk := tk) (os := os) (pos := q) (A := A) (S := S ++ [dObj es]) (es := E ++ es.take i) (k := kk) (t := t) (v := es[i].val) hle
        (by simp; omega) (by
          intro e he
          rw [← h2]
          rcases List.mem_append.mp he with he | he
          · exact hp2 e he _ (List.getElem_mem hlt)
          · obtain ⟨j, hj, rfl⟩ := List.mem_iff_getElem.mp he
            rw [List.length_take] at hj
            rw [List.getElem_take]
            exact List.pairwise_iff_getElem.mp hp1 j i (by omega) hlt (by omega))
      rw [h1, h2]
      have e3 : (⟨hashInt kk, .int kk t, es[i].val⟩ : DictEntry) = es[i] := by rw [← h1, ← h2]
      rw [e3, List.append_assoc, ← List.take_succ_eq_append_getElem hlt] at this
      exact this
    show TG p w n₀ ann (holding [es[i].key, es[i].val] (dictPut A.length es[i].hash es[i].key es[i].val) >>= fun _ => dictEpoch _ >>= fun x => _) _ _ _ _ _ _
    refine TG.bind (n := 4) (k := 1) (TG.holding hput) (TG.bind (n := 1) (k := 0) (TG.epoch hp_at) ?_)
    rw [if_neg (by simp)]
    exact TG.pure

theorem merge_go {A S : List Obj} {E es : List DictEntry} (hle : Nat.ble n₀ A.length = true) (hsz : E.length + es.length ≤ 100000) (hk : ∀ e ∈ es, ∃ k t, e.key = .int k t ∧ e.hash = hashInt k)
    (hp1 : es.Pairwise fun x y => x.hash ≠ y.hash) (hp2 : ∀ e ∈ E, ∀ y ∈ es, e.hash ≠ y.hash) (hE : E ≠ []) (hsys : (A.length + 1 + S.length == sysModules) = false) :
    TG p w n₀ ann (mergeMapping A.length (.ref (A.length + 1 + S.length)) false) ⟨hp A (dObj E) (S ++ [dObj es]), g, d, tk, os⟩ q (5 + 6 * es.length) ()
      ⟨hp A (dObj (E ++ es)) (S ++ [dObj es]), g, d, tk, os⟩ q := by
  have h1 : TG p w n₀ ann (isInstance (.ref (A.length + 1 + S.length)) (.type "dict")) ⟨hp A (dObj E) (S ++ [dObj es]), g, d, tk, os⟩ q 1 true ⟨hp A (dObj E) (S ++ [dObj es]), g, d, tk, os⟩ q := by
    unfold isInstance typeOf
    refine TG.bind (n := 1) (k := 0) (TG.bind (n := 1) (k := 0) (TG.load hp_at) TG.pure) ?_
    exact TG.of_eq PySem.F.isi_self_dict TG.pure
  have h2 : TG p w n₀ ann (specialOf (.ref (A.length + 1 + S.length)) "__iter__") ⟨hp A (dObj E) (S ++ [dObj es]), g, d, tk, os⟩ q 1 (some (.builtin "dict.__iter__")) ⟨hp A (dObj E) (S ++ [dObj es]), g, d, tk, os⟩ q := by
    unfold specialOf typeOf
    refine TG.bind (n := 1) (k := 0) (TG.bind (n := 1) (k := 0) (TG.load hp_at) TG.pure) ?_
    exact TG.of_eq PySem.F.slot_dict_iter.lookup TG.pure
  unfold mergeMapping
  refine (TG.bind (n := 1) (k := 4 + 6 * es.length) h1 ?_).mono (by omega)
  dsimp only
  rw [if_pos rfl]
  refine (TG.bind (n := 1) (k := 3 + 6 * es.length) h2 ?_).mono (by omega)
  rw [show ((some (Value.builtin "dict.__iter__") : Option Value) == some (Value.builtin "dict.__iter__")) = true by simp]
  refine (TG.bind (n := 0) (k := 3 + 6 * es.length) (a := true) TG.pure ?_).mono (by omega)
  dsimp only
  rw [if_neg (by rw [hsys]; exact Bool.false_ne_true)]
  refine (TG.bind (n := 1) (k := 2 + 6 * es.length) (TG.entries hp_get) ?_).mono (by omega)
  rw [if_neg (by simpa using hE)]
  refine (TG.bind (n := 1) (k := 1 + 6 * es.length) (TG.entries hp_at) ?_).mono (by omega)
  refine (TG.bind (n := 1) (k := 6 * es.length) (TG.epoch hp_at) ?_).mono (by omega)
  have := merge_loop (p := p) (w := w) (ann := ann) (g := g) (d := d) (tk := tk) (os := os) (q := q) (S := S) hle hsz hk hp1 hp2 es.length 0 (by omega)
  rw [List.take_zero, List.append_nil, ← List.range_eq_range'] at this
  exact TG.bind (n := 6 * es.length) (k := 0) this TG.pure
end
end Mine

namespace Mine
open PySem PySem.W PySem.Calls PyProof.Rows

/-- one pair of a display, the key marked as one -/
noncomputable def it (q : Pos) (x : Int × Str) : Option (Sem Value) × Sem Value := (some (mkInt x.1), (pr q x).2)

theorem ents_append (a b : List (Int × Str)) (T : Nat) : ents T (a ++ b) = ents T a ++ ents (T + 3 * a.length) b := by
  induction a generalizing T with
  | nil => rfl
  | cons x a ih => simp only [List.cons_append, ents, ih, List.length_cons]; rw [show T + 3 + 3 * a.length = T + 3 * (a.length + 1) by omega]
theorem ents_length (a : List (Int × Str)) (T : Nat) : (ents T a).length = a.length := by
  induction a generalizing T with
  | nil => rfl
  | cons x a ih => simp only [ents, ih, List.length_cons]
theorem entsE_length (a : List (Int × Str)) (T : Nat) : (entsE T a).length = a.length := by
  induction a generalizing T with
  | nil => rfl
  | cons x a ih => simp only [entsE, ih, List.length_cons]
theorem ents_mem {a : List (Int × Str)} {T : Nat} {e : DictEntry} (h : e ∈ ents T a) : ∃ x ∈ a, ∃ t, e.key = .int x.1 t ∧ e.hash = hashInt x.1 := by
  induction a generalizing T with
  | nil => cases h
  | cons x a ih =>
    rcases List.mem_cons.mp h with rfl | h
    · exact ⟨x, List.mem_cons_self .., T, rfl, rfl⟩
    · obtain ⟨y, hy, t, h1, h2⟩ := ih h
      exact ⟨y, List.mem_cons_of_mem _ hy, t, h1, h2⟩
theorem entsE_mem {a : List (Int × Str)} {T : Nat} {e : DictEntry} (h : e ∈ entsE T a) : ∃ x ∈ a, ∃ t, e.key = .int x.1 t ∧ e.hash = hashInt x.1 := by
  induction a generalizing T with
  | nil => cases h
  | cons x a ih =>
    rcases List.mem_cons.mp h with rfl | h
    · exact ⟨x, List.mem_cons_self .., T, rfl, rfl⟩
    · obtain ⟨y, hy, t, h1, h2⟩ := ih h
      exact ⟨y, List.mem_cons_of_mem _ hy, t, h1, h2⟩
theorem ents_pair {a : List (Int × Str)} (h : Dist a) (T : Nat) : (ents T a).Pairwise fun x y => x.hash ≠ y.hash := by
  induction a generalizing T with
  | nil => exact List.Pairwise.nil
  | cons x a ih =>
    obtain ⟨h1, h2⟩ := List.pairwise_cons.mp h
    refine List.pairwise_cons.mpr ⟨fun e he => ?_, ih h2 _⟩
    obtain ⟨y, hy, t, -, q⟩ := ents_mem he
    rw [q]; exact h1 y hy
theorem entsE_pair {a : List (Int × Str)} (h : Dist a) (T : Nat) : (entsE T a).Pairwise fun x y => x.hash ≠ y.hash := by
  induction a generalizing T with
  | nil => exact List.Pairwise.nil
  | cons x a ih =>
    obtain ⟨h1, h2⟩ := List.pairwise_cons.mp h
    refine List.pairwise_cons.mpr ⟨fun e he => ?_, ih h2 _⟩
    obtain ⟨y, hy, t, -, q⟩ := entsE_mem he
    rw [q]; exact h1 y hy

/-- the small dicts that are left behind, one a run -/
noncomputable def subs : Nat → List (List (Int × Str)) → List Obj
  | _, [] => []
  | T, c :: cs => dObj (ents T c) :: subs (T + 51) cs
theorem subs_length (cs : List (List (Int × Str))) (T : Nat) : (subs T cs).length = cs.length := by
  induction cs generalizing T with
  | nil => rfl
  | cons c cs ih => simp only [subs, List.length_cons, ih]

section
variable {p : Program} {w : World} {n₀ : Nat} {ann : Option Value} {g : Array GenState} {d : Drawn} {os : OsState} {q : Pos}

noncomputable abbrev DS := Option Addr × List (Sem Value × Sem Value)
variable {f : Option (Sem Value) × Sem Value → DS → Sem (ForInStep DS)}

theorem disp_fill (P1 : ∀ (main : Option Addr) (run : List (Sem Value × Sem Value)) (x : Int × Str), run.length < 16 → f (it q x) (main, run) = (Pure.pure (ForInStep.yield (main, run ++ [pr q x])) : Sem _)) (main : Option Addr) (rest : List (Option (Sem Value) × Sem Value)) :
    ∀ (c : List (Int × Str)) (run : List (Sem Value × Sem Value)), run.length + c.length ≤ 16 → forIn (c.map (it q) ++ rest) (main, run) f = forIn rest (main, run ++ c.map (pr q)) f
  | [], run, _ => by simp
  | x :: c, run, h => by
    have h' : run.length + (c.length + 1) ≤ 16 := h
    rw [List.map_cons, List.cons_append, List.forIn_cons, P1 main run x (by omega)]
    show forIn (c.map (it q) ++ rest) (main, run ++ [pr q x]) f = _
    rw [disp_fill P1 main rest c (run ++ [pr q x]) (by simp; omega)]
    simp

theorem disp_turn {l : List (Option (Sem Value) × Sem Value)} {main m' : Option Addr} {b : DS} {s s₁ s' : Shared} {pos pos₁ pos' : Pos} {n k : Nat} {F : List (Sem Value × Sem Value) → Sem (Option Addr)}
    (P1 : ∀ (main : Option Addr) (run : List (Sem Value × Sem Value)) (x : Int × Str), run.length < 16 → f (it q x) (main, run) = (Pure.pure (ForInStep.yield (main, run ++ [pr q x])) : Sem _))
    (P2 : ∀ (run : List (Sem Value × Sem Value)) (x : Int × Str), run.length = 16 → f (it q x) (main, run) = (F (run ++ [pr q x]) >>= fun m => (Pure.pure (ForInStep.yield (m, [])) : Sem _)))
    {c : List (Int × Str)} (hc : c.length = 17) (h : TG p w n₀ ann (F (c.map (pr q))) s pos n m' s₁ pos₁) (h' : TG p w n₀ ann (forIn l (m', []) f) s₁ pos₁ k b s' pos') :
    TG p w n₀ ann (forIn (c.map (it q) ++ l) (main, []) f) s pos (n + k) b s' pos' := by
  have hne : c ≠ [] := by intro e; rw [e] at hc; cases hc
  have e : c = c.dropLast ++ [c.getLast hne] := (List.dropLast_concat_getLast hne).symm
  have h16 : c.dropLast.length = 16 := by rw [List.length_dropLast, hc]
  rw [e, List.map_append, List.append_assoc, disp_fill P1 main _ c.dropLast [] (by rw [h16]; exact Nat.le_refl _), List.nil_append]
  refine TG.each (b₁ := (m', [])) ?_ h'
  rw [P2 _ _ (by rw [List.length_map, h16])]
  have e3 : c.dropLast.map (pr q) ++ [pr q (c.getLast hne)] = c.map (pr q) := by rw [← List.map_singleton, ← List.map_append, ← e]
  rw [e3]
  exact TG.bind (k := 0) h TG.pure

theorem flush_any {A S : List Obj} {E es : List DictEntry} {run : List (Sem Value × Sem Value)} {tk tk' n : Nat} {G : Addr → Value → Sem Unit} (hle : Nat.ble n₀ A.length = true) (hsys : 1 < A.length)
    (hsub : TG p w n₀ ann (subDict run) ⟨⟨(A ++ dObj E :: S).toArray, {}⟩, g, d, tk, os⟩ q n (A ++ dObj E :: S).length ⟨hp (A ++ dObj E :: S) (dObj es) [], g, d, tk', os⟩ q)
    (hsz : E.length + es.length ≤ 100000) (hk : ∀ e ∈ es, ∃ k t, e.key = .int k t ∧ e.hash = hashInt k) (hp1 : es.Pairwise fun x y => x.hash ≠ y.hash) (hp2 : ∀ e ∈ E, ∀ y ∈ es, e.hash ≠ y.hash) (hE : E ≠ []) :
    TG p w n₀ ann (holding [.ref A.length] (subDict run) >>= fun sub => ((holding [.ref A.length, .ref sub] (mergeMapping A.length (.ref sub) false)).onRaise (G sub)) >>= fun _ => (Pure.pure (some A.length) : Sem (Option Addr)))
      ⟨hp A (dObj E) S, g, d, tk, os⟩ q (n + (5 + 6 * es.length)) (some A.length) ⟨hp A (dObj (E ++ es)) (S ++ [dObj es]), g, d, tk', os⟩ q := by
  refine TG.bind (n := n) (TG.holding hsub) ?_
  rw [← hp_last, show (A ++ dObj E :: S).length = A.length + 1 + S.length by simp; omega]
  refine TG.bind (n := 5 + 6 * es.length) (k := 0) (TG.onRaise (TG.holding (merge_go hle hsz hk hp1 hp2 hE ?_))) TG.pure
  show ((A.length + 1 + S.length : Nat) == 1) = false
  rw [beq_eq_false_iff_ne]
  omega

theorem flush_long {A S : List Obj} {E : List DictEntry} {c : List (Int × Str)} {tk : Nat} {G : Addr → Value → Sem Unit} (hle : Nat.ble n₀ A.length = true) (hsys : 1 < A.length) (h15 : 15 < c.length)
    (hsz : E.length + c.length ≤ 100000) (hd : Dist c) (ho : Off E c) (hE : E ≠ []) :
    TG p w n₀ ann (holding [.ref A.length] (subDict (c.map (pr q))) >>= fun sub => ((holding [.ref A.length, .ref sub] (mergeMapping A.length (.ref sub) false)).onRaise (G sub)) >>= fun _ => (Pure.pure (some A.length) : Sem (Option Addr)))
      ⟨hp A (dObj E) S, g, d, tk, os⟩ q (7 + 19 * c.length) (some A.length) ⟨hp A (dObj (E ++ ents tk c)) (S ++ [dObj (ents tk c)]), g, d, tk + 3 * c.length, os⟩ q := by
  have hle' : Nat.ble n₀ (A ++ dObj E :: S).length = true := by
    have := Nat.le_of_ble_eq_true hle
    exact Nat.ble_eq_true_of_le (by simp; omega)
  refine (flush_any hle hsys (sub_long hle' h15 (by omega) hd) (by rw [ents_length]; exact hsz) ?_ (ents_pair hd _) ?_ hE).mono (by rw [ents_length]; omega)
  · intro e he
    obtain ⟨x, _, t, h1, h2⟩ := ents_mem he
    exact ⟨_, t, h1, h2⟩
  · intro e he y hy
    obtain ⟨x, hx, t, h1, h2⟩ := ents_mem hy
    rw [h2]; exact ho e he x hx
theorem flush_short {A S : List Obj} {E : List DictEntry} {c : List (Int × Str)} {tk : Nat} {G : Addr → Value → Sem Unit} (hle : Nat.ble n₀ A.length = true) (hsys : 1 < A.length) (h15 : c.length ≤ 15)
    (hsz : E.length + c.length ≤ 100000) (hd : Dist c) (ho : Off E c) (hE : E ≠ []) :
    TG p w n₀ ann (holding [.ref A.length] (subDict (c.map (pr q))) >>= fun sub => ((holding [.ref A.length, .ref sub] (mergeMapping A.length (.ref sub) false)).onRaise (G sub)) >>= fun _ => (Pure.pure (some A.length) : Sem (Option Addr)))
      ⟨hp A (dObj E) S, g, d, tk, os⟩ q (6 + 19 * c.length) (some A.length) ⟨hp A (dObj (E ++ entsE tk c)) (S ++ [dObj (entsE tk c)]), g, d, tk + 3 * c.length, os⟩ q := by
  have hle' : Nat.ble n₀ (A ++ dObj E :: S).length = true := by
    have := Nat.le_of_ble_eq_true hle
    exact Nat.ble_eq_true_of_le (by simp; omega)
  refine (flush_any hle hsys (sub_short hle' h15 hd) (by rw [entsE_length]; exact hsz) ?_ (entsE_pair hd _) ?_ hE).mono (by rw [entsE_length]; omega)
  · intro e he
    obtain ⟨x, _, t, h1, h2⟩ := entsE_mem he
    exact ⟨_, t, h1, h2⟩
  · intro e he y hy
    obtain ⟨x, hx, t, h1, h2⟩ := entsE_mem hy
    rw [h2]; exact ho e he x hx

theorem disp_loop {A : List Obj} {l : List (Int × Str)} {G : Addr → Addr → Value → Sem Unit} (hle : Nat.ble n₀ A.length = true) (hsys : 1 < A.length) (hl : l.length ≤ 15)
    (P1 : ∀ (main : Option Addr) (run : List (Sem Value × Sem Value)) (x : Int × Str), run.length < 16 → f (it q x) (main, run) = (Pure.pure (ForInStep.yield (main, run ++ [pr q x])) : Sem _))
    (P2 : ∀ (a : Addr) (run : List (Sem Value × Sem Value)) (x : Int × Str), run.length = 16 → f (it q x) (some a, run) =
      ((holding [.ref a] (subDict (run ++ [pr q x])) >>= fun sub => ((holding [.ref a, .ref sub] (mergeMapping a (.ref sub) false)).onRaise (G a sub)) >>= fun _ => (Pure.pure (some a) : Sem (Option Addr))) >>= fun m => (Pure.pure (ForInStep.yield (m, [])) : Sem _))) :
    ∀ (cs : List (List (Int × Str))) (S : List Obj) (E : List DictEntry) (tk : Nat), (∀ c ∈ cs, c.length = 17) → Dist (cs.flatten ++ l) → Off E (cs.flatten ++ l) → E ≠ [] → E.length + (cs.flatten ++ l).length ≤ 100000 →
    TG p w n₀ ann (forIn ((cs.flatten ++ l).map (it q)) (some A.length, []) f) ⟨hp A (dObj E) S, g, d, tk, os⟩ q (330 * cs.length) (some A.length, l.map (pr q))
      ⟨hp A (dObj (E ++ ents tk cs.flatten)) (S ++ subs tk cs), g, d, tk + 51 * cs.length, os⟩ q
  | [], S, E, tk, _, _, _, _, _ => by
    have := disp_fill P1 (some A.length) [] l [] (by simp; omega)
    rw [List.append_nil, List.nil_append] at this
    rw [List.flatten_nil, List.nil_append, this]
    simp only [subs, ents, List.append_nil, List.forIn_nil]
    exact TG.pure
  | c :: cs, S, E, tk, hc, hd, ho, hE, hsz => by
    have hc17 : c.length = 17 := hc c (List.mem_cons_self ..)
    rw [List.flatten_cons, List.append_assoc] at hd ho hsz ⊢
    obtain ⟨d1, d2, d3⟩ := List.pairwise_append.mp hd
    rw [List.length_append] at hsz
    have ih := disp_loop hle hsys hl P1 P2 cs (S ++ [dObj (ents tk c)]) (E ++ ents tk c) (tk + 51) (fun x hx => hc x (List.mem_cons_of_mem _ hx)) d2 (by
      intro e he x hx
      rcases List.mem_append.mp he with he | he
      · exact ho e he x (List.mem_append_right _ hx)
      · obtain ⟨y, hy, t, -, h2⟩ := ents_mem he
        rw [h2]; exact d3 y hy x hx) (by intro e; exact hE (List.append_eq_nil_iff.mp e).1) (by rw [List.length_append, ents_length]; omega)
    have hsub : S ++ subs tk (c :: cs) = S ++ [dObj (ents tk c)] ++ subs (tk + 51) cs := by simp [subs]
    have hent : E ++ ents tk (c ++ cs.flatten) = E ++ ents tk c ++ ents (tk + 51) cs.flatten := by rw [ents_append, hc17, List.append_assoc]
    rw [hsub, hent, List.map_append, show 330 * (c :: cs).length = 330 + 330 * cs.length by simp; omega, show tk + 51 * (c :: cs).length = tk + 51 + 51 * cs.length by simp; omega]
    refine disp_turn (F := fun run => holding [.ref A.length] (subDict run) >>= fun sub => ((holding [.ref A.length, .ref sub] (mergeMapping A.length (.ref sub) false)).onRaise (G A.length sub)) >>= fun _ => (Pure.pure (some A.length) : Sem (Option Addr))) P1 (P2 A.length) hc17 ?_ ih
    have := flush_long (p := p) (w := w) (ann := ann) (g := g) (d := d) (os := os) (q := q) (S := S) (tk := tk) (G := G A.length) hle hsys (by omega) (by omega) d1 (fun e he x hx => ho e he x (List.mem_append_left _ hx)) hE
    rw [hc17] at this
    exact this

theorem disp_all {h : List Obj} {c : List (Int × Str)} {cs : List (List (Int × Str))} {l : List (Int × Str)} {G : Addr → Addr → Value → Sem Unit} {T : DS → Sem Value} {tk : Nat} (hle : Nat.ble n₀ h.length = true) (hsys : 1 < h.length) (hl : l.length ≤ 15)
    (P1 : ∀ (main : Option Addr) (run : List (Sem Value × Sem Value)) (x : Int × Str), run.length < 16 → f (it q x) (main, run) = (Pure.pure (ForInStep.yield (main, run ++ [pr q x])) : Sem _))
    (P0 : ∀ (run : List (Sem Value × Sem Value)) (x : Int × Str), run.length = 16 → f (it q x) (none, run) = ((subDict (run ++ [pr q x]) >>= fun a => (Pure.pure (some a) : Sem (Option Addr))) >>= fun m => (Pure.pure (ForInStep.yield (m, [])) : Sem _)))
    (P2 : ∀ (a : Addr) (run : List (Sem Value × Sem Value)) (x : Int × Str), run.length = 16 → f (it q x) (some a, run) =
      ((holding [.ref a] (subDict (run ++ [pr q x])) >>= fun sub => ((holding [.ref a, .ref sub] (mergeMapping a (.ref sub) false)).onRaise (G a sub)) >>= fun _ => (Pure.pure (some a) : Sem (Option Addr))) >>= fun m => (Pure.pure (ForInStep.yield (m, [])) : Sem _)))
    (P3 : ∀ (a : Addr) (run : List (Sem Value × Sem Value)), run ≠ [] → T (some a, run) =
      ((holding [.ref a] (subDict run) >>= fun sub => ((holding [.ref a, .ref sub] (mergeMapping a (.ref sub) false)).onRaise (G a sub)) >>= fun _ => (Pure.pure (some a) : Sem (Option Addr))) >>= fun m => match m with
        | some d => (Pure.pure (Value.ref d) : Sem Value)
        | none => newDict))
    (hc : c.length = 17) (hcs : ∀ c ∈ cs, c.length = 17) (hl0 : l ≠ []) (hd : Dist (c ++ (cs.flatten ++ l))) (hsz : (c ++ (cs.flatten ++ l)).length ≤ 100000) :
    TG p w n₀ ann (forIn ((c ++ (cs.flatten ++ l)).map (it q)) (none, []) f >>= T) ⟨⟨h.toArray, {}⟩, g, d, tk, os⟩ q (223 + (330 * cs.length + (6 + 19 * l.length))) (.ref h.length)
      ⟨hp h (dObj (ents tk c ++ ents (tk + 51) cs.flatten ++ entsE (tk + 51 + 51 * cs.length) l)) (subs (tk + 51) cs ++ [dObj (entsE (tk + 51 + 51 * cs.length) l)]), g, d, tk + 51 + 51 * cs.length + 3 * l.length, os⟩ q := by
  obtain ⟨d1, d2, d3⟩ := List.pairwise_append.mp hd
  obtain ⟨d4, d5, d6⟩ := List.pairwise_append.mp d2
  have hEne : ents tk c ≠ [] := by intro e; have := congrArg List.length e; rw [ents_length, hc] at this; cases this
  simp only [List.length_append] at hsz
  refine (TG.bind (n := 223 + 330 * cs.length) (k := 6 + 19 * l.length) (a := (some h.length, l.map (pr q))) (pos₁ := q) (s₁ := ⟨hp h (dObj (ents tk c ++ ents (tk + 51) cs.flatten)) ([] ++ subs (tk + 51) cs), g, d, tk + 51 + 51 * cs.length, os⟩) ?_ ?_).mono (by omega)
  · rw [List.map_append]
    refine disp_turn (F := fun run => subDict run >>= fun a => (Pure.pure (some a) : Sem (Option Addr))) P1 P0 hc ?_ (disp_loop hle hsys hl P1 P2 cs [] (ents tk c) (tk + 51) hcs d2 ?_ hEne (by rw [ents_length]; simp only [List.length_append]; omega))
    · have := sub_long (p := p) (w := w) (ann := ann) (g := g) (d := d) (os := os) (q := q) (h := h) (c := c) (tk := tk) hle (by omega) (by omega) d1
      rw [hc] at this
      exact TG.bind (n := 223) (k := 0) this TG.pure
    · intro e he x hx
      obtain ⟨y, hy, t, -, h2⟩ := ents_mem he
      rw [h2]; exact d3 y hy x hx
  · rw [P3 _ _ (by intro e; exact hl0 (List.map_eq_nil_iff.mp e)), List.nil_append]
    refine TG.bind (n := 6 + 19 * l.length) (k := 0) (flush_short hle hsys hl (by rw [List.length_append, ents_length, ents_length]; omega) d5 ?_ ?_) TG.pure
    · intro e he x hx
      rcases List.mem_append.mp he with he | he
      · obtain ⟨y, hy, t, -, h2⟩ := ents_mem he
        rw [h2]; exact d3 y hy x (List.mem_append_right _ hx)
      · obtain ⟨y, hy, t, -, h2⟩ := ents_mem he
        rw [h2]; exact d6 y hy x hx
    · intro e; exact hEne (List.append_eq_nil_iff.mp e).1
end
end Mine

namespace Mine
open PySem PySem.W PySem.Calls PyProof.Rows

section
variable {p : Program} {w : World} {n₀ : Nat} {ann : Option Value} {g : Array GenState} {d : Drawn} {os : OsState} {q : Pos}

theorem disp_run {h : List Obj} {c : List (Int × Str)} {cs : List (List (Int × Str))} {l : List (Int × Str)} {tk : Nat} (hle : Nat.ble n₀ h.length = true) (hsys : 1 < h.length) (hl : l.length ≤ 15)
    (hc : c.length = 17) (hcs : ∀ c ∈ cs, c.length = 17) (hl0 : l ≠ []) (hd : Dist (c ++ (cs.flatten ++ l))) (hsz : (c ++ (cs.flatten ++ l)).length ≤ 100000) :
    TG p w n₀ ann (dictDisplay ((c ++ (cs.flatten ++ l)).map (it q))) ⟨⟨h.toArray, {}⟩, g, d, tk, os⟩ q (223 + (330 * cs.length + (6 + 19 * l.length))) (.ref h.length)
      ⟨hp h (dObj (ents tk c ++ ents (tk + 51) cs.flatten ++ entsE (tk + 51 + 51 * cs.length) l)) (subs (tk + 51) cs ++ [dObj (entsE (tk + 51 + 51 * cs.length) l)]), g, d, tk + 51 + 51 * cs.length + 3 * l.length, os⟩ q := by
  unfold dictDisplay
  refine disp_all (G := fun dd sub x => holding [.ref dd, x] (runValue (Code.builtin "proto.let_go" { })) >>= fun _ => Pure.pure ()) hle hsys hl ?_ ?_ ?_ ?_ hc hcs hl0 hd hsz
  · intro main run x hr
    show (if ((run ++ [pr q x]).length == 17) = true then _ else _) = _
    rw [if_neg (by simp; omega)]
    rfl
  · intro run x hr
    show (if ((run ++ [pr q x]).length == 17) = true then ((if (run ++ [pr q x]).isEmpty = true then _ else _) >>= fun m => _) else _) = _
    rw [if_pos (by simp [hr]), if_neg (by simp)]
    rfl
  · intro a run x hr
    show (if ((run ++ [pr q x]).length == 17) = true then ((if (run ++ [pr q x]).isEmpty = true then _ else _) >>= fun m => _) else _) = _
    rw [if_pos (by simp [hr]), if_neg (by simp)]
    rfl
  · intro a run hr
    show ((if run.isEmpty = true then _ else _) >>= fun m => _) = _
    rw [if_neg (by simpa using hr)]
    rfl
end
end Mine

namespace Mine
open PySem PySem.W PySem.Calls PyProof.Rows
noncomputable section

/-- the parts of the statement that lays the mapping -/
noncomputable def asT : Stmt → List PySem.Expr
  | .Assign t _ _ => t
  | _ => []
noncomputable def asP : Stmt → Pos
  | .Assign _ _ p => p
  | _ => default
noncomputable def dK : PySem.Expr → List (Option PySem.Expr)
  | .Dict k _ _ => k
  | _ => []
noncomputable def dV : PySem.Expr → List PySem.Expr
  | .Dict _ v _ => v
  | _ => []
noncomputable def dP : PySem.Expr → Pos
  | .Dict _ _ p => p
  | _ => default
noncomputable def kOf : Option PySem.Expr → Int
  | some (.Constant (.int i) _ _) => i
  | _ => 0
noncomputable def vOf : PySem.Expr → Str
  | .Constant (.str x) _ _ => x
  | _ => default
noncomputable def isK : Option PySem.Expr → Bool
  | some (.Constant (.int _) _ _) => true
  | _ => false
noncomputable def isV : PySem.Expr → Bool
  | .Constant (.str _) _ _ => true
  | _ => false

theorem items_eq (q : Pos) (env : Env) : ∀ (ks : List (Option PySem.Expr)) (vs : List PySem.Expr), ks.all isK = true → vs.all isV = true →
    (evalEachOpt ks env).zip ((evalEach vs env).map fun v => do let x ← v; standAt q; pure x) = ((ks.map kOf).zip (vs.map vOf)).map (it q)
  | [], _, _, _ => by rfl
  | _ :: _, [], _, _ => by rw [show evalEach [] env = [] from rfl]; simp
  | k :: ks, v :: vs, hk, hv => by
    rw [List.all_cons, Bool.and_eq_true] at hk hv
    have ih := items_eq q env ks vs hk.2 hv.2
    have h1 := hk.1
    have h2 := hv.1
    show ((evalOpt k env) :: evalEachOpt ks env).zip (((eval v env) :: evalEach vs env).map fun v => do let x ← v; standAt q; pure x) = _
    rw [List.map_cons, List.zip_cons_cons, ih, List.map_cons, List.map_cons, List.zip_cons_cons, List.map_cons]
    congr 1
    unfold isK at h1
    unfold isV at h2
    split at h1
    · split at h2
      · rfl
      · cases h2
    · cases h1

noncomputable def dS : Stmt := topS 11
noncomputable def dX : PySem.Expr := stVal dS
noncomputable def ps : List (Int × Str) := ((dK dX).map kOf).zip ((dV dX).map vOf)
noncomputable def chunk (i : Nat) : List (Int × Str) := (ps.drop (17 * i)).take 17
noncomputable def cs : List (List (Int × Str)) := (List.range 37).map fun i => chunk (i + 1)
noncomputable def lastC : List (Int × Str) := ps.drop 646

theorem dS_eq : topS 11 = .Assign (asT dS) (.Dict (dK dX) (dV dX) (dP dX)) (asP dS) := by kernel_rfl
theorem dK_all : (dK dX).all isK = true := by decide +kernel
theorem dV_all : (dV dX).all isV = true := by decide +kernel
theorem ps_split : ps = chunk 0 ++ (cs.flatten ++ lastC) := by kernel_rfl
theorem c0_len : (chunk 0).length = 17 := by kernel_rfl
theorem cs_len : cs.length = 37 := by kernel_rfl
theorem cs_all : cs.all (fun c => c.length == 17) = true := by decide +kernel
theorem last_len : lastC.length = 4 := by kernel_rfl
theorem ps_len : ps.length = 650 := by kernel_rfl

/-- ascending, and all between 0 and a million -/
noncomputable def asc : Int → List (Int × Str) → Bool
  | _, [] => true
  | lo, x :: r => decide (lo < x.1) && decide (x.1 < 1000000) && asc x.1 r
theorem asc_gt : ∀ (l : List (Int × Str)) (lo : Int), asc lo l = true → ∀ x ∈ l, lo < x.1 ∧ x.1 < 1000000
  | [], _, _, _, hx => by cases hx
  | y :: l, lo, h, x, hx => by
    simp only [asc, Bool.and_eq_true, decide_eq_true_eq] at h
    rcases List.mem_cons.mp hx with rfl | hx
    · exact h.1
    · exact ⟨Int.lt_trans h.1.1 (asc_gt l _ h.2 x hx).1, (asc_gt l _ h.2 x hx).2⟩
theorem hash_small {k : Int} (h1 : 0 ≤ k) (h2 : k < 1000000) : hashInt k = k := by
  have e : ((k.natAbs : Int) % ((2 ^ 61 - 1 : Nat) : Int)) = k := by
    rw [Int.natAbs_of_nonneg h1]
    exact Int.emod_eq_of_lt h1 (Int.lt_trans h2 (by decide))
  have r : rawHash k = k := by
    simp only [rawHash]
    rw [e, if_neg (show ¬ k < 0 by omega), if_neg (by simp; omega)]
  unfold hashInt
  rw [r, if_neg (by simp; omega)]
theorem asc_dist : ∀ (l : List (Int × Str)) (lo : Int), 0 ≤ lo → asc lo l = true → Dist l
  | [], _, _, _ => List.Pairwise.nil
  | y :: l, lo, h0, h => by
    have hy := asc_gt _ _ h y (List.mem_cons_self ..)
    have h' := h
    simp only [asc, Bool.and_eq_true, decide_eq_true_eq] at h'
    refine List.pairwise_cons.mpr ⟨fun x hx => ?_, asc_dist l y.1 (by omega) h'.2⟩
    have hx' := asc_gt l _ h'.2 x hx
    rw [hash_small (by omega) hy.2, hash_small (by omega) hx'.2]
    omega
theorem ps_asc : asc 0 ps = true := by decide +kernel
theorem ps_dist : Dist (chunk 0 ++ (cs.flatten ++ lastC)) := by rw [← ps_split]; exact asc_dist ps 0 (by omega) ps_asc
end
end Mine

namespace Mine
open PySem PySem.W PySem.Calls PyProof.Rows
noncomputable abbrev dE : PySem.Expr := .Dict (dK dX) (dV dX) (dP dX)
noncomputable def tailS (v : Value) : Sem Flow := do assignStores hd.env_1 v (← swappedStores (asT dS) dE hd.env_1) ((assignEach (asT dS) hd.env_1).map (·.2))
theorem noSwap : swapsWithSole (asT dS) dE (asP dS).line hd.env_1 = Pure.pure false := by kernel_rfl
theorem exec11 : exec (topS 11) hd.env_1 = (standAt (asP dS) >>= fun _ => standAt (dP dX) >>= fun _ => dictDisplay (ps.map (it (dP dX)))) >>= tailS := by
  rw [dS_eq, arm_exec_Assign, noSwap, arm_eval_Dict, items_eq _ _ _ _ dK_all dV_all]
  rfl

theorem piece_sem {tb : String → Option Builtin} {p : Program} {w : World} {n₀ : Nat} {ann : Option Value} {env : Env} {q : Pos} {n N : Nat} {s s' r : Shared} {x : Sem Flow} {rest : List Stmt} {c : Code} {pos p' : Pos}
    (h : segRun tb p w n₀ ann 1 n s ⟨x.wrap doneF deadEnd id id, c, pos, [topFrame q]⟩ = some (.next, s', c, p'))
    (k : topRun tb p w n₀ ann N s' (restOf rest env c p' [topFrame q]) = some r) :
    topRun tb p w n₀ ann (n + N) s ⟨x.wrap (fun f => match f with | .next => (execs rest env).wrap doneF (leaveH env) id id | f => doneF f) (leaveH env) id id, c, pos, [topFrame q]⟩ = some r := by
  obtain ⟨a, ha, hN⟩ := seg_top (res := id) (K' := fun f => match f with | .next => (execs rest env).wrap doneF (leaveH env) id id | f => doneF f) (H' := leaveH env) (B := [topFrame q]) rfl n s ⟨x.wrap doneF deadEnd id id, c, pos, [topFrame q]⟩
    ⟨x.wrap (fun f => match f with | .next => (execs rest env).wrap doneF (leaveH env) id id | f => doneF f) (leaveH env) id id, c, pos, [topFrame q]⟩ _ _ _ _ ⟨rfl, rfl, .inl ⟨rfl, rfl, _, rfl, rfl⟩⟩ h
  obtain rfl : a = .next := ha
  exact hN N r k

noncomputable def E11 : List DictEntry := ents 339 (chunk 0) ++ ents 390 cs.flatten ++ entsE 2277 lastC
noncomputable def S11 : List Obj := subs 390 cs ++ [dObj (entsE 2277 lastC)]
noncomputable def dM (_ : Params) : Obj := dObj E11
noncomputable def sO (j : Nat) (_ : Params) : Obj := (S11[j]?).getD default
noncomputable def x11_3 (P : Params) : Obj :=
{ cls := .type "dict",
  data :=
    .dict
      #[{ hash := kH P "__name__", key := .str (sT "__name__") 165,
          val := .str (sT "cpy313.stringprep") 270 },
        { hash := kH P "__doc__", key := .str (sT "__doc__") 166, val := .none },
        { hash := kH P "__package__", key := .str (sT "__package__") 167, val := .none },
        { hash := kH P "__loader__", key := .str (sT "__loader__") 168, val := .builtin "__main__.__loader__#opaque" },
        { hash := kH P "__spec__", key := .str (sT "__spec__") 169, val := .none },
        { hash := kH P "__annotations__", key := .str (sT "__annotations__") 170, val := .ref 6 },
        { hash := kH P "__builtins__", key := .str (sT "__builtins__") 171, val := .ref 4 },
        { hash := kH P "__file__", key := .str (sT "__file__") 173, val := .str (sT "/claim/cut.py") 172 },
        { hash := kH P "__cached__", key := .str (sT "__cached__") 174, val := .none },
        { hash := kH P "_iter_escaped_chars", key := .str (sT "_iter_escaped_chars") 198, val := .ref 21 },
        { hash := kH P "_strip_quoted_realnames", key := .str (sT "_strip_quoted_realnames") 210, val := .ref 28 },
        { hash := kH P "_check_parenthesis", key := .str (sT "_check_parenthesis") 220, val := .ref 35 },
        { hash := kH P "Error", key := .str (sT "Error") 242, val := .ref 45 },
        { hash := kH P "error_reply", key := .str (sT "error_reply") 258, val := .ref 58 },
        { hash := kH P "parse257", key := .str (sT "parse257") 269, val := .ref 67 },
        { hash := kH P "b1_set", key := .str (sT "b1_set") 331, val := .ref 75 },
        { hash := kH P "in_table_b1", key := .str (sT "in_table_b1") 338, val := .ref 85 },
        { hash := kH P "b3_exceptions", key := .str (sT "b3_exceptions") 2289, val := .ref 86 }]
      18 }
noncomputable def x11a (P : Params) : BT := (.node (boot_o_0 P) (.node (boot_o_1 P) (.node (x10_3 P) (.node (boot_o_7 P) (.node (hd.o_8 P) (.node (hd.o_24 P) (.node (hd.o_60 P) .nil .nil) (.node (sO 8 P) .nil .nil)) (.node (hd.o_40 P) (.node (x10_79 P) .nil .nil) (.node (sO 24 P) .nil .nil))) (.node (hd.o_16 P) (.node (hd.o_32 P) (.node (x9_71 P) .nil .nil) (.node (sO 16 P) .nil .nil)) (.node (hd.o_52 P) (.node (sO 0 P) .nil .nil) (.node (sO 32 P) .nil .nil)))) (.node (hd.o_1 P) (.node (hd.o_12 P) (.node (hd.o_28 P) (.node (hd.o_64 P) .nil .nil) (.node (sO 12 P) .nil .nil)) (.node (hd.o_48 P) (.node (x10_83 P) .nil .nil) (.node (sO 28 P) .nil .nil))) (.node (hd.o_20 P) (.node (hd.o_36 P) (.node (x9_75 P) .nil .nil) (.node (sO 20 P) .nil .nil)) (.node (hd.o_56 P) (.node (sO 4 P) .nil .nil) (.node (sO 36 P) .nil .nil))))) (.node (boot_o_5 P) (.node (boot_o_9 P) (.node (hd.o_10 P) (.node (hd.o_26 P) (.node (hd.o_62 P) .nil .nil) (.node (sO 10 P) .nil .nil)) (.node (hd.o_46 P) (.node (x10_81 P) .nil .nil) (.node (sO 26 P) .nil .nil))) (.node (hd.o_18 P) (.node (hd.o_34 P) (.node (x9_73 P) .nil .nil) (.node (sO 18 P) .nil .nil)) (.node (hd.o_54 P) (.node (sO 2 P) .nil .nil) (.node (sO 34 P) .nil .nil)))) (.node (hd.o_3 P) (.node (hd.o_14 P) (.node (hd.o_30 P) (.node (x9_69 P) .nil .nil) (.node (sO 14 P) .nil .nil)) (.node (hd.o_50 P) (.node (x10_85 P) .nil .nil) (.node (sO 30 P) .nil .nil))) (.node (hd.o_22 P) (.node (hd.o_45 P) (.node (x9_77 P) .nil .nil) (.node (sO 22 P) .nil .nil)) (.node (hd.o_58 P) (.node (sO 6 P) .nil .nil) .nil))))) (.node (hd.o_5 P) (.node (boot_o_4 P) (.node (boot_o_8 P) (.node (hd.o_9 P) (.node (hd.o_25 P) (.node (hd.o_61 P) .nil .nil) (.node (sO 9 P) .nil .nil)) (.node (hd.o_41 P) (.node (x10_80 P) .nil .nil) (.node (sO 25 P) .nil .nil))) (.node (hd.o_17 P) (.node (hd.o_33 P) (.node (x9_72 P) .nil .nil) (.node (sO 17 P) .nil .nil)) (.node (hd.o_53 P) (.node (sO 1 P) .nil .nil) (.node (sO 33 P) .nil .nil)))) (.node (x10_12 P) (.node (hd.o_13 P) (.node (hd.o_29 P) (.node (x9_68 P) .nil .nil) (.node (sO 13 P) .nil .nil)) (.node (hd.o_49 P) (.node (x10_84 P) .nil .nil) (.node (sO 29 P) .nil .nil))) (.node (hd.o_21 P) (.node (hd.o_37 P) (.node (x9_76 P) .nil .nil) (.node (sO 21 P) .nil .nil)) (.node (hd.o_57 P) (.node (sO 5 P) .nil .nil) (.node (sO 37 P) .nil .nil))))) (.node (boot_o_6 P) (.node (boot_o_10 P) (.node (hd.o_11 P) (.node (hd.o_27 P) (.node (hd.o_63 P) .nil .nil) (.node (sO 11 P) .nil .nil)) (.node (hd.o_47 P) (.node (x10_82 P) .nil .nil) (.node (sO 27 P) .nil .nil))) (.node (hd.o_19 P) (.node (hd.o_35 P) (.node (x9_74 P) .nil .nil) (.node (sO 19 P) .nil .nil)) (.node (hd.o_55 P) (.node (sO 3 P) .nil .nil) (.node (sO 35 P) .nil .nil)))) (.node (hd.o_4 P) (.node (hd.o_15 P) (.node (hd.o_31 P) (.node (x9_70 P) .nil .nil) (.node (sO 15 P) .nil .nil)) (.node (hd.o_51 P) (.node (dM P) .nil .nil) (.node (sO 31 P) .nil .nil))) (.node (hd.o_23 P) (.node (hd.o_39 P) (.node (x9_78 P) .nil .nil) (.node (sO 23 P) .nil .nil)) (.node (hd.o_59 P) (.node (sO 7 P) .nil .nil) .nil))))))
noncomputable def x11 (P : Params) : BT := (.node (boot_o_0 P) (.node (boot_o_1 P) (.node (x11_3 P) (.node (boot_o_7 P) (.node (hd.o_8 P) (.node (hd.o_24 P) (.node (hd.o_60 P) .nil .nil) (.node (sO 8 P) .nil .nil)) (.node (hd.o_40 P) (.node (x10_79 P) .nil .nil) (.node (sO 24 P) .nil .nil))) (.node (hd.o_16 P) (.node (hd.o_32 P) (.node (x9_71 P) .nil .nil) (.node (sO 16 P) .nil .nil)) (.node (hd.o_52 P) (.node (sO 0 P) .nil .nil) (.node (sO 32 P) .nil .nil)))) (.node (hd.o_1 P) (.node (hd.o_12 P) (.node (hd.o_28 P) (.node (hd.o_64 P) .nil .nil) (.node (sO 12 P) .nil .nil)) (.node (hd.o_48 P) (.node (x10_83 P) .nil .nil) (.node (sO 28 P) .nil .nil))) (.node (hd.o_20 P) (.node (hd.o_36 P) (.node (x9_75 P) .nil .nil) (.node (sO 20 P) .nil .nil)) (.node (hd.o_56 P) (.node (sO 4 P) .nil .nil) (.node (sO 36 P) .nil .nil))))) (.node (boot_o_5 P) (.node (boot_o_9 P) (.node (hd.o_10 P) (.node (hd.o_26 P) (.node (hd.o_62 P) .nil .nil) (.node (sO 10 P) .nil .nil)) (.node (hd.o_46 P) (.node (x10_81 P) .nil .nil) (.node (sO 26 P) .nil .nil))) (.node (hd.o_18 P) (.node (hd.o_34 P) (.node (x9_73 P) .nil .nil) (.node (sO 18 P) .nil .nil)) (.node (hd.o_54 P) (.node (sO 2 P) .nil .nil) (.node (sO 34 P) .nil .nil)))) (.node (hd.o_3 P) (.node (hd.o_14 P) (.node (hd.o_30 P) (.node (x9_69 P) .nil .nil) (.node (sO 14 P) .nil .nil)) (.node (hd.o_50 P) (.node (x10_85 P) .nil .nil) (.node (sO 30 P) .nil .nil))) (.node (hd.o_22 P) (.node (hd.o_45 P) (.node (x9_77 P) .nil .nil) (.node (sO 22 P) .nil .nil)) (.node (hd.o_58 P) (.node (sO 6 P) .nil .nil) .nil))))) (.node (hd.o_5 P) (.node (boot_o_4 P) (.node (boot_o_8 P) (.node (hd.o_9 P) (.node (hd.o_25 P) (.node (hd.o_61 P) .nil .nil) (.node (sO 9 P) .nil .nil)) (.node (hd.o_41 P) (.node (x10_80 P) .nil .nil) (.node (sO 25 P) .nil .nil))) (.node (hd.o_17 P) (.node (hd.o_33 P) (.node (x9_72 P) .nil .nil) (.node (sO 17 P) .nil .nil)) (.node (hd.o_53 P) (.node (sO 1 P) .nil .nil) (.node (sO 33 P) .nil .nil)))) (.node (x10_12 P) (.node (hd.o_13 P) (.node (hd.o_29 P) (.node (x9_68 P) .nil .nil) (.node (sO 13 P) .nil .nil)) (.node (hd.o_49 P) (.node (x10_84 P) .nil .nil) (.node (sO 29 P) .nil .nil))) (.node (hd.o_21 P) (.node (hd.o_37 P) (.node (x9_76 P) .nil .nil) (.node (sO 21 P) .nil .nil)) (.node (hd.o_57 P) (.node (sO 5 P) .nil .nil) (.node (sO 37 P) .nil .nil))))) (.node (boot_o_6 P) (.node (boot_o_10 P) (.node (hd.o_11 P) (.node (hd.o_27 P) (.node (hd.o_63 P) .nil .nil) (.node (sO 11 P) .nil .nil)) (.node (hd.o_47 P) (.node (x10_82 P) .nil .nil) (.node (sO 27 P) .nil .nil))) (.node (hd.o_19 P) (.node (hd.o_35 P) (.node (x9_74 P) .nil .nil) (.node (sO 19 P) .nil .nil)) (.node (hd.o_55 P) (.node (sO 3 P) .nil .nil) (.node (sO 35 P) .nil .nil)))) (.node (hd.o_4 P) (.node (hd.o_15 P) (.node (hd.o_31 P) (.node (x9_70 P) .nil .nil) (.node (sO 15 P) .nil .nil)) (.node (hd.o_51 P) (.node (dM P) .nil .nil) (.node (sO 31 P) .nil .nil))) (.node (hd.o_23 P) (.node (hd.o_39 P) (.node (x9_78 P) .nil .nil) (.node (sO 23 P) .nil .nil)) (.node (hd.o_59 P) (.node (sO 7 P) .nil .nil) .nil))))))
theorem heap11 (P : Params) : hp ((x10 P).list 86) (dObj E11) S11 = absHeap (x11a P) 125 {} := by
  have e : (x11a P).list 125 = (x10 P).list 86 ++ dObj E11 :: S11 := by kernel_rfl
  unfold hp absHeap
  rw [e]
theorem tail11 (p : Program) (b : List Stmt) (w : World) (os : OsState) : segRunT treeTable p w 11 ann0 1 8 ⟨x11a w.params, 125, {}, #[], {}, 2289, os⟩ ⟨(tailS (.ref 86)).wrap doneF deadEnd id id, .body b hd.env_1, dP dX, B0⟩ =
  some (.next, ⟨x11 w.params, 125, {}, #[], {}, 2290, os⟩, .body b hd.env_1, ⟨70, 0, 70, 13⟩) := by rw [q1, q2]; kernel_rfl

theorem top11 (p : Program) (b : List Stmt) (w : World) (os : OsState) {rest : List Stmt} {N : Nat} {r : Shared}
    (k : topRun treeTable p w 11 ann0 N (SharedT.abs ⟨x11 w.params, 125, {}, #[], {}, 2290, os⟩) (restOf rest hd.env_1 (.body b hd.env_1) ⟨70, 0, 70, 13⟩ B0) = some r) :
    topRun treeTable p w 11 ann0 (12517 + (8 + N)) (SharedT.abs ⟨x10 w.params, 86, {}, #[], {}, 339, os⟩) (restOf (topS 11 :: rest) hd.env_1 (.body b hd.env_1) ⟨68, 0, 69, 30⟩ B0) = some r := by
  have t := piece_sem (segRun_of (tail11 p b w os)) k
  have d := disp_run (p := p) (w := w) (n₀ := 11) (ann := ann0) (g := #[]) (d := {}) (os := os) (q := dP dX) (h := (x10 w.params).list 86) (c := chunk 0) (cs := cs) (l := lastC) (tk := 339)
    (by simp [BT.list]) (by simp [BT.list]) (by rw [last_len]; decide) c0_len (fun c hc => by have := List.all_eq_true.mp cs_all c hc; simpa using this) (by intro e; have := last_len; rw [e] at this; cases this) ps_dist
    (by rw [← ps_split, ps_len]; decide)
  rw [← ps_split, cs_len, last_len] at d
  have hl : ((x10 w.params).list 86).length = 86 := by simp [BT.list]
  rw [hl] at d
  have e := heap11 w.params
  have d' : TG p w 11 ann0 (dictDisplay (ps.map (it (dP dX)))) ⟨absHeap (x10 w.params) 86 {}, #[], {}, 339, os⟩ (dP dX) 12515 (.ref 86) ⟨absHeap (x11a w.params) 125 {}, #[], {}, 2289, os⟩ (dP dX) := by
    rw [← e]
    exact d
  have full := TG.bind (n := 1) (k := 1 + 12515) (f := fun _ => standAt (dP dX) >>= fun _ => dictDisplay (ps.map (it (dP dX)))) (TG.at (p := p) (w := w) (n₀ := 11) (ann := ann0) (s := ⟨absHeap (x10 w.params) 86 {}, #[], {}, 339, os⟩) (pos := ⟨68, 0, 69, 30⟩) (q := asP dS)) (TG.bind (n := 1) (f := fun _ => dictDisplay (ps.map (it (dP dX)))) (TG.at (q := dP dX)) d')
  unfold restOf
  rw [execs_cons_wrap, exec11, Sem.bind_eq_wrap', Sem.wrap_wrap]
  exact full _ _ _ _ (.body b hd.env_1) (topFrame z0) [] (8 + N) r t
end Mine

namespace Mine
open PySem PySem.W PySem.Calls PyProof.Rows
noncomputable def x12_125 (P : Params) : Obj :=
{ cls := .type "tuple", data := .seq #[] }
noncomputable def x12_126 (P : Params) : Obj :=
{ cls := .none, data := .fields #[] }
noncomputable def x12_127 (P : Params) : Obj :=
{ cls := .type "tuple", data := .seq #[.str (sT "code") 2293, .str (sT "r") 2294] }
noncomputable def x12_128 (P : Params) : Obj :=
{ cls := .type "tuple", data := .seq #[] }
noncomputable def x12_129 (P : Params) : Obj :=
{ cls := .none,
  data :=
    .func
      { name := sT "map_table_b3", qualname := sT "map_table_b3", params := fnArgs (topS 12), body := .stmts (fnBody (topS 12)),
        scope := fnScope (topS 12), globals := 0, closure := [], defaults := .none, kwdefaults := .none } }
noncomputable def x12_130 (P : Params) : Obj :=
{ cls := .type "code",
  data :=
    .fields
      #[.str (sT "map_table_b3") 2290, .str (sT "map_table_b3") 2291, .str (sT "/claim/cut.py") 2292,
        .int 71 0, .int 1 0, .int 0 0, .int 0 0, .int 3 0, .ref 125, .bool true, .int 181 0,
        .ref 126, .none, .ref 127, .ref 128, .ref 129, .int 2295 0, .int 71 0,
        .str (sT "/claim/cut.py") 2296] }
noncomputable def x12_131 (P : Params) : Obj :=
{ cls := .type "function",
  data :=
    .func
      { name := sT "map_table_b3", qualname := sT "map_table_b3", params := fnArgs (topS 12), body := .stmts (fnBody (topS 12)),
        scope := fnScope (topS 12), globals := 3, closure := [], defaults := .none, kwdefaults := .none,
        pyModule := .str (sT "cpy313.stringprep") 270, code := .ref 130 } }
noncomputable def x14_132 (P : Params) : Obj :=
{ cls := .type "tuple", data := .seq #[] }
noncomputable def x14_133 (P : Params) : Obj :=
{ cls := .none, data := .fields #[] }
noncomputable def x14_134 (P : Params) : Obj :=
{ cls := .none,
  data :=
    .func
      { name := sT "_law_read", qualname := sT "_law_read", params := fnArgs (topS 14), body := .stmts (fnBody (topS 14)),
        scope := fnScope (topS 14), globals := 0, closure := [], defaults := .none, kwdefaults := .none } }
noncomputable def x14_135 (P : Params) : Obj :=
{ cls := .type "code",
  data :=
    .fields
      #[.str (sT "_law_read") 2300, .str (sT "_law_read") 2301, .str (sT "/claim/cut.py") 2302, .int 77 0,
        .int 1 0, .int 0 0, .int 0 0, .int 3 0, .ref 132, .bool true, .int 181 0, .ref 133,
        .none, .none, .none, .ref 134, .int 2303 0, .int 77 0, .str (sT "/claim/cut.py") 2304] }
noncomputable def x14_136 (P : Params) : Obj :=
{ cls := .type "function",
  data :=
    .func
      { name := sT "_law_read", qualname := sT "_law_read", params := fnArgs (topS 14), body := .stmts (fnBody (topS 14)),
        scope := fnScope (topS 14), globals := 3, closure := [], defaults := .none, kwdefaults := .none,
        pyModule := .str (sT "law_wk0039_01") 2298, code := .ref 135 } }
noncomputable def x15_137 (P : Params) : Obj :=
{ cls := .type "tuple", data := .seq #[] }
noncomputable def x15_138 (P : Params) : Obj :=
{ cls := .none, data := .fields #[] }
noncomputable def x15_139 (P : Params) : Obj :=
{ cls := .type "tuple",
  data :=
    .seq
      #[.str (sT "blocks") 2309, .str (sT "word") 2310, .str (sT "names") 2311,
        .str (sT "told") 2312, .str (sT "code") 2313, .str (sT "row") 2314,
        .str (sT "text") 2315, .str (sT "k") 2316, .str (sT "letter") 2317,
        .str (sT "place") 2318, .str (sT "part") 2319, .str (sT "bare") 2320] }
noncomputable def x15_140 (P : Params) : Obj :=
{ cls := .type "tuple", data := .seq #[] }
noncomputable def x15_141 (P : Params) : Obj :=
{ cls := .none,
  data :=
    .func
      { name := sT "_law_told", qualname := sT "_law_told", params := fnArgs (topS 15), body := .stmts (fnBody (topS 15)),
        scope := fnScope (topS 15), globals := 0, closure := [], defaults := .none, kwdefaults := .none } }
noncomputable def x15_142 (P : Params) : Obj :=
{ cls := .type "code",
  data :=
    .fields
      #[.str (sT "_law_told") 2306, .str (sT "_law_told") 2307, .str (sT "/claim/cut.py") 2308, .int 82 0,
        .int 3 0, .int 0 0, .int 0 0, .int 3 0, .ref 137, .bool true, .int 181 0, .ref 138,
        .none, .ref 139, .ref 140, .ref 141, .int 2321 0, .int 82 0, .str (sT "/claim/cut.py") 2322] }
noncomputable def x15_143 (P : Params) : Obj :=
{ cls := .type "function",
  data :=
    .func
      { name := sT "_law_told", qualname := sT "_law_told", params := fnArgs (topS 15), body := .stmts (fnBody (topS 15)),
        scope := fnScope (topS 15), globals := 3, closure := [], defaults := .none, kwdefaults := .none,
        pyModule := .str (sT "law_wk0039_01") 2298, code := .ref 142 } }
noncomputable def x16_144 (P : Params) : Obj :=
{ cls := .type "tuple", data := .seq #[] }
noncomputable def x16_145 (P : Params) : Obj :=
{ cls := .none, data := .fields #[] }
noncomputable def x16_146 (P : Params) : Obj :=
{ cls := .none,
  data :=
    .func
      { name := sT "_law_due", qualname := sT "_law_due", params := fnArgs (topS 16), body := .stmts (fnBody (topS 16)),
        scope := fnScope (topS 16), globals := 0, closure := [], defaults := .none, kwdefaults := .none } }
noncomputable def x16_147 (P : Params) : Obj :=
{ cls := .type "code",
  data :=
    .fields
      #[.str (sT "_law_due") 2324, .str (sT "_law_due") 2325, .str (sT "/claim/cut.py") 2326, .int 98 0,
        .int 3 0, .int 0 0, .int 0 0, .int 3 0, .ref 144, .bool true, .int 181 0, .ref 145,
        .none, .none, .none, .ref 146, .int 2327 0, .int 98 0, .str (sT "/claim/cut.py") 2328] }
noncomputable def x16_148 (P : Params) : Obj :=
{ cls := .type "function",
  data :=
    .func
      { name := sT "_law_due", qualname := sT "_law_due", params := fnArgs (topS 16), body := .stmts (fnBody (topS 16)),
        scope := fnScope (topS 16), globals := 3, closure := [], defaults := .none, kwdefaults := .none,
        pyModule := .str (sT "law_wk0039_01") 2298, code := .ref 147 } }
noncomputable def x17_12 (P : Params) : Obj :=
{ cls := .none,
  data :=
    .fields
      #[.int 2 0, .int 0 0, .ref 20, .int 15 0, .int 0 0, .ref 27, .int 33 0, .int 0 0, .ref 34,
        .int 45 0, .int 0 0, .ref 41, .int 47 0, .int 0 0, .ref 54, .int 49 0, .int 0 0, .ref 66,
        .int 68 0, .int 0 0, .ref 84, .int 71 0, .int 0 0, .ref 130, .int 77 0, .int 0 0, .ref 135,
        .int 82 0, .int 0 0, .ref 142, .int 98 0, .int 0 0, .ref 147, .int 107 0, .int 0 0,
        .ref 152] }
noncomputable def x17_149 (P : Params) : Obj :=
{ cls := .type "tuple", data := .seq #[] }
noncomputable def x17_150 (P : Params) : Obj :=
{ cls := .none, data := .fields #[] }
noncomputable def x17_151 (P : Params) : Obj :=
{ cls := .none,
  data :=
    .func
      { name := sT "law", qualname := sT "law", params := fnArgs (topS 17), body := .stmts (fnBody (topS 17)),
        scope := fnScope (topS 17), globals := 0, closure := [], defaults := .none, kwdefaults := .none } }
noncomputable def x17_152 (P : Params) : Obj :=
{ cls := .type "code",
  data :=
    .fields
      #[.str (sT "law") 2330, .str (sT "law") 2331, .str (sT "/claim/cut.py") 2332, .int 107 0,
        .int 1 0, .int 0 0, .int 0 0, .int 3 0, .ref 149, .bool true, .int 181 0, .ref 150,
        .none, .none, .none, .ref 151, .int 2333 0, .int 107 0, .str (sT "/claim/cut.py") 2334] }
noncomputable def x17_153 (P : Params) : Obj :=
{ cls := .type "function",
  data :=
    .func
      { name := sT "law", qualname := sT "law", params := fnArgs (topS 17), body := .stmts (fnBody (topS 17)),
        scope := fnScope (topS 17), globals := 3, closure := [], defaults := .none, kwdefaults := .none,
        pyModule := .str (sT "law_wk0039_01") 2298, code := .ref 152 } }
noncomputable def x17_3 (P : Params) : Obj :=
{ cls := .type "dict",
  data :=
    .dict
      #[{ hash := kH P "__name__", key := .str (sT "__name__") 165,
          val := .str (sT "law_wk0039_01") 2298 },
        { hash := kH P "__doc__", key := .str (sT "__doc__") 166, val := .none },
        { hash := kH P "__package__", key := .str (sT "__package__") 167, val := .none },
        { hash := kH P "__loader__", key := .str (sT "__loader__") 168, val := .builtin "__main__.__loader__#opaque" },
        { hash := kH P "__spec__", key := .str (sT "__spec__") 169, val := .none },
        { hash := kH P "__annotations__", key := .str (sT "__annotations__") 170, val := .ref 6 },
        { hash := kH P "__builtins__", key := .str (sT "__builtins__") 171, val := .ref 4 },
        { hash := kH P "__file__", key := .str (sT "__file__") 173, val := .str (sT "/claim/cut.py") 172 },
        { hash := kH P "__cached__", key := .str (sT "__cached__") 174, val := .none },
        { hash := kH P "_iter_escaped_chars", key := .str (sT "_iter_escaped_chars") 198, val := .ref 21 },
        { hash := kH P "_strip_quoted_realnames", key := .str (sT "_strip_quoted_realnames") 210, val := .ref 28 },
        { hash := kH P "_check_parenthesis", key := .str (sT "_check_parenthesis") 220, val := .ref 35 },
        { hash := kH P "Error", key := .str (sT "Error") 242, val := .ref 45 },
        { hash := kH P "error_reply", key := .str (sT "error_reply") 258, val := .ref 58 },
        { hash := kH P "parse257", key := .str (sT "parse257") 269, val := .ref 67 },
        { hash := kH P "b1_set", key := .str (sT "b1_set") 331, val := .ref 75 },
        { hash := kH P "in_table_b1", key := .str (sT "in_table_b1") 338, val := .ref 85 },
        { hash := kH P "b3_exceptions", key := .str (sT "b3_exceptions") 2289, val := .ref 86 },
        { hash := kH P "map_table_b3", key := .str (sT "map_table_b3") 2297, val := .ref 131 },
        { hash := kH P "_law_read", key := .str (sT "_law_read") 2305, val := .ref 136 },
        { hash := kH P "_law_told", key := .str (sT "_law_told") 2323, val := .ref 143 },
        { hash := kH P "_law_due", key := .str (sT "_law_due") 2329, val := .ref 148 },
        { hash := kH P "law", key := .str (sT "law") 2335, val := .ref 153 }]
      23 }
noncomputable def x17 (P : Params) : BT := (.node (boot_o_0 P) (.node (boot_o_1 P) (.node (x17_3 P) (.node (boot_o_7 P) (.node (hd.o_8 P) (.node (hd.o_24 P) (.node (hd.o_60 P) (.node (x12_127 P) .nil .nil) .nil) (.node (sO 8 P) .nil .nil)) (.node (hd.o_40 P) (.node (x10_79 P) (.node (x15_143 P) .nil .nil) .nil) (.node (sO 24 P) .nil .nil))) (.node (hd.o_16 P) (.node (hd.o_32 P) (.node (x9_71 P) (.node (x14_135 P) .nil .nil) .nil) (.node (sO 16 P) .nil .nil)) (.node (hd.o_52 P) (.node (sO 0 P) (.node (x17_151 P) .nil .nil) .nil) (.node (sO 32 P) .nil .nil)))) (.node (hd.o_1 P) (.node (hd.o_12 P) (.node (hd.o_28 P) (.node (hd.o_64 P) (.node (x12_131 P) .nil .nil) .nil) (.node (sO 12 P) .nil .nil)) (.node (hd.o_48 P) (.node (x10_83 P) (.node (x16_147 P) .nil .nil) .nil) (.node (sO 28 P) .nil .nil))) (.node (hd.o_20 P) (.node (hd.o_36 P) (.node (x9_75 P) (.node (x15_139 P) .nil .nil) .nil) (.node (sO 20 P) .nil .nil)) (.node (hd.o_56 P) (.node (sO 4 P) .nil .nil) (.node (sO 36 P) .nil .nil))))) (.node (boot_o_5 P) (.node (boot_o_9 P) (.node (hd.o_10 P) (.node (hd.o_26 P) (.node (hd.o_62 P) (.node (x12_129 P) .nil .nil) .nil) (.node (sO 10 P) .nil .nil)) (.node (hd.o_46 P) (.node (x10_81 P) (.node (x16_145 P) .nil .nil) .nil) (.node (sO 26 P) .nil .nil))) (.node (hd.o_18 P) (.node (hd.o_34 P) (.node (x9_73 P) (.node (x15_137 P) .nil .nil) .nil) (.node (sO 18 P) .nil .nil)) (.node (hd.o_54 P) (.node (sO 2 P) (.node (x17_153 P) .nil .nil) .nil) (.node (sO 34 P) .nil .nil)))) (.node (hd.o_3 P) (.node (hd.o_14 P) (.node (hd.o_30 P) (.node (x9_69 P) (.node (x14_133 P) .nil .nil) .nil) (.node (sO 14 P) .nil .nil)) (.node (hd.o_50 P) (.node (x10_85 P) (.node (x17_149 P) .nil .nil) .nil) (.node (sO 30 P) .nil .nil))) (.node (hd.o_22 P) (.node (hd.o_45 P) (.node (x9_77 P) (.node (x15_141 P) .nil .nil) .nil) (.node (sO 22 P) .nil .nil)) (.node (hd.o_58 P) (.node (sO 6 P) .nil .nil) (.node (x12_125 P) .nil .nil)))))) (.node (hd.o_5 P) (.node (boot_o_4 P) (.node (boot_o_8 P) (.node (hd.o_9 P) (.node (hd.o_25 P) (.node (hd.o_61 P) (.node (x12_128 P) .nil .nil) .nil) (.node (sO 9 P) .nil .nil)) (.node (hd.o_41 P) (.node (x10_80 P) (.node (x16_144 P) .nil .nil) .nil) (.node (sO 25 P) .nil .nil))) (.node (hd.o_17 P) (.node (hd.o_33 P) (.node (x9_72 P) (.node (x14_136 P) .nil .nil) .nil) (.node (sO 17 P) .nil .nil)) (.node (hd.o_53 P) (.node (sO 1 P) (.node (x17_152 P) .nil .nil) .nil) (.node (sO 33 P) .nil .nil)))) (.node (x17_12 P) (.node (hd.o_13 P) (.node (hd.o_29 P) (.node (x9_68 P) (.node (x14_132 P) .nil .nil) .nil) (.node (sO 13 P) .nil .nil)) (.node (hd.o_49 P) (.node (x10_84 P) (.node (x16_148 P) .nil .nil) .nil) (.node (sO 29 P) .nil .nil))) (.node (hd.o_21 P) (.node (hd.o_37 P) (.node (x9_76 P) (.node (x15_140 P) .nil .nil) .nil) (.node (sO 21 P) .nil .nil)) (.node (hd.o_57 P) (.node (sO 5 P) .nil .nil) (.node (sO 37 P) .nil .nil))))) (.node (boot_o_6 P) (.node (boot_o_10 P) (.node (hd.o_11 P) (.node (hd.o_27 P) (.node (hd.o_63 P) (.node (x12_130 P) .nil .nil) .nil) (.node (sO 11 P) .nil .nil)) (.node (hd.o_47 P) (.node (x10_82 P) (.node (x16_146 P) .nil .nil) .nil) (.node (sO 27 P) .nil .nil))) (.node (hd.o_19 P) (.node (hd.o_35 P) (.node (x9_74 P) (.node (x15_138 P) .nil .nil) .nil) (.node (sO 19 P) .nil .nil)) (.node (hd.o_55 P) (.node (sO 3 P) .nil .nil) (.node (sO 35 P) .nil .nil)))) (.node (hd.o_4 P) (.node (hd.o_15 P) (.node (hd.o_31 P) (.node (x9_70 P) (.node (x14_134 P) .nil .nil) .nil) (.node (sO 15 P) .nil .nil)) (.node (hd.o_51 P) (.node (dM P) (.node (x17_150 P) .nil .nil) .nil) (.node (sO 31 P) .nil .nil))) (.node (hd.o_23 P) (.node (hd.o_39 P) (.node (x9_78 P) (.node (x15_142 P) .nil .nil) .nil) (.node (sO 23 P) .nil .nil)) (.node (hd.o_59 P) (.node (sO 7 P) .nil .nil) (.node (x12_126 P) .nil .nil)))))))
theorem pc12 (p : Program) (b : List Stmt) (w : World) (os : OsState) : segRunT treeTable p w 11 ann0 1 158 ⟨x11 w.params, 125, {}, #[], {}, 2290, os⟩
    (piecesOf [topS 12, topS 13, topS 14, topS 15, topS 16, topS 17] hd.env_1 (.body b hd.env_1) ⟨70, 0, 70, 13⟩ B0) =
  some (.next, ⟨x17 w.params, 154, {}, #[], {}, 2336, os⟩, .body b hd.env_1, ⟨107, 0, 116, 101⟩) := by rw [q1, q2]; kernel_rfl
end Mine

namespace Mine
open PySem PySem.W PySem.Calls PyProof.Rows

noncomputable def bd : List Stmt := behindTheImports pw
theorem bd_eq : bd = hd.sts_4 ++ (hd.sts_43 ++ ([topS 9] ++ ([topS 10] ++ (topS 11 :: ([topS 12, topS 13, topS 14, topS 15, topS 16, topS 17] ++ []))))) := by kernel_rfl
theorem pre0 (w : World) (os : OsState) : topGo treeTable pw w 11 ann0 12 ⟨boot_heap w.params, #[], boot_drawn, boot_toks, os⟩ (topStub pw) =
  some (SharedT.abs ⟨hd.tree_4 w.params, 15, {}, #[], {}, 187, os⟩, ⟨denote treeTable (.body bd hd.env_1), .body bd hd.env_1, z0, B0⟩) := by kernel_rfl
theorem blk0 (w : World) (os : OsState) : segRun treeTable pw w 11 ann0 1 1 (SharedT.abs ⟨hd.tree_4 w.params, 15, {}, #[], {}, 187, os⟩) (blockOf bd hd.env_1 (.body bd hd.env_1) z0 B0) =
  some (.next, SharedT.abs ⟨hd.tree_4 w.params, 15, {}, #[], {}, 187, os⟩, .body bd hd.env_1, z0) := by kernel_rfl
theorem fin0 (w : World) (s : Shared) (c : Code) (q : Pos) : topRun treeTable pw w 11 ann0 2 s ⟨doneF .next, c, q, B0⟩ = some s := by rfl

noncomputable def stA (w : World) (os : OsState) : Shared := SharedT.abs ⟨hd.tree_4 w.params, 15, {}, #[], {}, 187, os⟩
noncomputable def stZ (w : World) (os : OsState) : Shared := SharedT.abs ⟨x17 w.params, 154, {}, #[], {}, 2336, os⟩
theorem runA (w : World) (os : OsState) : topRun treeTable pw w 11 ann0 (Nat.add 313 (Nat.add 256 (999 + (30 + (12517 + (8 + (158 + 2))))))) (stA w os) (restOf (hd.sts_4 ++ (hd.sts_43 ++ ([topS 9] ++ ([topS 10] ++ (topS 11 :: ([topS 12, topS 13, topS 14, topS 15, topS 16, topS 17] ++ [])))))) hd.env_1 (.body bd hd.env_1) z0 B0) = some (stZ w os) := by
  have f := piece_nil (env := hd.env_1) (fin0 w (SharedT.abs ⟨x17 w.params, 154, {}, #[], {}, 2336, os⟩) (.body bd hd.env_1) ⟨107, 0, 116, 101⟩)
  have a12 := piece_app (segRun_of (pc12 pw bd w os)) f
  have a11 := top11 pw bd w os a12
  have a10 := piece_app (segRun_of (pc10 pw bd w os)) a11
  have a9 := piece_app (segRun_of (pc9 w pw bd os)) a10
  exact hd.chain pw bd w os _ _ _ a9

theorem runB (w : World) (os : OsState) : topRun treeTable pw w 11 ann0 (Nat.add 313 (Nat.add 256 (999 + (30 + (12517 + (8 + (158 + 2))))))) (stA w os) (restOf bd hd.env_1 (.body bd hd.env_1) z0 B0) = some (stZ w os) := by
  have h := runA w os
  rw [← bd_eq] at h
  exact h
theorem runC (w : World) (os : OsState) : topRun treeTable pw w 11 ann0 (1 + Nat.add 313 (Nat.add 256 (999 + (30 + (12517 + (8 + (158 + 2))))))) (stA w os) ⟨denote treeTable (.body bd hd.env_1), .body bd hd.env_1, z0, B0⟩ = some (stZ w os) :=
  piece_block (b := bd) (env := hd.env_1) (c := .body bd hd.env_1) (pos := z0) (p' := z0) (q := z0) (s := stA w os) (s' := stA w os) (blk0 w os) (runB w os)

theorem runAll (w : World) (os : OsState) : topRun treeTable pw w 11 ann0 14296 ⟨boot_heap w.params, #[], boot_drawn, boot_toks, os⟩ (topStub pw) = some (stZ w os) := by
  have e : 12 + (1 + Nat.add 313 (Nat.add 256 (999 + (30 + (12517 + (8 + (158 + 2))))))) = 14296 := by decide
  have r := go_top (s' := stA w os) (pre0 w os) (runC w os)
  rw [e] at r
  exact r
end Mine

namespace Mine
open PySem PySem.W PySem.Calls PyProof.Rows

/-- the text as the law's own call sees it: the law alone; all that it reaches is read off the heap -/
noncomputable def qv : Program := { pw with main := { pw.main with body := [topS 17] } }
noncomputable def looseL : List Str := ["_iter_escaped_chars", "_strip_quoted_realnames", "_check_parenthesis", "Error", "error_reply", "parse257", "b1_set", "in_table_b1", "b3_exceptions", "map_table_b3", fnName (topS 14), fnName (topS 15), fnName (topS 16)]

/-- where the law's parts lie -/
noncomputable def spots : List Nat := [3, 21, 28, 35, 67, 85, 131, 136, 143, 148, 153, 20, 27, 34, 66, 84, 130, 135, 142, 147, 152, 75, 86]
noncomputable def objAt (P : Params) (a : Nat) : Obj := ((x17 P).get a).getD default
noncomputable def Yf (s : Shared) : List (Option Obj) := spots.map fun a => s.heap.get? a
noncomputable def Ya (w : World) : List (Option Obj) := spots.map fun a => some (objAt w.params a)
noncomputable def YP (w : World) (h : Heap) : Prop := ∀ a ∈ spots, h.get? a = some (objAt w.params a)
theorem hY (w : World) (s : Shared) (e : Yf s = Ya w) : YP w s.heap := List.map_inj_left.mp e
theorem hYk (w : World) (h h' : Heap) (y : YP w h) (k : ∀ b o, h.get? b = some o → h'.get? b = some o) : YP w h' := fun a ha => k _ _ (y a ha)

noncomputable def H1 (P : Params) : Heap := absHeap (x17 P) 154 {}
theorem open0 : ∀ w : World, (fencedOpening treeTable pw w 20000).map (fun s => (s.heap, s.gens, s.drawn, s.toks)) = some (boot_heap w.params, #[], boot_drawn, boot_toks) :=
  boot_open (by kernel_rfl) (by decide) (fun s => by rfl)
theorem size0 (w : World) : ((boot_heap w.params).isNs mainGlobals && (#[] : Array GenState).size == 0, (boot_heap w.params).objs.size, (boot_heap w.params).nsMap mainGlobals "__annotations__") = (true, 11, ann0) := by kernel_rfl
theorem yf0 (w : World) (os : OsState) : Yf ⟨H1 w.params, #[], {}, 2336, os⟩ = Ya w := by kernel_rfl
end Mine

namespace Mine
open PySem PySem.W PySem.Calls PyProof.Rows

noncomputable abbrev sH (w : World) (os : OsState) : Shared := ⟨H1 w.params, #[], {}, 2336, os⟩
theorem lk1 (w : World) : staticsOk (importedModules pw.main.body) (boot_heap w.params) (H1 w.params) = true := by kernel_rfl
theorem lk2 (w : World) : namesBound pw (H1 w.params) = true := by kernel_rfl
theorem lk3 (w : World) (os : OsState) : gensDone (sH w os) = true := by kernel_rfl
theorem lk4 (w : World) : laidKept (boot_heap w.params) (H1 w.params) = true := by kernel_rfl
theorem lk5 (w : World) (os : OsState) : seen ((recsOf qv).map (·.name)) (ownsOf qv) [] { sH w os with gens := #[] } = expectedOf qv := by kernel_rfl
theorem lk7a (w : World) : (H1 w.params).keysOk (looseW qv looseL) ((recsOf qv).map (·.name)) ((litsOf qv).map (·.1)) ((clssOf qv (looseW qv looseL)).map (·.name)) = true := by kernel_rfl
theorem lk7b (w : World) : (H1 w.params).accountedOkI (importedModules pw.main.body) = true := by kernel_rfl
theorem lk7c (w : World) : (H1 w.params).isNs mainGlobals = true := by kernel_rfl
theorem lk7d (w : World) : (H1 w.params).isNs builtinsNs = true := by kernel_rfl
theorem lk7e (w : World) : tablesOk qv (H1 w.params) = true := by kernel_rfl
theorem lk8 (w : World) (os : OsState) : tabsOk qv (sH w os) = true := by kernel_rfl
theorem lk9 (w : World) (os : OsState) : pinSeenD qv (drecsOf qv) (sH w os) = pinGoodD (drecsOf qv) := by kernel_rfl
theorem lk10 (w : World) (os : OsState) : plainSeenE qv (looseW qv looseL) (sH w os) = plainGoodE qv (looseW qv looseL) := by kernel_rfl
theorem lk11 (w : World) (os : OsState) : plainSeenD qv looseL (sH w os) = plainGoodD qv looseL := by kernel_rfl
theorem lk12 (w : World) (os : OsState) : wideSeen qv (sH w os) = wideGood qv := by kernel_rfl
theorem lk13 (w : World) (os : OsState) : clsSeenW qv looseL (sH w os) = clsGoodW qv looseL := by kernel_rfl
theorem lk6 (w : World) : (H1 w.params).bltView = bltViewBooted := by kernel_rfl

theorem seen0 (w : World) (os : OsState) : openSeen qv looseL (importedModules pw.main.body) (fun _ => true) true (sH w os) = openGood qv looseL := by
  unfold openSeen openGood
  refine looks_pair (lk5 w os) (looks_pair (lk6 w) (looks_pair ?_ (looks_pair (lk8 w os) (looks_pair (lk9 w os) (looks_pair (lk10 w os) (looks_pair (lk11 w os) (looks_pair (lk12 w os) (lk13 w os))))))))
  have b := lk7b w
  have c := lk7c w
  have d := lk7d w
  have e := lk7e w
  have a := lk7a w
  show ((H1 w.params).keysOk _ _ _ _ && (H1 w.params).accountedOkI _ && (H1 w.params).isNs mainGlobals && (H1 w.params).isNs builtinsNs && tablesOk qv (H1 w.params) && true && ((#[] : Array GenState).size == 0)) = true
  rw [a, b, c, d, e]
  rfl
theorem looks0 (w : World) : (fun os => ((staticsOk (importedModules pw.main.body) (boot_heap w.params) (H1 w.params) && namesBound pw (H1 w.params) && gensDone ⟨H1 w.params, #[], {}, 2336, os⟩ && laidKept (boot_heap w.params) (H1 w.params)),
      openSeen qv looseL (importedModules pw.main.body) (fun _ => true) true ⟨H1 w.params, #[], {}, 2336, os⟩, Yf ⟨H1 w.params, #[], {}, 2336, os⟩)) = fun _ => (true, openGood qv looseL, Ya w) := by
  funext os
  refine looks_pair ?_ (looks_pair (seen0 w os) (yf0 w os))
  rw [lk1 w, lk2 w, lk4 w, lk3 w os]
  rfl
theorem run0 (w : World) (os : OsState) : topRun treeTable pw w 11 ann0 14296 ⟨boot_heap w.params, #[], boot_drawn, boot_toks, os⟩ (topStub pw) = some ⟨H1 w.params, #[], {}, 2336, os⟩ := runAll w os
theorem left0 : LeftO pw qv looseL (fun _ => true) Yf Ya 20000 :=
  LeftO.of_pieces (H₀ := boot_heap) (H₁ := H1) (gs₀ := #[]) (gs₁ := #[]) (d₀ := boot_drawn) (d₁ := {}) (k₀ := boot_toks) (k₁ := 2336) (m₀ := 11) (ann := ann0) (M := 14296) open0 size0 run0 (by decide) looks0
end Mine

namespace Mine
open PySem PySem.W PySem.Calls PyProof.Rows

noncomputable def esOf : Data → Array DictEntry
  | .dict es _ => es
  | _ => #[]
noncomputable def fdOf : Data → FuncData
  | .func f => f
  | _ => default
noncomputable def fieldsOf : Data → Array Value
  | .fields vs => vs
  | _ => #[]
noncomputable def setOf : Data → Array (Int × Value)
  | .set es _ _ => es
  | _ => #[]
noncomputable def tabOf : Data → SetTable
  | .set _ _ t => t
  | _ => default
noncomputable def epOf : Data → Nat
  | .dict _ n => n
  | .set _ n _ => n
  | _ => 0
noncomputable def tkOf : Option Value → Tok
  | some (.str _ t) => t
  | _ => 0
noncomputable def mgP (P : Params) (x : Str) : Option Value := nsFind (esOf (objAt P 3).data) x

theorem data3 (P : Params) : (objAt P 3).data = .dict (esOf (objAt P 3).data) (epOf (objAt P 3).data) := by kernel_rfl
theorem mg_eq {w : World} {h : Heap} {mg : Str → Option Value} (g : h.Ns mainGlobals mg) (y : YP w h) (x : Str) : mg x = mgP w.params x := by
  obtain ⟨o, es, ep, h1, h2, _, h4⟩ := g
  have e : h.get? 3 = some (objAt w.params 3) := y 3 (by decide)
  have e' : h.get? 3 = some o := h1
  rw [e] at e'
  obtain rfl := Option.some.inj e'
  rw [← h4 x]
  rw [data3] at h2
  obtain ⟨rfl, -⟩ := Data.dict.inj h2
  rfl

structure FnSpot (P : Params) (i a c : Nat) : Prop where
  name : mgP P (fnName (topS i)) = some (.ref a)
  data : (objAt P a).data = .func (docDef (fnName (topS i)) (fnArgs (topS i)) (fnBody (topS i)) (fnScope (topS i)) (fdOf (objAt P a).data).pyModule (fdOf (objAt P a).data).code (fdOf (objAt P a).data).doc)
  code : (fdOf (objAt P a).data).code = .ref c
  rcd : (objAt P c).data = .fields (fieldsOf (objAt P c).data)
  tag : (fieldsOf (objAt P c).data)[1]? = some (.str (fnName (topS i)) (tkOf (fieldsOf (objAt P c).data)[1]?))
  here : spots.contains a = true
  there : spots.contains c = true
theorem FnSpot.at {w : World} {h : Heap} {mg : Str → Option Value} {i a c : Nat} (S : FnSpot w.params i a c) (g : h.Ns mainGlobals mg) (y : YP w h) : FnAt mg h (topS i) :=
  ⟨a, _, _, _, _, (mg_eq g y _).trans S.name, y a (List.contains_iff_mem.mp S.here), S.data, c, _, _, _, S.code, y c (List.contains_iff_mem.mp S.there), S.rcd, S.tag⟩

theorem fspot1 (P : Params) : FnSpot P 1 21 20 := ⟨by kernel_rfl, by kernel_rfl, by kernel_rfl, by kernel_rfl, by kernel_rfl, by decide, by decide⟩
theorem fspot2 (P : Params) : FnSpot P 2 28 27 := ⟨by kernel_rfl, by kernel_rfl, by kernel_rfl, by kernel_rfl, by kernel_rfl, by decide, by decide⟩
theorem fspot3 (P : Params) : FnSpot P 3 35 34 := ⟨by kernel_rfl, by kernel_rfl, by kernel_rfl, by kernel_rfl, by kernel_rfl, by decide, by decide⟩
theorem fspot7 (P : Params) : FnSpot P 7 67 66 := ⟨by kernel_rfl, by kernel_rfl, by kernel_rfl, by kernel_rfl, by kernel_rfl, by decide, by decide⟩
theorem fspot10 (P : Params) : FnSpot P 10 85 84 := ⟨by kernel_rfl, by kernel_rfl, by kernel_rfl, by kernel_rfl, by kernel_rfl, by decide, by decide⟩
theorem fspot12 (P : Params) : FnSpot P 12 131 130 := ⟨by kernel_rfl, by kernel_rfl, by kernel_rfl, by kernel_rfl, by kernel_rfl, by decide, by decide⟩
theorem fspot14 (P : Params) : FnSpot P 14 136 135 := ⟨by kernel_rfl, by kernel_rfl, by kernel_rfl, by kernel_rfl, by kernel_rfl, by decide, by decide⟩
theorem fspot15 (P : Params) : FnSpot P 15 143 142 := ⟨by kernel_rfl, by kernel_rfl, by kernel_rfl, by kernel_rfl, by kernel_rfl, by decide, by decide⟩
theorem fspot16 (P : Params) : FnSpot P 16 148 147 := ⟨by kernel_rfl, by kernel_rfl, by kernel_rfl, by kernel_rfl, by kernel_rfl, by decide, by decide⟩
theorem fspot17 (P : Params) : FnSpot P 17 153 152 := ⟨by kernel_rfl, by kernel_rfl, by kernel_rfl, by kernel_rfl, by kernel_rfl, by decide, by decide⟩

theorem free0 (P : Params) : mgP P "enumerate" = none ∧ mgP P "len" = none ∧ mgP P "ord" = none ∧ mgP P "range" = none ∧ mgP P "list" = none ∧ mgP P "sum" = none ∧ mgP P "sorted" = none ∧ mgP P "zip" = none :=
  ⟨by kernel_rfl, by kernel_rfl, by kernel_rfl, by kernel_rfl, by kernel_rfl, by kernel_rfl, by kernel_rfl, by kernel_rfl⟩

theorem base0 {w : World} {mg mb : Str → Option Value} {h : Heap} (g : h.Ns mainGlobals mg) (b : h.Ns builtinsNs mb) (nl : h.NoLimit) (bb : ∀ x : Str, x ≠ "__name__" → mb x = bootBuiltins x) (y : YP w h) : Base mg mb h where
  g := g
  b := b
  nolimit := nl
  bb := bb
  free := fun x hx => by
    rw [mg_eq g y x]
    obtain ⟨h1, h2, h3, h4, h5, h6, h7, h8⟩ := free0 w.params
    simp only [freeNames, List.mem_cons, List.not_mem_nil, or_false] at hx
    rcases hx with rfl | rfl | rfl | rfl | rfl | rfl | rfl | rfl <;> assumption
  fn := fun i hi => by
    simp only [fnIdx, List.mem_cons, List.not_mem_nil, or_false] at hi
    rcases hi with rfl | rfl | rfl | rfl | rfl | rfl | rfl | rfl | rfl | rfl
    · exact (fspot1 _).at g y
    · exact (fspot2 _).at g y
    · exact (fspot3 _).at g y
    · exact (fspot7 _).at g y
    · exact (fspot10 _).at g y
    · exact (fspot12 _).at g y
    · exact (fspot14 _).at g y
    · exact (fspot15 _).at g y
    · exact (fspot16 _).at g y
    · exact (fspot17 _).at g y
end Mine

namespace Mine
open PySem PySem.W PySem.Calls PyProof.Rows

noncomputable def chkE (e : Int × Value) : Bool := match e.2 with
  | .int k _ => (e.1 == hashInt k) && e.2.scannable
  | _ => false
theorem set_data (P : Params) : (objAt P 75).data = .set (setOf (objAt P 75).data) (epOf (objAt P 75).data) (tabOf (objAt P 75).data) := by kernel_rfl
theorem set_cls (P : Params) : (objAt P 75).cls = .type "set" := by kernel_rfl
theorem set_dict (P : Params) : (objAt P 75).dict = none := by kernel_rfl
theorem set_slots (P : Params) : (objAt P 75).slots = #[] := by kernel_rfl
theorem set_elems (P : Params) : (setOf (objAt P 75).data).toList.all chkE = true := by kernel_rfl
theorem set_size (P : Params) : (setOf (objAt P 75).data).size = 27 := by kernel_rfl
theorem set_fits (P : Params) : (tabOf (objAt P 75).data).fits 27 = true := by kernel_rfl
theorem set_name (P : Params) : mgP P "b1_set" = some (.ref 75) := by kernel_rfl
theorem set_173 (P : Params) : (setOf (objAt P 75).data).toList.any (fun e => Value.isInt 173 e.2) = true := by kernel_rfl
noncomputable def sE (P : Params) (c : Int) : Bool := (setOf (objAt P 75).data).toList.any (fun e => Value.isInt c e.2)
theorem set_not (P : Params) : sE P 64259 = false ∧ sE P 64257 = false ∧ sE P 223 = false ∧ sE P 70 = false ∧ sE P 73 = false ∧ sE P 383 = false :=
  ⟨by kernel_rfl, by kernel_rfl, by kernel_rfl, by kernel_rfl, by kernel_rfl, by kernel_rfl⟩

theorem dict_name (P : Params) : mgP P "b3_exceptions" = some (.ref 86) := by kernel_rfl
theorem dict_obj (P : Params) : objAt P 86 = dObj E11 := by kernel_rfl
noncomputable def fE (k : Int) : Option Value := findBy Value.isInt E11.toArray k
theorem f1 : fE 64259 = some (.str "ffi" (tkOf (fE 64259))) := by kernel_rfl
theorem f2 : fE 64257 = some (.str "fi" (tkOf (fE 64257))) := by kernel_rfl
theorem f3 : fE 223 = some (.str "ss" (tkOf (fE 223))) := by kernel_rfl
theorem f4 : fE 383 = some (.str "s" (tkOf (fE 383))) := by kernel_rfl
theorem ps_asc100 : asc 100 ps = true := by decide +kernel
theorem E11_key {e : DictEntry} (he : e ∈ E11) : ∃ x ∈ ps, ∃ t, e.key = .int x.1 t ∧ e.hash = hashInt x.1 := by
  rw [ps_split]
  unfold E11 at he
  rcases List.mem_append.mp he with he | he
  · rcases List.mem_append.mp he with he | he
    · obtain ⟨x, hx, r⟩ := ents_mem he; exact ⟨x, List.mem_append_left _ hx, r⟩
    · obtain ⟨x, hx, r⟩ := ents_mem he; exact ⟨x, List.mem_append_right _ (List.mem_append_left _ hx), r⟩
  · obtain ⟨x, hx, r⟩ := entsE_mem he; exact ⟨x, List.mem_append_right _ (List.mem_append_right _ hx), r⟩
theorem fE_low {k : Int} (hk : k ≤ 100) : fE k = none := by
  unfold fE findBy
  rw [Option.map_eq_none_iff, Array.find?_eq_none]
  intro e he
  obtain ⟨x, hx, t, h1, _⟩ := E11_key (by simpa using he)
  have := (asc_gt ps 100 ps_asc100 x hx).1
  rw [h1]
  show ¬ (x.1 == k) = true
  simp only [beq_iff_eq]
  omega
theorem f5 : fE 70 = none := fE_low (by decide)
theorem f6 : fE 73 = none := fE_low (by decide)

theorem tabs0 {w : World} {mg : Str → Option Value} {h : Heap} (g : h.Ns mainGlobals mg) (y : YP w h) : Tabs w mg h where
  set := by
    refine ⟨75, fun k => (setOf (objAt w.params 75).data).toList.any (fun e => Value.isInt k e.2), 27, (mg_eq g y _).trans (set_name _), ⟨_, _, _, _, y 75 (by decide), ⟨set_cls _, set_dict _, set_slots _⟩, set_data _, ?_, ?_, ?_, ?_, set_size _⟩, set_173 _, ?_⟩
    · intro e he
      have := List.all_eq_true.mp (set_elems w.params) e he
      obtain ⟨hsh, v⟩ := e
      cases v <;> simp only [chkE, Bool.false_eq_true] at this
      rename_i k t
      simp only [Bool.and_eq_true, beq_iff_eq] at this
      exact ⟨⟨k, by show (k == k) = true; exact beq_self_eq_true k, this.1⟩, this.2⟩
    · intro k
      rw [List.any_eq_true]
      rfl
    · rw [set_size]; decide
    · rw [set_size]; exact set_fits _
    · intro c hc
      obtain ⟨h1, h2, h3, h4, h5, h6⟩ := set_not w.params
      simp only [List.mem_cons, List.not_mem_nil, or_false] at hc
      rcases hc with rfl | rfl | rfl | rfl | rfl | rfl <;> assumption
  dict := by
    refine ⟨86, fE, (mg_eq g y _).trans (dict_name _), by decide, ⟨_, _, _, (y 86 (by decide)).trans (congrArg some (dict_obj _)), ⟨rfl, rfl, rfl⟩, rfl, ?_, fun k => rfl⟩, ⟨_, f1⟩, ⟨_, f2⟩, ⟨_, f3⟩, ⟨_, f4⟩, f5, f6⟩
    intro e he
    obtain ⟨x, _, t, h1, h2⟩ := E11_key (by simpa using he)
    exact ⟨x.1, by rw [h1]; show (x.1 == x.1) = true; exact beq_self_eq_true _, h2⟩

theorem walk0 {d : DefRec} {kwd : List (Str × PySem.Expr)} (hn : d.name = fnName (topS 17)) : WalkO qv looseL (fun _ _ => True) YP PySem.Challenge.rw_wk0039_01.row.toRowW d kwd fun f vs => PySem.call f vs := by
  intro w s₀ s₁ mg mb G Y fa o pm cd doc dV kV ho hd hcd hD hmg hg args vals as hpre hlay hrd hwl hlo
  have B := base0 G.T.g G.T.b G.T.nolimit G.T.builtins Y
  have T := tabs0 G.T.g Y
  have hf : FnIs s₁.heap 17 fa := by
    obtain ⟨a, o, pm, cd, doc, h1, h2, h3, h4⟩ := B.fn 17 (by decide)
    rw [hn, h1] at hmg
    obtain rfl : a = fa := by injection hmg with e; injection e
    exact ⟨o, pm, cd, doc, h2, h3, h4⟩
  have hgens : AllBare s₁.gens := AllBare.of_eq hg
  clear G Y ho hd hcd hD hmg hn hg
  wrow_args hpre hlay hrd hwl hlo
  rename_i ns _ _ _ _ _ _ _ l vs _ hL _ _ _ hI _ hlen _
  refine law_call B T hf rfl (by decide) (by decide) hgens hL hI (by omega) fun h' gs tk hx hb => ?_
  refine ⟨.inl ⟨.bool true, .bool true, [], rfl, raisesW_false (by wrow_none_raised), .bool _, ?_, fun _ => ⟨List.nodup_nil, fun a ha => nomatch ha⟩⟩, ⟨fun b o e => .inl (hx b o e), fun b o e => ⟨o, hx b o e⟩⟩, rfl, hb⟩
  wrow_post
end Mine

open PySem PySem.W PySem.Calls PyProof.Rows

theorem PySem.Challenge.cw_wk0039_01_holds : PySem.Challenge.rw_wk0039_01.Holds := by
  w_on
  o_law
  refine holds_open (q := Mine.qv) (loose := Mine.looseL) (Xt := fun _ => true) (XP := fun _ _ => True) (Yf := Mine.Yf) (Ya := Mine.Ya) (YP := Mine.YP) (N := 20000) Mine.left0 Mine.hY Mine.hYk (fun _ _ => trivial) (fun _ _ _ _ _ => trivial)
    (by rfl) (by rfl) (by rfl) (fun s _ => recFacts_nil rfl) (by rfl) (by first | assumption | decide +kernel) (by decide +kernel) ⟨rfl, rfl, rfl, rfl, rfl, by decide +kernel⟩ ?hw ?hc
  case hw => w_witness2
  case hc => exact Mine.walk0 rfl
