import PyProof.Rows.All
import Wide.All
import OpenK.AllK
import Wide.FinOn
import Lean
import PySem.Challenge.RW_rw0012_02
section
open PySem PySem.W PySem.Calls PyProof.Rows
set_option Elab.async false
set_option maxRecDepth 100000
namespace Mine
/-- the world's params, two rows of the text told -/
noncomputable def parF (w : World) (b1 b2 : Bool) : Params := { w.params with followText := fun r => match Nat.beq (PySem.code r) 10139888712337904147300001983332972444938612 with
  | true => b1
  | false => match Nat.beq (PySem.code r) 2510650655181157320538776789020469319833841985448949215332 with
    | true => b2
    | false => w.params.followText r }
theorem parF_ex (w : World) : ∃ b1 b2, w.params = parF w b1 b2 := by
  refine ⟨w.params.followText "special-get-raises", w.params.followText "comprehension-iter-twice", ?_⟩
  have key : (fun r => match Nat.beq (PySem.code r) 10139888712337904147300001983332972444938612 with
    | true => w.params.followText "special-get-raises"
    | false => match Nat.beq (PySem.code r) 2510650655181157320538776789020469319833841985448949215332 with
      | true => w.params.followText "comprehension-iter-twice"
      | false => w.params.followText r) = w.params.followText := by
    funext r
    split
    · rename_i e
      rw [PySem.code_inj r "special-get-raises" ((Nat.eq_of_beq_eq_true e).trans (by decide +kernel))]
    · split
      · rename_i e
        rw [PySem.code_inj r "comprehension-iter-twice" ((Nat.eq_of_beq_eq_true e).trans (by decide +kernel))]
      · rfl
  unfold parF
  rw [key]
noncomputable def denF : Code → Sem PySem.Fin := PySem.W.Fast.tw11892475500146522536 PySem.W.Fast.tw14364793385576792824
theorem denF_eq (c : Code) : denF c = denote table c := by
  unfold denF
  rw [← PySem.W.Fast.te11892475500146522536, ← PySem.W.Fast.te14364793385576792824, ← PySem.table_eq_tree]
noncomputable def compiledOf (fd : FuncData) : Sem Str := match fd.code with
  | .none => pure fd.qualname
  | c => field c 1 >>= fun v => match v with
    | .str q _ => pure q
    | _ => pure fd.qualname
noncomputable def envPre (self : Addr) (fd : FuncData) (args : Args) : Sem Env :=
  compiledOf fd >>= fun compiled => bindArgs fd args >>= fun b => newFunctionEnv fd.scope fd.globals fd.closure b (compiled ++ ".<locals>.") (some self) fd.code none fd.builtins
noncomputable def bodyCode (fd : FuncData) (env : Env) : Code := match fd.body with
  | .stmts b => .func b env
  | .expr e => .expr e env
noncomputable def callPre (self : Addr) (fd : FuncData) (args : Args) : Sem PySem.Fin := envPre self fd args >>= fun env => pure (.again (bodyCode fd env))
noncomputable def callPreF (self : Addr) (fd : FuncData) (args : Args) : Sem PySem.Fin := PySem.W.R.bindR (PySem.W.R.bindR (match fd.code with
    | .none => Sem.pure fd.qualname
    | c => PySem.W.R.bindR (PySem.W.Fast.tw6609576154772507232 c 1) fun v => match v with
      | .str q _ => Sem.pure q
      | _ => Sem.pure fd.qualname) fun compiled => PySem.W.R.bindR (PySem.W.Fast.tw9782568553167038054 fd args) fun b =>
      PySem.W.Fast.tw11113344188204177931 fd.scope fd.globals fd.closure b (compiled ++ ⟨#[46, 60, 108, 111, 99, 97, 108, 115, 62, 46]⟩) (some self) fd.code none fd.builtins) fun env => Sem.pure (.again (bodyCode fd env))
theorem callPreF_eq (self : Addr) (fd : FuncData) (args : Args) : callPre self fd args = callPreF self fd args := by
  unfold callPreF
  rw [← PySem.W.Fast.te6609576154772507232, ← PySem.W.Fast.te9782568553167038054, ← PySem.W.Fast.te11113344188204177931, ← PySem.W.R.bindR_eq]
  unfold callPre envPre compiledOf
  have e : (".<locals>." : Str) = ⟨#[46, 60, 108, 111, 99, 97, 108, 115, 62, 46]⟩ := by decide +kernel
  rw [e]
  cases fd.code <;> rfl
section
variable {prog : Program} {w : World} {A : Around} {s : Shared} {R : Result → Shared → Prop}
theorem wpAny_unmap {α β : Type} {M : Model} {m : Sem α} {f : α → β} {Q : β → Shared → Prop} {E : Value → Shared → Prop} (h : wpAny M A (m >>= fun a => pure (f a)) Q E s) : wpAny M A m (fun a s' => Q (f a) s') E s := fun Γ p hΓ => by
  have z := h Γ p hΓ
  rw [Sem.wp_bind'] at z
  exact z
theorem under_call (f : Value) (args : Args) : A.under (.call f args) = A.in1 := Around.under_plain rfl rfl
theorem enter {a : Addr} {args : Args} {fd : FuncData} {o : Obj} (ho : s.heap.get? a = some o) (hd : o.data = .func fd) (hco : fd.scope.isCoroutine = false) (hgen : fd.scope.isGenerator = false) (hroom : A.depth < recursionLimit)
    (h : wpAny (model prog w) A.in1 (callPreF a fd args) (fun fin s' => s'.heap.NoLimit ∧ ∃ c, fin = .again c ∧ codeAny (model prog w) A c R s') (fun e s' => R (.error e) s') s) : codeAny (model prog w) A (.call (.ref a) args) R s := by
  rw [← callPreF_eq] at h
  refine codeAny_of_tree ?_
  rw [under_call]
  show wpAny _ A.in1 (callAny (.ref a) args) _ _ s
  simp only [callAny]
  refine wpAny_bind (wpAny_load ho ?_)
  have h' := wpAny_unmap h
  simp only [hd, callFunction, hco, hgen]
  have e : ∀ {β : Type} (k : Env → Sem β), (envPre a fd args >>= k) = (match fd.code with
      | .none => (pure fd.qualname >>= fun compiled => bindArgs fd args >>= fun b => newFunctionEnv fd.scope fd.globals fd.closure b (compiled ++ ".<locals>.") (some a) fd.code none fd.builtins >>= k)
      | c => field c 1 >>= fun v => match v with
        | .str q _ => (pure q >>= fun compiled => bindArgs fd args >>= fun b => newFunctionEnv fd.scope fd.globals fd.closure b (compiled ++ ".<locals>.") (some a) fd.code none fd.builtins >>= k)
        | _ => (pure fd.qualname >>= fun compiled => bindArgs fd args >>= fun b => newFunctionEnv fd.scope fd.globals fd.closure b (compiled ++ ".<locals>.") (some a) fd.code none fd.builtins >>= k)) := by
    intro β k
    unfold envPre compiledOf
    simp only [bind_assoc]
    cases fd.code <;> first | rfl | (simp only [bind_assoc]; exact congrArg (fun f => field _ 1 >>= f) (funext fun v => by cases v <;> rfl))
  refine Eq.mp (congrArg (fun t => wpAny _ _ t _ _ _) (e _)) (wpAny_bind (wpAny_mono h' (fun env s' hq => ?_) fun _ _ x => x))
  obtain ⟨hl, c, hc, hq⟩ := hq
  refine wpAny_bind (wpAny_enterFrame hl hroom ?_)
  have hc' : bodyCode fd env = c := by injection hc
  subst hc'
  unfold bodyCode at hq
  cases hb : fd.body with
  | stmts b =>
    rw [hb] at hq
    exact wpAny_pure ⟨rfl, hq⟩
  | expr b =>
    rw [hb] at hq
    exact wpAny_pure ⟨rfl, hq⟩
theorem nolimit_of {h h' : Heap} {o : Obj} (hl : h.NoLimit) (e : h.get? cStatics = some o) (e' : h'.get? cStatics = some o) : h'.NoLimit := by
  obtain ⟨mc, ⟨o', es, ep, ho, r⟩, q⟩ := hl
  rw [e] at ho
  cases ho
  exact ⟨mc, ⟨o, es, ep, e', r⟩, q⟩
end
abbrev Led := List (Nat × Obj)
inductive Ko where
  | base
  | ret (c : Code) (hd : Option Value) (k : Result → Sem PySem.Fin) (κ : Ko)
  | ent (c : Code) (hd : Option Value) (k : Result → Sem PySem.Fin) (κ : Ko)
noncomputable def heavyCodes : List Nat := [34499367154392582205858141376228982027121, 34164448288149642993773345803874539172721,   41713647484787628016756169579347595088799214957185973757273994097,   12369428779728249227399558650715630352068172622795137766105109525361,   13135363763299149819713508091208256009915499152888943479603615862885305602306929,   134773370390801707486122961109026632561, 7635746451779523968930960996981,   584958510856511464163813338410413926551395137123, 584958510856511464163809768301352877099613582947,   35714603318786955769505017188, 156123978601183140355106303843654202225,   37564162793919708992381476189232641419592844622984049, 9881949375840847474946302621387311203773037,   1954752953420486509667839219168885, 7635753724298775428390248016485, 658817450924308401064253573046708910614593500789,   2573505667673079691657240519713706682339322469,   43592447540305469358370481499844552983096817498256421391241517478836374958180,   1021693785636180792737260203462157464436348982798866235732916349039868711966808030306567044558948,   154871484668836492056588310830118406032176422784262015565000804,   665167961735618123754410473233558780167118329806981834906542116191697525,   604966736987642547096074689277415338072900099183282143523655,   154871484668836492056590666180893923152961128035820300714079847,   154871337164622183513601241057978931394509986674757276630218343,   36058833123807575479230170713117671936755512554912355, 2261905352834615600296328879592681485515455075,   32795239814362956761459727732316633922147, 8395581392478422324905090493686286438988387,   37948474676066309310571488023553429297651664247157856, 2417225208155624053365260280651445300763128928]
theorem heavyCodes_eq : heavyCodes = (heavyIds ++ guardIds).map PySem.code := by decide +kernel
noncomputable def heavyF (id : String) : Bool := heavyCodes.any (Nat.beq (PySem.code id))
theorem heavy_not {id : String} (h : heavyF id = false) : heavyIds.contains id = false ∧ guardIds.contains id = false := by
  have key : ∀ x ∈ heavyIds ++ guardIds, x ≠ id := fun x hx e => by
    have : heavyCodes.any (Nat.beq (PySem.code id)) = true := by
      rw [heavyCodes_eq, List.any_map]
      exact List.any_eq_true.mpr ⟨x, hx, by rw [e]; exact Nat.beq_refl _⟩
    rw [heavyF] at h
    rw [this] at h
    cases h
  constructor
  · cases q : heavyIds.contains id with
    | false => rfl
    | true => exact absurd rfl (key id (List.mem_append_left _ (List.contains_iff_mem.mp q)))
  · cases q : guardIds.contains id with
    | false => rfl
    | true => exact absurd rfl (key id (List.mem_append_right _ (List.contains_iff_mem.mp q)))
theorem light_weight {id : String} (h : heavyF id = false) (args : Args) : (Code.builtin id args).weight = 0 := by
  obtain ⟨h1, h2⟩ := heavy_not h
  have hg : (Code.builtin id args).isGuard = false := h2
  simp only [heavyIds, List.contains_cons, List.contains_nil, Bool.or_false, Bool.or_eq_false_iff, beq_eq_false_iff_ne, ne_eq] at h1
  have hf : (Code.builtin id args).frames = 0 := by
    unfold Code.frames
    split <;> first | rfl | simp_all [Code.isFrame]
  have hc : (Code.builtin id args).isCreation = false := by
    unfold Code.isCreation
    split <;> first | rfl | simp_all
  have hk : (Code.builtin id args).isCaller = false := by
    unfold Code.isCaller
    split <;> first | rfl | simp_all
  simp [Code.weight, hf, hc, hg, hk]
theorem any_frames (c : Code) : c.frames ≤ 3 := by
  unfold Code.frames
  split <;> first | decide | (split <;> decide)
theorem any_weight (id : String) (args : Args) : (Code.builtin id args).weight ≤ 306 := by
  have hf := any_frames (Code.builtin id args)
  unfold Code.weight
  have : claimMargin = 300 := rfl
  (repeat' split) <;> omega
noncomputable def wF : Code → Nat
  | .builtin id _ => match heavyF id with
    | true => match Nat.beq (PySem.code id) 7635746451779523968930960996981 with
      | true => 1
      | false => 306
    | false => 0
  | .call .. => 0
  | .func .. => 1
  | .expr .. => 1
  | .body .. => 1
  | .compStart .. => 1
  | .compLoop .. => 1
  | _ => 0
theorem type_call_weight (args : Args) : (Code.builtin "type.__call__" args).weight ≤ 1 := by
  have h1 : (Code.builtin "type.__call__" args).frames = 0 := rfl
  have h2 : (Code.builtin "type.__call__" args).isGuard = false := by show guardIds.contains "type.__call__" = false; decide +kernel
  have h3 : (Code.builtin "type.__call__" args).isCaller = false := rfl
  unfold Code.weight
  rw [h1, h2, h3]
  simp only [Bool.false_eq_true, if_false]
  split <;> omega
theorem wF_le (c : Code) : c.weight ≤ wF c := by
  cases c with
  | builtin id args =>
    show _ ≤ (match heavyF id with | true => (match Nat.beq (PySem.code id) 7635746451779523968930960996981 with | true => 1 | false => 306) | false => 0)
    cases h : heavyF id with
    | true =>
      cases q : Nat.beq (PySem.code id) 7635746451779523968930960996981 with
      | true =>
        have e : id = "type.__call__" := PySem.code_inj _ _ ((Nat.eq_of_beq_eq_true q).trans (by decide +kernel))
        subst e
        exact type_call_weight args
      | false => exact any_weight id args
    | false => exact Nat.le_of_eq (light_weight h args)
  | compStart e dp it acc env =>
    have : (Code.compStart e dp it acc env).frames ≤ 1 := by unfold Code.frames; (repeat' split) <;> first | omega | simp_all
    show (Code.compStart e dp it acc env).frames + 0 + 0 + 0 ≤ 1
    omega
  | compLoop e dp it acc env =>
    have : (Code.compLoop e dp it acc env).frames ≤ 1 := by unfold Code.frames; (repeat' split) <;> first | omega | simp_all
    show (Code.compLoop e dp it acc env).frames + 0 + 0 + 0 ≤ 1
    omega
  | _ => first | exact Nat.le_refl _ | decide
noncomputable def koD : Ko → Nat
  | .base => 0
  | .ret c _ _ κ => wF c + koD κ
  | .ent c _ _ κ => wF c + koD κ
noncomputable def okm : Option Value → Bool
  | some .notImplemented => false
  | _ => true
theorem okm_ne {hd : Option Value} (h : okm hd = true) : hd ≠ some byPass := by
  rintro rfl
  exact absurd h (by decide)
noncomputable def quietF : Code → Bool := PySem.W.ZFast.zw17772548960776305114
theorem quietF_eq : PySem.Code.quiet = quietF := PySem.W.ZFast.ze17772548960776305114
inductive Out where
  | fin (f : PySem.Fin) (L : Led) (r i : Nat) (ob : List (Nat × Nat))
  | err (e : Value) (L : Led) (r i : Nat) (ob : List (Nat × Nat))
  | pend (ag : Bool) (κ : Ko) (c : Code) (hd : Option Value) (k : Result → Sem PySem.Fin) (L : Led) (r i : Nat) (ob : List (Nat × Nat))
  | bad (n a : Nat)
noncomputable def nth : Led → Nat → Option (Nat × Obj)
  | [], _ => none
  | p :: _, 0 => some p
  | _ :: l, n + 1 => nth l n
noncomputable def upd : Led → Nat → Obj → Led
  | [], _, _ => []
  | p :: l, 0, o => (p.1, o) :: l
  | p :: l, n + 1, o => p :: upd l n o
noncomputable def hdOf : Ko → Option Value
  | .base => none
  | .ret _ hd _ κ => hd.or (hdOf κ)
  | .ent _ hd _ κ => hd.or (hdOf κ)
noncomputable def isFn : Code → Bool
  | .call (.ref _) _ => true
  | _ => false
noncomputable def fnOf (o : Obj) : Option FuncData := match o.data with
  | .func fd => match fd.scope.isCoroutine with
    | true => none
    | false => match fd.scope.isGenerator with
      | true => none
      | false => some fd
  | _ => none
theorem fnOf_eq {o : Obj} {fd : FuncData} (h : fnOf o = some fd) : o.data = .func fd ∧ fd.scope.isCoroutine = false ∧ fd.scope.isGenerator = false := by
  unfold fnOf at h
  split at h
  · rename_i fd' e
    split at h
    · cases h
    · rename_i hc
      split at h
      · cases h
      · rename_i hg
        cases h
        exact ⟨e, hc, hg⟩
  · cases h
/-- how a code is begun: as the script says -/
inductive Nx where
  | stop
  | go (sc : List Nat) (t : Sem PySem.Fin) (ob : List (Nat × Nat))
  | ent (sc : List Nat) (t : Sem PySem.Fin) (ob : List (Nat × Nat))
  | bad (n a : Nat)
noncomputable def enterN (κ : Ko) (a : Addr) (o : Obj) (args : Args) (sc : List Nat) (ob : List (Nat × Nat)) : Nx := match fnOf o with
  | some fd => match Nat.blt (koD κ) 200 with
    | true => .ent sc (callPreF a fd args) ob
    | false => .bad 15 0
  | none => .bad 16 a
noncomputable def startC (den : Code → Sem PySem.Fin) (kt : Nat → Option Obj) (κ : Ko) (c : Code) (auto : Bool) (sc : List Nat) (L : Led) (ob : List (Nat × Nat)) : Nx := match auto with
  | true => .go sc (den c) ob
  | false => match sc with
    | [] => .stop
    | j :: sc => match j with
      | 0 => .stop
      | j + 1 => match j with
        | 0 => .go sc (den c) ob
        | _ + 1 => match c with
          | .call f args => match f with
            | .ref a => match sc with
              | [] => .bad 13 a
              | j :: sc => match j with
                | 0 => match kt a with
                  | some o => enterN κ a o args sc ob
                  | none => .bad 2 a
                | j + 1 => match nth L j with
                  | some p => enterN κ a p.2 args sc ((a, p.1) :: ob)
                  | none => .bad 3 j
            | _ => .bad 14 0
          | _ => .bad 14 1
/-- the machine: single steps of the trees, loads by the script -/
noncomputable def run (den : Code → Sem PySem.Fin) (P : Setting) (kt : Nat → Option Obj) (B t0 : Nat) :
    Nat → List Nat → Ko → Sem PySem.Fin → Led → Nat → Nat → List (Nat × Nat) → Out
  | 0, _, _, _, _, _, _, _ => .bad 0 0
  | n + 1, sc, κ, t, L, r, i, ob => match t with
    | .pure f => match κ with
      | .base => .fin f L r i ob
      | .ret _ hd k κ => match f with
        | .done fl => run den P kt B t0 n sc κ (k (.ok fl)) L r i ob
        | .again c' => match quietF c' with
          | true => match startC den kt κ c' (!isFn c') sc L ob with
            | .stop => .pend true κ c' hd k L r i ob
            | .go sc t ob => run den P kt B t0 n sc (.ret c' hd k κ) t L r i ob
            | .ent sc t ob => run den P kt B t0 n sc (.ent c' hd k κ) t L r i ob
            | .bad x a => .bad x a
          | false => .bad 8 0
      | .ent _ hd k κ => match f with
        | .done _ => .bad 17 0
        | .again c' => run den P kt B t0 n sc (.ret c' hd k κ) (den c') L r i ob
    | .raise e => match κ with
      | .base => .err e L r i ob
      | .ret _ _ k κ => run den P kt B t0 n sc κ (k (.error e)) L r i ob
      | .ent _ _ k κ => run den P kt B t0 n sc κ (k (.error e)) L r i ob
    | .rule _ k => run den P kt B t0 n sc κ (k ()) L r i ob
    | .at _ k => run den P kt B t0 n sc κ (k ()) L r i ob
    | .point _ k => run den P kt B t0 n sc κ (k ()) L r i ob
    | .ask k => run den P kt B t0 n sc κ (k P) L r i ob
    | .fresh k => run den P kt B t0 n sc κ (k (t0 + i)) L r (i + 1) ob
    | .handled own k => match own with
      | false => run den P kt B t0 n sc κ (k (hdOf κ)) L r i ob
      | true => .bad 10 0
    | .load a _ k => match sc with
      | [] => .bad 1 a
      | j :: sc => match j with
        | 0 => match kt a with
          | some o => run den P kt B t0 n sc κ (k o) L r i ob
          | none => .bad 2 a
        | j + 1 => match nth L j with
          | some p => run den P kt B t0 n sc κ (k p.2) L r i ((a, p.1) :: ob)
          | none => .bad 3 j
    | .loadIfAlive a k => match sc with
      | [] => .bad 1 a
      | j :: sc => match j with
        | 0 => match kt a with
          | some o => run den P kt B t0 n sc κ (k (some o)) L r i ob
          | none => .bad 2 a
        | j + 1 => match nth L j with
          | some p => run den P kt B t0 n sc κ (k (some p.2)) L r i ((a, p.1) :: ob)
          | none => .bad 3 j
    | .update a _ f k => match sc with
      | [] => .bad 5 a
      | j :: sc => match j with
        | 0 => .bad 5 a
        | j + 1 => match nth L j with
          | some p => match (f p.2).isFreed with
            | true => .bad 4 a
            | false => run den P kt B t0 n sc κ (k ()) (upd L j (f p.2)) r i ((a, p.1) :: ob)
          | none => .bad 3 j
    | .alloc o k => match o.isFreed with
      | true => .bad 4 0
      | false => run den P kt B t0 n sc κ (k (B + r)) (L ++ [(B + r, o)]) (r + 1) i ob
    | .call c hd _ _ k => match okm hd with
      | true => match startC den kt κ c false sc L ob with
        | .stop => .pend false κ c hd k L r i ob
        | .go sc t ob => run den P kt B t0 n sc (.ret c hd k κ) t L r i ob
        | .ent sc t ob => run den P kt B t0 n sc (.ent c hd k κ) t L r i ob
        | .bad x a => .bad x a
      | false => .bad 11 0
    | .unsupported _ => .bad 6 0
    | .stack _ => .bad 12 0
    | _ => .bad 7 0
noncomputable def outOb : Out → List (Nat × Nat)
  | .fin _ _ _ _ ob => ob
  | .err _ _ _ _ ob => ob
  | .pend _ _ _ _ _ _ _ _ ob => ob
  | .bad .. => []
noncomputable def outL : Out → Led
  | .fin _ L _ _ _ => L
  | .err _ L _ _ _ => L
  | .pend _ _ _ _ _ L _ _ _ => L
  | .bad .. => []
noncomputable def outR : Out → Nat
  | .fin _ _ r _ _ => r
  | .err _ _ r _ _ => r
  | .pend _ _ _ _ _ _ r _ _ => r
  | .bad .. => 0
noncomputable def outI : Out → Nat
  | .fin _ _ _ i _ => i
  | .err _ _ _ i _ => i
  | .pend _ _ _ _ _ _ _ i _ => i
  | .bad .. => 0
noncomputable def outC : Out → Code
  | .pend _ _ c _ _ _ _ _ _ => c
  | _ => default
noncomputable def outH : Out → Option Value
  | .pend _ _ _ hd _ _ _ _ _ => hd
  | _ => none
noncomputable def outAg : Out → Bool
  | .pend ag _ _ _ _ _ _ _ _ => ag
  | _ => true
noncomputable def outK : Out → Result → Sem PySem.Fin
  | .pend _ _ _ _ k _ _ _ _ => k
  | _ => fun _ => .unsupported ""
noncomputable def outκ : Out → Ko
  | .pend _ κ _ _ _ _ _ _ _ => κ
  | _ => .base
noncomputable def outF : Out → PySem.Fin
  | .fin f _ _ _ _ => f
  | _ => default
noncomputable def outE : Out → Value
  | .err e _ _ _ _ => e
  | _ => .none
noncomputable def outKind : Out → Nat
  | .fin .. => 1
  | .err .. => 2
  | .pend .. => 3
  | .bad .. => 0
/-- what is known of the heap: the ledger L that the machine works on, and X that it leaves alone -/
structure Rep (kt : Nat → Option Obj) (h₀ : Heap) (mods : List Nat) (h : Heap) (B : Nat) (L X : Led) (r : Nat) : Prop where
  size : h.objs.size = B + r
  at_ : ∀ p ∈ L ++ X, h.get? p.1 = some p.2
  nd : ((L ++ X).map (·.1)).Nodup
  keep : ∀ b o, h₀.get? b = some o → b ∉ mods → h.get? b = some o
  own : ∀ p ∈ L ++ X, p.1 ∈ mods ∨ h₀.get? p.1 = none
  top : ∀ a o, kt a = some o → h₀.get? a = some o ∧ a ∉ mods
  le : h₀.objs.size ≤ h.objs.size
theorem nth_mem {L : Led} : ∀ {j : Nat} {p : Nat × Obj}, nth L j = some p → p ∈ L := by
  induction L with
  | nil => intro j p h; exact absurd (show (none : Option (Nat × Obj)) = some p from h) (by simp)
  | cons x l ih =>
    intro j p h
    cases j with
    | zero => rw [← Option.some.inj (show some x = some p from h)]; exact List.mem_cons_self
    | succ j => exact List.mem_cons_of_mem _ (ih (show nth l j = some p from h))
theorem upd_map (o : Obj) (L : Led) : ∀ (j : Nat), (upd L j o).map (·.1) = L.map (·.1) := by
  induction L with
  | nil => intro j; rfl
  | cons x l ih =>
    intro j
    cases j with
    | zero => rfl
    | succ j => show x.1 :: (upd l j o).map (·.1) = x.1 :: l.map (·.1); rw [ih j]
theorem upd_mem {o : Obj} {p q : Nat × Obj} {L : Led} : ∀ {j : Nat}, (L.map (·.1)).Nodup → nth L j = some p → q ∈ upd L j o → q = (p.1, o) ∨ (q ∈ L ∧ q.1 ≠ p.1) := by
  induction L with
  | nil => intro j _ h; exact absurd (show (none : Option (Nat × Obj)) = some p from h) (by simp)
  | cons x l ih =>
    intro j nd h hq
    have nd' := List.nodup_cons.mp (show (x.1 :: l.map (·.1)).Nodup from nd)
    cases j with
    | zero =>
      have e : x = p := Option.some.inj (show some x = some p from h)
      subst e
      rcases List.mem_cons.mp (show q ∈ (x.1, o) :: l from hq) with e | hq
      · exact .inl e
      · exact .inr ⟨List.mem_cons_of_mem _ hq, fun e => nd'.1 (e ▸ List.mem_map.mpr ⟨q, hq, rfl⟩)⟩
    | succ j =>
      have h' : nth l j = some p := h
      rcases List.mem_cons.mp (show q ∈ x :: upd l j o from hq) with e | hq
      · subst e
        exact .inr ⟨List.mem_cons_self, fun e => nd'.1 (e ▸ List.mem_map.mpr ⟨p, nth_mem h', rfl⟩)⟩
      · rcases ih nd'.2 h' hq with e | ⟨a, b⟩
        · exact .inl e
        · exact .inr ⟨List.mem_cons_of_mem _ a, b⟩
theorem upd_app (o : Obj) (X : Led) (L : Led) : ∀ {j : Nat} {p : Nat × Obj}, nth L j = some p → upd L j o ++ X = upd (L ++ X) j o ∧ nth (L ++ X) j = some p := by
  induction L with
  | nil => intro j p h; exact absurd (show (none : Option (Nat × Obj)) = some p from h) (by simp)
  | cons x l ih =>
    intro j p h
    cases j with
    | zero => exact ⟨rfl, h⟩
    | succ j =>
      have := ih (show nth l j = some p from h)
      exact ⟨by show x :: (upd l j o ++ X) = x :: upd (l ++ X) j o; rw [this.1], this.2⟩
section
variable {kt : Nat → Option Obj} {h₀ h : Heap} {mods : List Nat} {B : Nat} {L X : Led} {r : Nat}
theorem Rep.get (D : Rep kt h₀ mods h B L X r) {j : Nat} {p : Nat × Obj} (e : nth L j = some p) : h.get? p.1 = some p.2 := D.at_ p (List.mem_append_left _ (nth_mem e))
theorem Rep.kt_ (D : Rep kt h₀ mods h B L X r) {a : Nat} {o : Obj} (e : kt a = some o) : h.get? a = some o := D.keep a o (D.top a o e).1 (D.top a o e).2
theorem Rep.perm (D : Rep kt h₀ mods h B L X r) {L' X' : Led} (p : (L ++ X).Perm (L' ++ X')) : Rep kt h₀ mods h B L' X' r :=
  ⟨D.size, fun q hq => D.at_ q (p.mem_iff.mpr hq), (p.map _).nodup_iff.mp D.nd, D.keep, fun q hq => D.own q (p.mem_iff.mpr hq), D.top, D.le⟩
theorem Rep.alloc (D : Rep kt h₀ mods h B L X r) {o : Obj} (hf : o.isFreed = false) : Rep kt h₀ mods (h.push o) B (L ++ [(B + r, o)]) X (r + 1) := by
  have hs := D.size
  have key : Rep kt h₀ mods (h.push o) B ((B + r, o) :: L) X (r + 1) := by
    refine ⟨by rw [Heap.size_push, hs, Nat.add_assoc], fun p hp => ?_, ?_, fun b o' e q => Heap.get?_push_of_some _ (D.keep b o' e q), fun p hp => ?_, D.top, by rw [Heap.size_push]; exact Nat.le_succ_of_le D.le⟩
    · rcases List.mem_cons.mp hp with e | hp
      · rw [e]
        show (h.push o).get? (B + r) = _
        rw [← hs]; exact Heap.get?_push_size _ hf
      · exact Heap.get?_push_of_some _ (D.at_ p hp)
    · refine List.nodup_cons.mpr ⟨fun hm => ?_, D.nd⟩
      obtain ⟨p, hp, e⟩ := List.mem_map.mp hm
      have hl : p.1 < h.objs.size := Heap.lt_size (D.at_ p hp)
      rw [hs] at hl
      exact absurd e (Nat.ne_of_lt hl)
    · rcases List.mem_cons.mp hp with e | hp
      · rw [e]
        refine .inr ?_
        cases e : h₀.get? (B + r) with
        | none => rfl
        | some o' =>
          have h1 : B + r < h₀.objs.size := Heap.lt_size e
          have h2 := D.le
          rw [hs] at h2
          exact absurd h1 (Nat.not_lt.mpr h2)
      · exact D.own p hp
  refine key.perm (List.Perm.append_right X ?_)
  exact (List.perm_append_comm (l₁ := [(B + r, o)]) (l₂ := L))
theorem Rep.update (D : Rep kt h₀ mods h B L X r) {j : Nat} {p : Nat × Obj} {f : Obj → Obj} (e : nth L j = some p) (hf : (f p.2).isFreed = false) : Rep kt h₀ mods (h.update p.1 f) B (upd L j (f p.2)) X r := by
  obtain ⟨eu, en⟩ := upd_app (f p.2) X L e
  have hp := D.get e
  have hs : Heap.SameBut p.1 h (h.update p.1 f) := Heap.SameBut.update ..
  refine ⟨by rw [hs.1, D.size], fun q hq => ?_, by rw [eu, upd_map]; exact D.nd, fun b o' e' nb => ?_, fun q hq => ?_, D.top, by rw [hs.1]; exact D.le⟩
  · rw [eu] at hq
    rcases upd_mem D.nd en hq with rfl | ⟨a, b⟩
    · first | exact Heap.get?_update_self f hp hf | exact Heap.get?_update_self _ hp hf
    · exact (hs.2 _ b).trans (D.at_ q a)
  · have ne : b ≠ p.1 := by
      rintro rfl
      rcases D.own p (nth_mem en) with q | q
      · exact nb q
      · rw [q] at e'; cases e'
    exact (hs.2 b ne).trans (D.keep b o' e' nb)
  · rw [eu] at hq
    rcases upd_mem D.nd en hq with rfl | ⟨a, _⟩
    · exact D.own p (nth_mem en)
    · exact D.own q a
end
noncomputable def around (A₀ : Around) : Ko → Around
  | .base => A₀
  | .ret c hd _ κ => ((around A₀ κ).mark hd).under c
  | .ent c hd _ κ => ((around A₀ κ).mark hd).under c
theorem around_handled {A₀ : Around} (hA : A₀.handled = none) : ∀ κ, (around A₀ κ).handled = hdOf κ
  | .base => hA
  | .ret c hd k κ => by
    show hd.or (around A₀ κ).handled = hd.or (hdOf κ)
    rw [around_handled hA κ]
  | .ent c hd k κ => by
    show hd.or (around A₀ κ).handled = hd.or (hdOf κ)
    rw [around_handled hA κ]
theorem around_depth (A₀ : Around) : ∀ κ, (around A₀ κ).depth ≤ A₀.depth + koD κ
  | .base => Nat.le_refl _
  | .ret c hd k κ => by
    show (around A₀ κ).depth + c.weight ≤ A₀.depth + (wF c + koD κ)
    have := around_depth A₀ κ
    have := wF_le c
    omega
  | .ent c hd k κ => by
    show (around A₀ κ).depth + c.weight ≤ A₀.depth + (wF c + koD κ)
    have := around_depth A₀ κ
    have := wF_le c
    omega
abbrev Post := (PySem.Fin → Shared → Prop) × (Value → Shared → Prop)
noncomputable def post (M : Model) (A₀ : Around) (Q₀ : PySem.Fin → Shared → Prop) (E₀ : Value → Shared → Prop) : Ko → Post
  | .base => (Q₀, E₀)
  | .ret _ hd k κ => (fun fin s' => match fin with
      | .done f => wpAny M (around A₀ κ) (k (.ok f)) (post M A₀ Q₀ E₀ κ).1 (post M A₀ Q₀ E₀ κ).2 s'
      | .again c' => c'.quiet = true ∧ codeAny M ((around A₀ κ).mark hd) c' (fun r s'' => wpAny M (around A₀ κ) (k r) (post M A₀ Q₀ E₀ κ).1 (post M A₀ Q₀ E₀ κ).2 s'') s',
    fun e s' => wpAny M (around A₀ κ) (k (.error e)) (post M A₀ Q₀ E₀ κ).1 (post M A₀ Q₀ E₀ κ).2 s')
  | .ent _ hd k κ => (fun fin s' => match fin with
      | .done _ => False
      | .again c' => s'.heap.NoLimit ∧ codeAny M ((around A₀ κ).mark hd) c' (fun r s'' => wpAny M (around A₀ κ) (k r) (post M A₀ Q₀ E₀ κ).1 (post M A₀ Q₀ E₀ κ).2 s'') s',
    fun e s' => wpAny M (around A₀ κ) (k (.error e)) (post M A₀ Q₀ E₀ κ).1 (post M A₀ Q₀ E₀ κ).2 s')
noncomputable def MeansD (M : Model) (A₀ : Around) (Q₀ : PySem.Fin → Shared → Prop) (E₀ : Value → Shared → Prop) (κ : Ko) (t : Sem PySem.Fin) (s : Shared) : Prop :=
  wpAny M (around A₀ κ) t (post M A₀ Q₀ E₀ κ).1 (post M A₀ Q₀ E₀ κ).2 s
section
variable {prog : Program} {w : World} {A₀ : Around} {Q₀ : PySem.Fin → Shared → Prop} {E₀ : Value → Shared → Prop} {s : Shared}
theorem means_go {c c₀ : Code} {hd hd' : Option Value} {k : Result → Sem PySem.Fin} {κ : Ko}
    (h : MeansD (model prog w) A₀ Q₀ E₀ (.ret c hd k κ) (denote table c) s) : codeAny (model prog w) ((around A₀ κ).mark hd) c (fun r s'' => MeansD (model prog w) A₀ Q₀ E₀ κ (k r) s'') s := by
  let _ := c₀; let _ := hd'
  refine codeAny_of_tree (wpAny_mono h (fun fin s' hf => ?_) fun _ _ e => e)
  cases fin with
  | done f => exact hf
  | again c' => exact hf
/-- a call from within -/
noncomputable def callW (M : Model) (A : Around) (hd : Option Value) (c : Code) (R : Result → Shared → Prop) (s : Shared) : Prop := ∀ (Γ : Ctx) (p : Pos), Γ.In A → wpCode M (Γ.enter c hd p) R p s
theorem callW_of {M : Model} {A : Around} {hd : Option Value} {c : Code} {R : Result → Shared → Prop} {s : Shared} (hm : okm hd = true) (h : codeAny M (A.mark hd) c R s) : callW M A hd c R s :=
  fun Γ p hΓ => h _ p rfl (hΓ.enter c hd p (okm_ne hm))
theorem means_callW {c : Code} {hd : Option Value} {g : Bool} {l : List Value} {k : Result → Sem PySem.Fin} {κ : Ko}
    (h : callW (model prog w) (around A₀ κ) hd c (fun r s'' => MeansD (model prog w) A₀ Q₀ E₀ κ (k r) s'') s) : MeansD (model prog w) A₀ Q₀ E₀ κ (.call c hd g l k) s :=
  fun Γ p hΓ => wpCode_mono (fun _ _ hr => hr Γ p hΓ) (h Γ p hΓ)
theorem callW_call {M : Model} {A : Around} {f : Value} {pos : List Value} {kw : List (Str × Value)} {Q : Value → Shared → Prop} {E : Value → Shared → Prop} {R : Result → Shared → Prop} {s : Shared}
    (h : wpAny M A (call f pos kw) Q E s) (hQ : ∀ v s', Q v s' → R (.ok (.ret v)) s') (hE : ∀ e s', E e s' → R (.error e) s') : callW M A none (.call f ⟨pos, kw⟩) R s := by
  intro Γ p hΓ
  have z := h Γ p hΓ
  unfold PySem.call at z
  rw [Sem.wp_runValue] at z
  refine wpCode_mono (fun r s' hr => ?_) z
  cases r with
  | ok f => cases f <;> first | exact hQ _ _ hr | exact hr.elim
  | error e => exact hE _ _ hr
theorem means_call {c : Code} {hd : Option Value} {g : Bool} {l : List Value} {k : Result → Sem PySem.Fin} {κ : Ko} (hm : okm hd = true)
    (h : codeAny (model prog w) ((around A₀ κ).mark hd) c (fun r s'' => MeansD (model prog w) A₀ Q₀ E₀ κ (k r) s'') s) : MeansD (model prog w) A₀ Q₀ E₀ κ (.call c hd g l k) s :=
  PySem.W.X.x_call h (okm_ne hm)
variable {kt : Nat → Option Obj} {h₀ : Heap} {mods : List Nat} {X : Led} {B t0 : Nat} {g : Array GenState} {d : Drawn} {os : OsState}
noncomputable def OutOk (prog : Program) (w : World) (A₀ : Around) (Q₀ : PySem.Fin → Shared → Prop) (E₀ : Value → Shared → Prop) (kt : Nat → Option Obj) (h₀ : Heap) (mods : List Nat) (X : Led) (B t0 : Nat) (g : Array GenState) (d : Drawn) (os : OsState) : Out → Prop
  | .fin f L r i ob => (∀ q ∈ ob, q.1 = q.2) ∧ ∀ h, Rep kt h₀ mods h B L X r → Q₀ f ⟨h, g, d, t0 + i, os⟩
  | .err e L r i ob => (∀ q ∈ ob, q.1 = q.2) ∧ ∀ h, Rep kt h₀ mods h B L X r → E₀ e ⟨h, g, d, t0 + i, os⟩
  | .pend ag κ c hd k L r i ob => (∀ q ∈ ob, q.1 = q.2) ∧ okm hd = true ∧ ∀ h, Rep kt h₀ mods h B L X r → match ag with
      | true => codeAny (model prog w) ((around A₀ κ).mark hd) c (fun r s'' => MeansD (model prog w) A₀ Q₀ E₀ κ (k r) s'') ⟨h, g, d, t0 + i, os⟩
      | false => callW (model prog w) (around A₀ κ) hd c (fun r s'' => MeansD (model prog w) A₀ Q₀ E₀ κ (k r) s'') ⟨h, g, d, t0 + i, os⟩
  | .bad .. => False
theorem OutOk.ob : ∀ {o : Out}, OutOk prog w A₀ Q₀ E₀ kt h₀ mods X B t0 g d os o → ∀ q ∈ outOb o, q.1 = q.2
  | .fin .., h => h.1
  | .err .., h => h.1
  | .pend .., h => h.1
  | .bad .., h => h.elim
theorem ent_ob {κ : Ko} {f : Addr} {o : Obj} {args : Args} {sc sc' : List Nat} {ob ob' : List (Nat × Nat)} {t : Sem PySem.Fin} (h : enterN κ f o args sc ob = .ent sc' t ob') :
    ob' = ob ∧ ∃ fd, fnOf o = some fd ∧ koD κ < 200 ∧ t = callPreF f fd args := by
  unfold enterN at h
  split at h
  · rename_i fd hf
    split at h
    · rename_i q
      cases h
      exact ⟨rfl, fd, hf, Nat.le_of_ble_eq_true q, rfl⟩
    · cases h
  · cases h
theorem ent_go {κ : Ko} {f : Addr} {o : Obj} {args : Args} {sc sc' : List Nat} {ob ob' : List (Nat × Nat)} {t : Sem PySem.Fin} : enterN κ f o args sc ob ≠ .go sc' t ob' := by
  unfold enterN
  intro h
  (repeat' split at h) <;> cases h
theorem start_go {den : Code → Sem PySem.Fin} {κ : Ko} {c : Code} {au : Bool} {sc sc' : List Nat} {L : Led} {ob ob' : List (Nat × Nat)} {t : Sem PySem.Fin}
    (h : startC den kt κ c au sc L ob = .go sc' t ob') : t = den c ∧ ob' = ob := by
  unfold startC at h
  (repeat' split at h) <;> first | (cases h; exact ⟨rfl, rfl⟩) | (cases h; done) | exact absurd h ent_go
theorem start_ent {den : Code → Sem PySem.Fin} {κ : Ko} {c : Code} {au : Bool} {sc sc' : List Nat} {L : Led} {ob ob' : List (Nat × Nat)} {t : Sem PySem.Fin}
    (h : startC den kt κ c au sc L ob = .ent sc' t ob') : ∃ a args o fd, c = .call (.ref a) args ∧ fnOf o = some fd ∧ koD κ < 200 ∧ t = callPreF a fd args ∧
      ((ob' = ob ∧ kt a = some o) ∨ ∃ j p, nth L j = some p ∧ p.2 = o ∧ ob' = (a, p.1) :: ob) := by
  unfold startC at h
  cases au with
  | true => cases h
  | false =>
    cases sc with
    | nil => cases h
    | cons j sc => cases j with
      | zero => cases h
      | succ j => cases j with
        | zero => cases h
        | succ j => cases c with
          | call f args => cases f with
            | ref a => cases sc with
              | nil => cases h
              | cons j sc => cases j with
                | zero =>
                  simp only at h
                  split at h
                  · rename_i o e
                    obtain ⟨e1, fd, hf, hk, ht⟩ := ent_ob h
                    exact ⟨a, args, o, fd, rfl, hf, hk, ht, .inl ⟨e1, e⟩⟩
                  · cases h
                | succ j =>
                  simp only at h
                  split at h
                  · rename_i p e
                    obtain ⟨e1, fd, hf, hk, ht⟩ := ent_ob h
                    exact ⟨a, args, p.2, fd, rfl, hf, hk, ht, .inr ⟨j, p, e, rfl, e1⟩⟩
                  · cases h
            | _ => cases h
          | _ => cases h
theorem run_ob (den : Code → Sem PySem.Fin) (P : Setting) :
    ∀ (n : Nat) (sc : List Nat) (κ : Ko) (t : Sem PySem.Fin) (L : Led) (r i : Nat) (ob : List (Nat × Nat)),
      OutOk prog w A₀ Q₀ E₀ kt h₀ mods X B t0 g d os (run den P kt B t0 n sc κ t L r i ob) → ∀ q ∈ ob, q.1 = q.2
  | 0, _, _, _, _, _, _, _ => fun h => h.elim
  | n + 1, sc, κ, t, L, r, i, ob => by
    intro h
    have IH := run_ob den P n
    have st : ∀ {c : Code} {au : Bool} {sc' : List Nat} {t' : Sem PySem.Fin} {ob' : List (Nat × Nat)}, startC den kt κ c au sc L ob = .ent sc' t' ob' → (∀ q ∈ ob', q.1 = q.2) → ∀ q ∈ ob, q.1 = q.2 := by
      intro c au sc' t' ob' e hq q hm
      obtain ⟨_, _, _, _, _, _, _, _, z⟩ := start_ent e
      rcases z with ⟨z, _⟩ | ⟨_, _, _, _, z⟩
      · exact hq q (z ▸ hm)
      · exact hq q (z ▸ List.mem_cons_of_mem _ hm)
    cases t with
    | pure f => cases κ with
      | base => exact h.1
      | ret c hd k κ => cases f with
        | done fl => exact IH _ _ _ _ _ _ _ h
        | again c' =>
          simp only [run] at h
          split at h
          · split at h
            · exact h.1
            · rename_i e
              obtain ⟨rfl, rfl⟩ := start_go e
              exact IH _ _ _ _ _ _ _ h
            · rename_i e
              obtain ⟨_, _, _, _, _, _, _, _, z⟩ := start_ent e
              have hq := IH _ _ _ _ _ _ _ h
              rcases z with ⟨z, _⟩ | ⟨_, _, _, _, z⟩
              · exact fun q hm => hq q (z ▸ hm)
              · exact fun q hm => hq q (z ▸ List.mem_cons_of_mem _ hm)
            · exact h.elim
          · exact h.elim
      | ent c hd k κ => cases f with
        | done fl => exact h.elim
        | again c' => exact IH _ _ _ _ _ _ _ h
    | raise e => cases κ with
      | base => exact h.1
      | ret c hd k κ => exact IH _ _ _ _ _ _ _ h
      | ent c hd k κ => exact IH _ _ _ _ _ _ _ h
    | rule tg k => exact IH _ _ _ _ _ _ _ h
    | «at» p k => exact IH _ _ _ _ _ _ _ h
    | point l k => exact IH _ _ _ _ _ _ _ h
    | ask k => exact IH _ _ _ _ _ _ _ h
    | fresh k => exact IH _ _ _ _ _ _ _ h
    | handled own k => cases own with
      | false => exact IH _ _ _ _ _ _ _ h
      | true => exact h.elim
    | load a q k => cases sc with
      | nil => exact h.elim
      | cons j sc => cases j with
        | zero =>
          simp only [run] at h
          split at h
          · exact IH _ _ _ _ _ _ _ h
          · exact h.elim
        | succ j =>
          simp only [run] at h
          split at h
          · exact fun q hq => IH _ _ _ _ _ _ _ h q (.tail _ hq)
          · exact h.elim
    | loadIfAlive a k => cases sc with
      | nil => exact h.elim
      | cons j sc => cases j with
        | zero =>
          simp only [run] at h
          split at h
          · exact IH _ _ _ _ _ _ _ h
          · exact h.elim
        | succ j =>
          simp only [run] at h
          split at h
          · exact fun q hq => IH _ _ _ _ _ _ _ h q (.tail _ hq)
          · exact h.elim
    | update a q f k => cases sc with
      | nil => exact h.elim
      | cons j sc => cases j with
        | zero => exact h.elim
        | succ j =>
          simp only [run] at h
          split at h
          · split at h
            · exact h.elim
            · exact fun q hq => IH _ _ _ _ _ _ _ h q (.tail _ hq)
          · exact h.elim
    | alloc o k =>
      simp only [run] at h
      split at h
      · exact h.elim
      · exact IH _ _ _ _ _ _ _ h
    | call c hd gd l k =>
      simp only [run] at h
      split at h
      · split at h
        · exact h.1
        · rename_i e
          obtain ⟨rfl, rfl⟩ := start_go e
          exact IH _ _ _ _ _ _ _ h
        · rename_i e
          exact st e (IH _ _ _ _ _ _ _ h)
        · exact h.elim
      · exact h.elim
    | _ => exact h.elim
theorem run_sound {den : Code → Sem PySem.Fin} (hden : ∀ c, den c = denote table c) (hA : A₀.handled = none) (hroom : A₀.depth + 200 < recursionLimit) (hl : h₀.NoLimit) {lo : Obj} (hkl : kt cStatics = some lo) :
    ∀ (n : Nat) (sc : List Nat) (κ : Ko) (t : Sem PySem.Fin) (L : Led) (r i : Nat) (ob : List (Nat × Nat)) (h : Heap), Rep kt h₀ mods h B L X r →
      OutOk prog w A₀ Q₀ E₀ kt h₀ mods X B t0 g d os (run den ⟨prog, w.params⟩ kt B t0 n sc κ t L r i ob) →
      MeansD (model prog w) A₀ Q₀ E₀ κ t ⟨h, g, d, t0 + i, os⟩
  | 0, _, _, _, _, _, _, _, _, _ => fun H => H.elim
  | n + 1, sc, κ, t, L, r, i, ob, h, D => by
    intro H
    have IH := fun sc κ t L r i ob h => run_sound hden hA hroom hl hkl n sc κ t L r i ob h
    -- a function is entered
    have ent : ∀ {κ : Ko} {c : Code} {au : Bool} {hd : Option Value} {k : Result → Sem PySem.Fin} {sc' : List Nat} {t' : Sem PySem.Fin} {ob' : List (Nat × Nat)}, startC den kt κ c au sc L ob = .ent sc' t' ob' →
        OutOk prog w A₀ Q₀ E₀ kt h₀ mods X B t0 g d os (run den ⟨prog, w.params⟩ kt B t0 n sc' (.ent c hd k κ) t' L r i ob') →
        codeAny (model prog w) ((around A₀ κ).mark hd) c (fun r s'' => MeansD (model prog w) A₀ Q₀ E₀ κ (k r) s'') ⟨h, g, d, t0 + i, os⟩ := by
      intro κ c au hd k sc' t' ob' e H
      obtain ⟨a, args, o, fd, ec, hf, hk, ht, z⟩ := start_ent e
      have ho : h.get? a = some o := by
        rcases z with ⟨_, z⟩ | ⟨j, p, z1, z2, z3⟩
        · exact D.kt_ z
        · have ea : a = p.1 := run_ob den _ n _ _ _ _ _ _ _ H (a, p.1) (by rw [z3]; exact List.mem_cons_self)
          rw [ea, ← z2]; exact D.get z1
      obtain ⟨hd1, hd2, hd3⟩ := fnOf_eq hf
      have M := IH _ _ _ _ _ _ _ _ D H
      subst ec ht
      have hdep : ((around A₀ κ).mark hd).depth < recursionLimit := by
        have := around_depth A₀ κ
        show (around A₀ κ).depth < _
        omega
      refine enter ho hd1 hd2 hd3 hdep ?_
      have M' : wpAny (model prog w) (((around A₀ κ).mark hd).under (.call (.ref a) args)) (callPreF a fd args) (post (model prog w) A₀ Q₀ E₀ (.ent (.call (.ref a) args) hd k κ)).1 (post (model prog w) A₀ Q₀ E₀ (.ent (.call (.ref a) args) hd k κ)).2 ⟨h, g, d, t0 + i, os⟩ := M
      rw [under_call] at M'
      refine wpAny_mono M' (fun fin s' hf => ?_) fun e s' he => he
      cases fin with
      | done f => exact hf.elim
      | again c' => exact ⟨hf.1, c', rfl, hf.2⟩
    cases t with
    | pure f => cases κ with
      | base => exact wpAny_pure (H.2 h D)
      | ret c hd k κ => cases f with
        | done fl => exact wpAny_pure (IH _ _ _ _ _ _ _ _ D H)
        | again c' =>
          simp only [run] at H
          split at H
          · rename_i q
            rw [← quietF_eq] at q
            split at H
            · exact wpAny_pure ⟨q, H.2.2 h D⟩
            · rename_i e
              obtain ⟨rfl, rfl⟩ := start_go e
              rw [hden] at H
              exact wpAny_pure ⟨q, means_go (c₀ := c') (hd' := none) (IH _ _ _ _ _ _ _ _ D H)⟩
            · rename_i e
              exact wpAny_pure ⟨q, ent e H⟩
            · exact H.elim
          · exact H.elim
      | ent c hd k κ => cases f with
        | done fl => exact H.elim
        | again c' =>
          have H' : OutOk prog w A₀ Q₀ E₀ kt h₀ mods X B t0 g d os (run den ⟨prog, w.params⟩ kt B t0 n sc (.ret c' hd k κ) (den c') L r i ob) := H
          rw [hden] at H'
          exact wpAny_pure ⟨nolimit_of hl (D.top _ _ hkl).1 (D.kt_ hkl), means_go (c₀ := c') (hd' := none) (IH _ _ _ _ _ _ _ _ D H')⟩
    | raise e => cases κ with
      | base => exact wpAny_throw (H.2 h D)
      | ret c hd k κ => exact wpAny_throw (IH _ _ _ _ _ _ _ _ D H)
      | ent c hd k κ => exact wpAny_throw (IH _ _ _ _ _ _ _ _ D H)
    | rule tg k => exact PySem.W.X.x_rule (IH _ _ _ _ _ _ _ _ D H)
    | «at» p k => exact PySem.W.X.x_at (IH _ _ _ _ _ _ _ _ D H)
    | point l k => exact PySem.W.X.x_point (IH _ _ _ _ _ _ _ _ D H)
    | ask k => exact PySem.W.X.x_ask (IH _ _ _ _ _ _ _ _ D H)
    | fresh k => exact PySem.W.X.x_fresh (IH _ _ _ _ _ _ _ _ D H)
    | handled own k => cases own with
      | false =>
        refine PySem.W.X.x_handled ?_
        rw [around_handled hA]
        exact IH _ _ _ _ _ _ _ _ D H
      | true => exact H.elim
    | load a q k => cases sc with
      | nil => exact H.elim
      | cons j sc => cases j with
        | zero =>
          simp only [run] at H
          split at H
          · rename_i o e
            exact PySem.W.X.x_load (D.kt_ e) (IH _ _ _ _ _ _ _ _ D H)
          · exact H.elim
        | succ j =>
          simp only [run] at H
          split at H
          · rename_i p e
            have ea : a = p.1 := run_ob den _ n _ _ _ _ _ _ _ H (a, p.1) (.head _)
            exact PySem.W.X.x_load (by rw [ea]; exact D.get e) (IH _ _ _ _ _ _ _ _ D H)
          · exact H.elim
    | loadIfAlive a k => cases sc with
      | nil => exact H.elim
      | cons j sc => cases j with
        | zero =>
          simp only [run] at H
          split at H
          · rename_i o e
            have z := IH _ _ _ _ _ _ _ _ D H
            intro Γ p hΓ
            show Sem.wp _ Γ (k (h.get? a)) _ _ p _
            rw [D.kt_ e]
            exact z Γ p hΓ
          · exact H.elim
        | succ j =>
          simp only [run] at H
          split at H
          · rename_i p e
            have ea : a = p.1 := run_ob den _ n _ _ _ _ _ _ _ H (a, p.1) (.head _)
            have z := IH _ _ _ _ _ _ _ _ D H
            intro Γ q hΓ
            show Sem.wp _ Γ (k (h.get? a)) _ _ q _
            rw [ea, D.get e]
            exact z Γ q hΓ
          · exact H.elim
    | update a q f k => cases sc with
      | nil => exact H.elim
      | cons j sc => cases j with
        | zero => exact H.elim
        | succ j =>
          simp only [run] at H
          split at H
          · rename_i p e
            split at H
            · exact H.elim
            · rename_i hf
              have ea : a = p.1 := run_ob den _ n _ _ _ _ _ _ _ H (a, p.1) (.head _)
              have z := IH _ _ _ _ _ _ _ _ (D.update e hf) H
              subst ea
              exact wpAny_bind (m := updatePart p.1 q f) (f := k) (wpAny_updatePart (D.get e) z)
          · exact H.elim
    | alloc o k =>
      simp only [run] at H
      split at H
      · exact H.elim
      · rename_i hf
        have z := IH _ _ _ _ _ _ _ _ (D.alloc hf) H
        refine wpAny_bind (m := PySem.alloc o) (f := k) (wpAny_alloc ?_)
        show wpAny _ _ (k h.objs.size) _ _ _
        rw [D.size]
        exact z
    | call c hd gd l k =>
      simp only [run] at H
      split at H
      · rename_i hm
        split at H
        · exact means_callW (H.2.2 h D)
        · rename_i e
          obtain ⟨rfl, rfl⟩ := start_go e
          rw [hden] at H
          exact means_call hm (means_go (c₀ := c) (hd' := none) (IH _ _ _ _ _ _ _ _ D H))
        · rename_i e
          exact means_call hm (ent e H)
        · exact H.elim
      · exact H.elim
    | _ => exact H.elim
end
section
variable {prog : Program} {w : World} {A₀ : Around} {Q₀ : PySem.Fin → Shared → Prop} {E₀ : Value → Shared → Prop} {s : Shared}
variable {kt : Nat → Option Obj} {h₀ h : Heap} {mods : List Nat} {B t0 : Nat} {g : Array GenState} {d : Drawn} {os : OsState} {L X : Led} {κ : Ko} {t : Sem PySem.Fin} {r i : Nat}
theorem mark_none (A : Around) : A.mark none = A := by cases A; simp [Around.mark]
/-- the room that a run asks -/
structure Fit (n : Nat) (A : Around) (kt : Nat → Option Obj) (h₀ : Heap) : Prop where
  handled : A.handled = none
  room : A.depth + (200 + n) < recursionLimit
  nolimit : h₀.NoLimit
  statics : ∃ lo, kt cStatics = some lo
theorem ob_ok {ob : List (Nat × Nat)} (hb : ob.map (·.1) = ob.map (·.2)) : ∀ q ∈ ob, q.1 = q.2 := by
  induction ob with
  | nil => intro q hq; cases hq
  | cons x l ih =>
    simp only [List.map_cons, List.cons.injEq] at hb
    intro q hq
    rcases List.mem_cons.mp hq with rfl | hq
    · exact hb.1
    · exact ih hb.2 q hq
theorem out_cases (o : Out) : (∃ ag κ c hd k L r i ob, o = .pend ag κ c hd k L r i ob) ∨ (∃ f L r i ob, o = .fin f L r i ob) ∨ (outKind o ≠ 1 ∧ outKind o ≠ 3) := by
  cases o with
  | pend ag κ c hd k L r i ob => exact .inl ⟨_, _, _, _, _, _, _, _, _, rfl⟩
  | fin f L r i ob => exact .inr (.inl ⟨_, _, _, _, _, rfl⟩)
  | err => exact .inr (.inr ⟨(show (2 : Nat) ≠ 1 by decide), (show (2 : Nat) ≠ 3 by decide)⟩)
  | bad => exact .inr (.inr ⟨(show (0 : Nat) ≠ 1 by decide), (show (0 : Nat) ≠ 3 by decide)⟩)
/-- a stretch up to a call of a def or a loop (a contract on codeAny) -/
theorem segL0 (n : Nat) (sc : List Nat) (c : Code) (D : Rep kt h₀ mods h B L X r) {m₀ : Nat} (hA : Fit m₀ A₀ kt h₀) {b1 b2 : Bool} (hw : w.params = parF w b1 b2)
    (H : let o := run denF ⟨prog, parF w b1 b2⟩ kt B t0 n sc κ t L r i []
      outKind o = 3 ∧ outH o = none ∧ outC o = c ∧ (outOb o).map (·.1) = (outOb o).map (·.2) ∧
      ∀ h', Rep kt h₀ mods h' B (outL o) X (outR o) → codeAny (model prog w) (around A₀ (outκ o)) c (fun r s'' => MeansD (model prog w) A₀ Q₀ E₀ (outκ o) (outK o r) s'') ⟨h', g, d, t0 + outI o, os⟩) :
    MeansD (model prog w) A₀ Q₀ E₀ κ t ⟨h, g, d, t0 + i, os⟩ := by
  rw [← hw] at H
  obtain ⟨hA1, hA2', hA3, lo, hA4⟩ := hA
  have hA2 : A₀.depth + 200 < recursionLimit := by omega
  refine run_sound (i := i) denF_eq hA1 hA2 hA3 hA4 n sc κ t L r [] h D (kt := kt) (h₀ := h₀) (mods := mods) (B := B) (t0 := t0) (g := g) (d := d) (os := os) ?_
  generalize run denF ⟨prog, w.params⟩ kt B t0 n sc κ t L r i [] = o at H
  obtain ⟨hk, hh, hc, hb, H⟩ := H
  rcases out_cases o with ⟨ag, κ', c', hd', k', L', r', i', ob', rfl⟩ | ⟨f, L', r', i', ob', rfl⟩ | ⟨_, q⟩
  · have e1 : hd' = none := hh
    have e2 : c' = c := hc
    subst e1 e2
    refine ⟨ob_ok hb, rfl, fun h' D' => ?_⟩
    have z := H h' D'
    have z' : codeAny (model prog w) ((around A₀ κ').mark none) c' (fun r s'' => MeansD (model prog w) A₀ Q₀ E₀ κ' (k' r) s'') ⟨h', g, d, t0 + i', os⟩ := by rw [mark_none]; exact z
    cases ag with
    | true => exact z'
    | false => exact callW_of rfl z'
  · exact absurd (show (1 : Nat) = 3 from hk) (by decide)
  · exact absurd hk q
/-- a stretch up to a call of a built-in (a rule on callW) -/
theorem segW0 (n : Nat) (sc : List Nat) (c : Code) (D : Rep kt h₀ mods h B L X r) {m₀ : Nat} (hA : Fit m₀ A₀ kt h₀) {b1 b2 : Bool} (hw : w.params = parF w b1 b2)
    (H : let o := run denF ⟨prog, parF w b1 b2⟩ kt B t0 n sc κ t L r i []
      outKind o = 3 ∧ outH o = none ∧ outAg o = false ∧ outC o = c ∧ (outOb o).map (·.1) = (outOb o).map (·.2) ∧
      ∀ h', Rep kt h₀ mods h' B (outL o) X (outR o) → callW (model prog w) (around A₀ (outκ o)) none c (fun r s'' => MeansD (model prog w) A₀ Q₀ E₀ (outκ o) (outK o r) s'') ⟨h', g, d, t0 + outI o, os⟩) :
    MeansD (model prog w) A₀ Q₀ E₀ κ t ⟨h, g, d, t0 + i, os⟩ := by
  rw [← hw] at H
  obtain ⟨hA1, hA2', hA3, lo, hA4⟩ := hA
  have hA2 : A₀.depth + 200 < recursionLimit := by omega
  refine run_sound (i := i) denF_eq hA1 hA2 hA3 hA4 n sc κ t L r [] h D (kt := kt) (h₀ := h₀) (mods := mods) (B := B) (t0 := t0) (g := g) (d := d) (os := os) ?_
  generalize run denF ⟨prog, w.params⟩ kt B t0 n sc κ t L r i [] = o at H
  obtain ⟨hk, hh, ha, hc, hb, H⟩ := H
  rcases out_cases o with ⟨ag, κ', c', hd', k', L', r', i', ob', rfl⟩ | ⟨f, L', r', i', ob', rfl⟩ | ⟨_, q⟩
  · have e1 : hd' = none := hh
    have e2 : c' = c := hc
    have e3 : ag = false := ha
    subst e1 e2 e3
    exact ⟨ob_ok hb, rfl, H⟩
  · exact absurd (show (1 : Nat) = 3 from hk) (by decide)
  · exact absurd hk q
/-- a stretch up to its end -/
theorem segF0 (n : Nat) (sc : List Nat) (f : PySem.Fin) (D : Rep kt h₀ mods h B L X r) {m₀ : Nat} (hA : Fit m₀ A₀ kt h₀) {b1 b2 : Bool} (hw : w.params = parF w b1 b2)
    (H : let o := run denF ⟨prog, parF w b1 b2⟩ kt B t0 n sc κ t L r i []
      outKind o = 1 ∧ outF o = f ∧ (outOb o).map (·.1) = (outOb o).map (·.2) ∧
      ∀ h', Rep kt h₀ mods h' B (outL o) X (outR o) → Q₀ f ⟨h', g, d, t0 + outI o, os⟩) :
    MeansD (model prog w) A₀ Q₀ E₀ κ t ⟨h, g, d, t0 + i, os⟩ := by
  rw [← hw] at H
  obtain ⟨hA1, hA2', hA3, lo, hA4⟩ := hA
  have hA2 : A₀.depth + 200 < recursionLimit := by omega
  refine run_sound (i := i) denF_eq hA1 hA2 hA3 hA4 n sc κ t L r [] h D (kt := kt) (h₀ := h₀) (mods := mods) (B := B) (t0 := t0) (g := g) (d := d) (os := os) ?_
  generalize run denF ⟨prog, w.params⟩ kt B t0 n sc κ t L r i [] = o at H
  obtain ⟨hk, hc, hb, H⟩ := H
  rcases out_cases o with ⟨ag, κ', c', hd', k', L', r', i', ob', rfl⟩ | ⟨f', L', r', i', ob', rfl⟩ | ⟨q, _⟩
  · exact absurd (show (3 : Nat) = 1 from hk) (by decide)
  · have e2 : f' = f := hc
    subst e2
    exact ⟨ob_ok hb, H⟩
  · exact absurd hk q
/-- a stretch up to an exception at the base -/
theorem segE0 (n : Nat) (sc : List Nat) (f : Value) (D : Rep kt h₀ mods h B L X r) {m₀ : Nat} (hA : Fit m₀ A₀ kt h₀) {b1 b2 : Bool} (hw : w.params = parF w b1 b2)
    (H : let o := run denF ⟨prog, parF w b1 b2⟩ kt B t0 n sc κ t L r i []
      outKind o = 2 ∧ outE o = f ∧ (outOb o).map (·.1) = (outOb o).map (·.2) ∧
      ∀ h', Rep kt h₀ mods h' B (outL o) X (outR o) → E₀ f ⟨h', g, d, t0 + outI o, os⟩) :
    MeansD (model prog w) A₀ Q₀ E₀ κ t ⟨h, g, d, t0 + i, os⟩ := by
  rw [← hw] at H
  obtain ⟨hA1, hA2', hA3, lo, hA4⟩ := hA
  have hA2 : A₀.depth + 200 < recursionLimit := by omega
  refine run_sound (i := i) denF_eq hA1 hA2 hA3 hA4 n sc κ t L r [] h D (kt := kt) (h₀ := h₀) (mods := mods) (B := B) (t0 := t0) (g := g) (d := d) (os := os) ?_
  generalize run denF ⟨prog, w.params⟩ kt B t0 n sc κ t L r i [] = o at H
  obtain ⟨hk, hc, hb, H⟩ := H
  cases o with
  | err e' L' r' i' ob' =>
    have e2 : e' = f := hc
    subst e2
    exact ⟨ob_ok hb, H⟩
  | fin => exact absurd (show (1 : Nat) = 2 from hk) (by decide)
  | pend => exact absurd (show (3 : Nat) = 2 from hk) (by decide)
  | bad => exact absurd (show (0 : Nat) = 2 from hk) (by decide)
end
/-- the same, closed: the elaborator does not look into it -/
structure Means (M : Model) (A₀ : Around) (Q₀ : PySem.Fin → Shared → Prop) (E₀ : Value → Shared → Prop) (κ : Ko) (t : Sem PySem.Fin) (s : Shared) : Prop where
  out : MeansD M A₀ Q₀ E₀ κ t s
section
variable {prog : Program} {w : World} {A₀ : Around} {Q₀ : PySem.Fin → Shared → Prop} {E₀ : Value → Shared → Prop} {s : Shared}
variable {kt : Nat → Option Obj} {h₀ h : Heap} {mods : List Nat} {B t0 : Nat} {g : Array GenState} {d : Drawn} {os : OsState} {L X : Led} {κ : Ko} {t : Sem PySem.Fin} {r i : Nat}
theorem callW_mono {M : Model} {A : Around} {hd : Option Value} {c : Code} {R R' : Result → Shared → Prop} {s : Shared} (h : callW M A hd c R s) (hr : ∀ r s, R r s → R' r s) : callW M A hd c R' s :=
  fun Γ p hΓ => wpCode_mono hr (h Γ p hΓ)
theorem segL (n : Nat) (sc : List Nat) (c : Code) (D : Rep kt h₀ mods h B L X r) {m₀ : Nat} (hA : Fit m₀ A₀ kt h₀) {b1 b2 : Bool} (hw : w.params = parF w b1 b2)
    (H : let o := run denF ⟨prog, parF w b1 b2⟩ kt B t0 n sc κ t L r i []
      outKind o = 3 ∧ outH o = none ∧ outC o = c ∧ (outOb o).map (·.1) = (outOb o).map (·.2) ∧
      ∀ h', Rep kt h₀ mods h' B (outL o) X (outR o) → codeAny (model prog w) (around A₀ (outκ o)) c (fun r s'' => Means (model prog w) A₀ Q₀ E₀ (outκ o) (outK o r) s'') ⟨h', g, d, t0 + outI o, os⟩) :
    Means (model prog w) A₀ Q₀ E₀ κ t ⟨h, g, d, t0 + i, os⟩ :=
  ⟨segL0 n sc c D hA hw ⟨H.1, H.2.1, H.2.2.1, H.2.2.2.1, fun h' D' => codeAny_mono (H.2.2.2.2 h' D') fun _ _ hr => hr.out⟩⟩
theorem segW (n : Nat) (sc : List Nat) (c : Code) (D : Rep kt h₀ mods h B L X r) {m₀ : Nat} (hA : Fit m₀ A₀ kt h₀) {b1 b2 : Bool} (hw : w.params = parF w b1 b2)
    (H : let o := run denF ⟨prog, parF w b1 b2⟩ kt B t0 n sc κ t L r i []
      outKind o = 3 ∧ outH o = none ∧ outAg o = false ∧ outC o = c ∧ (outOb o).map (·.1) = (outOb o).map (·.2) ∧
      ∀ h', Rep kt h₀ mods h' B (outL o) X (outR o) → callW (model prog w) (around A₀ (outκ o)) none c (fun r s'' => Means (model prog w) A₀ Q₀ E₀ (outκ o) (outK o r) s'') ⟨h', g, d, t0 + outI o, os⟩) :
    Means (model prog w) A₀ Q₀ E₀ κ t ⟨h, g, d, t0 + i, os⟩ :=
  ⟨segW0 n sc c D hA hw ⟨H.1, H.2.1, H.2.2.1, H.2.2.2.1, H.2.2.2.2.1, fun h' D' => callW_mono (H.2.2.2.2.2 h' D') fun _ _ hr => hr.out⟩⟩
theorem segF (n : Nat) (sc : List Nat) (f : PySem.Fin) (D : Rep kt h₀ mods h B L X r) {m₀ : Nat} (hA : Fit m₀ A₀ kt h₀) {b1 b2 : Bool} (hw : w.params = parF w b1 b2)
    (H : let o := run denF ⟨prog, parF w b1 b2⟩ kt B t0 n sc κ t L r i []
      outKind o = 1 ∧ outF o = f ∧ (outOb o).map (·.1) = (outOb o).map (·.2) ∧
      ∀ h', Rep kt h₀ mods h' B (outL o) X (outR o) → Q₀ f ⟨h', g, d, t0 + outI o, os⟩) :
    Means (model prog w) A₀ Q₀ E₀ κ t ⟨h, g, d, t0 + i, os⟩ := ⟨segF0 n sc f D hA hw H⟩
theorem segE (n : Nat) (sc : List Nat) (f : Value) (D : Rep kt h₀ mods h B L X r) {m₀ : Nat} (hA : Fit m₀ A₀ kt h₀) {b1 b2 : Bool} (hw : w.params = parF w b1 b2)
    (H : let o := run denF ⟨prog, parF w b1 b2⟩ kt B t0 n sc κ t L r i []
      outKind o = 2 ∧ outE o = f ∧ (outOb o).map (·.1) = (outOb o).map (·.2) ∧
      ∀ h', Rep kt h₀ mods h' B (outL o) X (outR o) → E₀ f ⟨h', g, d, t0 + outI o, os⟩) :
    Means (model prog w) A₀ Q₀ E₀ κ t ⟨h, g, d, t0 + i, os⟩ := ⟨segE0 n sc f D hA hw H⟩
theorem means_base {M : Model} (H : Means M A₀ Q₀ E₀ .base t s) : wpAny M A₀ t Q₀ E₀ s := H.out
theorem Means.add0 {M : Model} {n : Nat} (H : Means M A₀ Q₀ E₀ κ t ⟨h, g, d, n + 0, os⟩) : Means M A₀ Q₀ E₀ κ t ⟨h, g, d, n, os⟩ := H
end
/-- what a call leaves -/
structure After (h h' : Heap) (cm : List Nat) (Lo : Led) : Prop where
  keep : ∀ b o, h.get? b = some o → b ∉ cm → h'.get? b = some o
  le : h.objs.size ≤ h'.objs.size
  out : ∀ p ∈ Lo, h'.get? p.1 = some p.2
  own : ∀ p ∈ Lo, p.1 ∈ cm ∨ h.get? p.1 = none
  nd : (Lo.map (·.1)).Nodup
noncomputable def sel : List Nat → Led → Led
  | [], _ => []
  | _, [] => []
  | 0 :: m, _ :: l => sel m l
  | (_ + 1) :: m, p :: l => p :: sel m l
noncomputable def cpl : List Nat → Led → Led
  | [], l => l
  | _, [] => []
  | 0 :: m, p :: l => p :: cpl m l
  | (_ + 1) :: m, _ :: l => cpl m l
theorem sel_cpl : ∀ (m : List Nat) (l : Led), (sel m l ++ cpl m l).Perm l := by
  intro m
  induction m with
  | nil => intro l; exact List.Perm.refl _
  | cons a m ih =>
    intro l
    cases l with
    | nil => cases a <;> exact List.Perm.refl _
    | cons p l => cases a with
      | zero => exact (List.perm_middle (a := p) (l₁ := sel m l) (l₂ := cpl m l)).trans ((ih l).cons p)
      | succ a => exact (ih l).cons p
section
variable {kt : Nat → Option Obj} {h₀ h h' : Heap} {mods : List Nat} {B : Nat} {L Lo X Xp Xo Xk : Led} {r : Nat}
theorem Rep.none_of (D : Rep kt h₀ mods h B L X r) {a : Nat} (e : h.get? a = none) (nm : a ∉ mods) : h₀.get? a = none := by
  cases q : h₀.get? a with
  | none => rfl
  | some o => rw [D.keep a o q nm] at e; cases e
/-- the ledger behind a call that was handed a part P of it and left Q, K being the rest -/
theorem Rep.behind {P K Q : Led} (D : Rep kt h₀ mods h B L X r) (hp : (P ++ K).Perm (L ++ X)) (a : After h h' (P.map (·.1)) Q) {L' X' : Led} (hq : (Q ++ K).Perm (L' ++ X')) : Rep kt h₀ mods h' h'.objs.size L' X' 0 := by
  have D1 : Rep kt h₀ mods h B P K r := D.perm hp.symm
  have hsel : ∀ x ∈ P.map (·.1), x ∈ mods ∨ h₀.get? x = none := fun x hx => by
    obtain ⟨p, hp, rfl⟩ := List.mem_map.mp hx
    exact D1.own p (List.mem_append_left _ hp)
  have own' : ∀ x, x ∈ P.map (·.1) ∨ h.get? x = none → x ∈ mods ∨ h₀.get? x = none := fun x hx => by
    rcases hx with hx | hx
    · exact hsel x hx
    · by_cases q : x ∈ mods
      · exact .inl q
      · exact .inr (D1.none_of hx q)
  have nd := D1.nd
  rw [List.map_append] at nd
  obtain ⟨_, ndK, disj⟩ := List.nodup_append.mp nd
  have key : Rep kt h₀ mods h' h'.objs.size Q K 0 := by
    refine ⟨rfl, fun p hp => ?_, ?_, fun b o e nb => ?_, fun p hp => ?_, D1.top, Nat.le_trans D1.le a.le⟩
    · rcases List.mem_append.mp hp with hp | hp
      · exact a.out p hp
      · refine a.keep _ _ (D1.at_ p (List.mem_append_right _ hp)) fun hx => ?_
        exact disj _ hx _ (List.mem_map.mpr ⟨p, hp, rfl⟩) rfl
    · rw [List.map_append]
      refine List.nodup_append.mpr ⟨a.nd, ndK, fun x hx y hy => ?_⟩
      obtain ⟨p, hp, rfl⟩ := List.mem_map.mp hx
      rcases a.own p hp with z | z
      · exact disj _ z _ hy
      · intro e
        obtain ⟨q, hq, rfl⟩ := List.mem_map.mp hy
        have := D1.at_ q (List.mem_append_right _ hq)
        rw [← e, z] at this
        cases this
    · refine a.keep b o (D1.keep b o e nb) fun hx => ?_
      rcases hsel b hx with q | q
      · exact nb q
      · rw [q] at e; cases e
    · rcases List.mem_append.mp hp with hp | hp
      · exact own' p.1 (a.own p hp)
      · exact D1.own p (List.mem_append_right _ hp)
  exact key.perm hq
/-- the same, the part told by a mask; X is kept -/
theorem Rep.after (D : Rep kt h₀ mods h B L X r) (m : List Nat) (a : After h h' ((sel m L).map (·.1)) Lo) : Rep kt h₀ mods h' h'.objs.size (Lo ++ cpl m L) X 0 := by
  refine D.behind (P := sel m L) (K := cpl m L ++ X) (Q := Lo) ?_ a (List.Perm.of_eq (List.append_assoc _ _ _).symm)
  rw [← List.append_assoc]
  exact (sel_cpl m L).append_right X
theorem Rep.sub (D : Rep kt h₀ mods h B L X r) {L' X' : Led} (hs : (L' ++ X').Sublist (L ++ X)) : Rep kt h₀ mods h B L' X' r :=
  ⟨D.size, fun p hp => D.at_ p (hs.subset hp), (hs.map _).nodup D.nd, D.keep, fun p hp => D.own p (hs.subset hp), D.top, D.le⟩
/-- what a body leaves, for its caller -/
theorem Rep.done (D : Rep kt h₀ mods h B L X r) (Q K : Led) (hq : (Q ++ K).Perm (L ++ X)) : After h₀ h mods Q := by
  have D1 : Rep kt h₀ mods h B Q K r := D.perm hq.symm
  have D2 := D1.sub (L' := Q) (X' := []) (by rw [List.append_nil]; exact List.sublist_append_left _ _)
  have e : Q ++ [] = Q := List.append_nil Q
  refine ⟨D.keep, D.le, fun p hp => D2.at_ p (e.symm ▸ hp), fun p hp => D2.own p (e.symm ▸ hp), ?_⟩
  have := D2.nd
  rw [e] at this
  exact this
theorem Rep.doneM (D : Rep kt h₀ mods h B L X r) (m : List Nat) : After h₀ h mods (sel m L) := by
  refine D.done (sel m L) (cpl m L ++ X) ?_
  rw [← List.append_assoc]
  exact (sel_cpl m L).append_right X
theorem Rep.base (D : Rep kt h₀ mods h B L X r) : Rep kt h₀ mods h h.objs.size L X 0 := ⟨rfl, D.at_, D.nd, D.keep, D.own, D.top, D.le⟩
/-- the start -/
theorem Rep.start (L X : Led) (ha : ∀ p ∈ L ++ X, h.get? p.1 = some p.2) (nd : ((L ++ X).map (·.1)).Nodup) (top : ∀ a o, kt a = some o → h.get? a = some o ∧ a ∉ (L ++ X).map (·.1)) :
    Rep kt h ((L ++ X).map (·.1)) h h.objs.size L X 0 := ⟨rfl, ha, nd, fun _ _ e _ => e, fun p hp => .inl (List.mem_map.mpr ⟨p, hp, rfl⟩), top, Nat.le_refl _⟩
end
section
variable {prog : Program} {w : World} {A : Around} {s : Shared} {R : Result → Shared → Prop}
noncomputable def finQ (M : Model) (A : Around) (R : Result → Shared → Prop) : PySem.Fin → Shared → Prop := fun fin s' => match fin with
  | .done f => R (.ok f) s'
  | .again c' => c'.quiet = true ∧ codeAny M A c' R s'
noncomputable def finE (R : Result → Shared → Prop) : Value → Shared → Prop := fun e s' => R (.error e) s'
theorem code_start0 {c : Code} (h : MeansD (model prog w) (A.under c) (finQ (model prog w) A R) (finE R) .base (denF c) s) : codeAny (model prog w) A c R s := by
  refine codeAny_of_tree ?_
  have h' : wpAny (model prog w) (A.under c) (denF c) (finQ (model prog w) A R) (finE R) s := h
  rw [denF_eq] at h'
  exact wpAny_mono h' (fun fin s' hf => by cases fin <;> exact hf) fun _ _ e => e
noncomputable def kk : Result → Sem PySem.Fin
  | .ok f => .pure (.done f)
  | .error e => .raise e
noncomputable def goQ (R : Result → Shared → Prop) : PySem.Fin → Shared → Prop := fun fin s' => match fin with
  | .done f => R (.ok f) s'
  | .again _ => False
theorem base_out0 {c : Code} (z : codeAny (model prog w) A c (fun r s'' => MeansD (model prog w) A (goQ R) (finE R) .base (kk r) s'') s) : codeAny (model prog w) A c R s := by
  intro Γ p hc hΓ
  refine wpCode_mono (fun r s' hr => ?_) (z Γ p hc hΓ)
  have hin : ({ Γ with code := .block [] default } : Ctx).In A := by
    refine ⟨hΓ.1, hΓ.2.1, hΓ.2.2.1, hΓ.2.2.2.1, ?_⟩
    have := hΓ.2.2.2.2
    show (Code.block [] default).cUnits + unitsOf Γ.below ≤ A.units
    have e : (Code.block [] default).cUnits = 0 := rfl
    rw [e, Nat.zero_add]
    exact this
  have w := hr _ p hin
  cases r with
  | ok f => exact w
  | error e => exact w
theorem code_go0 {c : Code} (h : MeansD (model prog w) A (goQ R) (finE R) (.ret c none kk .base) (denF c) s) : codeAny (model prog w) A c R s := by
  rw [denF_eq] at h
  have z := means_go (c₀ := c) (hd' := none) h
  have e : (around A .base).mark none = A := mark_none A
  rw [e] at z
  exact base_out0 z
theorem code_slot {T : String} {name : Str} {id : String} {B : Builtin} {self : Value} {rest : List Value} (slot : Slot T name id) (hT : s.TypeIs self T)
    (entry : entryFor table id = some B) (args : argsOk id ⟨self :: rest, []⟩) (h : MeansD (model prog w) A.in1 (finQ (model prog w) A R) (finE R) .base (B ⟨self :: rest, []⟩) s) :
    codeAny (model prog w) A (.call (.builtin id) ⟨self :: rest, []⟩) R s :=
  codeAny_call_builtin slot.plain entry (slot.check _ _ _ _ _ _ _ _ hT args (wpAny_mono h (fun fin s' hf => by cases fin <;> exact hf) fun _ _ e => e))
theorem code_meets {T : String} {name : Str} {id : String} {B : Builtin} {self : Value} {rest : List Value} {S : PySem.Spec} (slot : Slot T name id) (hT : s.TypeIs self T)
    (entry : entryFor table id = some B) (args : argsOk id ⟨self :: rest, []⟩) (g : Meets (B ⟨self :: rest, []⟩) S) (h : S A R s) :
    codeAny (model prog w) A (.call (.builtin id) ⟨self :: rest, []⟩) R s :=
  codeAny_call_builtin slot.plain entry (slot.check _ _ _ _ _ _ _ _ hT args (g prog w A R s h))
/-- begin a call of a def -/
theorem code_ent0 {a : Addr} {args : Args} {o : Obj} {fd : FuncData} (ho : s.heap.get? a = some o) (hf : fnOf o = some fd) (hroom : A.depth < recursionLimit)
    (h : MeansD (model prog w) A (goQ R) (finE R) (.ent (.call (.ref a) args) none kk .base) (callPreF a fd args) s) : codeAny (model prog w) A (.call (.ref a) args) R s := by
  obtain ⟨hd1, hd2, hd3⟩ := fnOf_eq hf
  refine base_out0 (enter ho hd1 hd2 hd3 hroom ?_)
  have M' : wpAny (model prog w) ((A.mark none).under (.call (.ref a) args)) (callPreF a fd args) (post (model prog w) A (goQ R) (finE R) (.ent (.call (.ref a) args) none kk .base)).1 (post (model prog w) A (goQ R) (finE R) (.ent (.call (.ref a) args) none kk .base)).2 s := h
  rw [under_call, mark_none] at M'
  refine wpAny_mono M' (fun fin s' hf => ?_) fun e s' he => he
  cases fin with
  | done f => exact hf.elim
  | again c' =>
    have z : codeAny (model prog w) (A.mark none) c' (fun r s'' => MeansD (model prog w) A (goQ R) (finE R) .base (kk r) s'') s' := hf.2
    rw [mark_none] at z
    exact ⟨hf.1, c', rfl, z⟩
theorem code_start {c : Code} (h : Means (model prog w) (A.under c) (finQ (model prog w) A R) (finE R) .base (denF c) s) : codeAny (model prog w) A c R s := code_start0 h.out
theorem code_go {c : Code} (h : Means (model prog w) A (goQ R) (finE R) (.ret c none kk .base) (denF c) s) : codeAny (model prog w) A c R s := code_go0 h.out
theorem code_ent {a : Addr} {args : Args} {o : Obj} {fd : FuncData} (ho : s.heap.get? a = some o) (hf : fnOf o = some fd) (hroom : A.depth < recursionLimit)
    (h : Means (model prog w) A (goQ R) (finE R) (.ent (.call (.ref a) args) none kk .base) (callPreF a fd args) s) : codeAny (model prog w) A (.call (.ref a) args) R s := code_ent0 ho hf hroom h.out
variable {kt : Nat → Option Obj} {h₀ h : Heap} {mods : List Nat} {B t0 : Nat} {g : Array GenState} {d : Drawn} {os : OsState} {L X : Led} {κ : Ko} {t : Sem PySem.Fin} {r i : Nat}
end
section
variable {kt : Nat → Option Obj} {h₀ h : Heap} {mods : List Nat} {B : Nat} {L X : Led} {r n m : Nat} {A : Around}
theorem Fit.inner (hA : Fit n A kt h₀) (D : Rep kt h₀ mods h B L X r) (κ : Ko) (hm : Nat.ble (koD κ + m) n = true) (hh : hdOf κ = none) : Fit m (around A κ) kt h := by
  obtain ⟨h1, h2, h3, lo, h4⟩ := hA
  refine ⟨by rw [around_handled h1, hh], ?_, nolimit_of h3 (D.top _ _ h4).1 (D.kt_ h4), lo, h4⟩
  have := around_depth A κ
  have := Nat.le_of_ble_eq_true hm
  omega
theorem Fit.ar (hA : Fit n A kt h₀) (κ : Ko) (hm : Nat.ble (koD κ + m) n = true) (hh : hdOf κ = none) : Fit m (around A κ) kt h₀ := by
  obtain ⟨h1, h2, h3, lo, h4⟩ := hA
  refine ⟨by rw [around_handled h1, hh], ?_, h3, lo, h4⟩
  have := around_depth A κ
  have := Nat.le_of_ble_eq_true hm
  omega
theorem Fit.move (hA : Fit n A kt h₀) (D : Rep kt h₀ mods h B L X r) : Fit n A kt h := hA.inner D .base (by rw [show koD .base = 0 from rfl, Nat.zero_add]; exact Nat.ble_eq_true_of_le (Nat.le_refl n)) rfl
theorem Fit.less (hA : Fit n A kt h₀) (hm : Nat.ble m n = true) : Fit m A kt h₀ := by
  obtain ⟨h1, h2, h3, lo, h4⟩ := hA
  have := Nat.le_of_ble_eq_true hm
  exact ⟨h1, by omega, h3, lo, h4⟩
theorem Fit.under (hA : Fit n A kt h₀) (c : Code) (hm : Nat.ble (wF c + m) n = true) : Fit m (A.under c) kt h₀ := by
  obtain ⟨h1, h2, h3, lo, h4⟩ := hA
  refine ⟨h1, ?_, h3, lo, h4⟩
  have h5 : (A.under c).depth = A.depth + c.weight := rfl
  have := wF_le c
  have := Nat.le_of_ble_eq_true hm
  omega
theorem sel_sub : ∀ (m : List Nat) (l : Led), (sel m l).Sublist l := by
  intro m
  induction m with
  | nil => intro l; exact List.nil_sublist l
  | cons a m ih =>
    intro l
    cases l with
    | nil => cases a <;> exact List.Sublist.refl _
    | cons p l => cases a with
      | zero => exact (ih l).trans (List.sublist_cons_self p l)
      | succ a => exact (ih l).cons₂ p
theorem Rep.reX (D : Rep kt h₀ mods h B L X r) (m : List Nat) : Rep kt h ((sel m L ++ X).map (·.1)) h h.objs.size (sel m L) X 0 := by
  have D1 := D.sub (L' := sel m L) (X' := X) ((sel_sub m L).append_right X)
  refine Rep.start (sel m L) X D1.at_ D1.nd fun a o e => ⟨D.kt_ e, fun hm => ?_⟩
  obtain ⟨p, hp, rfl⟩ := List.mem_map.mp hm
  obtain ⟨e0, nm⟩ := D.top _ _ e
  rcases D1.own p hp with q | q
  · exact nm q
  · rw [q] at e0; cases e0
theorem Rep.re (D : Rep kt h₀ mods h B L X r) (m : List Nat) : Rep kt h ((sel m L).map (·.1)) h h.objs.size (sel m L) [] 0 := by
  have D1 := D.sub (L' := sel m L) (X' := []) (by rw [List.append_nil]; exact (sel_sub m L).trans (List.sublist_append_left L X))
  have z := D1.reX (m := (sel m L).map fun _ => 1)
  have e : ∀ l : Led, sel (l.map fun _ => 1) l = l := fun l => by
    induction l with
    | nil => rfl
    | cons p l ih => show p :: sel (l.map fun _ => 1) l = p :: l; rw [ih]
  rw [e, List.append_nil] at z
  exact z
/-- only what the mask tells -/
theorem Rep.keepL (D : Rep kt h₀ mods h B L X r) (m : List Nat) : Rep kt h₀ mods h h.objs.size (sel m L) X 0 := (D.sub ((sel_sub m L).append_right X)).base
end
section
variable {kt : Nat → Option Obj} {h₀ h h' : Heap} {mods : List Nat} {B : Nat} {L X Lo : Led} {r : Nat}
theorem Rep.fin (D : Rep kt h₀ mods h B L X r) (m : List Nat) {Lo : Led} (e : sel m L = Lo) : After h₀ h mods Lo := e ▸ D.doneM m
theorem Rep.only (D : Rep kt h₀ mods h B L X r) (m : List Nat) {Lo : Led} (e : sel m L = Lo) : Rep kt h₀ mods h h.objs.size Lo X 0 := e ▸ D.keepL m
/-- begin a callee on a part -/
theorem Rep.give (D : Rep kt h₀ mods h B L X r) (m : List Nat) {L' : Led} (e : sel m L = L') : Rep kt h (L'.map (·.1)) h h.objs.size L' [] 0 := e ▸ D.re m
/-- behind a callee that was given a part -/
theorem Rep.back (D : Rep kt h₀ mods h B L X r) (m : List Nat) {cm : List Nat} (e : (sel m L).map (·.1) = cm) (a : After h h' cm Lo) : Rep kt h₀ mods h' h'.objs.size (Lo ++ cpl m L) X 0 := D.after m (e ▸ a)
theorem Rep.onlyE (D : Rep kt h₀ mods h B L X r) (m : List Nat) (Lo : Led) (e : sel m L = Lo) : ∃ B', Rep kt h₀ mods h B' Lo X 0 := ⟨_, D.only m e⟩
/-- behind a callee: given by m, of what comes back and what was kept only m2 -/
theorem Rep.backE (D : Rep kt h₀ mods h B L X r) (m m2 : List Nat) {cm : List Nat} (L' : Led) (e : (sel m L).map (·.1) = cm) (a : After h h' cm Lo) (e' : sel m2 (Lo ++ cpl m L) = L') : ∃ B', Rep kt h₀ mods h' B' L' X 0 := (D.back m e a).onlyE m2 L' e'
end
/-- an entry and a frame -/
noncomputable def ent (w : World) (nm : List Nat) (t : Nat) (v : Value) : DictEntry := { hash := if (⟨nm⟩ : Array Nat).isEmpty = true then 0 else reduceHash (w.params.strHash ⟨nm⟩), key := .str ⟨⟨nm⟩⟩ t, val := v }
noncomputable def fobj (l : List DictEntry) (n : Nat) : Obj := { cls := .type "frame", data := .dict ⟨l⟩ n }
noncomputable def whileOf : Stmt → Env → Code
  | .While t b o _, env => .whileLoop t b o env
  | _, _ => default
end Mine
end
section
open PySem PySem.W PySem.Calls PyProof.Rows
set_option Elab.async false
set_option maxRecDepth 100000
namespace Mine
/-- a strict weak order -/
structure Swo (lt : Nat → Nat → Bool) : Prop where
  irr : ∀ x, lt x x = false
  neg : ∀ x y z, lt x y = false → lt y z = false → lt x z = false
  asy : ∀ x y, lt x y = true → lt y x = false
noncomputable def SR (lt : Nat → Nat → Bool) (x y : Nat) : Prop := lt x y = true ∨ (lt y x = false ∧ x < y)
section
variable {lt : Nat → Nat → Bool}
theorem Swo.l1 (O : Swo lt) {x y z : Nat} (h1 : lt x y = true) (h2 : lt z y = false) : lt x z = true := by
  cases e : lt x z with
  | true => rfl
  | false => rw [O.neg x z y e h2] at h1; cases h1
theorem Swo.l2 (O : Swo lt) {x y z : Nat} (h1 : lt y x = false) (h2 : lt y z = true) : lt x z = true := by
  cases e : lt x z with
  | true => rfl
  | false => rw [O.neg y x z h1 e] at h2; cases h2
theorem Swo.sr (O : Swo lt) {x y z : Nat} (h1 : SR lt x y) (h2 : SR lt y z) : SR lt x z := by
  rcases h1 with h1 | ⟨h1, h1'⟩
  · rcases h2 with h2 | ⟨h2, h2'⟩
    · exact .inl (O.l2 (O.asy _ _ h1) h2)
    · exact .inl (O.l1 h1 h2)
  · rcases h2 with h2 | ⟨h2, h2'⟩
    · exact .inl (O.l2 h1 h2)
    · exact .inr ⟨O.neg _ _ _ h2 h1, by omega⟩
theorem gD {p : Array Nat} {k : Nat} : p.getD k 0 = (p[k]?).getD 0 := Array.getD_eq_getD_getElem? ..
theorem gD_rev {p : Array Nat} {i j : Nat} (hj : j ≤ p.size) (k : Nat) : (kas_rev p i j).getD k 0 = if i ≤ k ∧ k < j then p.getD (i + j - 1 - k) 0 else p.getD k 0 := by
  rw [gD, gD, gD]
  unfold kas_rev
  rw [getElem?_mirror_all hj]
  split <;> rfl
theorem gD_bub {p : Array Nat} {src d : Nat} (hs : src < p.size) (hd : d ≤ src) (k : Nat) : (bubble p src d).getD k 0 = if k = src - d then p.getD src 0 else if src - d < k ∧ k ≤ src then p.getD (k - 1) 0 else p.getD k 0 := by
  rw [gD, gD, gD, gD, getElem?_bubble hs d hd]
  split
  · rfl
  · split <;> rfl
structure VP (n : Nat) (p : Array Nat) (m : Nat) : Prop where
  size : p.size = n
  perm : p.Perm (List.toArray (List.range n))
  low : ∀ k < m, p.getD k 0 < m
  tail : ∀ k, m ≤ k → k < n → p.getD k 0 = k
  le : m ≤ n
theorem VP.all {n m : Nat} {p : Array Nat} (V : VP n p m) {k : Nat} (h : k < n) : p.getD k 0 < n := by
  by_cases h' : k < m
  · have := V.low k h'; have := V.le; omega
  · rw [V.tail k (by omega) h]; exact h
theorem VP.more {n m : Nat} {p : Array Nat} (V : VP n p m) {r : Nat} (h : m ≤ r) (hr : r ≤ n) : VP n p r := by
  refine ⟨V.size, V.perm, fun k hk => ?_, fun k h1 h2 => V.tail k (by omega) h2, hr⟩
  by_cases h' : k < m
  · have := V.low k h'; omega
  · rw [V.tail k (by omega) (by omega)]; exact hk
theorem VP.rev {n m : Nat} {p : Array Nat} (V : VP n p m) {i j : Nat} (hj : j ≤ m) : VP n (kas_rev p i j) m := by
  have hz := V.size
  have hl := V.le
  have e := fun k => gD_rev (p := p) (i := i) (j := j) (by omega) k
  refine ⟨(mirror_size _ _ _ _).trans hz, (mirror_perm _ _ _ _).trans V.perm, fun k hk => ?_, fun k h1 h2 => ?_, hl⟩
  · rw [e]; split
    · exact V.low _ (by omega)
    · exact V.low k hk
  · rw [e, if_neg (by omega)]; exact V.tail k h1 h2
variable {n : Nat} {cmp : Nat → Nat → (Bool → Shared → Prop) → Shared → Prop} {s : Shared}
theorem asc_wp (hc : ∀ i j C, i < n → j < n → C (lt i j) s → cmp i j C s) {p : Array Nat} (hg : ∀ k < n, p.getD k 0 < n) {Q : Nat → Shared → Prop} : ∀ (f m : Nat), 1 ≤ m → m + f ≤ n →
   (∀ r, m ≤ r → r ≤ m + f → (∀ k, m ≤ k → k < r → lt (p.getD k 0) (p.getD (k - 1) 0) = false) → (r < m + f → lt (p.getD r 0) (p.getD (r - 1) 0) = true) → Q r s) → (kas_asc p f m).kasWp cmp Q s
  | 0, m, _, _, h => h m (Nat.le_refl _) (Nat.le_refl _) (fun k h1 h2 => by omega) (fun h => by omega)
  | f + 1, m, h1, h2, h => by
    show cmp (p.getD m 0) (p.getD (m - 1) 0) (fun b s' => (if b = true then KasT.ret m else kas_asc p f (m + 1)).kasWp cmp Q s') s
    refine hc _ _ _ (hg _ (by omega)) (hg _ (by omega)) ?_
    cases e : lt (p.getD m 0) (p.getD (m - 1) 0) with
    | true => exact h m (Nat.le_refl _) (by omega) (fun k h1 h2 => by omega) (fun _ => e)
    | false =>
      refine asc_wp hc hg f (m + 1) (by omega) (by omega) fun r a1 a2 a3 a4 => h r (by omega) (by omega) (fun k b1 b2 => ?_) (fun b => a4 (by omega))
      by_cases hk : k = m
      · subst hk; exact e
      · exact a3 k (by omega) b2
/-- a falling stretch: the last q + 1 places are alike and rise by place -/
structure Dsc (lt : Nat → Nat → Bool) (p : Array Nat) (m q : Nat) : Prop where
  le : q + 1 ≤ m
  a : ∀ i j, i < j → j < m - (q + 1) → SR lt (p.getD j 0) (p.getD i 0)
  b : ∀ i j, i < m - (q + 1) → m - (q + 1) ≤ j → j < m → lt (p.getD j 0) (p.getD i 0) = true
  c : ∀ i j, m - (q + 1) ≤ i → i < j → j < m → lt (p.getD i 0) (p.getD j 0) = false ∧ lt (p.getD j 0) (p.getD i 0) = false ∧ p.getD i 0 < p.getD j 0
theorem Dsc.turned (D : Dsc lt p m q) (hz : m ≤ p.size) : ∀ i j, i < j → j < m → SR lt ((kas_rev p (m - (q + 1)) m).getD j 0) ((kas_rev p (m - (q + 1)) m).getD i 0) := by
  intro i j hij hj
  have hq := D.le
  rw [gD_rev hz, gD_rev hz]
  by_cases h1 : j < m - (q + 1)
  · rw [if_neg (by omega), if_neg (by omega)]
    exact D.a i j hij h1
  · rw [if_pos (by omega)]
    by_cases h2 : i < m - (q + 1)
    · rw [if_neg (by omega)]
      exact .inl (D.b i _ h2 (by omega) (by omega))
    · rw [if_pos (by omega)]
      obtain ⟨c1, c2, c3⟩ := D.c (m - (q + 1) + m - 1 - j) (m - (q + 1) + m - 1 - i) (by omega) (by omega) (by omega)
      exact .inr ⟨c2, c3⟩
theorem rev_one (p : Array Nat) (m : Nat) (h : 1 ≤ m) : kas_rev p (m - (0 + 1)) m = p := by
  unfold kas_rev
  rw [show (m - (m - (0 + 1))) / 2 = 0 by omega]
  rfl
theorem desc_wp (O : Swo lt) (hc : ∀ i j C, i < n → j < n → C (lt i j) s → cmp i j C s) {Q : Array Nat × Nat × Nat → Shared → Prop} : ∀ (f : Nat) (p : Array Nat) (m q : Nat), VP n p m → Dsc lt p m q → m + f ≤ n →
   (∀ p' m' q', VP n p' m' → Dsc lt p' m' q' → Q (p', m', q') s) → (kas_desc f p m q).kasWp cmp Q s
  | 0, p, m, q, V, D, _, h => h p m q V D
  | f + 1, p, m, q, V, D, hf, h => by
    have hq := D.le
    have hz := V.size
    have hgm : p.getD m 0 = m := V.tail m (Nat.le_refl _) (by omega)
    show cmp (p.getD m 0) (p.getD (m - 1) 0) (fun b s' => (if b = true then (if q > 0 then kas_desc f (kas_rev p (m - (q + 1)) m) (m + 1) 0 else kas_desc f p (m + 1) 0)
      else .ask (p.getD (m - 1) 0) (p.getD m 0) fun d => if d = true then .ret (p, m, q) else kas_desc f p (m + 1) (q + 1)).kasWp cmp Q s') s
    refine hc _ _ _ (V.all (by omega)) (V.all (by omega)) ?_
    cases e : lt (p.getD m 0) (p.getD (m - 1) 0) with
    | true =>
      have e0 : (if q > 0 then kas_desc f (kas_rev p (m - (q + 1)) m) (m + 1) 0 else kas_desc f p (m + 1) 0) = kas_desc f (kas_rev p (m - (q + 1)) m) (m + 1) 0 := by
        split
        · rfl
        · obtain rfl : q = 0 := by omega
          rw [rev_one p m (by omega)]
      rw [if_pos rfl, e0]
      have V' : VP n (kas_rev p (m - (q + 1)) m) (m + 1) := (V.rev (Nat.le_refl _)).more (by omega) (by omega)
      have T := D.turned (by omega)
      have hm : (kas_rev p (m - (q + 1)) m).getD m 0 = p.getD m 0 := by rw [gD_rev (by omega), if_neg (by omega)]
      refine desc_wp O hc f _ _ _ V' ⟨by omega, fun i j h1 h2 => T i j h1 (by omega), fun i j h1 h2 h3 => ?_, fun i j h1 h2 h3 => by omega⟩ (by omega) h
      have ej : j = m := by omega
      rw [ej, hm, gD_rev (by omega)]
      split
      · by_cases hi : m - (q + 1) + m - 1 - i = m - 1
        · rw [hi]; exact e
        · obtain ⟨c1, c2, c3⟩ := D.c (m - (q + 1) + m - 1 - i) (m - 1) (by omega) (by omega) (by omega)
          exact O.l1 e c1
      · exact O.l2 (O.asy _ _ e) (D.b i (m - 1) (by omega) (by omega) (by omega))
    | false =>
      rw [if_neg Bool.false_ne_true]
      show cmp (p.getD (m - 1) 0) (p.getD m 0) (fun b s' => (if b = true then KasT.ret (p, m, q) else kas_desc f p (m + 1) (q + 1)).kasWp cmp Q s') s
      refine hc _ _ _ (V.all (by omega)) (V.all (by omega)) ?_
      cases e2 : lt (p.getD (m - 1) 0) (p.getD m 0) with
      | true => exact h p m q V D
      | false =>
        rw [if_neg Bool.false_ne_true]
        refine desc_wp O hc f p (m + 1) (q + 1) (V.more (by omega) (by omega)) ⟨by omega, fun i j h1 h2 => D.a i j h1 (by omega), fun i j h1 h2 h3 => ?_, fun i j h1 h2 h3 => ?_⟩ (by omega) h
        · by_cases hj : j = m
          · subst hj
            exact O.l2 e2 (D.b i (j - 1) (by omega) (by omega) (by omega))
          · exact D.b i j (by omega) (by omega) (by omega)
        · by_cases hj : j = m
          · subst hj
            have hl : p.getD i 0 < p.getD j 0 := by rw [hgm]; exact V.low i h2
            by_cases hi : i = j - 1
            · subst hi; exact ⟨e2, e, hl⟩
            · obtain ⟨c1, c2, c3⟩ := D.c i (j - 1) (by omega) (by omega) (by omega)
              exact ⟨O.neg _ _ _ c1 e2, O.neg _ _ _ e c2, hl⟩
          · exact D.c i j (by omega) h2 (by omega)
/-- sorted up to k -/
noncomputable def ST (lt : Nat → Nat → Bool) (p : Array Nat) (k : Nat) : Prop := ∀ i j, i < j → j < k → SR lt (p.getD i 0) (p.getD j 0)
theorem ST.grow (O : Swo lt) {p : Array Nat} {k : Nat} (S : ST lt p k) (V : VP n p k) : ∀ r, k ≤ r → r ≤ n → 1 ≤ k → (∀ x, k ≤ x → x < r → lt (p.getD x 0) (p.getD (x - 1) 0) = false) → ST lt p r := by
  intro r
  induction r with
  | zero => intro _ _ _ _ i j _ hj; omega
  | succ r ih =>
    intro h1 h2 hk h i j hij hj
    by_cases hr : k = r + 1
    · subst hr; exact S i j hij hj
    · have S' := ih (by omega) (by omega) hk fun x a b => h x a (by omega)
      by_cases hjr : j = r
      · subst hjr
        have V' := V.more (r := j) (by omega) (by omega)
        have e : SR lt (p.getD (j - 1) 0) (p.getD j 0) := .inr ⟨h j (by omega) (by omega), by rw [V'.tail j (Nat.le_refl _) (by omega)]; exact V'.low _ (by omega)⟩
        by_cases hi : i = j - 1
        · subst hi; exact e
        · exact O.sr (S' i (j - 1) (by omega) (by omega)) e
      · exact S' i j hij (by omega)
theorem tail3_wp (O : Swo lt) (hc : ∀ i j C, i < n → j < n → C (lt i j) s → cmp i j C s) {p : Array Nat} {m : Nat} (hm : 1 ≤ m) (V : VP n p m) (T : ∀ i j, i < j → j < m → SR lt (p.getD j 0) (p.getD i 0)) {Q : Nat × Array Nat → Shared → Prop}
   (h : ∀ r p', 1 ≤ r → VP n p' r → ST lt p' r → Q (r, p') s) : (kas_tail3 m n p).kasWp cmp Q s := by
  unfold kas_tail3
  rw [KasT.kasWp_bind]
  have V' : VP n (kas_rev p 0 m) m := V.rev (Nat.le_refl _)
  have hl := V.le
  have hz := V.size
  have S' : ST lt (kas_rev p 0 m) m := by
    intro i j hij hj
    rw [gD_rev (by omega), gD_rev (by omega), if_pos (by omega), if_pos (by omega)]
    exact T _ _ (by omega) (by omega)
  refine asc_wp hc (fun k hk => V'.all hk) (n - m) m hm (by omega) fun r h1 h2 h3 _ => h r _ (by omega) (V'.more h1 (by omega)) (S'.grow O V' r h1 (by omega) hm h3)
theorem descPart_wp (O : Swo lt) (hc : ∀ i j C, i < n → j < n → C (lt i j) s → cmp i j C s) {p : Array Nat} {m : Nat} (hm : 1 ≤ m) (hmn : m < n) (V : VP n p (m + 1)) (D : Dsc lt p (m + 1) 0) {Q : Nat × Array Nat → Shared → Prop}
   (h : ∀ r p', 1 ≤ r → VP n p' r → ST lt p' r → Q (r, p') s) : (kas_descPart m n p).kasWp cmp Q s := by
  unfold kas_descPart
  rw [KasT.kasWp_bind]
  refine desc_wp O hc (n - (m + 1)) p (m + 1) 0 V D (by omega) fun p' m' q' V' D' => ?_
  have hq := D'.le
  have hz := V'.size
  have hl := V'.le
  have e0 : (if q' > 0 then kas_tail3 m' n (kas_rev p' (m' - (q' + 1)) m') else kas_tail3 m' n p') = kas_tail3 m' n (kas_rev p' (m' - (q' + 1)) m') := by
    split
    · rfl
    · obtain rfl : q' = 0 := by omega
      rw [rev_one p' m' (by omega)]
  show (if q' > 0 then kas_tail3 m' n (kas_rev p' (m' - (q' + 1)) m') else kas_tail3 m' n p').kasWp cmp Q s
  rw [e0]
  exact tail3_wp O hc (by omega) (V'.rev (Nat.le_refl _)) (D'.turned (by omega)) h
theorem count_wp (O : Swo lt) (hc : ∀ i j C, i < n → j < n → C (lt i j) s → cmp i j C s) {p : Array Nat} (hn : 1 ≤ n) (V : VP n p 0) {Q : Nat × Array Nat → Shared → Prop}
   (h : ∀ r p', 1 ≤ r → VP n p' r → ST lt p' r → Q (r, p') s) : (kas_count n p).kasWp cmp Q s := by
  unfold kas_count
  rw [KasT.kasWp_bind]
  have id_ : ∀ k < n, p.getD k 0 = k := fun k hk => V.tail k (Nat.zero_le _) hk
  have hz := V.size
  refine asc_wp hc (fun k hk => V.all hk) (n - 1) 1 (Nat.le_refl _) (by omega) fun r h1 h2 h3 h4 => ?_
  have V1 : VP n p 1 := V.more (by omega) (by omega)
  have S1 : ST lt p 1 := fun i j _ hj => by omega
  have Sr := S1.grow O V1 r h1 (by omega) (Nat.le_refl _) h3
  have Vr := V.more (r := r) (by omega) (by omega)
  by_cases hr : r = n
  · rw [show (r == n) = true by rw [hr]; exact beq_self_eq_true _, if_pos rfl]
    exact h r p h1 Vr Sr
  · rw [show (r == n) = false from beq_eq_false_iff_ne.mpr hr, if_neg Bool.false_ne_true]
    have hrn : r < n := by omega
    have hlt := h4 (by omega)
    by_cases h1r : r > 1
    · rw [if_pos h1r]
      show cmp (p.getD 0 0) (p.getD (r - 1) 0) (fun b s' => (if b = true then KasT.ret (r, p) else kas_descPart r n (kas_rev p 0 r)).kasWp cmp Q s') s
      refine hc _ _ _ (V.all (by omega)) (V.all (by omega)) ?_
      cases e : lt (p.getD 0 0) (p.getD (r - 1) 0) with
      | true => exact h r p h1 Vr Sr
      | false =>
        rw [if_neg Bool.false_ne_true]
        -- all alike
        have up : ∀ i j, i < j → j < r → lt (p.getD j 0) (p.getD i 0) = false := fun i j hij hj => by
          rcases Sr i j hij hj with q | ⟨q, _⟩
          · exact O.asy _ _ q
          · exact q
        have alike : ∀ i j, i < j → j < r → lt (p.getD i 0) (p.getD j 0) = false := fun i j hij hj => by
          have e1 : lt (p.getD i 0) (p.getD 0 0) = false := by
            by_cases hi : i = 0
            · subst hi; exact O.irr _
            · exact up 0 i (by omega) (by omega)
          have e2 : lt (p.getD (r - 1) 0) (p.getD j 0) = false := by
            by_cases hi : j = r - 1
            · subst hi; exact O.irr _
            · exact up j (r - 1) (by omega) (by omega)
          exact O.neg _ _ _ (O.neg _ _ _ e1 e) e2
        have V' : VP n (kas_rev p 0 r) (r + 1) := (Vr.rev (Nat.le_refl _)).more (by omega) (by omega)
        refine descPart_wp O hc h1 hrn V' ⟨by omega, fun i j hij hj => ?_, fun i j h5 h6 h7 => ?_, fun i j h5 h6 h7 => by omega⟩ h
        · rw [gD_rev (by omega), gD_rev (by omega), if_pos (by omega), if_pos (by omega)]
          refine .inr ⟨up _ _ (by omega) (by omega), ?_⟩
          rw [id_ _ (by omega), id_ _ (by omega)]
          omega
        · obtain rfl : j = r := by omega
          rw [gD_rev (by omega), gD_rev (by omega), if_neg (by omega), if_pos (by omega)]
          by_cases hi : 0 + j - 1 - i = j - 1
          · rw [hi]; exact hlt
          · exact O.l1 hlt (alike _ _ (by omega) (by omega))
    · rw [if_neg h1r]
      obtain rfl : r = 1 := by omega
      refine descPart_wp O hc (Nat.le_refl _) hrn (V.more (by omega) (by omega)) ⟨by omega, fun i j h5 h6 => by omega, fun i j h5 h6 h7 => ?_, fun i j h5 h6 h7 => by omega⟩ h
      obtain rfl : j = 1 := by omega
      obtain rfl : i = 0 := by omega
      exact hlt
theorem place_wp (O : Swo lt) (hc : ∀ i j C, i < n → j < n → C (lt i j) s → cmp i j C s) {p : Array Nat} {k : Nat} (hk : k < n) (V : VP n p k) (S : ST lt p k) {Q : Nat → Shared → Prop} : ∀ (f l r : Nat), l ≤ r → r ≤ k → r - l ≤ f →
   (∀ i < l, SR lt (p.getD i 0) (p.getD k 0)) → (∀ i, r ≤ i → i < k → SR lt (p.getD k 0) (p.getD i 0)) →
   (∀ l, l ≤ k → (∀ i < l, SR lt (p.getD i 0) (p.getD k 0)) → (∀ i, l ≤ i → i < k → SR lt (p.getD k 0) (p.getD i 0)) → Q l s) → (kas_place p k f l r).kasWp cmp Q s
  | 0, l, r, h1, h2, h3, hl, hr, h => h l (by omega) hl (fun i a b => hr i (by omega) b)
  | f + 1, l, r, h1, h2, h3, hl, hr, h => by
    unfold kas_place
    by_cases e : l ≥ r
    · rw [if_pos e]
      exact h l (by omega) hl (fun i a b => hr i (by omega) b)
    · rw [if_neg e]
      show cmp (p.getD k 0) (p.getD ((l + r) / 2) 0) (fun b s' => (if b = true then kas_place p k f l ((l + r) / 2) else kas_place p k f ((l + r) / 2 + 1) r).kasWp cmp Q s') s
      refine hc _ _ _ (V.all hk) (V.all (by omega)) ?_
      have hkk := V.tail k (Nat.le_refl _) hk
      cases e2 : lt (p.getD k 0) (p.getD ((l + r) / 2) 0) with
      | true =>
        rw [if_pos rfl]
        refine place_wp O hc hk V S f l ((l + r) / 2) (by omega) (by omega) (by omega) hl (fun i a b => ?_) h
        by_cases hi : i = (l + r) / 2
        · subst hi; exact .inl e2
        · exact O.sr (.inl e2) (S _ _ (by omega) b)
      | false =>
        rw [if_neg Bool.false_ne_true]
        have e3 : SR lt (p.getD ((l + r) / 2) 0) (p.getD k 0) := .inr ⟨e2, by rw [hkk]; exact V.low _ (by omega)⟩
        refine place_wp O hc hk V S f ((l + r) / 2 + 1) r (by omega) h2 (by omega) (fun i a => ?_) hr h
        by_cases hi : i = (l + r) / 2
        · subst hi; exact e3
        · exact O.sr (S _ _ (by omega) (by omega)) e3
theorem bin_wp (O : Swo lt) (hc : ∀ i j C, i < n → j < n → C (lt i j) s → cmp i j C s) {Q : Array Nat → Shared → Prop} : ∀ (f : Nat) (p : Array Nat) (k : Nat), f + k = n → VP n p k → ST lt p k →
   (∀ p', VP n p' n → ST lt p' n → Q p' s) → (kas_bin f p k).kasWp cmp Q s
  | 0, p, k, hf, V, S, h => by
    obtain rfl : k = n := by omega
    exact h p V S
  | f + 1, p, k, hf, V, S, h => by
    have hz := V.size
    show ((kas_place p k k 0 k).bind fun l => kas_bin f (bubble p k (k - l)) (k + 1)).kasWp cmp Q s
    rw [KasT.kasWp_bind]
    refine place_wp O hc (by omega) V S k 0 k (Nat.zero_le _) (Nat.le_refl _) (by omega) (fun i a => by omega) (fun i a b => by omega) fun l hl h1 h2 => ?_
    have eb := fun x => gD_bub (p := p) (src := k) (d := k - l) (by omega) (by omega) x
    have ekl : k - (k - l) = l := by omega
    have hkk := V.tail k (Nat.le_refl _) (by omega)
    refine bin_wp O hc f _ (k + 1) (by omega) ⟨(bubble_size _ _ _).trans hz, (bubble_perm _ _ _).trans V.perm, fun x hx => ?_, fun x a b => ?_, by omega⟩ (fun i j hij hj => ?_) h
    · rw [eb, ekl]
      split
      · rw [hkk]; omega
      · split
        · have := V.low (x - 1) (by omega); omega
        · have := V.low x (by omega); omega
    · rw [eb, ekl, if_neg (by omega), if_neg (by omega)]
      exact V.tail x (by omega) b
    · rw [eb, eb, ekl]
      by_cases a1 : i = l
      · rw [if_pos a1, if_neg (by omega), if_pos (by omega)]
        exact h2 _ (by omega) (by omega)
      · rw [if_neg a1]
        by_cases a2 : j = l
        · rw [if_pos a2, if_neg (by omega)]
          exact h1 i (by omega)
        · rw [if_neg a2]
          split <;> split <;> first | exact S _ _ (by omega) (by omega) | (exfalso; omega)
theorem sort_wp (O : Swo lt) (hc : ∀ i j C, i < n → j < n → C (lt i j) s → cmp i j C s) (hn : 1 ≤ n) {Q : Array Nat → Shared → Prop} (h : ∀ p, VP n p n → ST lt p n → Q p s) : (kas_sort n).kasWp cmp Q s := by
  unfold kas_sort
  rw [KasT.kasWp_bind]
  have V0 : VP n (List.toArray (List.range n)) 0 := ⟨by simp, Array.Perm.refl _, fun k hk => by omega, fun k _ hk => by simp [Array.getD, hk], Nat.zero_le _⟩
  refine count_wp O hc hn V0 fun r p' h1 V S => ?_
  have hl := V.le
  show (if r < n then kas_bin (n - max r 1) p' (max r 1) else KasT.ret p').kasWp cmp Q s
  rw [Nat.max_eq_left h1]
  by_cases hr : r < n
  · rw [if_pos hr]
    exact bin_wp O hc (n - r) p' r (by omega) V S h
  · rw [if_neg hr]
    obtain rfl : r = n := by omega
    exact h p' V S
end
end Mine
end
section
open Lean PySem PySem.W PySem.W.X PyProof.Rows
set_option Elab.async false
namespace Mine
theorem onlyIf (n : Nat) (_ : PySem.Challenge.rw_rw0012_02.Holds) : n + 0 = n := rfl
set_option maxRecDepth 100000 in
set_option maxHeartbeats 0 in
/-- says nothing: its line lays out the head's constants (they are definitions) -/
theorem zaux (n : Nat) : n + 0 = n := by
  simp (discharger := (w_on; o_law; z_head)) only [onlyIf, Nat.add_zero]
/-- 128 is the table of the code of law: its first call writes into it -/
noncomputable def kt1 (w : World) (a : Nat) : Option Obj := match Nat.beq a 128 with
  | true => none
  | false => (zaux.ktop_262 w.params).get a
noncomputable def obAt (w : World) (a : Nat) : Obj := ((zaux.ktop_262 w.params).get a).getD default
noncomputable def fdAt (w : World) (a : Nat) : FuncData := (fnOf (obAt w a)).getD default
noncomputable abbrev PP (w : World) : Model := model PySem.Challenge.pw_rw0012_02 w
end Mine
end
section
open PySem PySem.W PySem.Calls PyProof.Rows
set_option Elab.async false
set_option maxRecDepth 100000
namespace Mine
noncomputable def envOf (w : World) (a B : Nat) (q : List Nat) : Env := { scope := (fdAt w a).scope, locals := B, globals := 3, cells := [], qual := ⟨⟨q⟩⟩, func := some a, code := (fdAt w a).code, frame := some B }
noncomputable def stmtAt (w : World) (a i : Nat) : Stmt := match (fdAt w a).body with
  | .stmts l => l.getD i default
  | _ => default
noncomputable def q_ap := [73, 110, 116, 50, 65, 80, 46, 60, 108, 111, 99, 97, 108, 115, 62, 46]
noncomputable def n_num := [110, 117, 109]
noncomputable def n_val := [118, 97, 108]
noncomputable def n_AP := [65, 80]
noncomputable def n_mod := [109, 111, 100]
noncomputable def APs : Array UInt8 := ⟨[65, 66, 67, 68, 69, 70, 71, 72, 73, 74, 75, 76, 77, 78, 79, 80]⟩
/-- the figures to the base 16, the greatest ahead -/
noncomputable def hexL (n : Nat) : List Nat := if h : n = 0 then [] else hexL (n / 16) ++ [n % 16]
noncomputable def hexB (n : Nat) : List UInt8 := (hexL n).map fun r => UInt8.ofNat (65 + r)
theorem hexB_zero : hexB 0 = [] := by unfold hexB hexL; rfl
theorem hexB_succ (n : Nat) : hexB (n + 1) = hexB ((n + 1) / 16) ++ [UInt8.ofNat (65 + (n + 1) % 16)] := by
  unfold hexB
  rw [hexL, dif_neg (Nat.succ_ne_zero n), List.map_append]
  rfl
noncomputable def tupO (l : List Value) : Obj := { cls := .type "tuple", data := .seq ⟨l⟩ }
section
variable {w : World} {A : Around} {h₀ : Heap} {R : Result → Shared → Prop} {t0 : Nat} {g : Array GenState} {d : Drawn} {os : OsState} {kt : Nat → Option Obj} {prog : Program}
theorem r_divmod (hA : Fit 0 A kt h₀) (m tn tm : Nat) {B : Nat} {mods : List Nat} (D : Rep kt h₀ mods h₀ B [] [] 0)
   (hR : ∀ h1 a t1 t2 t', After h₀ h1 mods [(a, tupO [.int (.ofNat (m / 16)) t1, .int (.ofNat (m % 16)) t2])] → R (.ok (.ret (.ref a))) ⟨h1, g, d, t', os⟩) :
   codeAny (model prog w) A (.call (.builtin "divmod") ⟨[.int (.ofNat m) tn, .int 16 tm], []⟩) R ⟨h₀, g, d, t0, os⟩ := by
  obtain ⟨b1, b2, hw⟩ := parF_ex w
  refine code_go ?_
  refine segF (t0 := t0) (i := 0) 100000 [1] (Fin.done (Flow.ret (Value.ref B))) D (by assumption) (by assumption) ?_; intro o1; refine ⟨by kernel_rfl, by kernel_rfl, by kernel_rfl, fun h1 D1 => ?_⟩
  have a := D1.fin [1] (Lo := [(B, tupO [.int (Int.fdiv (.ofNat m) 16) t0, .int (Int.fmod (.ofNat m) 16) (t0 + 1)])]) (by kernel_rfl)
  rw [Int.fdiv_eq_ediv_of_nonneg _ (by decide), Int.fmod_eq_emod_of_nonneg _ (by decide)] at a
  exact hR h1 B t0 (t0 + 1) _ a
end
noncomputable def sliceO (a b c : Value) : Obj := { cls := .type "slice", data := .fields ⟨[a, b, c]⟩ }
theorem r_APslice {w : World} {A : Around} {h₀ : Heap} {R : Result → Shared → Prop} {t0 : Nat} {g : Array GenState} {d : Drawn} {os : OsState} {kt : Nat → Option Obj} {prog : Program}
   (hA : Fit 0 A kt h₀) (r t1 t2 ta a B : Nat) {mods : List Nat} (hr : r < 16) (D : Rep kt h₀ mods h₀ B [(a, sliceO (.int (.ofNat r) t1) (.int (.ofNat (r + 1)) t2) .none)] [] 0)
   (hR : ∀ h1 t' t'', After h₀ h1 mods [] → R (.ok (.ret (.bytes ⟨[UInt8.ofNat (65 + r)]⟩ t'))) ⟨h1, g, d, t'', os⟩) :
   codeAny (model prog w) A (.call (.builtin "bytes.__getitem__") ⟨[.bytes APs ta, .ref a], []⟩) R ⟨h₀, g, d, t0, os⟩ := by
  obtain ⟨b1, b2, hw⟩ := parF_ex w
  have e : r = 0 ∨ r = 1 ∨ r = 2 ∨ r = 3 ∨ r = 4 ∨ r = 5 ∨ r = 6 ∨ r = 7 ∨ r = 8 ∨ r = 9 ∨ r = 10 ∨ r = 11 ∨ r = 12 ∨ r = 13 ∨ r = 14 ∨ r = 15 := by omega
  refine code_go ?_
  cases b1
  · rcases e with rfl | rfl | rfl | rfl | rfl | rfl | rfl | rfl | rfl | rfl | rfl | rfl | rfl | rfl | rfl | rfl
    · refine segF (t0 := t0) (i := 0) 100000 [1, 1, 1, 1, 1] (Fin.done (Flow.ret (Value.bytes ⟨[UInt8.ofNat (65 + 0)]⟩ t0))) D hA hw ?_; intro o1; refine ⟨by kernel_rfl, by kernel_rfl, by kernel_rfl, fun h1 D1 => hR h1 _ _ (D1.fin [] (by kernel_rfl))⟩
    · refine segF (t0 := t0) (i := 0) 100000 [1, 1, 1, 1, 1] (Fin.done (Flow.ret (Value.bytes ⟨[UInt8.ofNat (65 + 1)]⟩ t0))) D hA hw ?_; intro o1; refine ⟨by kernel_rfl, by kernel_rfl, by kernel_rfl, fun h1 D1 => hR h1 _ _ (D1.fin [] (by kernel_rfl))⟩
    · refine segF (t0 := t0) (i := 0) 100000 [1, 1, 1, 1, 1] (Fin.done (Flow.ret (Value.bytes ⟨[UInt8.ofNat (65 + 2)]⟩ t0))) D hA hw ?_; intro o1; refine ⟨by kernel_rfl, by kernel_rfl, by kernel_rfl, fun h1 D1 => hR h1 _ _ (D1.fin [] (by kernel_rfl))⟩
    · refine segF (t0 := t0) (i := 0) 100000 [1, 1, 1, 1, 1] (Fin.done (Flow.ret (Value.bytes ⟨[UInt8.ofNat (65 + 3)]⟩ t0))) D hA hw ?_; intro o1; refine ⟨by kernel_rfl, by kernel_rfl, by kernel_rfl, fun h1 D1 => hR h1 _ _ (D1.fin [] (by kernel_rfl))⟩
    · refine segF (t0 := t0) (i := 0) 100000 [1, 1, 1, 1, 1] (Fin.done (Flow.ret (Value.bytes ⟨[UInt8.ofNat (65 + 4)]⟩ t0))) D hA hw ?_; intro o1; refine ⟨by kernel_rfl, by kernel_rfl, by kernel_rfl, fun h1 D1 => hR h1 _ _ (D1.fin [] (by kernel_rfl))⟩
    · refine segF (t0 := t0) (i := 0) 100000 [1, 1, 1, 1, 1] (Fin.done (Flow.ret (Value.bytes ⟨[UInt8.ofNat (65 + 5)]⟩ t0))) D hA hw ?_; intro o1; refine ⟨by kernel_rfl, by kernel_rfl, by kernel_rfl, fun h1 D1 => hR h1 _ _ (D1.fin [] (by kernel_rfl))⟩
    · refine segF (t0 := t0) (i := 0) 100000 [1, 1, 1, 1, 1] (Fin.done (Flow.ret (Value.bytes ⟨[UInt8.ofNat (65 + 6)]⟩ t0))) D hA hw ?_; intro o1; refine ⟨by kernel_rfl, by kernel_rfl, by kernel_rfl, fun h1 D1 => hR h1 _ _ (D1.fin [] (by kernel_rfl))⟩
    · refine segF (t0 := t0) (i := 0) 100000 [1, 1, 1, 1, 1] (Fin.done (Flow.ret (Value.bytes ⟨[UInt8.ofNat (65 + 7)]⟩ t0))) D hA hw ?_; intro o1; refine ⟨by kernel_rfl, by kernel_rfl, by kernel_rfl, fun h1 D1 => hR h1 _ _ (D1.fin [] (by kernel_rfl))⟩
    · refine segF (t0 := t0) (i := 0) 100000 [1, 1, 1, 1, 1] (Fin.done (Flow.ret (Value.bytes ⟨[UInt8.ofNat (65 + 8)]⟩ t0))) D hA hw ?_; intro o1; refine ⟨by kernel_rfl, by kernel_rfl, by kernel_rfl, fun h1 D1 => hR h1 _ _ (D1.fin [] (by kernel_rfl))⟩
    · refine segF (t0 := t0) (i := 0) 100000 [1, 1, 1, 1, 1] (Fin.done (Flow.ret (Value.bytes ⟨[UInt8.ofNat (65 + 9)]⟩ t0))) D hA hw ?_; intro o1; refine ⟨by kernel_rfl, by kernel_rfl, by kernel_rfl, fun h1 D1 => hR h1 _ _ (D1.fin [] (by kernel_rfl))⟩
    · refine segF (t0 := t0) (i := 0) 100000 [1, 1, 1, 1, 1] (Fin.done (Flow.ret (Value.bytes ⟨[UInt8.ofNat (65 + 10)]⟩ t0))) D hA hw ?_; intro o1; refine ⟨by kernel_rfl, by kernel_rfl, by kernel_rfl, fun h1 D1 => hR h1 _ _ (D1.fin [] (by kernel_rfl))⟩
    · refine segF (t0 := t0) (i := 0) 100000 [1, 1, 1, 1, 1] (Fin.done (Flow.ret (Value.bytes ⟨[UInt8.ofNat (65 + 11)]⟩ t0))) D hA hw ?_; intro o1; refine ⟨by kernel_rfl, by kernel_rfl, by kernel_rfl, fun h1 D1 => hR h1 _ _ (D1.fin [] (by kernel_rfl))⟩
    · refine segF (t0 := t0) (i := 0) 100000 [1, 1, 1, 1, 1] (Fin.done (Flow.ret (Value.bytes ⟨[UInt8.ofNat (65 + 12)]⟩ t0))) D hA hw ?_; intro o1; refine ⟨by kernel_rfl, by kernel_rfl, by kernel_rfl, fun h1 D1 => hR h1 _ _ (D1.fin [] (by kernel_rfl))⟩
    · refine segF (t0 := t0) (i := 0) 100000 [1, 1, 1, 1, 1] (Fin.done (Flow.ret (Value.bytes ⟨[UInt8.ofNat (65 + 13)]⟩ t0))) D hA hw ?_; intro o1; refine ⟨by kernel_rfl, by kernel_rfl, by kernel_rfl, fun h1 D1 => hR h1 _ _ (D1.fin [] (by kernel_rfl))⟩
    · refine segF (t0 := t0) (i := 0) 100000 [1, 1, 1, 1, 1] (Fin.done (Flow.ret (Value.bytes ⟨[UInt8.ofNat (65 + 14)]⟩ t0))) D hA hw ?_; intro o1; refine ⟨by kernel_rfl, by kernel_rfl, by kernel_rfl, fun h1 D1 => hR h1 _ _ (D1.fin [] (by kernel_rfl))⟩
    · refine segF (t0 := t0) (i := 0) 100000 [1, 1, 1, 1, 1] (Fin.done (Flow.ret (Value.bytes ⟨[UInt8.ofNat (65 + 15)]⟩ t0))) D hA hw ?_; intro o1; refine ⟨by kernel_rfl, by kernel_rfl, by kernel_rfl, fun h1 D1 => hR h1 _ _ (D1.fin [] (by kernel_rfl))⟩
  · rcases e with rfl | rfl | rfl | rfl | rfl | rfl | rfl | rfl | rfl | rfl | rfl | rfl | rfl | rfl | rfl | rfl
    · refine segF (t0 := t0) (i := 0) 100000 [1, 1, 1, 1, 1] (Fin.done (Flow.ret (Value.bytes ⟨[UInt8.ofNat (65 + 0)]⟩ t0))) D hA hw ?_; intro o1; refine ⟨by kernel_rfl, by kernel_rfl, by kernel_rfl, fun h1 D1 => hR h1 _ _ (D1.fin [] (by kernel_rfl))⟩
    · refine segF (t0 := t0) (i := 0) 100000 [1, 1, 1, 1, 1] (Fin.done (Flow.ret (Value.bytes ⟨[UInt8.ofNat (65 + 1)]⟩ t0))) D hA hw ?_; intro o1; refine ⟨by kernel_rfl, by kernel_rfl, by kernel_rfl, fun h1 D1 => hR h1 _ _ (D1.fin [] (by kernel_rfl))⟩
    · refine segF (t0 := t0) (i := 0) 100000 [1, 1, 1, 1, 1] (Fin.done (Flow.ret (Value.bytes ⟨[UInt8.ofNat (65 + 2)]⟩ t0))) D hA hw ?_; intro o1; refine ⟨by kernel_rfl, by kernel_rfl, by kernel_rfl, fun h1 D1 => hR h1 _ _ (D1.fin [] (by kernel_rfl))⟩
    · refine segF (t0 := t0) (i := 0) 100000 [1, 1, 1, 1, 1] (Fin.done (Flow.ret (Value.bytes ⟨[UInt8.ofNat (65 + 3)]⟩ t0))) D hA hw ?_; intro o1; refine ⟨by kernel_rfl, by kernel_rfl, by kernel_rfl, fun h1 D1 => hR h1 _ _ (D1.fin [] (by kernel_rfl))⟩
    · refine segF (t0 := t0) (i := 0) 100000 [1, 1, 1, 1, 1] (Fin.done (Flow.ret (Value.bytes ⟨[UInt8.ofNat (65 + 4)]⟩ t0))) D hA hw ?_; intro o1; refine ⟨by kernel_rfl, by kernel_rfl, by kernel_rfl, fun h1 D1 => hR h1 _ _ (D1.fin [] (by kernel_rfl))⟩
    · refine segF (t0 := t0) (i := 0) 100000 [1, 1, 1, 1, 1] (Fin.done (Flow.ret (Value.bytes ⟨[UInt8.ofNat (65 + 5)]⟩ t0))) D hA hw ?_; intro o1; refine ⟨by kernel_rfl, by kernel_rfl, by kernel_rfl, fun h1 D1 => hR h1 _ _ (D1.fin [] (by kernel_rfl))⟩
    · refine segF (t0 := t0) (i := 0) 100000 [1, 1, 1, 1, 1] (Fin.done (Flow.ret (Value.bytes ⟨[UInt8.ofNat (65 + 6)]⟩ t0))) D hA hw ?_; intro o1; refine ⟨by kernel_rfl, by kernel_rfl, by kernel_rfl, fun h1 D1 => hR h1 _ _ (D1.fin [] (by kernel_rfl))⟩
    · refine segF (t0 := t0) (i := 0) 100000 [1, 1, 1, 1, 1] (Fin.done (Flow.ret (Value.bytes ⟨[UInt8.ofNat (65 + 7)]⟩ t0))) D hA hw ?_; intro o1; refine ⟨by kernel_rfl, by kernel_rfl, by kernel_rfl, fun h1 D1 => hR h1 _ _ (D1.fin [] (by kernel_rfl))⟩
    · refine segF (t0 := t0) (i := 0) 100000 [1, 1, 1, 1, 1] (Fin.done (Flow.ret (Value.bytes ⟨[UInt8.ofNat (65 + 8)]⟩ t0))) D hA hw ?_; intro o1; refine ⟨by kernel_rfl, by kernel_rfl, by kernel_rfl, fun h1 D1 => hR h1 _ _ (D1.fin [] (by kernel_rfl))⟩
    · refine segF (t0 := t0) (i := 0) 100000 [1, 1, 1, 1, 1] (Fin.done (Flow.ret (Value.bytes ⟨[UInt8.ofNat (65 + 9)]⟩ t0))) D hA hw ?_; intro o1; refine ⟨by kernel_rfl, by kernel_rfl, by kernel_rfl, fun h1 D1 => hR h1 _ _ (D1.fin [] (by kernel_rfl))⟩
    · refine segF (t0 := t0) (i := 0) 100000 [1, 1, 1, 1, 1] (Fin.done (Flow.ret (Value.bytes ⟨[UInt8.ofNat (65 + 10)]⟩ t0))) D hA hw ?_; intro o1; refine ⟨by kernel_rfl, by kernel_rfl, by kernel_rfl, fun h1 D1 => hR h1 _ _ (D1.fin [] (by kernel_rfl))⟩
    · refine segF (t0 := t0) (i := 0) 100000 [1, 1, 1, 1, 1] (Fin.done (Flow.ret (Value.bytes ⟨[UInt8.ofNat (65 + 11)]⟩ t0))) D hA hw ?_; intro o1; refine ⟨by kernel_rfl, by kernel_rfl, by kernel_rfl, fun h1 D1 => hR h1 _ _ (D1.fin [] (by kernel_rfl))⟩
    · refine segF (t0 := t0) (i := 0) 100000 [1, 1, 1, 1, 1] (Fin.done (Flow.ret (Value.bytes ⟨[UInt8.ofNat (65 + 12)]⟩ t0))) D hA hw ?_; intro o1; refine ⟨by kernel_rfl, by kernel_rfl, by kernel_rfl, fun h1 D1 => hR h1 _ _ (D1.fin [] (by kernel_rfl))⟩
    · refine segF (t0 := t0) (i := 0) 100000 [1, 1, 1, 1, 1] (Fin.done (Flow.ret (Value.bytes ⟨[UInt8.ofNat (65 + 13)]⟩ t0))) D hA hw ?_; intro o1; refine ⟨by kernel_rfl, by kernel_rfl, by kernel_rfl, fun h1 D1 => hR h1 _ _ (D1.fin [] (by kernel_rfl))⟩
    · refine segF (t0 := t0) (i := 0) 100000 [1, 1, 1, 1, 1] (Fin.done (Flow.ret (Value.bytes ⟨[UInt8.ofNat (65 + 14)]⟩ t0))) D hA hw ?_; intro o1; refine ⟨by kernel_rfl, by kernel_rfl, by kernel_rfl, fun h1 D1 => hR h1 _ _ (D1.fin [] (by kernel_rfl))⟩
    · refine segF (t0 := t0) (i := 0) 100000 [1, 1, 1, 1, 1] (Fin.done (Flow.ret (Value.bytes ⟨[UInt8.ofNat (65 + 15)]⟩ t0))) D hA hw ?_; intro o1; refine ⟨by kernel_rfl, by kernel_rfl, by kernel_rfl, fun h1 D1 => hR h1 _ _ (D1.fin [] (by kernel_rfl))⟩
theorem r_badd {w : World} {A : Around} {R : Result → Shared → Prop} {s : Shared} {prog : Program} (b c : Array UInt8) (t u : Nat) (hsz : b.size + c.size ≤ 16777216)
   (hR : ∀ t' k, R (.ok (.ret (.bytes (b ++ c) t'))) ⟨s.heap, s.gens, s.drawn, k, s.os⟩) : callW (model prog w) A none (.call (.builtin "bytes.__add__") ⟨[.bytes b t, .bytes c u], []⟩) R s := by
  refine callW_call (Q := fun v s' => R (.ok (.ret v)) s') (E := fun e s' => R (.error e) s') ?_ (fun _ _ h => h) (fun _ _ h => h)
  refine call_meets FB.slot_bytes_add (typeIs_bytes s b t) FB.entry_bytes_add (FB.args_bytes_add_2 _ _) (KBy.gives_bytes_add (KBy.tooLong_not hsz)).meets ?_
  by_cases hb : b.isEmpty = true
  · rw [if_pos hb]
    have e : b = #[] := Array.isEmpty_iff.mp hb
    have z := hR u s.toks
    rw [e, Array.empty_append] at z
    exact z
  · rw [if_neg hb]
    by_cases hc : c.isEmpty = true
    · rw [if_pos hc]
      have e : c = #[] := Array.isEmpty_iff.mp hc
      have z := hR t s.toks
      rw [e, Array.append_empty] at z
      exact z
    · rw [if_neg hc]
      refine ⟨?_, hR _ _⟩
      rw [Array.size_append, sizeLine_eq]
      exact hsz
theorem r_baddL {w : World} {A : Around} {R : Result → Shared → Prop} {s : Shared} {prog : Program} (b c : List UInt8) (t u : Nat) (hsz : b.length + c.length ≤ 16777216)
   (hR : ∀ t' k, R (.ok (.ret (.bytes ⟨b ++ c⟩ t'))) ⟨s.heap, s.gens, s.drawn, k, s.os⟩) : callW (model prog w) A none (.call (.builtin "bytes.__add__") ⟨[.bytes ⟨b⟩ t, .bytes ⟨c⟩ u], []⟩) R s := by
  refine r_badd ⟨b⟩ ⟨c⟩ t u hsz fun t' k => ?_
  have e : (⟨b⟩ : Array UInt8) ++ ⟨c⟩ = ⟨b ++ c⟩ := by rw [List.append_toArray]
  rw [e]
  exact hR t' k
end Mine
end
section
open PySem PySem.W PySem.Calls PyProof.Rows
set_option Elab.async false
set_option maxRecDepth 100000
namespace Mine
noncomputable def pick : List Nat → Led → Led
  | [], _ => []
  | i :: ix, L => match nth L i with
    | some p => p :: pick ix L
    | none => pick ix L
theorem pick_mem {L : Led} {p : Nat × Obj} : ∀ {ix : List Nat}, p ∈ pick ix L → ∃ i ∈ ix, nth L i = some p := by
  intro ix
  induction ix with
  | nil => intro h; cases h
  | cons i ix ih =>
    intro h
    unfold pick at h
    split at h
    · rename_i q e
      rcases List.mem_cons.mp h with rfl | h
      · exact ⟨i, List.mem_cons_self, e⟩
      · obtain ⟨j, hj, e'⟩ := ih h
        exact ⟨j, List.mem_cons_of_mem _ hj, e'⟩
    · obtain ⟨j, hj, e'⟩ := ih h
      exact ⟨j, List.mem_cons_of_mem _ hj, e'⟩
theorem nth_inj {L : Led} (nd : (L.map (·.1)).Nodup) : ∀ {i j : Nat} {p q : Nat × Obj}, nth L i = some p → nth L j = some q → p.1 = q.1 → i = j := by
  induction L with
  | nil => intro i j p q h; exact absurd (show (none : Option (Nat × Obj)) = some p from h) (by simp)
  | cons x l ih =>
    intro i j p q hp hq e
    have nd' := List.nodup_cons.mp (show (x.1 :: l.map (·.1)).Nodup from nd)
    cases i with
    | zero => cases j with
      | zero => rfl
      | succ j =>
        have ep : x = p := Option.some.inj (show some x = some p from hp)
        subst ep
        exact absurd (List.mem_map.mpr ⟨q, nth_mem (show nth l j = some q from hq), e.symm⟩) nd'.1
    | succ i => cases j with
      | zero =>
        have eq : x = q := Option.some.inj (show some x = some q from hq)
        subst eq
        exact absurd (List.mem_map.mpr ⟨p, nth_mem (show nth l i = some p from hp), e⟩) nd'.1
      | succ j => rw [ih nd'.2 (show nth l i = some p from hp) (show nth l j = some q from hq) e]
theorem pick_nd {L : Led} (nd : (L.map (·.1)).Nodup) : ∀ {ix : List Nat}, ix.Nodup → ((pick ix L).map (·.1)).Nodup := by
  intro ix
  induction ix with
  | nil => intro _; exact List.nodup_nil
  | cons i ix ih =>
    intro h
    obtain ⟨h1, h2⟩ := List.nodup_cons.mp h
    unfold pick
    split
    · rename_i p e
      refine List.nodup_cons.mpr ⟨fun hm => ?_, ih h2⟩
      obtain ⟨q, hq, eq⟩ := List.mem_map.mp hm
      obtain ⟨j, hj, ej⟩ := pick_mem hq
      exact h1 (nth_inj nd e ej eq.symm ▸ hj)
    · exact ih h2
section
variable {kt : Nat → Option Obj} {h₀ h h' : Heap} {mods : List Nat} {B : Nat} {L X Lo : Led} {r : Nat}
theorem Rep.pick (D : Rep kt h₀ mods h B L X r) (ix : List Nat) (nd : ix.Nodup) : Rep kt h₀ mods h h.objs.size (pick ix L) X 0 := by
  have sub : ∀ q ∈ Mine.pick ix L ++ X, q ∈ L ++ X := fun q hq => by
    rcases List.mem_append.mp hq with hq | hq
    · obtain ⟨i, _, e⟩ := pick_mem hq
      exact List.mem_append_left _ (nth_mem e)
    · exact List.mem_append_right _ hq
  have nd0 := D.nd
  rw [List.map_append] at nd0
  obtain ⟨n1, n2, n3⟩ := List.nodup_append.mp nd0
  refine ⟨rfl, fun q hq => D.at_ q (sub q hq), ?_, D.keep, fun q hq => D.own q (sub q hq), D.top, D.le⟩
  rw [List.map_append]
  refine List.nodup_append.mpr ⟨pick_nd n1 nd, n2, fun x hx y hy => ?_⟩
  obtain ⟨p, hp, rfl⟩ := List.mem_map.mp hx
  obtain ⟨i, _, e⟩ := pick_mem hp
  exact n3 _ (List.mem_map.mpr ⟨p, nth_mem e, rfl⟩) _ hy
theorem Rep.pickE (D : Rep kt h₀ mods h B L X r) (ix : List Nat) (L' : Led) (e : Mine.pick ix L = L') (nd : ix.Nodup := by decide) : ∃ B', Rep kt h₀ mods h B' L' X 0 := ⟨_, e ▸ D.pick ix nd⟩
/-- behind a callee: given by m; of what comes back and what was kept the places ix -/
theorem Rep.backP (D : Rep kt h₀ mods h B L X r) (m ix : List Nat) {cm : List Nat} (L' : Led) (e : (sel m L).map (·.1) = cm) (a : After h h' cm Lo) (e' : Mine.pick ix (Lo ++ cpl m L) = L') (nd : ix.Nodup := by decide) : ∃ B', Rep kt h₀ mods h' B' L' X 0 := (D.back m e a).pickE ix L' e' nd
/-- what a body leaves, in the order told -/
theorem Rep.finP (D : Rep kt h₀ mods h B L X r) (ix : List Nat) {Lo : Led} (e : Mine.pick ix L = Lo) (nd : ix.Nodup := by decide) : After h₀ h mods Lo := by
  have D1 := D.pick ix nd
  rw [e] at D1
  exact D1.done Lo X (List.Perm.refl _)
theorem pick_app (L : Led) : ∀ (ix jx : List Nat), Mine.pick (ix ++ jx) L = Mine.pick ix L ++ Mine.pick jx L := by
  intro ix jx
  induction ix with
  | nil => rfl
  | cons i ix ih =>
    show (match nth L i with | some p => p :: Mine.pick (ix ++ jx) L | none => Mine.pick (ix ++ jx) L) = (match nth L i with | some p => p :: Mine.pick ix L | none => Mine.pick ix L) ++ Mine.pick jx L
    cases nth L i with
    | none => exact ih
    | some p => exact congrArg (p :: ·) ih
end
end Mine
end
section
open PySem PySem.W PySem.Calls PyProof.Rows
set_option Elab.async false
set_option maxRecDepth 100000
namespace Mine
noncomputable def iterO (cls : String) (v : Value) (i : Nat) : Obj := { cls := .type cls, data := .fields ⟨[v, .int (.ofNat i) 0]⟩ }
noncomputable def stopO (a2 : Nat) : Obj := { cls := .type "StopIteration", data := .fields ⟨[.ref a2, .none, .none, .none, .bool false, .none]⟩ }
noncomputable def listO (l : List Value) (ep : Nat) : Obj := { cls := .type "list", data := .seq ⟨l⟩ ep }
section
variable {w : World} {A : Around} {h₀ : Heap} {R : Result → Shared → Prop} {B t0 : Nat} {g : Array GenState} {d : Drawn} {os : OsState} {mods : List Nat} {prog : Program} {kt : Nat → Option Obj}
theorem Fit.in1 {n : Nat} (hA : Fit n A kt h₀) : Fit n A.in1 kt h₀ := ⟨hA.handled, hA.room, hA.nolimit, hA.statics⟩
theorem r_bnext (hA : Fit 0 A kt h₀) (it t i : Nat) (b : List UInt8) (c : UInt8) (hx : b[i]? = some c) (D : Rep kt h₀ mods h₀ B [(it, iterO "bytes_iterator" (.bytes ⟨b⟩ t) i)] [] 0)
   (hR : ∀ h1 t1 t', After h₀ h1 mods [(it, iterO "bytes_iterator" (.bytes ⟨b⟩ t) (i + 1))] → R (.ok (.ret (.int (.ofNat c.toNat) t1))) ⟨h1, g, d, t', os⟩) :
   codeAny (model prog w) A (.call (.builtin "bytes_iterator.__next__") ⟨[.ref it], []⟩) R ⟨h₀, g, d, t0, os⟩ := by
  obtain ⟨b1, b2, hw⟩ := parF_ex w
  have hA' := hA.in1
  have ho : h₀.get? it = some (iterO "bytes_iterator" (.bytes ⟨b⟩ t) i) := D.get (j := 0) rfl
  refine code_slot KBw.slot_next ⟨_, ho, rfl⟩ KBw.entry_next (KBw.args_next _) ?_
  show wpAny _ _ (PySem.field (.ref it) 0 >>= _) _ _ _
  refine wpAny_bind (wpAny_field ho rfl (x := .bytes ⟨b⟩ t) rfl ?_)
  show wpAny _ _ (if (Value.bytes ⟨b⟩ t == Value.none) = true then _ else _) _ _ _
  rw [if_neg (show ¬ ((Value.bytes ⟨b⟩ t == Value.none) = true) from Bool.false_ne_true)]
  show wpAny _ _ (PySem.field (.ref it) 1 >>= _) _ _ _
  refine wpAny_bind (wpAny_field ho rfl (x := .int i 0) rfl ?_)
  refine wpAny_bind (wpAny_of_eq (a := ⟨b⟩) rfl ?_)
  have hx' : (⟨b⟩ : Array UInt8)[i]? = some c := by rw [List.getElem?_toArray]; exact hx
  simp only [Int.toNat_natCast, hx']
  refine means_base (s := ⟨h₀, g, d, t0 + 0, os⟩) ?_
  (refine segF (t0 := t0) (i := 0) 100000 [1, 1] (Fin.done (Flow.ret (Value.int (Int.ofNat (UInt8.toNat c)) t0))) D (by assumption) (by assumption) ?_; intro o1; refine ⟨by kernel_rfl, by kernel_rfl, by kernel_rfl, fun h1 D1 => ?_⟩)
  exact hR _ _ _ (D1.fin [1] (by kernel_rfl))
theorem r_bend (hA : Fit 0 A kt h₀) (it t i : Nat) (b : List UInt8) (hx : b[i]? = none) (D : Rep kt h₀ mods h₀ B [(it, iterO "bytes_iterator" (.bytes ⟨b⟩ t) i)] [] 0)
   (hR : ∀ h1 t' a a2, After h₀ h1 mods [(a2, tupO []), (a, stopO a2)] → R (.error (.ref a)) ⟨h1, g, d, t', os⟩) :
   codeAny (model prog w) A (.call (.builtin "bytes_iterator.__next__") ⟨[.ref it], []⟩) R ⟨h₀, g, d, t0, os⟩ := by
  obtain ⟨b1, b2, hw⟩ := parF_ex w
  have hA' := hA.in1
  have ho : h₀.get? it = some (iterO "bytes_iterator" (.bytes ⟨b⟩ t) i) := D.get (j := 0) rfl
  refine code_slot KBw.slot_next ⟨_, ho, rfl⟩ KBw.entry_next (KBw.args_next _) ?_
  show wpAny _ _ (PySem.field (.ref it) 0 >>= _) _ _ _
  refine wpAny_bind (wpAny_field ho rfl (x := .bytes ⟨b⟩ t) rfl ?_)
  show wpAny _ _ (if (Value.bytes ⟨b⟩ t == Value.none) = true then _ else _) _ _ _
  rw [if_neg (show ¬ ((Value.bytes ⟨b⟩ t == Value.none) = true) from Bool.false_ne_true)]
  show wpAny _ _ (PySem.field (.ref it) 1 >>= _) _ _ _
  refine wpAny_bind (wpAny_field ho rfl (x := .int i 0) rfl ?_)
  refine wpAny_bind (wpAny_of_eq (a := ⟨b⟩) rfl ?_)
  have hx' : (⟨b⟩ : Array UInt8)[i]? = none := by rw [List.getElem?_toArray]; exact hx
  simp only [Int.toNat_natCast, hx']
  refine means_base (s := ⟨h₀, g, d, t0 + 0, os⟩) ?_
  (refine segE (t0 := t0) (i := 0) 100000 [1, 1] (Value.ref (B + 1)) D (by assumption) (by assumption) ?_; intro o2; refine ⟨by kernel_rfl, by kernel_rfl, by kernel_rfl, fun h2 D2 => ?_⟩)
  exact hR _ _ (B + 1) B (D2.fin [0, 1, 1] (by kernel_rfl))
theorem r_snext (hA : Fit 0 A kt h₀) (it t i : Nat) (b : List Nat) (c : Nat) (hx : b[i]? = some c) (D : Rep kt h₀ mods h₀ B [(it, iterO "str_ascii_iterator" (.str ⟨⟨b⟩⟩ t) i)] [] 0)
   (hR : ∀ h1 t1 t', After h₀ h1 mods [(it, iterO "str_ascii_iterator" (.str ⟨⟨b⟩⟩ t) (i + 1))] → R (.ok (.ret (.str ⟨⟨[c]⟩⟩ t1))) ⟨h1, g, d, t', os⟩) :
   codeAny (model prog w) A (.call (.builtin "str_ascii_iterator.__next__") ⟨[.ref it], []⟩) R ⟨h₀, g, d, t0, os⟩ := by
  obtain ⟨b1, b2, hw⟩ := parF_ex w
  have hA' := hA.in1
  have ho : h₀.get? it = some (iterO "str_ascii_iterator" (.str ⟨⟨b⟩⟩ t) i) := D.get (j := 0) rfl
  refine code_slot F.slot_str_ascii_iterator_next ⟨_, ho, rfl⟩ F.entry_str_ascii_iterator_next (F.args_str_ascii_iterator_next_1 _) ?_
  show wpAny _ _ (PySem.field (.ref it) 0 >>= _) _ _ _
  refine wpAny_bind (wpAny_field ho rfl (x := .str ⟨⟨b⟩⟩ t) rfl ?_)
  show wpAny _ _ (PySem.field (.ref it) 1 >>= _) _ _ _
  refine wpAny_bind (wpAny_field ho rfl (x := .int i 0) rfl ?_)
  have hx' : (⟨b⟩ : Array Nat)[i]? = some c := by rw [List.getElem?_toArray]; exact hx
  simp only [Int.toNat_natCast, hx']
  refine means_base (s := ⟨h₀, g, d, t0 + 0, os⟩) ?_
  (refine segF (t0 := t0) (i := 0) 100000 [1, 1] (Fin.done (Flow.ret (Value.str { cps := { toList := [c] : Array Nat } : Str } t0))) D (by assumption) (by assumption) ?_; intro o3; refine ⟨by kernel_rfl, by kernel_rfl, by kernel_rfl, fun h3 D3 => ?_⟩)
  exact hR _ _ _ (D3.fin [1] (by kernel_rfl))
theorem r_send (hA : Fit 0 A kt h₀) (it t i : Nat) (b : List Nat) (hx : b[i]? = none) (D : Rep kt h₀ mods h₀ B [(it, iterO "str_ascii_iterator" (.str ⟨⟨b⟩⟩ t) i)] [] 0)
   (hR : ∀ h1 t' a a2, After h₀ h1 mods [(a2, tupO []), (a, stopO a2)] → R (.error (.ref a)) ⟨h1, g, d, t', os⟩) :
   codeAny (model prog w) A (.call (.builtin "str_ascii_iterator.__next__") ⟨[.ref it], []⟩) R ⟨h₀, g, d, t0, os⟩ := by
  obtain ⟨b1, b2, hw⟩ := parF_ex w
  have hA' := hA.in1
  have ho : h₀.get? it = some (iterO "str_ascii_iterator" (.str ⟨⟨b⟩⟩ t) i) := D.get (j := 0) rfl
  refine code_slot F.slot_str_ascii_iterator_next ⟨_, ho, rfl⟩ F.entry_str_ascii_iterator_next (F.args_str_ascii_iterator_next_1 _) ?_
  show wpAny _ _ (PySem.field (.ref it) 0 >>= _) _ _ _
  refine wpAny_bind (wpAny_field ho rfl (x := .str ⟨⟨b⟩⟩ t) rfl ?_)
  show wpAny _ _ (PySem.field (.ref it) 1 >>= _) _ _ _
  refine wpAny_bind (wpAny_field ho rfl (x := .int i 0) rfl ?_)
  have hx' : (⟨b⟩ : Array Nat)[i]? = none := by rw [List.getElem?_toArray]; exact hx
  simp only [Int.toNat_natCast, hx']
  refine means_base (s := ⟨h₀, g, d, t0 + 0, os⟩) ?_
  (refine segE (t0 := t0) (i := 0) 100000 [1, 1] (Value.ref (B + 1)) D (by assumption) (by assumption) ?_; intro o4; refine ⟨by kernel_rfl, by kernel_rfl, by kernel_rfl, fun h4 D4 => ?_⟩)
  exact hR _ _ (B + 1) B (D4.fin [0, 1, 1] (by kernel_rfl))
theorem r_lnext (hA : Fit 0 A kt h₀) (it la i ep : Nat) (l : List Value) (c : Value) (hx : l[i]? = some c) (D : Rep kt h₀ mods h₀ B [(it, iterO "list_iterator" (.ref la) i), (la, listO l ep)] [] 0)
   (hR : ∀ h1 t', After h₀ h1 mods [(it, iterO "list_iterator" (.ref la) (i + 1)), (la, listO l ep)] → R (.ok (.ret c)) ⟨h1, g, d, t', os⟩) :
   codeAny (model prog w) A (.call (.builtin "list_iterator.__next__") ⟨[.ref it], []⟩) R ⟨h₀, g, d, t0, os⟩ := by
  obtain ⟨b1, b2, hw⟩ := parF_ex w
  have hA' := hA.in1
  have ho : h₀.get? it = some (iterO "list_iterator" (.ref la) i) := D.get (j := 0) rfl
  have hl : h₀.get? la = some (listO l ep) := D.get (j := 1) rfl
  refine code_slot slot_listiter_next ⟨_, ho, rfl⟩ entry_listiter_next (args_listiter_next _) ?_
  show wpAny _ _ (PySem.field (.ref it) 0 >>= _) _ _ _
  refine wpAny_bind (wpAny_field ho rfl (x := .ref la) rfl ?_)
  show wpAny _ _ (if (Value.ref la == Value.none) = true then _ else _) _ _ _
  rw [if_neg (show ¬ ((Value.ref la == Value.none) = true) from Bool.false_ne_true)]
  show wpAny _ _ (PySem.field (.ref it) 1 >>= _) _ _ _
  refine wpAny_bind (wpAny_field ho rfl (x := .int i 0) rfl ?_)
  refine wpAny_bind (wpAny_seqItems hl rfl ?_)
  have hx' : (⟨l⟩ : Array Value)[i]? = some c := by rw [List.getElem?_toArray]; exact hx
  show wpAny _ _ (match (⟨l⟩ : Array Value)[((i : Int)).toNat]? with | some x => _ | none => _) _ _ _
  simp only [Int.toNat_natCast, hx']
  refine means_base (s := ⟨h₀, g, d, t0 + 0, os⟩) ?_
  (refine segF (t0 := t0) (i := 0) 100000 [1, 1] (Fin.done (Flow.ret c)) D (by assumption) (by assumption) ?_; intro o5; refine ⟨by kernel_rfl, by kernel_rfl, by kernel_rfl, fun h5 D5 => ?_⟩)
  exact hR _ _ (D5.fin [1, 1] (by kernel_rfl))
theorem r_lend (hA : Fit 0 A kt h₀) (it la i ep : Nat) (l : List Value) (hx : l[i]? = none) (D : Rep kt h₀ mods h₀ B [(it, iterO "list_iterator" (.ref la) i), (la, listO l ep)] [] 0)
   (hR : ∀ h1 t' a a2, After h₀ h1 mods [(la, listO l ep), (a2, tupO []), (a, stopO a2)] → R (.error (.ref a)) ⟨h1, g, d, t', os⟩) :
   codeAny (model prog w) A (.call (.builtin "list_iterator.__next__") ⟨[.ref it], []⟩) R ⟨h₀, g, d, t0, os⟩ := by
  obtain ⟨b1, b2, hw⟩ := parF_ex w
  have hA' := hA.in1
  have ho : h₀.get? it = some (iterO "list_iterator" (.ref la) i) := D.get (j := 0) rfl
  have hl : h₀.get? la = some (listO l ep) := D.get (j := 1) rfl
  refine code_slot slot_listiter_next ⟨_, ho, rfl⟩ entry_listiter_next (args_listiter_next _) ?_
  show wpAny _ _ (PySem.field (.ref it) 0 >>= _) _ _ _
  refine wpAny_bind (wpAny_field ho rfl (x := .ref la) rfl ?_)
  show wpAny _ _ (if (Value.ref la == Value.none) = true then _ else _) _ _ _
  rw [if_neg (show ¬ ((Value.ref la == Value.none) = true) from Bool.false_ne_true)]
  show wpAny _ _ (PySem.field (.ref it) 1 >>= _) _ _ _
  refine wpAny_bind (wpAny_field ho rfl (x := .int i 0) rfl ?_)
  refine wpAny_bind (wpAny_seqItems hl rfl ?_)
  have hx' : (⟨l⟩ : Array Value)[i]? = none := by rw [List.getElem?_toArray]; exact hx
  show wpAny _ _ (match (⟨l⟩ : Array Value)[((i : Int)).toNat]? with | some x => _ | none => _) _ _ _
  simp only [Int.toNat_natCast, hx']
  refine means_base (s := ⟨h₀, g, d, t0 + 0, os⟩) ?_
  (refine segE (t0 := t0) (i := 0) 100000 [1, 1] (Value.ref (B + 1)) D (by assumption) (by assumption) ?_; intro o6; refine ⟨by kernel_rfl, by kernel_rfl, by kernel_rfl, fun h6 D6 => ?_⟩)
  exact hR _ _ (B + 1) B (D6.fin [0, 1, 1, 1] (by kernel_rfl))
end
section
variable {w : World} {A : Around} {h₀ : Heap} {R : Result → Shared → Prop} {B t0 : Nat} {g : Array GenState} {d : Drawn} {os : OsState} {mods : List Nat} {prog : Program} {kt : Nat → Option Obj}
theorem r_append (la ep : Nat) (l : List Value) (x : Value) (hsz : l.length ≤ 16777216) (D : Rep kt h₀ mods h₀ B [(la, listO l ep)] [] 0)
   (hR : ∀ h1 t', After h₀ h1 mods [(la, listO (l ++ [x]) (ep + 1))] → R (.ok (.ret .none)) ⟨h1, g, d, t', os⟩) :
   codeAny (model prog w) A (.call (.builtin "list.append") ⟨[.ref la, x], []⟩) R ⟨h₀, g, d, t0, os⟩ := by
  have hl : h₀.get? la = some (listO l ep) := D.get (j := 0) rfl
  refine code_meets slot_list_append ⟨_, hl, rfl⟩ entry_list_append (args_list_append _ _) (AutoListH.list_append_list_val_0 la ⟨l⟩ ep x (by rw [sizeLine_eq]; exact hsz)) ⟨hl, ?_⟩
  have D1 := D.update (j := 0) (p := (la, listO l ep)) (f := Obj.mapSeq fun x_1 => x_1.push x) rfl rfl
  refine hR _ _ (D1.fin [1] ?_)
  have e : Obj.mapSeq (fun x_1 => x_1.push x) (listO l ep) = listO (l ++ [x]) (ep + 1) := by
    have e1 : (⟨l⟩ : Array Value).push x = ⟨l ++ [x]⟩ := by rw [List.push_toArray]
    show (⟨.type "list", none, .seq ((⟨l⟩ : Array Value).push x) (if ((⟨l⟩ : Array Value).push x).size == (⟨l⟩ : Array Value).size then ep else ep + 1), #[]⟩ : Obj) = _
    rw [e1]
    have e2 : ((⟨l ++ [x]⟩ : Array Value).size == (⟨l⟩ : Array Value).size) = false := by
      show ((l ++ [x]).length == l.length) = false
      rw [List.length_append, List.length_singleton]
      exact beq_eq_false_iff_ne.mpr (Nat.succ_ne_self _)
    rw [e2]
    rfl
  show [(la, Obj.mapSeq (fun x_1 => x_1.push x) (listO l ep))] = _
  rw [e]
end
noncomputable def scopeOf : Expr → Scope
  | .ListComp _ _ s _ => s
  | _ => default
noncomputable def compS (w : World) (a : Nat) (e : Expr) (it acc : Value) (di : Nat) (q : List Nat) (fr : Nat) : Code :=
  .compStart e 0 it acc { scope := scopeOf e, locals := di, globals := 3, cells := [], qual := ⟨⟨q⟩⟩, code := (fdAt w a).code, frame := some fr }
noncomputable def compL (w : World) (a : Nat) (e : Expr) (it acc : Value) (di : Nat) (q : List Nat) (fr : Nat) : Code :=
  .compLoop e 0 it acc { scope := scopeOf e, locals := di, globals := 3, cells := [], qual := ⟨⟨q⟩⟩, code := (fdAt w a).code, frame := some fr }
noncomputable def dictO (l : List DictEntry) (n : Nat) : Obj := { cls := .type "dict", data := .dict ⟨l⟩ n }
noncomputable def strCat (l : List Str) : List Nat := l.flatMap fun s => s.cps.toList
theorem glued_fold (ps : List Str) : ∀ acc : Array Nat, (ps.foldl (fun acc p => acc ++ (⟨⟨[]⟩⟩ : Str).cps ++ p.cps) acc).toList = acc.toList ++ strCat ps := by
  induction ps with
  | nil => intro acc; simp [strCat]
  | cons p ps ih =>
    intro acc
    rw [List.foldl_cons, ih]
    simp [strCat]
theorem glued_nil (l : List Str) : Builtin.Str.glued ⟨⟨[]⟩⟩ l = ⟨⟨strCat l⟩⟩ := by
  unfold Builtin.Str.glued
  have e := glued_fold (l.drop 1) (l.headD Str.empty).cps
  have e2 : (l.headD Str.empty).cps.toList ++ strCat (l.drop 1) = strCat l := by
    cases l with
    | nil => rfl
    | cons p l => simp [strCat]
  rw [e2] at e
  congr 1
  exact Array.toList_inj.mp e
theorem len_fold (l : List Str) : ∀ n : Nat, l.foldl (fun a s => a + s.length + (⟨⟨[]⟩⟩ : Str).length) n = n + (strCat l).length := by
  induction l with
  | nil => intro n; rfl
  | cons p l ih =>
    intro n
    rw [List.foldl_cons, ih]
    have e : (strCat (p :: l)).length = p.length + (strCat l).length := by
      show (p.cps.toList ++ strCat l).length = p.cps.size + _
      rw [List.length_append, Array.length_toList]
    have e0 : (⟨⟨[]⟩⟩ : Str).length = 0 := rfl
    omega
theorem r_join {w : World} {A : Around} {h₀ : Heap} {R : Result → Shared → Prop} {B t0 : Nat} {g : Array GenState} {d : Drawn} {os : OsState} {mods : List Nat} {prog : Program} {kt : Nat → Option Obj}
   (a t ep : Nat) (l : List (Str × Tok)) (hsz : (strCat (l.map (·.1))).length ≤ 16777216) (D : Rep kt h₀ mods h₀ B [(a, listO (strValues l) ep)] [] 0)
   (hR : ∀ t1 t', R (.ok (.ret (.str ⟨⟨strCat (l.map (·.1))⟩⟩ t1))) ⟨h₀, g, d, t', os⟩) :
   codeAny (model prog w) A (.call (.builtin "str.join") ⟨[.str ⟨⟨[]⟩⟩ t, .ref a], []⟩) R ⟨h₀, g, d, t0, os⟩ := by
  have hl : h₀.get? a = some (listO (strValues l) ep) := D.get (j := 0) rfl
  refine code_meets F.slot_str_join (typeIs_str _ _ _) F.entry_str_join (F.args_str_join_2 _ _) (meets_str_join_list ⟨⟨[]⟩⟩ t a l ?_) ⟨⟨_, hl, rfl, ep, rfl⟩, ?_⟩
  · rw [List.foldl_toArray, len_fold]
    unfold Builtin.Str.tooLong
    rw [sizeLine_eq]
    exact decide_eq_false (by omega)
  · have key : (Made.str (Builtin.Str.glued ⟨⟨[]⟩⟩ (l.map (·.1)))).post (fun v s' => R (.ok (.ret v)) s') ⟨h₀, g, d, t0, os⟩ := by
      rw [glued_nil]
      exact ⟨by rw [sizeLine_eq]; exact hsz, hR _ _⟩
    unfold joinMade
    split
    · rename_i p
      have z := hR p.2 t0
      have e : strCat ([p].map (·.1)) = p.1.cps.toList := by simp [strCat]
      rw [e] at z
      exact z
    · exact key
noncomputable def forOf : Stmt → Value → Env → Code
  | .For t _ b o _, it, env => .forLoop t it b o env
  | _, _, _ => default
end Mine
end
section
open PySem PySem.W PySem.Calls PyProof.Rows
set_option Elab.async false
set_option maxRecDepth 100000
namespace Mine
noncomputable def hexS (n : Nat) : List Nat := (hexL n).map fun r => 65 + r
theorem hexL_lt : ∀ (n : Nat), ∀ r ∈ hexL n, r < 16 := by
  intro n
  induction n using Nat.strongRecOn with
  | ind n ih =>
    unfold hexL
    split
    · intro r h; cases h
    · intro r h
      rcases List.mem_append.mp h with h | h
      · exact ih _ (by omega) r h
      · rw [List.mem_singleton.mp h]; exact Nat.mod_lt _ (by decide)
theorem hexB_toNat (n : Nat) : (hexB n).map UInt8.toNat = hexS n := by
  unfold hexB hexS
  rw [List.map_map]
  refine List.map_congr_left fun r hr => ?_
  have := hexL_lt n r hr
  show (UInt8.ofNat (65 + r)).toNat = 65 + r
  rw [UInt8.toNat_ofNat']
  omega
noncomputable def partO : Option (Int × Tok) → Value
  | none => .none
  | some (i, t) => .int i t
theorem range_pick {α : Type} : ∀ (y : List α), (List.range y.length).filterMap (fun k => y[k]?) = y := by
  intro y
  induction y with
  | nil => rfl
  | cons a y ih =>
    rw [List.length_cons, List.range_succ_eq_map, List.filterMap_cons]
    show a :: _ = _
    rw [List.filterMap_map]
    congr 1
theorem r_slice {w : World} {prog : Program} {kt : Nat → Option Obj} {A : Around} {h₀ : Heap} {R : Result → Shared → Prop} {B t0 : Nat} {g : Array GenState} {d : Drawn} {os : OsState} {mods : List Nat} (x y : List Nat) (tn a : Nat) (l u st : Option (Int × Tok))
   (h0 : ((st.map (·.1)).getD 1 == 0) = false) (hp : (slicePicked ⟨⟨x⟩⟩ l u st).filterMap (fun k => x[k]?) = y) (hy : y.length ≤ 16777216)
   (hfull : ((st.map (·.1)).getD 1 == 1 && (slicePicked ⟨⟨x⟩⟩ l u st).length == x.length) = true → y = x)
   (D : Rep kt h₀ mods h₀ B [(a, sliceO (partO l) (partO u) (partO st))] [] 0)
   (hR : ∀ t1 t', R (.ok (.ret (.str ⟨⟨y⟩⟩ t1))) ⟨h₀, g, d, t', os⟩) :
   codeAny (model prog w) A (.call (.builtin "str.__getitem__") ⟨[.str ⟨⟨x⟩⟩ tn, .ref a], []⟩) R ⟨h₀, g, d, t0, os⟩ := by
  have hl : h₀.get? a = some (sliceO (partO l) (partO u) (partO st)) := D.get (j := 0) rfl
  have hs : h₀.IsSlice a l u st := ⟨_, hl, rfl, by cases l <;> cases u <;> cases st <;> rfl⟩
  refine code_meets F.slot_str_getitem (typeIs_str _ _ _) F.entry_str_getitem (F.args_str_getitem_2 _ _) (meets_str_getitem_slice ⟨⟨x⟩⟩ tn a l u st h0) ⟨hs, ?_⟩
  unfold sliceMade
  split
  · rename_i h
    have e := hfull h
    subst e
    exact hR _ _
  · have e : (⟨((slicePicked ⟨⟨x⟩⟩ l u st).filterMap ((⟨⟨x⟩⟩ : Str).cps[·]?)).toArray⟩ : Str) = ⟨⟨y⟩⟩ := by
      rw [← hp]
      have e2 : (fun k : Nat => (⟨⟨x⟩⟩ : Str).cps[k]?) = fun k => x[k]? := by funext k; exact List.getElem?_toArray ..
      show (⟨(List.filterMap (fun k : Nat => (⟨⟨x⟩⟩ : Str).cps[k]?) _).toArray⟩ : Str) = _
      rw [e2]
    rw [e]
    exact ⟨by rw [sizeLine_eq]; exact hy, hR _ _⟩
theorem r_sadd {w : World} {A : Around} {R : Result → Shared → Prop} {s : Shared} {prog : Program} (x y : List Nat) (t u : Nat) (hsz : x.length + y.length ≤ 16777216)
   (hR : ∀ t' k, R (.ok (.ret (.str ⟨⟨x ++ y⟩⟩ t'))) ⟨s.heap, s.gens, s.drawn, k, s.os⟩) : callW (model prog w) A none (.call (.builtin "str.__add__") ⟨[.str ⟨⟨x⟩⟩ t, .str ⟨⟨y⟩⟩ u], []⟩) R s := by
  refine callW_call (Q := fun v s' => R (.ok (.ret v)) s') (E := fun e s' => R (.error e) s') ?_ (fun _ _ h => h) (fun _ _ h => h)
  refine call_meets F.slot_str_add (typeIs_str _ _ _) F.entry_str_add (F.args_str_add_2 _ _) (gives_str_add ⟨⟨x⟩⟩ ⟨⟨y⟩⟩ t u).meets ?_
  have hx : ((⟨⟨x⟩⟩ : Str).length == 0) = (x.length == 0) := rfl
  have hy : ((⟨⟨y⟩⟩ : Str).length == 0) = (y.length == 0) := rfl
  rw [hx, hy]
  cases x with
  | nil => exact hR u s.toks
  | cons c x =>
    cases y with
    | nil =>
      have z := hR t s.toks
      rw [List.append_nil] at z
      exact z
    | cons e y =>
      have e1 : (⟨⟨c :: x⟩⟩ : Str) ++ (⟨⟨e :: y⟩⟩ : Str) = ⟨⟨c :: x ++ e :: y⟩⟩ := by
        show (⟨(⟨c :: x⟩ : Array Nat) ++ ⟨e :: y⟩⟩ : Str) = _
        rw [List.append_toArray]
      refine (show Made.post (.str ((⟨⟨c :: x⟩⟩ : Str) ++ (⟨⟨e :: y⟩⟩ : Str))) _ s from ?_)
      rw [e1]
      refine ⟨?_, hR _ _⟩
      show (c :: x ++ e :: y).length ≤ _
      rw [List.length_append, sizeLine_eq]
      exact hsz
theorem r_seq {w : World} {A : Around} {R : Result → Shared → Prop} {s : Shared} {prog : Program} (x y : List Nat) (t u : Nat) (b : Bool) (hb : (x == y) = b)
   (hR : R (.ok (.ret (.bool b))) s) : codeAny (model prog w) A (.call (.builtin "str.__eq__") ⟨[.str ⟨⟨x⟩⟩ t, .str ⟨⟨y⟩⟩ u], []⟩) R s := by
  refine code_meets F.slot_str_eq (typeIs_str _ _ _) F.entry_str_eq (F.args_str_eq_2 _ _) (gives_str_eq ⟨⟨x⟩⟩ ⟨⟨y⟩⟩ t u).meets ?_
  show R (.ok (.ret (.bool (x == y)))) s
  rw [hb]
  exact hR
section
variable {w : World} {A : Around} {h₀ : Heap} {R : Result → Shared → Prop} {B t0 : Nat} {g : Array GenState} {d : Drawn} {os : OsState} {mods : List Nat} {prog : Program} {kt : Nat → Option Obj}
theorem After.same {X : Led} {r : Nat} {L : Led} (D : Rep kt h₀ mods h₀ B L X r) : After h₀ h₀ mods L := (D.sub (L' := L) (X' := []) (by rw [List.append_nil]; exact List.sublist_append_left L X)).done L [] (List.Perm.refl _)
theorem r_clen (la ep : Nat) (l : List Value) (hsz : l.length ≤ 16777216) (D : Rep kt h₀ mods h₀ B [(la, listO l ep)] [] 0)
   (hR : ∀ t1 t', R (.ok (.ret (.int (.ofNat l.length) t1))) ⟨h₀, g, d, t', os⟩) :
   callW (model prog w) A none (.call (.builtin "len") ⟨[.ref la], []⟩) R ⟨h₀, g, d, t0, os⟩ := by
  have hl : h₀.get? la = some (listO l ep) := D.get (j := 0) rfl
  refine callW_call (Q := fun v s' => R (.ok (.ret v)) s') (E := fun e s' => R (.error e) s') ?_ (fun _ _ h => h) (fun _ _ h => h)
  exact call_len_list (items := ⟨l⟩) ⟨_, hl, rfl, ep, rfl⟩ (by show (l.length : Int) < 2 ^ 63; omega) (hR _ _)
theorem r_mod (a b : Int) (t u : Nat) (hb : b ≠ 0) {s : Shared} (hR : ∀ t1 t', R (.ok (.ret (.int (a.fmod b) t1))) ⟨s.heap, s.gens, s.drawn, t', s.os⟩) :
   callW (model prog w) A none (.call (.builtin "int.__mod__") ⟨[.int a t, .int b u], []⟩) R s := by
  refine callW_call (Q := fun v s' => R (.ok (.ret v)) s') (E := fun e s' => R (.error e) s') ?_ (fun _ _ h => h) (fun _ _ h => h)
  exact wpAny_mono (call_int_mod (Q := fun v s' => R (.ok (.ret v)) s') hb (hR _ _)) (fun v s' h => h.2) fun _ _ h => h
theorem r_lget' (la ep t : Nat) (k : Int) (l : List Value) (x : Value) (h0 : 0 ≤ k) (hx : l[k.toNat]? = some x) (hi : k < 2 ^ 63) (D : Rep kt h₀ mods h₀ B [(la, listO l ep)] [] 0)
   (hR : R (.ok (.ret x)) ⟨h₀, g, d, t0, os⟩) :
   codeAny (model prog w) A (.call (.builtin "list.__getitem__") ⟨[.ref la, .int k t], []⟩) R ⟨h₀, g, d, t0, os⟩ := by
  have hl : h₀.get? la = some (listO l ep) := D.get (j := 0) rfl
  refine code_slot F.slot_list_getitem ⟨_, hl, rfl⟩ F.entry_list_getitem (F.args_list_getitem_2 _ _) ?_
  show wpAny _ _ (Builtin.List.listSubscript? (.int k t) >>= _) _ _ _
  refine wpAny_bind (wpAny_listSubscript_int (fitsIndex_of h0 hi) ?_)
  obtain ⟨j, rfl⟩ := Int.eq_ofNat_of_zero_le h0
  clear hi
  show wpAny _ _ ((seqItemAt la j >>= fun r => pure (r.map (j, ·))) >>= _) _ _ _
  have hx' : (⟨l⟩ : Array Value)[j]? = some x := by rw [List.getElem?_toArray]; exact hx
  refine wpAny_bind (wpAny_bind (wpAny_seqItemAt (items := ⟨l⟩) hl rfl (wpAny_pure ?_)))
  rw [hx']
  exact wpAny_pure hR
theorem r_lget (la ep i t : Nat) (l : List Value) (x : Value) (hx : l[i]? = some x) (hi : i < 16777216) (D : Rep kt h₀ mods h₀ B [(la, listO l ep)] [] 0)
   (hR : R (.ok (.ret x)) ⟨h₀, g, d, t0, os⟩) :
   codeAny (model prog w) A (.call (.builtin "list.__getitem__") ⟨[.ref la, .int (.ofNat i) t], []⟩) R ⟨h₀, g, d, t0, os⟩ :=
  r_lget' la ep t (.ofNat i) l x (Int.natCast_nonneg i) hx (by have : (Int.ofNat i) = (i : Int) := rfl; omega) D hR
noncomputable def ritO (x left : Int) : Obj := { cls := .type "range_iterator", data := .fields ⟨[.int x 0, .int left 0, .int 1 0]⟩ }
theorem r_rnext (it : Nat) (x left : Int) (h1 : 0 < left) (D : Rep kt h₀ mods h₀ B [(it, ritO x left)] [] 0)
   (hR : ∀ h1 t1 t', After h₀ h1 mods [(it, ritO (x + 1) (left - 1))] → R (.ok (.ret (.int x t1))) ⟨h1, g, d, t', os⟩) :
   codeAny (model prog w) A (.call (.builtin "range_iterator.__next__") ⟨[.ref it], []⟩) R ⟨h₀, g, d, t0, os⟩ := by
  have hit : h₀.get? it = some (ritO x left) := D.get (j := 0) rfl
  refine code_meets F.slot_range_iterator_next ⟨_, hit, rfl⟩ F.entry_range_iterator_next (F.args_range_iterator_next_1 _) (AutoRange.range_iterator___next___range_iterator_1 it x left 1 (by omega)) ⟨hit, ?_⟩
  have D1 := D.update (j := 0) (p := (it, ritO x left)) (f := Obj.mapFields fun x_1 => x_1.setIfInBounds 0 (rawInt (x + 1))) rfl rfl
  have D2 := D1.update (j := 0) (p := (it, Obj.mapFields (fun x_1 => x_1.setIfInBounds 0 (rawInt (x + 1))) (ritO x left))) (f := Obj.mapFields fun x => x.setIfInBounds 1 (rawInt (left - 1))) rfl rfl
  exact hR _ _ _ (D2.fin [1] rfl)
theorem r_rend (hA : Fit 0 A kt h₀) (it : Nat) (x : Int) (D : Rep kt h₀ mods h₀ B [(it, ritO x 0)] [] 0)
   (hR : ∀ h1 t' a a2, After h₀ h1 mods [(a2, tupO []), (a, stopO a2)] → R (.error (.ref a)) ⟨h1, g, d, t', os⟩) :
   codeAny (model prog w) A (.call (.builtin "range_iterator.__next__") ⟨[.ref it], []⟩) R ⟨h₀, g, d, t0, os⟩ := by
  obtain ⟨b1, b2, hw⟩ := parF_ex w
  have hA' := hA.in1
  have hit : h₀.get? it = some (ritO x 0) := D.get (j := 0) rfl
  refine code_slot F.slot_range_iterator_next ⟨_, hit, rfl⟩ F.entry_range_iterator_next (F.args_range_iterator_next_1 _) ?_
  refine means_base (s := ⟨h₀, g, d, t0 + 0, os⟩) ?_
  (refine segE (t0 := t0) (i := 0) 100000 [1, 1, 1] (Value.ref (B + 1)) D (by assumption) (by assumption) ?_; intro o41; refine ⟨by kernel_rfl, by kernel_rfl, by kernel_rfl, fun h41 D41 => ?_⟩)
  exact hR _ _ (B + 1) B (D41.finP [1, 2] (by kernel_rfl))
noncomputable def rngO (a b : Int) (ta tb tc : Nat) : Obj := { cls := .type "range", data := .fields ⟨[.int a ta, .int b tb, .int 1 tc]⟩ }
theorem rsize (a b : Int) (n : Nat) (h : b - a = n) : Builtin.Range.rangeSize a b 1 = n := by
  unfold Builtin.Range.rangeSize
  rw [if_pos (by decide)]
  split
  · rw [Int.ediv_one]; omega
  · omega
theorem r_riter (ra : Nat) (a b : Int) (ta tb tc n : Nat) (h : b - a = n) (ha : -1000000 ≤ a) (hb : b ≤ 16777216) (D : Rep kt h₀ mods h₀ B [(ra, rngO a b ta tb tc)] [] 0)
   (hR : ∀ h1 it t', After h₀ h1 mods [(ra, rngO a b ta tb tc), (it, ritO a n)] → R (.ok (.ret (.ref it))) ⟨h1, g, d, t', os⟩) :
   codeAny (model prog w) A (.call (.builtin "range.__iter__") ⟨[.ref ra], []⟩) R ⟨h₀, g, d, t0, os⟩ := by
  have hr : h₀.get? ra = some (rngO a b ta tb tc) := D.get (j := 0) rfl
  have hs : Builtin.Range.small a b 1 = true := by
    unfold Builtin.Range.small Builtin.Range.rangeFitsLong
    rw [rsize a b n h]
    simp
    omega
  unfold Builtin.Range.small at hs
  refine code_meets F.slot_range_iter ⟨_, hr, rfl⟩ F.entry_range_iter (F.args_range_iter_1 _) (AutoRange.range___iter___range_1 ra a b 1 ta tb tc (fun e => by rw [hs] at e; cases e)) ⟨hr, ?_⟩
  simp only [hs, if_true]
  rw [rsize a b n h]
  have D1 := D.alloc (o := ritO a n) rfl
  have hB : h₀.objs.size = B := D.size
  rw [hB]
  exact hR _ _ _ (D1.fin [1, 1] rfl)
end
section
variable {w : World} {A : Around} {h₀ : Heap} {R : Result → Shared → Prop} {B t0 : Nat} {g : Array GenState} {d : Drawn} {os : OsState} {mods : List Nat} {prog : Program} {kt : Nat → Option Obj}
theorem r_modN (a b : Nat) (t u : Nat) (hb : 0 < b) {s : Shared} (hR : ∀ t1 t', R (.ok (.ret (.int (.ofNat (a % b)) t1))) ⟨s.heap, s.gens, s.drawn, t', s.os⟩) :
   callW (model prog w) A none (.call (.builtin "int.__mod__") ⟨[.int (.ofNat a) t, .int (.ofNat b) u], []⟩) R s := by
  refine r_mod (.ofNat a) (.ofNat b) t u (by have : (Int.ofNat b) = (b : Int) := rfl; omega) ?_
  have e : (Int.ofNat a).fmod (.ofNat b) = .ofNat (a % b) := by
    rw [Int.fmod_eq_emod_of_nonneg _ (by show (0 : Int) ≤ ((b : Nat) : Int); omega)]
    rfl
  rw [e]
  exact hR
theorem r_fdivN (a b : Nat) (t u : Nat) (hb : 0 < b) (hs : b < 1073741824) {s : Shared} (hR : ∀ t1 t', R (.ok (.ret (.int (.ofNat (a / b)) t1))) ⟨s.heap, s.gens, s.drawn, t', s.os⟩) :
   callW (model prog w) A none (.call (.builtin "int.__floordiv__") ⟨[.int (.ofNat a) t, .int (.ofNat b) u], []⟩) R s := by
  have e : (Int.ofNat a).fdiv (.ofNat b) = .ofNat (a / b) := by
    rw [Int.fdiv_eq_ediv_of_nonneg _ (by show (0 : Int) ≤ ((b : Nat) : Int); omega)]
    rfl
  refine callW_call (Q := fun v s' => R (.ok (.ret v)) s') (E := fun e s' => R (.error e) s') ?_ (fun _ _ h => h) (fun _ _ h => h)
  refine wpAny_mono (call_int_floordiv (Q := fun v s' => R (.ok (.ret v)) s') (by show Int.ofNat b ≠ 0; have : (Int.ofNat b) = (b : Int) := rfl; omega) ?_ (.inl (PyProof.noPylong_small (by show b < 1073741824; exact hs)))) (fun v s' h => h.2) fun _ _ h => h
  rw [e]
  exact hR _ _
end
section
variable {w : World} {A : Around} {h₀ : Heap} {R : Result → Shared → Prop} {B t0 : Nat} {g : Array GenState} {d : Drawn} {os : OsState} {mods : List Nat} {prog : Program} {kt : Nat → Option Obj}
theorem r_sget (x : List Nat) (i t u c : Nat) (hi : i < 1000000) (hx : x[i]? = some c) {s : Shared} (hR : ∀ t1 t', R (.ok (.ret (.str ⟨⟨[c]⟩⟩ t1))) ⟨s.heap, s.gens, s.drawn, t', s.os⟩) :
   codeAny (model prog w) A (.call (.builtin "str.__getitem__") ⟨[.str ⟨⟨x⟩⟩ t, .int (.ofNat i) u], []⟩) R s := by
  have hl : i < x.length := (List.getElem?_eq_some_iff.mp hx).1
  have ei : (Int.ofNat i) = (i : Int) := rfl
  refine code_meets F.slot_str_getitem (typeIs_str _ _ _) F.entry_str_getitem (F.args_str_getitem_2 _ _) (gives_str_getitem ⟨⟨x⟩⟩ (.ofNat i) t u c ?_ ?_).meets ?_
  · rw [ei, Bool.or_eq_false_iff]
    exact ⟨decide_eq_false (by omega), decide_eq_false (by omega)⟩
  · have e1 : seqIndex? (.ofNat i) (⟨⟨x⟩⟩ : Str).length = some i := by
      unfold seqIndex?
      rw [ei]
      show (if _ then _ else _) = _
      have hz : ¬ ((i : Int) < 0) := by omega
      simp only [if_neg hz]
      have hl2 : ((i : Int) < ((⟨⟨x⟩⟩ : Str).length : Int)) := by show (i : Int) < (x.length : Int); omega
      simp [hl2]
    rw [e1]
    show (⟨x⟩ : Array Nat)[i]? = _
    rw [List.getElem?_toArray]
    exact hx
  · exact ⟨by rw [sizeLine_eq]; show 1 ≤ 16777216; decide, hR _ _⟩
theorem r_sne (x y : List Nat) (t u : Nat) (b : Bool) (hb : (x != y) = b) {s : Shared} (hR : R (.ok (.ret (.bool b))) s) : codeAny (model prog w) A (.call (.builtin "str.__ne__") ⟨[.str ⟨⟨x⟩⟩ t, .str ⟨⟨y⟩⟩ u], []⟩) R s := by
  refine code_meets F.slot_str_ne (typeIs_str _ _ _) F.entry_str_ne (F.args_str_ne_2 _ _) (gives_str_ne ⟨⟨x⟩⟩ ⟨⟨y⟩⟩ t u).meets ?_
  show R (.ok (.ret (.bool (x != y)))) s
  rw [hb]
  exact hR
theorem r_ine (a b : Int) (t u : Nat) (v : Bool) (hv : (a != b) = v) {s : Shared} (hR : R (.ok (.ret (.bool v))) s) :
   codeAny (model prog w) A (.call (.builtin "int.__ne__") ⟨[.int a t, .int b u], []⟩) R s := by
  refine code_meets F.slot_int_ne (typeIs_int _ _ _) F.entry_int_ne (F.args_int_ne_2 _ _) (gives_int_ne a b t u).meets ?_
  show R (.ok (.ret (.bool (a != b)))) s
  rw [hv]
  exact hR
end
theorem Rep.partX {kt : Nat → Option Obj} {h₀ h : Heap} {mods : List Nat} {B : Nat} {L X : Led} {r : Nat} (D : Rep kt h₀ mods h B L X r) (ix jx : List Nat) (L' X' : Led) (e : Mine.pick ix L = L') (e' : Mine.pick jx L = X') (nd : (ix ++ jx).Nodup := by decide) : ∃ B', Rep kt h₀ mods h B' L' (X' ++ X) 0 := by
  have D1 := D.pick (ix ++ jx) nd
  rw [pick_app, e, e'] at D1
  exact ⟨_, D1.perm (by rw [List.append_assoc])⟩
theorem Rep.unpartX {kt : Nat → Option Obj} {h₀ h : Heap} {mods : List Nat} {B : Nat} {L X X' : Led} {r : Nat} (D : Rep kt h₀ mods h B L (X' ++ X) r) : Rep kt h₀ mods h B (L ++ X') X r := D.perm (by rw [List.append_assoc])
set_option maxHeartbeats 4000000 in
set_option maxHeartbeats 4000000 in
set_option maxHeartbeats 4000000 in
set_option maxHeartbeats 4000000 in
set_option maxHeartbeats 4000000 in
set_option maxHeartbeats 4000000 in
section
variable {w : World} {A : Around} {h₀ : Heap} {R : Result → Shared → Prop} {B t0 : Nat} {g : Array GenState} {d : Drawn} {os : OsState} {mods : List Nat} {prog : Program} {kt : Nat → Option Obj}
theorem r_lslice (la ep sl : Nat) (xs ys : List Value) (vl vu : Value) (lo hi : Option Int) (pl : IsPart vl lo) (pu : IsPart vu hi) (hp : slicePick ⟨xs⟩ lo hi none = ⟨ys⟩) (hz : xs.length ≤ 16777216)
   (D : Rep kt h₀ mods h₀ B [(la, listO xs ep), (sl, sliceO vl vu .none)] [] 0)
   (hR : ∀ h1 na, After h₀ h1 mods [(la, listO xs ep), (na, listO ys 0)] → R (.ok (.ret (.ref na))) ⟨h1, g, d, t0, os⟩) :
   codeAny (model prog w) A (.call (.builtin "list.__getitem__") ⟨[.ref la, .ref sl], []⟩) R ⟨h₀, g, d, t0, os⟩ := by
  have hl : h₀.get? la = some (listO xs ep) := D.get (j := 0) rfl
  have hs : h₀.get? sl = some (sliceO vl vu .none) := D.get (j := 1) rfl
  have hTs : Shared.TypeIs ⟨h₀, g, d, t0, os⟩ (.ref sl) "slice" := ⟨_, hs, rfl⟩
  refine code_slot F.slot_list_getitem ⟨_, hl, rfl⟩ F.entry_list_getitem (F.args_list_getitem_2 _ _) ?_
  show wpAny _ _ (Builtin.List.listSubscript? (.ref sl) >>= _) _ _ _
  refine wpAny_bind ?_
  unfold Builtin.List.listSubscript?
  refine wpAny_bind (wpAny_specialOf hTs slice_no_index ?_)
  simp only [Option.isNone_none, if_true]
  refine wpAny_pure ?_
  show wpAny _ _ (typeOf (.ref sl) >>= _) _ _ _
  refine wpAny_bind (wpAny_typeOf hTs ?_)
  rw [if_neg (by decide)]
  rw [listSliceParts_eq]
  refine wpAny_bind (wpAny_bind (wpAny_field hs rfl (x := .none) rfl (wpAny_bind (wpAny_listPart IsPart.none ?_))))
  rw [if_neg (show ¬ ((rawPart none == rawInt 0) = true) from Bool.false_ne_true)]
  refine wpAny_bind (wpAny_field hs rfl (x := vl) rfl (wpAny_bind (wpAny_listPart pl ?_)))
  refine wpAny_bind (wpAny_field hs rfl (x := vu) rfl (wpAny_bind (wpAny_listPart pu (wpAny_pure ?_))))
  refine wpAny_bind (m := Builtin.List.listItems (.ref la)) ?_
  unfold Builtin.List.listItems
  refine wpAny_bind (wpAny_seqItems hl rfl (wpAny_pure ?_))
  refine wpAny_bind (wpAny_of_eq (sliceIndices_raw lo hi none xs.length (by decide)) ?_)
  have hB : h₀.objs.size = B := D.size
  have D1 := D.alloc (o := listO ys 0) rfl
  have a1 := D1.fin [1, 0, 1] rfl
  refine wpAny_bind (wpAny_newObj_type (wpAny_pure ?_) (Nat.le_trans (slicePick_size_le ⟨xs⟩ lo hi none) hz))
  have e : ((sliceRange (sliceBounds lo hi none xs.length).1 (sliceBounds lo hi none xs.length).2.1 (sliceBounds lo hi none xs.length).2.2).filterMap ((⟨xs⟩ : Array Value)[·]?)).toArray = ⟨ys⟩ := hp
  show R (.ok (.ret (.ref h₀.objs.size))) ⟨h₀.push { cls := .type "list", data := .seq ((sliceRange (sliceBounds lo hi none xs.length).1 (sliceBounds lo hi none xs.length).2.1 (sliceBounds lo hi none xs.length).2.2).filterMap ((⟨xs⟩ : Array Value)[·]?)).toArray }, g, d, t0, os⟩
  rw [e, hB]
  exact hR _ _ a1
theorem r_lsliceTo (la ep sl k t : Nat) (xs : List Value) (hz : xs.length ≤ 16777216)
   (D : Rep kt h₀ mods h₀ B [(la, listO xs ep), (sl, sliceO .none (.int (.ofNat k) t) .none)] [] 0)
   (hR : ∀ h1 na, After h₀ h1 mods [(la, listO xs ep), (na, listO (xs.take k) 0)] → R (.ok (.ret (.ref na))) ⟨h1, g, d, t0, os⟩) :
   codeAny (model prog w) A (.call (.builtin "list.__getitem__") ⟨[.ref la, .ref sl], []⟩) R ⟨h₀, g, d, t0, os⟩ := by
  refine r_lslice la ep sl xs (xs.take k) .none (.int (.ofNat k) t) none (some (.ofNat k)) IsPart.none (IsPart.int _ _) ?_ hz D hR
  by_cases h : k ≤ xs.length
  · exact slicePick_upto ⟨xs⟩ k h
  · have e : slicePick ⟨xs⟩ none (some (.ofNat k)) none = slicePick ⟨xs⟩ none (some (.ofNat xs.length)) none := by
      unfold slicePick sliceBounds
      have e2 : max 0 (min (if ((k : Nat) : Int) < 0 then ((k : Nat) : Int) + (xs.length : Int) else ((k : Nat) : Int)) (xs.length : Int)) = max 0 (min (if ((xs.length : Nat) : Int) < 0 then ((xs.length : Nat) : Int) + (xs.length : Int) else ((xs.length : Nat) : Int)) (xs.length : Int)) := by
        rw [if_neg (by omega), if_neg (by omega)]
        omega
      simp only [Option.getD_none]
      exact congrArg (fun z => (List.filterMap (fun x => (⟨xs⟩ : Array Value)[x]?) (sliceRange 0 z 1)).toArray) e2
    rw [e]
    refine (slicePick_upto ⟨xs⟩ xs.length (Nat.le_refl _)).trans ?_
    rw [List.take_of_length_le (by omega : xs.length ≤ k)]
    exact congrArg List.toArray List.take_length
theorem r_ladd (la ea lb eb : Nat) (xs ys : List Value) (hz : xs.length + ys.length ≤ 16777216)
   (D : Rep kt h₀ mods h₀ B [(la, listO xs ea), (lb, listO ys eb)] [] 0)
   (hR : ∀ h1 na, After h₀ h1 mods [(la, listO xs ea), (lb, listO ys eb), (na, listO (xs ++ ys) 0)] → R (.ok (.ret (.ref na))) ⟨h1, g, d, t0, os⟩) :
   codeAny (model prog w) A (.call (.builtin "list.__add__") ⟨[.ref la, .ref lb], []⟩) R ⟨h₀, g, d, t0, os⟩ := by
  have hl : h₀.get? la = some (listO xs ea) := D.get (j := 0) rfl
  have hs : h₀.get? lb = some (listO ys eb) := D.get (j := 1) rfl
  refine code_meets F.slot_list_add ⟨_, hl, rfl⟩ F.entry_list_add (F.args_list_add_2 _ _) (AutoSeq1.list___add___list_list_0 la ⟨xs⟩ ea lb ⟨ys⟩ eb hz) ⟨hl, hs, ?_⟩
  have D1 := D.alloc (o := listO (xs ++ ys) 0) rfl
  have hB : h₀.objs.size = B := D.size
  have e : (⟨xs⟩ ++ ⟨ys⟩ : Array Value) = ⟨xs ++ ys⟩ := by simp
  rw [e, hB]
  exact hR _ _ (D1.fin [1, 1, 1] rfl)
end
end Mine
end
section
open PySem PySem.W PySem.Calls PyProof.Rows
set_option Elab.async false
set_option maxRecDepth 100000
namespace Mine
noncomputable def intV (Q : List (Int × Nat)) : List Value := Q.map fun p => .int p.1 p.2
noncomputable def natV (Q : List (Nat × Nat)) : List Value := Q.map fun p => .int (.ofNat p.1) p.2
theorem natV_len (Q : List (Nat × Nat)) : (natV Q).length = Q.length := by simp [natV]
section
variable {w : World} {A : Around} {h₀ : Heap} {R : Result → Shared → Prop} {B t0 : Nat} {g : Array GenState} {d : Drawn} {os : OsState} {mods : List Nat} {prog : Program} {kt : Nat → Option Obj}
end
theorem natV_get (T : List (Nat × Nat)) (i : Nat) (h : i < T.length) : (natV T)[i]? = some (.int (.ofNat (T.getD i (0, 0)).1) (T.getD i (0, 0)).2) := by
  unfold natV
  rw [List.getElem?_map, List.getD_eq_getElem?_getD, List.getElem?_eq_getElem h]
  rfl
noncomputable def n_lineno := [108, 105, 110, 101, 110, 111]
noncomputable def n_instream := [105, 110, 115, 116, 114, 101, 97, 109]
noncomputable def n_whitespace := [119, 104, 105, 116, 101, 115, 112, 97, 99, 101]
noncomputable def n_pushback := [112, 117, 115, 104, 98, 97, 99, 107]
noncomputable def cellO (v : Option Value) : Obj := { cls := .type "cell", data := .cell v }
noncomputable def instO (di : Nat) : Obj := { cls := .ref 69, dict := some di }
end Mine
namespace Mine
end Mine
namespace Mine
noncomputable def wsS : Str := ⟨⟨[10, 9, 13, 32]⟩⟩
end Mine
end
section
open PySem PySem.W PySem.Calls PyProof.Rows
set_option Elab.async false
set_option maxRecDepth 100000
namespace Mine
open PySem.Sre PySem.Builtin.Re
theorem runFor_done {m : Sre.M} (h : m.outcome.isSome = true) : ∀ n, M.runFor n m = m := by
  intro n
  cases n with
  | zero => rfl
  | succ n => unfold M.runFor; rw [if_pos h]
theorem runFor_add : ∀ (a b : Nat) (m : Sre.M), M.runFor (a + b) m = M.runFor b (M.runFor a m) := by
  intro a
  induction a with
  | zero => intro b m; rw [Nat.zero_add]; rfl
  | succ a ih =>
    intro b m
    by_cases h : m.outcome.isSome = true
    · rw [runFor_done h, runFor_done h, runFor_done h]
    · have e1 : M.runFor (a + 1 + b) m = M.runFor (a + b) m.step := by
        rw [show a + 1 + b = (a + b) + 1 by omega]
        show (if m.outcome.isSome = true then m else M.runFor (a + b) m.step) = _
        rw [if_neg h]
      have e2 : M.runFor (a + 1) m = M.runFor a m.step := by
        show (if m.outcome.isSome = true then m else M.runFor a m.step) = _
        rw [if_neg h]
      rw [e1, e2, ih]
theorem wp_drive {MM : Model} {A : Around} {Q : Sre.M → Shared → Prop} {E : Value → Shared → Prop} {s : Shared} : ∀ (T n : Nat) (m : Sre.M), n ≤ 4 * T → (0 < T) → (M.runFor n m).outcome.isSome = true → Q (M.runFor n m) s → wpAny MM A (reDrive T m) Q E s := by
  intro T
  induction T with
  | zero => intro n m _ h; exact absurd h (Nat.lt_irrefl 0)
  | succ T ih =>
    intro n m hn _ ho hq
    unfold reDrive
    show wpAny MM A (if (M.runFor reTurnSteps m).outcome.isSome = true then pure (M.runFor reTurnSteps m) else (rule "sre.turn" >>= fun _ => reDrive T (M.runFor reTurnSteps m))) Q E s
    by_cases h4 : n ≤ 4
    · have e : M.runFor reTurnSteps m = M.runFor n m := by
        have e4 : reTurnSteps = n + (4 - n) := by show 4 = _; omega
        rw [e4, runFor_add, runFor_done ho]
      rw [e, if_pos ho]
      exact wpAny_pure hq
    · have e : M.runFor (n - 4) (M.runFor reTurnSteps m) = M.runFor n m := by
        rw [← runFor_add]
        congr 1
        show 4 + (n - 4) = n
        omega
      by_cases h : (M.runFor reTurnSteps m).outcome.isSome = true
      · rw [if_pos h]
        rw [runFor_done h] at e
        rw [e]
        exact wpAny_pure hq
      · rw [if_neg h]
        refine wpAny_bind (wpAny_rule ?_)
        rcases Nat.eq_zero_or_pos T with rfl | hT
        · omega
        · exact ih (n - 4) _ (by omega) hT (by rw [e]; exact ho) (by rw [e]; exact hq)
theorem wp_rules {MM : Model} {A : Around} {E : Value → Shared → Prop} {s : Shared} (c : Nat → Bool) (nm : Nat → String) : ∀ (l : List Nat) {Q : Unit → Shared → Prop}, Q () s →
    wpAny MM A (forIn l () fun i _ => (if c i = true then (rule (nm i) >>= fun _ => pure (ForInStep.yield ())) else pure (ForInStep.yield ()) : Sem (ForInStep Unit))) Q E s := by
  intro l
  induction l with
  | nil => intro Q h; exact wpAny_pure h
  | cons i l ih =>
    intro Q h
    rw [List.forIn_cons]
    refine wpAny_bind ?_
    by_cases hc : c i = true
    · rw [if_pos hc]
      exact wpAny_bind (wpAny_rule (wpAny_pure (ih h)))
    · rw [if_neg hc]
      exact wpAny_pure (ih h)
theorem wp_found {MM : Model} {A : Around} {Q : Option Sre.M → Shared → Prop} {E : Value → Shared → Prop} {s : Shared} (n : Nat) (m : Sre.M) (hn : n ≤ 4 * 2 ^ 64) (ho : (M.runFor n m).outcome = some .matched) (hq : Q (some (M.runFor n m)) s) : wpAny MM A (reRunToEnd m) Q E s := by
  unfold reRunToEnd
  refine wpAny_bind (wp_drive (2 ^ 64) n m hn (by decide) (by rw [ho]; rfl) ?_)
  refine wpAny_bind (wp_rules _ _ _ ?_)
  rw [ho]
  exact wpAny_pure hq
theorem wp_none {MM : Model} {A : Around} {Q : Option Sre.M → Shared → Prop} {E : Value → Shared → Prop} {s : Shared} (n : Nat) (m : Sre.M) (hn : n ≤ 4 * 2 ^ 64) (ho : (M.runFor n m).outcome = some .failed) (hq : Q none s) : wpAny MM A (reRunToEnd m) Q E s := by
  unfold reRunToEnd
  refine wpAny_bind (wp_drive (2 ^ 64) n m hn (by decide) (by rw [ho]; rfl) ?_)
  refine wpAny_bind (wp_rules _ _ _ ?_)
  rw [ho]
  exact wpAny_pure hq
end Mine
end
section
open PySem PySem.W PySem.Calls PyProof.Rows
set_option Elab.async false
set_option maxRecDepth 100000
namespace Mine
open PySem.Sre PySem.Builtin.Re
noncomputable def cd1 : Array Nat := #[14, 4, 0, 1, 1, 6, 1, 16, 46, 1]
noncomputable def T1 (x : Array Nat) (start : Nat) (o : Bool) (pc pos hd : Nat) (fr : List Sre.Frame) (wt : Nat) (an : Option Bool) (se : Sre.Seen) (oc : Option Sre.Outcome) : Sre.M :=
  { code := cd1, text := x, lim := x.size, start, lastStart := x.size, pc, pos, handed := hd, outermost := o, marks := #[], frames := fr, weight := wt, answer := an, seen := se, outcome := oc }
noncomputable def fr1 (s : Nat) (o : Bool) : List Sre.Frame := [{ wait := .nextStart, pc := 5, pos := s, outermost := o }]
section
variable (x : Array Nat) (s : Nat) (o : Bool) (se : Sre.Seen)
theorem t1a : ∃ se', M.step (T1 x s o 5 s s (fr1 s o) 1 none se none) = if (s == 0 || x.getD (s - 1) 0 == 10) = true then T1 x s o 7 s s (fr1 s o) 1 none se' none else T1 x s o 5 s s (fr1 s o) 1 (some false) se' none := ⟨_, rfl⟩
theorem t1b : ∃ se', M.step (T1 x s o 7 s s (fr1 s o) 1 none se none) = if s ≥ x.size then T1 x s o 7 s s (fr1 s o) 1 (some false) se' none else match x.getD s 0 == 46 with
  | true => T1 x s o 9 (s + 1) s (fr1 s o) 1 none se' none
  | false => T1 x s o 7 s s (fr1 s o) 1 (some false) se' none := by
  refine ⟨se.add 16, ?_⟩
  cases h : x.getD s 0 == 46 <;> (show (if s ≥ x.size then _ else (match (Except.ok (x.getD s 0 == 46, se.add 16) : Except String (Bool × Sre.Seen)) with | .error why => _ | .ok (false, seen) => _ | .ok (true, seen) => _)) = _; rw [h]; rfl)
theorem t1c : ∃ se', M.step (T1 x s o 9 (s + 1) s (fr1 s o) 1 none se none) = T1 x s o 9 (s + 1) (s + 1) (fr1 s o) 1 (some true) se' none := by
  cases o <;> exact ⟨_, rfl⟩
theorem t1f (pc : Nat) : M.step (T1 x s o pc s s (fr1 s o) 1 (some false) se none) = if s < x.size then T1 x (s + 1) false 5 (s + 1) (s + 1) (fr1 (s + 1) false) 1 none se none else T1 x s o 5 s s [] 0 (some false) se none := rfl
theorem t1g (pc : Nat) : M.step (T1 x s o pc s s [] 0 (some false) se none) = T1 x s o pc s s [] 0 (some false) se (some .failed) := rfl
end
theorem rf1 {m : Sre.M} (h : m.outcome = none) (n : Nat) : M.runFor (n + 1) m = M.runFor n m.step := by
  show (if m.outcome.isSome = true then m else M.runFor n m.step) = _
  rw [h]
  rfl
noncomputable def nextP (p : Nat → Bool) : Nat → Nat → Option Nat
  | 0, _ => none
  | k + 1, s => if p s = true then some s else nextP p k (s + 1)
/-- a run that ends at a match from q to e, or at none -/
noncomputable def Found (m : Sre.M) (N : Nat) : Option (Nat × Nat) → Prop
  | some (q, e) => ∃ n, n ≤ N ∧ (M.runFor n m).outcome = some .matched ∧ (M.runFor n m).start = q ∧ (M.runFor n m).handed = e
  | none => ∃ n, n ≤ N ∧ (M.runFor n m).outcome = some .failed
theorem Found.step {m m' : Sre.M} {N : Nat} {r : Option (Nat × Nat)} (ho : m.outcome = none) (e : M.step m = m') (h : Found m' N r) : Found m (N + 1) r := by
  cases r with
  | none =>
    obtain ⟨n, hn, h⟩ := h
    exact ⟨n + 1, by omega, by rw [rf1 ho, e]; exact h⟩
  | some q =>
    obtain ⟨n, hn, h⟩ := h
    exact ⟨n + 1, by omega, by rw [rf1 ho, e]; exact h⟩
theorem Found.mono {m : Sre.M} {N N' : Nat} {r : Option (Nat × Nat)} (h : Found m N r) (hn : N ≤ N') : Found m N' r := by
  cases r with
  | none => obtain ⟨n, hn', h⟩ := h; exact ⟨n, by omega, h⟩
  | some q => obtain ⟨n, hn', h⟩ := h; exact ⟨n, by omega, h⟩
theorem Found.no {m : Sre.M} (h : m.outcome = some .failed) : Found m 0 none := ⟨0, Nat.le_refl _, h⟩
noncomputable def bolDot (x : Array Nat) (q : Nat) : Bool := (q == 0 || x.getD (q - 1) 0 == 10) && decide (q < x.size) && (x.getD q 0 == 46)
theorem t1_fail (x : Array Nat) (s : Nat) (o : Bool) (pc : Nat) (se : Sre.Seen) (k : Nat) (hk : x.size - s = k) (hs : s ≤ x.size)
    (ih : ∀ k' < k, ∀ s o se, x.size - s = k' → s ≤ x.size → Found (T1 x s o 5 s s (fr1 s o) 1 none se none) (3 * k' + 6) ((nextP (bolDot x) (k' + 1) s).map fun q => (q, q + 1)))
    (hd : bolDot x s = false) : Found (T1 x s o pc s s (fr1 s o) 1 (some false) se none) (3 * k + 4) ((nextP (bolDot x) (k + 1) s).map fun q => (q, q + 1)) := by
  have e0 : nextP (bolDot x) (k + 1) s = nextP (bolDot x) k (s + 1) := by
    show (if bolDot x s = true then _ else _) = _
    rw [if_neg (by rw [hd]; exact Bool.false_ne_true)]
  rw [e0]
  by_cases h : s < x.size
  · obtain ⟨k', rfl⟩ : ∃ k', k = k' + 1 := ⟨k - 1, by omega⟩
    refine (Found.step rfl ((t1f x s o se pc).trans (if_pos h)) (ih k' (by omega) (s + 1) false se (by omega) (by omega))).mono (by omega)
  · have e1 : k = 0 := by omega
    subst e1
    refine (Found.step rfl ((t1f x s o se pc).trans (if_neg h)) (Found.step rfl (t1g x s o se 5) (Found.no rfl))).mono (by omega)
theorem t1_run (x : Array Nat) : ∀ k s o se, x.size - s = k → s ≤ x.size → Found (T1 x s o 5 s s (fr1 s o) 1 none se none) (3 * k + 6) ((nextP (bolDot x) (k + 1) s).map fun q => (q, q + 1)) := by
  intro k
  induction k using Nat.strongRecOn with
  | ind k ih =>
  intro s o se hk hs
  obtain ⟨se1, e1⟩ := t1a x s o se
  by_cases hb : (s == 0 || x.getD (s - 1) 0 == 10) = true
  · rw [if_pos hb] at e1
    obtain ⟨se2, e2⟩ := t1b x s o se1
    by_cases hl : s ≥ x.size
    · rw [if_pos hl] at e2
      refine (Found.step rfl e1 (Found.step rfl e2 (t1_fail x s o 7 se2 k hk hs ih ?_))).mono (by omega)
      unfold bolDot
      rw [decide_eq_false (by omega : ¬ s < x.size), Bool.and_false, Bool.false_and]
    · rw [if_neg hl] at e2
      cases hc : x.getD s 0 == 46 with
      | true =>
        rw [hc] at e2
        obtain ⟨se3, e3⟩ := t1c x s o se2
        have e0 : nextP (bolDot x) (k + 1) s = some s := by
          show (if bolDot x s = true then _ else _) = _
          rw [if_pos]
          unfold bolDot
          rw [hb, hc, decide_eq_true (by omega : s < x.size)]
          rfl
        rw [e0]
        refine (Found.step rfl e1 (Found.step rfl e2 (Found.step rfl e3 ?_))).mono (N := 2 + 1 + 1 + 1) (by omega)
        exact ⟨2, Nat.le_refl _, rfl, rfl, rfl⟩
      | false =>
        rw [hc] at e2
        refine (Found.step rfl e1 (Found.step rfl e2 (t1_fail x s o 7 se2 k hk hs ih ?_))).mono (by omega)
        unfold bolDot
        rw [hc, Bool.and_false]
  · rw [if_neg hb] at e1
    refine (Found.step rfl e1 (t1_fail x s o 5 se1 k hk hs ih ?_)).mono (by omega)
    unfold bolDot
    rw [Bool.eq_false_iff.mpr hb, Bool.false_and, Bool.false_and]
theorem search1 (x : Array Nat) (s : Nat) (hs : s ≤ x.size) : Found (forSearch cd1 x 0 s x.size false) (3 * (x.size - s) + 6) ((nextP (bolDot x) (x.size - s + 1) s).map fun q => (q, q + 1)) := by
  by_cases h : s < x.size
  · have e : forSearch cd1 x 0 s x.size false = T1 x s true 5 s s (fr1 s true) 1 none (({} : Sre.Seen).add 14) none := by
      have e2 : ¬ ((decide (s > x.size) || decide (x.size - s < 1)) = true) := by simp; omega
      show (if (decide (s > x.size) || decide (x.size - s < 1)) = true then _ else _) = _
      rw [if_neg e2]
      rfl
    rw [e]
    exact t1_run x _ s true _ rfl hs
  · have e0 : x.size - s = 0 := by omega
    rw [e0]
    have e1 : nextP (bolDot x) (0 + 1) s = none := by
      show (if bolDot x s = true then _ else _) = _
      rw [if_neg]
      · rfl
      · unfold bolDot
        rw [decide_eq_false h, Bool.and_false, Bool.false_and]
        exact Bool.false_ne_true
    rw [e1]
    have e2 : (decide (s > x.size) || decide (x.size - s < 1)) = true := by simp; omega
    refine ⟨1, by omega, ?_⟩
    have e : forSearch cd1 x 0 s x.size false = (if (decide (s > x.size) || decide (x.size - s < 1)) = true then M.say { code := cd1, text := x, lim := x.size, start := s, pc := 5, pos := s, handed := s, marks := #[], seen := ({} : Sre.Seen).add 14 } false else M.attemptFrom { code := cd1, text := x, lim := x.size, start := s, pc := 5, pos := s, handed := s, marks := #[], seen := ({} : Sre.Seen).add 14, lastStart := x.size } s true) := rfl
    rw [e, if_pos e2]
    rfl
end Mine
end
section
open PySem PySem.W PySem.Calls PyProof.Rows
set_option Elab.async false
set_option maxRecDepth 100000
namespace Mine
open PySem.Sre PySem.Builtin.Re
noncomputable def cd2 : Array Nat := #[14, 9, 4, 1, 2, 16, 10, 16, 13, 0, 7, 7, 16, 13, 16, 10, 15, 18, 5, 16, 10, 15, 13, 11, 16, 13, 5, 5, 0, 16, 10, 1, 15, 2, 0, 1]
noncomputable def T2 (x : Array Nat) (start : Nat) (o : Bool) (pc pos hd : Nat) (fr : List Sre.Frame) (wt : Nat) (an : Option Bool) (se : Sre.Seen) (oc : Option Sre.Outcome) : Sre.M :=
  { code := cd2, text := x, lim := x.size, start, lastStart := x.size, pc, pos, handed := hd, outermost := o, marks := #[], frames := fr, weight := wt, answer := an, seen := se, outcome := oc }
noncomputable def fn2 (s : Nat) (o : Bool) : Sre.Frame := { wait := .nextStart, pc := 10, pos := s, outermost := o }
noncomputable def fb2 (pc s : Nat) (o : Bool) : Sre.Frame := { wait := .nextBranch, pc := pc, pos := s, outermost := o }
noncomputable def fl2 (s : Nat) (o : Bool) : Sre.Frame := { wait := .lookNot, pc := 26, pos := s, outermost := o }
theorem nextP_none {p : Nat → Bool} : ∀ k s, (∀ q, s ≤ q → p q = false) → nextP p k s = none := by
  intro k
  induction k with
  | zero => intro s _; rfl
  | succ k ih =>
    intro s h
    show (if p s = true then _ else _) = _
    rw [if_neg (by rw [h s (Nat.le_refl _)]; exact Bool.false_ne_true)]
    exact ih (s + 1) fun q hq => h q (by omega)
noncomputable def isNl (x : Array Nat) (q : Nat) : Bool := decide (q < x.size) && (x.getD q 0 == 10 || x.getD q 0 == 13)
noncomputable def nlEnd (x : Array Nat) (q : Nat) : Nat := if (x.getD q 0 == 13 && decide (q + 1 < x.size) && x.getD (q + 1) 0 == 10) = true then q + 2 else q + 1
theorem inSet2 (c : Nat) (se : Sre.Seen) : ∃ se', inSet cd2 c 36 5 true se = .ok (c == 10 || c == 13, se') := by
  by_cases h : (c == 10) = true
  · refine ⟨se.add 16, ?_⟩
    show (if (c == 10) = true then _ else _) = _
    rw [if_pos h, h]
    rfl
  · by_cases h2 : (c == 13) = true
    · refine ⟨(se.add 16).add 16, ?_⟩
      show (if (c == 10) = true then _ else (if (c == 13) = true then _ else _)) = _
      rw [if_neg h, if_pos h2, h2, Bool.or_true]
      rfl
    · refine ⟨((se.add 16).add 16).add 0, ?_⟩
      show (if (c == 10) = true then _ else (if (c == 13) = true then _ else _)) = _
      rw [if_neg h, if_neg h2, Bool.eq_false_iff.mpr h, Bool.eq_false_iff.mpr h2]
      rfl
theorem adm2 (m : Sre.M) (hc : m.code = cd2) (hl : m.lim = m.text.size) : ∀ fuel s se, m.text.size < s + fuel → ∃ se', M.admitted m fuel s se = .ok (nextP (isNl m.text) fuel s, se') := by
  intro fuel
  induction fuel with
  | zero => intro s se _; exact ⟨se, rfl⟩
  | succ fuel ih =>
    intro s se h
    unfold M.admitted
    by_cases hs : s ≥ m.lim
    · refine ⟨se, ?_⟩
      rw [if_pos hs, nextP_none]
      intro q hq
      unfold isNl
      rw [decide_eq_false (by omega), Bool.false_and]
    · rw [if_neg hs]
      obtain ⟨se1, e1⟩ := inSet2 (m.text.getD s 0) se
      have e2 : inSet m.code (m.text.getD s 0) m.code.size 5 true se = .ok (m.text.getD s 0 == 10 || m.text.getD s 0 == 13, se1) := by rw [hc]; exact e1
      rw [e2]
      have e3 : isNl m.text s = (m.text.getD s 0 == 10 || m.text.getD s 0 == 13) := by
        unfold isNl
        rw [decide_eq_true (by omega : s < m.text.size), Bool.true_and]
      have e4 : nextP (isNl m.text) (fuel + 1) s = if isNl m.text s = true then some s else nextP (isNl m.text) fuel (s + 1) := rfl
      rw [e4, e3]
      cases m.text.getD s 0 == 10 || m.text.getD s 0 == 13 with
      | true => exact ⟨se1, rfl⟩
      | false =>
        obtain ⟨se2, e5⟩ := ih (s + 1) se1 (by omega)
        exact ⟨se2, e5⟩
section
variable (x : Array Nat) (st : Nat) (o : Bool) (se : Sre.Seen) (p hd : Nat) (fr : List Sre.Frame) (wt : Nat)
theorem l12 : ∃ se', M.step (T2 x st o 12 p hd fr wt none se none) = if p ≥ x.size then T2 x st o 12 p hd fr wt (some false) se' none else match x.getD p 0 == 13 with
  | true => T2 x st o 14 (p + 1) hd fr wt none se' none
  | false => T2 x st o 12 p hd fr wt (some false) se' none := by
  refine ⟨se.add 16, ?_⟩
  cases h : x.getD p 0 == 13 <;> (show (if p ≥ x.size then _ else (match (Except.ok (x.getD p 0 == 13, se.add 16) : Except String (Bool × Sre.Seen)) with | .error why => _ | .ok (false, seen) => _ | .ok (true, seen) => _)) = _; rw [h]; rfl)
theorem l14 : ∃ se', M.step (T2 x st o 14 p hd fr wt none se none) = if p ≥ x.size then T2 x st o 14 p hd fr wt (some false) se' none else match x.getD p 0 == 10 with
  | true => T2 x st o 16 (p + 1) hd fr wt none se' none
  | false => T2 x st o 14 p hd fr wt (some false) se' none := by
  refine ⟨se.add 16, ?_⟩
  cases h : x.getD p 0 == 10 <;> (show (if p ≥ x.size then _ else (match (Except.ok (x.getD p 0 == 10, se.add 16) : Except String (Bool × Sre.Seen)) with | .error why => _ | .ok (false, seen) => _ | .ok (true, seen) => _)) = _; rw [h]; rfl)
theorem l19 : ∃ se', M.step (T2 x st o 19 p hd fr wt none se none) = if p ≥ x.size then T2 x st o 19 p hd fr wt (some false) se' none else match x.getD p 0 == 10 with
  | true => T2 x st o 21 (p + 1) hd fr wt none se' none
  | false => T2 x st o 19 p hd fr wt (some false) se' none := by
  refine ⟨se.add 16, ?_⟩
  cases h : x.getD p 0 == 10 <;> (show (if p ≥ x.size then _ else (match (Except.ok (x.getD p 0 == 10, se.add 16) : Except String (Bool × Sre.Seen)) with | .error why => _ | .ok (false, seen) => _ | .ok (true, seen) => _)) = _; rw [h]; rfl)
theorem l24 : ∃ se', M.step (T2 x st o 24 p hd fr wt none se none) = if p ≥ x.size then T2 x st o 24 p hd fr wt (some false) se' none else match x.getD p 0 == 13 with
  | true => T2 x st o 26 (p + 1) hd fr wt none se' none
  | false => T2 x st o 24 p hd fr wt (some false) se' none := by
  refine ⟨se.add 16, ?_⟩
  cases h : x.getD p 0 == 13 <;> (show (if p ≥ x.size then _ else (match (Except.ok (x.getD p 0 == 13, se.add 16) : Except String (Bool × Sre.Seen)) with | .error why => _ | .ok (false, seen) => _ | .ok (true, seen) => _)) = _; rw [h]; rfl)
theorem l29 : ∃ se', M.step (T2 x st o 29 p hd fr wt none se none) = if p ≥ x.size then T2 x st o 29 p hd fr wt (some false) se' none else match x.getD p 0 == 10 with
  | true => T2 x st o 31 (p + 1) hd fr wt none se' none
  | false => T2 x st o 29 p hd fr wt (some false) se' none := by
  refine ⟨se.add 16, ?_⟩
  cases h : x.getD p 0 == 10 <;> (show (if p ≥ x.size then _ else (match (Except.ok (x.getD p 0 == 10, se.add 16) : Except String (Bool × Sre.Seen)) with | .error why => _ | .ok (false, seen) => _ | .ok (true, seen) => _)) = _; rw [h]; rfl)
theorem j16 : ∃ se', M.step (T2 x st o 16 p hd fr wt none se none) = T2 x st o 35 p hd fr wt none se' none := ⟨_, rfl⟩
theorem j21 : ∃ se', M.step (T2 x st o 21 p hd fr wt none se none) = T2 x st o 35 p hd fr wt none se' none := ⟨_, rfl⟩
theorem j32 : ∃ se', M.step (T2 x st o 32 p hd fr wt none se none) = T2 x st o 35 p hd fr wt none se' none := ⟨_, rfl⟩
theorem b10 : ∃ se', M.step (T2 x st o 10 st hd [fn2 st o] 1 none se none) = T2 x st o 12 st st [fb2 11 st o, fn2 st o] 2 none se' none := ⟨_, rfl⟩
theorem b11 (pc : Nat) : M.step (T2 x st o pc p hd [fb2 11 st o, fn2 st o] 2 (some false) se none) = T2 x st o 19 st st [fb2 18 st o, fn2 st o] 2 none se none := rfl
theorem b18 (pc : Nat) : M.step (T2 x st o pc p hd [fb2 18 st o, fn2 st o] 2 (some false) se none) = T2 x st o 24 st st [fb2 23 st o, fn2 st o] 2 none se none := rfl
theorem a26 (pb : Nat) : ∃ se', M.step (T2 x st o 26 p hd [fb2 pb st o, fn2 st o] 2 none se none) = T2 x st false 29 p p [fl2 p o, fb2 pb st o, fn2 st o] 3 none se' none := ⟨_, rfl⟩
theorem a29 (pb pc q : Nat) (o' : Bool) : M.step (T2 x st o' pc q hd [fl2 p o, fb2 pb st o, fn2 st o] 3 (some false) se none) = T2 x st o 32 p hd [fb2 pb st o, fn2 st o] 2 none se none := rfl
theorem s35 (pb : Nat) : ∃ se', M.step (T2 x st o 35 p hd [fb2 pb st o, fn2 st o] 2 none se none) = T2 x st o 35 p p [fb2 pb st o, fn2 st o] 2 (some true) se' none := by
  cases o <;> exact ⟨_, rfl⟩
theorem w2 (pb : Nat) : Found (T2 x st o 35 p p [fb2 pb st o, fn2 st o] 2 (some true) se none) 3 (some (st, p)) := ⟨3, Nat.le_refl _, rfl, rfl, rfl⟩
end
theorem t2_run (x : Array Nat) (s : Nat) (o : Bool) (se : Sre.Seen) (h : isNl x s = true) : Found (T2 x s o 10 s s [fn2 s o] 1 none se none) 30 (some (s, nlEnd x s)) := by
  unfold isNl at h
  obtain ⟨h1, h2⟩ := Bool.and_eq_true_iff.mp h
  have hs : ¬ s ≥ x.size := by have := of_decide_eq_true h1; omega
  obtain ⟨se1, e1⟩ := b10 x s o se s
  refine (Found.step rfl e1 ?_).mono (N := 29 + 1) (by omega)
  obtain ⟨se2, e2⟩ := l12 x s o se1 s s [fb2 11 s o, fn2 s o] 2
  rw [if_neg hs] at e2
  cases h13 : x.getD s 0 == 13 with
  | false =>
    rw [h13] at e2 h2
    rw [Bool.or_false] at h2
    have en : nlEnd x s = s + 1 := by unfold nlEnd; rw [h13, Bool.false_and, Bool.false_and]; rfl
    rw [en]
    refine (Found.step rfl e2 (Found.step rfl (b11 x s o se2 s s 12) ?_)).mono (N := 25 + 1 + 1) (by omega)
    obtain ⟨se3, e3⟩ := l19 x s o se2 s s [fb2 18 s o, fn2 s o] 2
    rw [if_neg hs, h2] at e3
    obtain ⟨se4, e4⟩ := j21 x s o se3 (s + 1) s [fb2 18 s o, fn2 s o] 2
    obtain ⟨se5, e5⟩ := s35 x s o se4 (s + 1) s 18
    exact (Found.step rfl e3 (Found.step rfl e4 (Found.step rfl e5 (w2 x s o se5 (s + 1) 18)))).mono (by omega)
  | true =>
    rw [h13] at e2
    refine (Found.step rfl e2 ?_).mono (N := 28 + 1) (by omega)
    obtain ⟨se3, e3⟩ := l14 x s o se2 (s + 1) s [fb2 11 s o, fn2 s o] 2
    by_cases hA : (decide (s + 1 < x.size) && x.getD (s + 1) 0 == 10) = true
    · obtain ⟨g1, g2⟩ := Bool.and_eq_true_iff.mp hA
      have hs1 : ¬ s + 1 ≥ x.size := by have := of_decide_eq_true g1; omega
      rw [if_neg hs1, g2] at e3
      have en : nlEnd x s = s + 1 + 1 := by unfold nlEnd; rw [h13, g1, g2]; rfl
      rw [en]
      obtain ⟨se4, e4⟩ := j16 x s o se3 (s + 1 + 1) s [fb2 11 s o, fn2 s o] 2
      obtain ⟨se5, e5⟩ := s35 x s o se4 (s + 1 + 1) s 11
      exact (Found.step rfl e3 (Found.step rfl e4 (Found.step rfl e5 (w2 x s o se5 (s + 1 + 1) 11)))).mono (by omega)
    · have en : nlEnd x s = s + 1 := by
        unfold nlEnd
        rw [h13, Bool.true_and, if_neg hA]
      rw [en]
      have f3 : ∃ se' pc' p', M.step (T2 x s o 14 (s + 1) s [fb2 11 s o, fn2 s o] 2 none se2 none) = T2 x s o pc' p' s [fb2 11 s o, fn2 s o] 2 (some false) se' none := by
        by_cases hs1 : s + 1 ≥ x.size
        · rw [if_pos hs1] at e3; exact ⟨_, _, _, e3⟩
        · rw [if_neg hs1] at e3
          cases g : x.getD (s + 1) 0 == 10 with
          | true => exact absurd (by rw [g, decide_eq_true (by omega)]; rfl) hA
          | false => rw [g] at e3; exact ⟨_, _, _, e3⟩
      obtain ⟨se3', pc3, p3, e3'⟩ := f3
      have h10 : (x.getD s 0 == 10) = false := by
        have := beq_iff_eq.mp h13
        rw [this]
        rfl
      obtain ⟨se4, e4⟩ := l19 x s o se3' s s [fb2 18 s o, fn2 s o] 2
      rw [if_neg hs, h10] at e4
      obtain ⟨se5, e5⟩ := l24 x s o se4 s s [fb2 23 s o, fn2 s o] 2
      rw [if_neg hs, h13] at e5
      obtain ⟨se6, e6⟩ := a26 x s o se5 (s + 1) s 23
      obtain ⟨se7, e7⟩ := l29 x s false se6 (s + 1) (s + 1) [fl2 (s + 1) o, fb2 23 s o, fn2 s o] 3
      have f7 : ∃ se' pc' p', M.step (T2 x s false 29 (s + 1) (s + 1) [fl2 (s + 1) o, fb2 23 s o, fn2 s o] 3 none se6 none) = T2 x s false pc' p' (s + 1) [fl2 (s + 1) o, fb2 23 s o, fn2 s o] 3 (some false) se' none := by
        by_cases hs1 : s + 1 ≥ x.size
        · rw [if_pos hs1] at e7; exact ⟨_, _, _, e7⟩
        · rw [if_neg hs1] at e7
          cases g : x.getD (s + 1) 0 == 10 with
          | true => exact absurd (by rw [g, decide_eq_true (by omega)]; rfl) hA
          | false => rw [g] at e7; exact ⟨_, _, _, e7⟩
      obtain ⟨se7', pc7, p7, e7'⟩ := f7
      obtain ⟨se8, e8⟩ := j32 x s o se7' (s + 1) (s + 1) [fb2 23 s o, fn2 s o] 2
      obtain ⟨se9, e9⟩ := s35 x s o se8 (s + 1) (s + 1) 23
      refine (Found.step rfl e3' (Found.step rfl (b11 x s o se3' p3 s pc3) (Found.step rfl e4 (Found.step rfl (b18 x s o se4 s s 19) (Found.step rfl e5 (Found.step rfl e6 (Found.step rfl e7' (Found.step rfl (a29 x s o se7' (s + 1) (s + 1) 23 pc7 p7 false) (Found.step rfl e8 (Found.step rfl e9 (w2 x s o se9 (s + 1) 23))))))))))).mono (by omega)
theorem search2 (x : Array Nat) (s : Nat) (hs : s ≤ x.size) : Found (forSearch cd2 x 0 s x.size false) 31 ((nextP (isNl x) (x.size + 1 - s) s).map fun q => (q, nlEnd x q)) := by
  have e : forSearch cd2 x 0 s x.size false = (if (decide (s > x.size) || decide (x.size - s < 1)) = true then M.say { code := cd2, text := x, lim := x.size, start := s, pc := 10, pos := s, handed := s, marks := #[], seen := ({} : Sre.Seen).add 14 } false else M.attemptFrom { code := cd2, text := x, lim := x.size, start := s, pc := 10, pos := s, handed := s, marks := #[], seen := ({} : Sre.Seen).add 14, lastStart := x.size } s true) := rfl
  by_cases h : s < x.size
  · have e2 : ¬ ((decide (s > x.size) || decide (x.size - s < 1)) = true) := by simp; omega
    rw [e, if_neg e2]
    have e3 : M.attemptFrom { code := cd2, text := x, lim := x.size, start := s, pc := 10, pos := s, handed := s, marks := #[], seen := ({} : Sre.Seen).add 14, lastStart := x.size } s true =
        match M.admitted ({ code := cd2, text := x, lim := x.size, start := s, pc := 10, pos := s, handed := s, marks := #[], seen := ({} : Sre.Seen).add 14, lastStart := x.size } : Sre.M) (x.size + 1 - s) s (({} : Sre.Seen).add 14) with
        | .ok (some q, seen) => T2 x q true 10 q q [fn2 q true] 1 none seen none
        | .ok (none, seen) => T2 x s true 10 s s [] 0 (some false) seen none
        | .error why => M.stick { code := cd2, text := x, lim := x.size, start := s, pc := 10, pos := s, handed := s, marks := #[], seen := ({} : Sre.Seen).add 14, lastStart := x.size } why := rfl
    rw [e3]
    obtain ⟨se, e4⟩ := adm2 { code := cd2, text := x, lim := x.size, start := s, pc := 10, pos := s, handed := s, marks := #[], seen := ({} : Sre.Seen).add 14, lastStart := x.size } rfl rfl (x.size + 1 - s) s (({} : Sre.Seen).add 14) (by show x.size < _; omega)
    rw [e4]
    show Found (match (Except.ok (nextP (isNl x) (x.size + 1 - s) s, se) : Except String (Option Nat × Sre.Seen)) with | .ok (some q, seen) => _ | .ok (none, seen) => _ | .error why => _) _ _
    cases hq : nextP (isNl x) (x.size + 1 - s) s with
    | none => exact ⟨1, by omega, rfl⟩
    | some q =>
      have hp : ∀ k s, nextP (isNl x) k s = some q → isNl x q = true := by
        intro k
        induction k with
        | zero => intro s h; cases h
        | succ k ih =>
          intro s h
          have e5 : nextP (isNl x) (k + 1) s = if isNl x s = true then some s else nextP (isNl x) k (s + 1) := rfl
          rw [e5] at h
          by_cases g : isNl x s = true
          · rw [if_pos g] at h; cases h; exact g
          · rw [if_neg g] at h; exact ih _ h
      exact (t2_run x q true se (hp _ _ hq)).mono (by omega)
  · have e2 : (decide (s > x.size) || decide (x.size - s < 1)) = true := by simp; omega
    rw [e, if_pos e2, nextP_none]
    · exact ⟨1, by omega, rfl⟩
    · intro q hq
      unfold isNl
      rw [decide_eq_false (by omega), Bool.false_and]
end Mine
end
section
open PySem PySem.W PySem.Calls PyProof.Rows
set_option Elab.async false
set_option maxRecDepth 100000
namespace Mine
open PySem.Sre PySem.Builtin.Re
structure Pat (kt : Nat → Option Obj) (pa : Nat) (cd : Array Nat) : Prop where
  ex : ∃ po fs ca co items n, kt pa = some po ∧ po.data = .fields fs ∧ fs.getD 5 .none = .ref ca ∧ kt ca = some co ∧ co.data = .seq items n ∧ (items.map reRawOf).map Int.toNat = cd ∧ reRawNat (fs.getD 6 .none) = 0 ∧ reRawNat (fs.getD 2 .none) = 0
theorem wp_target {kt : Nat → Option Obj} {h₀ h : Heap} {mods : List Nat} {B : Nat} {L X : Led} {r : Nat} {MM : Model} {A : Around} {Q : ReTarget → Shared → Prop} {E : Value → Shared → Prop} {g : Array GenState} {d : Drawn} {os : OsState} {t0 : Nat}
   {pa : Nat} {cd : Array Nat} (pat : Pat kt pa cd) (x : List Nat) (t : Nat) (D : Rep kt h₀ mods h B L X r)
   (hq : Q { pattern := .ref pa, string := .str ⟨⟨x⟩⟩ t, code := cd, text := ⟨x⟩, kind := 0, groups := 0, pos := 0, lim := x.length } ⟨h, g, d, t0, os⟩) :
   wpAny MM A (reWholeTarget (.ref pa) (.str ⟨⟨x⟩⟩ t)) Q E ⟨h, g, d, t0, os⟩ := by
  obtain ⟨po, fs, ca, co, items, n, h1, h2, h3, h4, h5, h6, h7, h8⟩ := pat.ex
  unfold reWholeTarget
  refine wpAny_bind (wpAny_fieldsOf (D.kt_ h1) h2 ?_)
  refine wpAny_bind (wpAny_of_eq (a := ((⟨x⟩ : Array Nat), 0)) rfl ?_)
  simp only [h7, h8, h3]
  show wpAny MM A (reNoCollectionInside (.str ⟨⟨x⟩⟩ t) 0 >>= fun _ => _) _ _ _
  refine wpAny_bind (wpAny_of_eq (a := ()) rfl ?_)
  show wpAny MM A (reRawItems (.ref ca) >>= fun _ => _) _ _ _
  unfold reRawItems
  refine wpAny_bind (wpAny_bind (wpAny_seqItems (D.kt_ h4) h5 (wpAny_pure ?_)))
  refine wpAny_pure ?_
  show Q { pattern := .ref pa, string := .str ⟨⟨x⟩⟩ t, code := (items.map reRawOf).map Int.toNat, text := ⟨x⟩, kind := 0, groups := 0, pos := 0, lim := x.length } _
  rw [h6]
  exact hq
theorem push_obj (l : List Value) (v : Value) (ep : Nat) : Obj.mapSeq (fun a => a.push v) (listO l ep) = listO (l ++ [v]) (ep + 1) := by
  have e1 : (⟨l⟩ : Array Value).push v = ⟨l ++ [v]⟩ := by rw [List.push_toArray]
  show (⟨.type "list", none, .seq ((⟨l⟩ : Array Value).push v) (if ((⟨l⟩ : Array Value).push v).size == (⟨l⟩ : Array Value).size then ep else ep + 1), #[]⟩ : Obj) = _
  rw [e1]
  have e2 : ((⟨l ++ [v]⟩ : Array Value).size == (⟨l⟩ : Array Value).size) = false := by
    show ((l ++ [v]).length == l.length) = false
    rw [List.length_append, List.length_singleton]
    exact beq_eq_false_iff_ne.mpr (Nat.succ_ne_self _)
  rw [e2]
  rfl
theorem wp_push {kt : Nat → Option Obj} {h₀ h : Heap} {mods : List Nat} {B : Nat} {X : Led} {MM : Model} {A : Around} {Q : Unit → Shared → Prop} {E : Value → Shared → Prop} {g : Array GenState} {d : Drawn} {os : OsState} {t0 : Nat}
   (la ep : Nat) (l : List Value) (v : Value) (hsz : l.length ≤ 16777216) (D : Rep kt h₀ mods h B [(la, listO l ep)] X 0)
   (hq : ∀ h' B', Rep kt h₀ mods h' B' [(la, listO (l ++ [v]) (ep + 1))] X 0 → Q () ⟨h', g, d, t0, os⟩) : wpAny MM A (updateSeq la fun a => a.push v) Q E ⟨h, g, d, t0, os⟩ := by
  have hl : h.get? la = some (listO l ep) := D.get (j := 0) rfl
  have D1 := D.update (j := 0) (p := (la, listO l ep)) (f := Obj.mapSeq fun a => a.push v) rfl rfl
  rw [push_obj] at D1
  refine wpAny_updateSeq hl rfl (hq _ _ D1) (by rw [sizeLine_eq]; exact hsz) ?_
  show ((⟨l⟩ : Array Value).push v).size ≤ _
  rw [Array.size_push, sizeLine_eq]
  show l.length + 1 ≤ _
  omega
noncomputable def cut (x : List Nat) (a b : Nat) : List Nat := ((⟨x⟩ : Array Nat).extract a b).toList
theorem cut_len (x : List Nat) (a b : Nat) : (cut x a b).length ≤ x.length := by
  unfold cut
  rw [Array.length_toList, Array.size_extract]
  show min b x.length - a ≤ x.length
  omega
noncomputable def subF (x : List Nat) (next : Nat → Option (Nat × Nat)) (rp : List Nat) : Nat → Nat → List Nat
  | 0, _ => []
  | k + 1, s => match next s with
    | some (q, e) => cut x s q ++ rp ++ subF x next rp k e
    | none => cut x s x.length
theorem strCat_app (l m : List Str) : strCat (l ++ m) = strCat l ++ strCat m := by simp [strCat]
theorem cut_nil (x : List Nat) (a b : Nat) (h : ¬ a < b) : cut x a b = [] := by
  have : (cut x a b).length = 0 := by
    unfold cut
    rw [Array.length_toList, Array.size_extract]
    show min b x.length - a = 0
    omega
  exact List.length_eq_zero_iff.mp this
theorem wp_slice {MM : Model} {A : Around} {Q : Value → Shared → Prop} {E : Value → Shared → Prop} {h : Heap} {g : Array GenState} {d : Drawn} {os : OsState} {t0 : Nat} (x : List Nat) (a b : Nat) (hx : x.length ≤ 16777216)
   (hq : Q (.str ⟨⟨cut x a b⟩⟩ t0) ⟨h, g, d, t0 + 1, os⟩) : wpAny MM A (reSlice ⟨x⟩ 0 a b) Q E ⟨h, g, d, t0, os⟩ := by
  show wpAny MM A (mkStr ⟨⟨cut x a b⟩⟩) Q E _
  refine wpAny_mkStr hq ?_
  show (cut x a b).length ≤ _
  have := cut_len x a b
  rw [sizeLine_eq]
  omega
theorem sub_end {w : World} {prog : Program} {A : Around} {kt : Nat → Option Obj} {h₀ h : Heap} {mods : List Nat} {B : Nat} {X : Led} {g : Array GenState} {d : Drawn} {os : OsState} {Q : PySem.Fin → Shared → Prop} {E : Value → Shared → Prop} {t0 : Nat}
   (x : List Nat) (la ep : Nat) (P : List (Str × Tok)) (n : Int) (hx : x.length ≤ 16777216) (hcat : (strCat (P.map (·.1))).length ≤ 16777216) (D : Rep kt h₀ mods h B [(la, listO (strValues P) ep)] X 0)
   (hQ : ∀ t' tt, Q (.done (.ret (.str ⟨⟨strCat (P.map (·.1))⟩⟩ tt))) ⟨h, g, d, t', os⟩) :
   wpAny (model prog w) A (reSlice ⟨x⟩ 0 0 0 >>= fun joiner => seqItems? (.ref la) >>= fun items => (if (items.getD #[]).isEmpty = true then (pure joiner >>= fun text => (if false = true then (holding [text] (mkInt n >>= fun z => newTuple [text, z]) >>= fun v => ret v) else ret text)) else (call (.builtin (if ((0 : Nat) == 0) = true then "str.join" else "bytes.join")) [joiner, .ref la] >>= fun text => (if false = true then (holding [text] (mkInt n >>= fun z => newTuple [text, z]) >>= fun v => ret v) else ret text)))) Q E ⟨h, g, d, t0, os⟩ := by
  refine wpAny_bind (wp_slice x 0 0 hx ?_)
  rw [cut_nil x 0 0 (Nat.lt_irrefl 0)]
  have hl : h.get? la = some (listO (strValues P) ep) := D.get (j := 0) rfl
  refine wpAny_bind (wpAny_seqItems hl rfl ?_)
  cases P with
  | nil =>
    show wpAny _ _ (pure (.str ⟨⟨[]⟩⟩ t0) >>= fun text => ret text) _ _ _
    exact wpAny_bind (wpAny_pure (wpAny_pure (hQ _ _)))
  | cons p P =>
    show wpAny _ _ (call (.builtin "str.join") [.str ⟨⟨[]⟩⟩ t0, .ref la] >>= fun text => ret text) _ _ _
    refine wpAny_bind (wpAny_call ?_)
    exact r_join la t0 ep (p :: P) hcat (D.give [1] rfl) fun t1 t' => wpAny_pure (hQ _ _)
theorem sub_loop {w : World} {prog : Program} {A : Around} {kt : Nat → Option Obj} {h₀ : Heap} {mods : List Nat} (hA : Fit 5 A kt h₀) {R : Result → Shared → Prop} {g : Array GenState} {d : Drawn} {os : OsState} {pa : Nat} {cd : Array Nat} (pat : Pat kt pa cd)
   (x rp : List Nat) (t tr la : Nat) (X : Led) (next : Nat → Option (Nat × Nat)) (hnext : ∀ s, s ≤ x.length → ∃ N, N ≤ 4 * 2 ^ 64 ∧ Found (forSearch cd ⟨x⟩ 0 s x.length false) N (next s))
   (hprog : ∀ s q e, s ≤ x.length → next s = some (q, e) → s ≤ q ∧ q < e ∧ e ≤ x.length) (hx : x.length ≤ 16777216) :
   ∀ (k s : Nat) (P : List (Str × Tok)) (h : Heap) (B t0 ep : Nat) (n : Int), x.length - s < k → s ≤ x.length → P.length + 2 * (x.length - s) + 2 ≤ 16777216 →
   (strCat (P.map (·.1))).length + (subF x next rp k s).length ≤ 16777216 →
   Rep kt h₀ mods h B [(la, listO (strValues P) ep)] X 0 →
   (∀ h' B' t' tt, Rep kt h₀ mods h' B' [] X 0 → R (.ok (.ret (.str ⟨⟨strCat (P.map (·.1)) ++ subF x next rp k s⟩⟩ tt))) ⟨h', g, d, t', os⟩) →
   codeAny (model prog w) A (.builtin "re.Pattern.sub.loop" ⟨[.ref pa, .str ⟨⟨x⟩⟩ t, .str ⟨⟨rp⟩⟩ tr, rawInt 0, rawInt 0, rawInt n, rawInt s, rawInt s, .bool false, .ref la, .bool false], []⟩) R ⟨h, g, d, t0, os⟩ := by
  intro k
  induction k with
  | zero => intro s P h B t0 ep n hk; exact absurd hk (Nat.not_lt_zero _)
  | succ k ih =>
  intro s P h B t0 ep n hk hs hP hcat D hR
  refine codeAny_builtin (b := Builtin.«re.Pattern.sub.loop») (entryFor_of_tree (by kernel_rfl)) ?_
  unfold Builtin.«re.Pattern.sub.loop»
  refine wpAny_bind (wp_target pat x t D ?_)
  show wpAny _ _ (reLiteralCannotBeTurned (.str ⟨⟨rp⟩⟩ tr) >>= fun _ => _) _ _ _
  refine wpAny_bind (wpAny_of_eq (a := ()) rfl ?_)
  obtain ⟨N, hN, hf⟩ := hnext s hs
  have hSP : (strValues P).length = P.length := by simp [strValues]
  show wpAny _ _ (reNextFound _ s false >>= fun _ => _) _ _ _
  cases hn : next s with
  | none =>
    rw [hn] at hf
    obtain ⟨nn, hnn, ho⟩ := hf
    refine wpAny_bind (wp_none nn _ (by omega) ho ?_)
    have eF : subF x next rp (k + 1) s = cut x s x.length := by
      show (match next s with | some (q, e) => _ | none => _) = _
      rw [hn]
    rw [eF] at hR hcat
    by_cases hlt : s < x.length
    · show wpAny _ _ (if s < x.length then (reSlice ⟨x⟩ 0 s x.length >>= fun v => (updateSeq la (fun a => a.push v) >>= fun _ => _)) else _) _ _ _
      rw [if_pos hlt]
      refine wpAny_bind (wp_slice x s x.length hx ?_)
      refine wpAny_bind (wp_push la ep (strValues P) _ (by rw [hSP]; omega) D fun h' B' D' => ?_)
      have e3 : strValues P ++ [.str ⟨⟨cut x s x.length⟩⟩ t0] = strValues (P ++ [(⟨⟨cut x s x.length⟩⟩, t0)]) := by simp [strValues]
      have e4 : strCat ((P ++ [((⟨⟨cut x s x.length⟩⟩ : Str), t0)]).map (·.1)) = strCat (P.map (·.1)) ++ cut x s x.length := by
        rw [List.map_append, strCat_app]
        congr 1
        simp [strCat]
      rw [e3] at D'
      refine sub_end x la (ep + 1) (P ++ [(⟨⟨cut x s x.length⟩⟩, t0)]) n hx (by rw [e4, List.length_append]; exact hcat) D' fun t' tt => ?_
      rw [e4]
      obtain ⟨B2, D2⟩ := D'.pickE [] [] rfl
      exact hR _ _ _ _ D2
    · show wpAny _ _ (if s < x.length then _ else _) _ _ _
      rw [if_neg hlt]
      rw [cut_nil x s x.length hlt, List.append_nil] at hR
      refine sub_end x la ep P n hx (by omega) D fun t' tt => ?_
      obtain ⟨B2, D2⟩ := D.pickE [] [] rfl
      exact hR _ _ _ _ D2
  | some qe =>
    obtain ⟨q, e⟩ := qe
    rw [hn] at hf
    obtain ⟨nn, hnn, ho, hst, hha⟩ := hf
    obtain ⟨p1, p2, p3⟩ := hprog s q e hs hn
    refine wpAny_bind (wp_found nn _ (by omega) ho ?_)
    generalize M.runFor nn _ = m at hst hha
    subst hst hha
    have eF : subF x next rp (k + 1) s = cut x s m.start ++ rp ++ subF x next rp k m.handed := by
      show (match next s with | some (q, e) => _ | none => _) = _
      rw [hn]
    rw [eF] at hR hcat
    have hb : (m.handed == m.start) = false := beq_eq_false_iff_ne.mpr (by omega)
    have item : ∀ (P' : List (Str × Tok)) (h' : Heap) (B' t' ep' : Nat), P'.length ≤ P.length + 1 → strCat (P'.map (·.1)) = strCat (P.map (·.1)) ++ cut x s m.start → Rep kt h₀ mods h' B' [(la, listO (strValues P') ep')] X 0 →
        wpAny (model prog w) (A.under (.builtin "re.Pattern.sub.loop" ⟨[.ref pa, .str ⟨⟨x⟩⟩ t, .str ⟨⟨rp⟩⟩ tr, rawInt 0, rawInt 0, rawInt n, rawInt s, rawInt s, .bool false, .ref la, .bool false], []⟩))
          (updateSeq la (fun a => a.push (.str ⟨⟨rp⟩⟩ tr)) >>= fun _ => again (.builtin "re.Pattern.sub.loop" ⟨[.ref pa, .str ⟨⟨x⟩⟩ t, .str ⟨⟨rp⟩⟩ tr, rawInt 0, rawInt 0, rawInt (n + 1), rawInt m.handed, rawInt m.handed, .bool (m.handed == m.start), .ref la, .bool false], []⟩))
          (fun fin s' => match fin with | .done f => R (.ok f) s' | .again c' => c'.quiet = true ∧ codeAny (model prog w) A c' R s') (fun e s' => R (.error e) s') ⟨h', g, d, t', os⟩ := by
      intro P' h' B' t' ep' hP' hcat' D'
      have hSP' : (strValues P').length = P'.length := by simp [strValues]
      refine wpAny_bind (wp_push la ep' (strValues P') _ (by rw [hSP']; omega) D' fun h2 B2 D2 => ?_)
      have e3 : strValues P' ++ [.str ⟨⟨rp⟩⟩ tr] = strValues (P' ++ [(⟨⟨rp⟩⟩, tr)]) := by simp [strValues]
      have e4 : strCat ((P' ++ [((⟨⟨rp⟩⟩ : Str), tr)]).map (·.1)) = strCat (P.map (·.1)) ++ cut x s m.start ++ rp := by
        rw [List.map_append, strCat_app, hcat']
        congr 1
        simp [strCat]
      rw [e3] at D2
      rw [hb]
      refine wpAny_pure ⟨by kernel_rfl, ?_⟩
      refine ih m.handed (P' ++ [(⟨⟨rp⟩⟩, tr)]) h2 B2 t' (ep' + 1) (n + 1) (by omega) p3 (by rw [List.length_append, List.length_singleton]; omega) ?_ D2 ?_
      · rw [e4]
        simp only [List.length_append] at hcat ⊢
        omega
      · intro h3 B3 t3 tt D3
        have z := hR h3 B3 t3 tt D3
        rw [e4]
        rw [← List.append_assoc, ← List.append_assoc] at z
        exact z
    by_cases hlt : s < m.start
    · show wpAny _ _ (if s < m.start then (reSlice ⟨x⟩ 0 s m.start >>= fun v => (updateSeq la (fun a => a.push v) >>= fun _ => _)) else _) _ _ _
      rw [if_pos hlt]
      refine wpAny_bind (wp_slice x s m.start hx ?_)
      refine wpAny_bind (wp_push la ep (strValues P) _ (by rw [hSP]; omega) D fun h' B' D' => ?_)
      have e3 : strValues P ++ [.str ⟨⟨cut x s m.start⟩⟩ t0] = strValues (P ++ [(⟨⟨cut x s m.start⟩⟩, t0)]) := by simp [strValues]
      rw [e3] at D'
      refine item (P ++ [(⟨⟨cut x s m.start⟩⟩, t0)]) h' B' _ (ep + 1) (by rw [List.length_append, List.length_singleton]; omega) ?_ D'
      rw [List.map_append, strCat_app]
      congr 1
      simp [strCat]
    · show wpAny _ _ (if s < m.start then _ else _) _ _ _
      rw [if_neg hlt]
      refine item P h B t0 ep (by omega) ?_ D
      rw [cut_nil x s m.start hlt, List.append_nil]
open PySem.Builtin.Re
noncomputable def fieldsA (o : Obj) : Array Value := match o.data with
  | .fields fs => fs
  | _ => #[]
noncomputable def seqA (o : Obj) : Array Value := match o.data with
  | .seq l _ => l
  | _ => #[]
theorem pat41 (w : World) : Pat (kt1 w) 90 cd2 := ⟨obAt w 90, fieldsA (obAt w 90), 89, obAt w 89, seqA (obAt w 89), 0, by kernel_rfl, by kernel_rfl, by kernel_rfl, by kernel_rfl, by kernel_rfl, by kernel_rfl, by kernel_rfl, by kernel_rfl⟩
theorem pat36 (w : World) : Pat (kt1 w) 85 cd1 := ⟨obAt w 85, fieldsA (obAt w 85), 84, obAt w 84, seqA (obAt w 84), 0, by kernel_rfl, by kernel_rfl, by kernel_rfl, by kernel_rfl, by kernel_rfl, by kernel_rfl, by kernel_rfl, by kernel_rfl⟩
noncomputable def next1 (x : List Nat) (s : Nat) : Option (Nat × Nat) := (nextP (bolDot ⟨x⟩) (x.length - s + 1) s).map fun q => (q, q + 1)
noncomputable def next2 (x : List Nat) (s : Nat) : Option (Nat × Nat) := (nextP (isNl ⟨x⟩) (x.length + 1 - s) s).map fun q => (q, nlEnd ⟨x⟩ q)
theorem nextP_some {p : Nat → Bool} : ∀ k s q, nextP p k s = some q → s ≤ q ∧ p q = true := by
  intro k
  induction k with
  | zero => intro s q h; cases h
  | succ k ih =>
    intro s q h
    have e5 : nextP p (k + 1) s = if p s = true then some s else nextP p k (s + 1) := rfl
    rw [e5] at h
    by_cases g : p s = true
    · rw [if_pos g] at h; cases h; exact ⟨Nat.le_refl _, g⟩
    · rw [if_neg g] at h
      have := ih _ _ h
      exact ⟨by omega, this.2⟩
theorem prog1 (x : List Nat) (s q e : Nat) (_ : s ≤ x.length) (h : next1 x s = some (q, e)) : s ≤ q ∧ q < e ∧ e ≤ x.length := by
  unfold next1 at h
  obtain ⟨q', hq, e1⟩ := Option.map_eq_some_iff.mp h
  cases e1
  obtain ⟨h1, h2⟩ := nextP_some _ _ _ hq
  unfold bolDot at h2
  have h3 := (Bool.and_eq_true_iff.mp (Bool.and_eq_true_iff.mp h2).1).2
  have h4 : q < x.length := of_decide_eq_true h3
  exact ⟨h1, by omega, h4⟩
theorem prog2 (x : List Nat) (s q e : Nat) (_ : s ≤ x.length) (h : next2 x s = some (q, e)) : s ≤ q ∧ q < e ∧ e ≤ x.length := by
  unfold next2 at h
  obtain ⟨q', hq, e1⟩ := Option.map_eq_some_iff.mp h
  cases e1
  obtain ⟨h1, h2⟩ := nextP_some _ _ _ hq
  unfold isNl at h2
  have h4 : q < x.length := of_decide_eq_true (Bool.and_eq_true_iff.mp h2).1
  unfold nlEnd
  split
  · rename_i g
    have g2 : q + 1 < x.length := of_decide_eq_true (Bool.and_eq_true_iff.mp (Bool.and_eq_true_iff.mp g).1).2
    exact ⟨h1, by omega, by omega⟩
  · exact ⟨h1, by omega, by omega⟩
theorem sub41 (w : World) (A : Around) (h₀ : Heap) (hA : Fit 10 A (kt1 w) h₀) (R : Result → Shared → Prop) (B t0 : Nat) (g : Array GenState) (d : Drawn) (os : OsState) (x : List Nat) (tn t2 : Nat) {mods : List Nat} (hx : 2 * x.length + 10 ≤ 16777216) (hz : (subF x (next2 x) [13, 10] (x.length + 1) 0).length ≤ 16777216)
   (D : Rep (kt1 w) h₀ mods h₀ B [] [] 0)
   (hR : ∀ h1 t t', After h₀ h1 mods [] → R (.ok (.ret (.str ⟨⟨subF x (next2 x) [13, 10] (x.length + 1) 0⟩⟩ t))) ⟨h1, g, d, t', os⟩) :
   codeAny (PP w) A (.call (.builtin "re.Pattern.sub") ⟨[.ref 90, .str ⟨⟨[13, 10]⟩⟩ t2, .str ⟨⟨x⟩⟩ tn], []⟩) R ⟨h₀, g, d, t0, os⟩ := by
  obtain ⟨b1, b2, hw⟩ := parF_ex w
  have hA1 := hA.under (.call (.builtin "re.Pattern.sub") ⟨[.ref 90, .str ⟨⟨[13, 10]⟩⟩ t2, .str ⟨⟨x⟩⟩ tn], []⟩) (m := 0) (by kernel_rfl)
  refine code_start ?_
  change Means _ _ _ _ _ _ ⟨h₀, g, d, t0 + 0, os⟩
  (refine segF (t0 := t0) (i := 0) 100000 [0] ((Fin.again (.builtin "re.Pattern.sub" ⟨[.ref 90, .str ⟨⟨[13, 10]⟩⟩ t2, .str ⟨⟨x⟩⟩ tn], []⟩)) ) D (by assumption) (by assumption) ?_; intro o11; refine ⟨by kernel_rfl, by kernel_rfl, by kernel_rfl, fun h11 D11 => ?_⟩)
  obtain ⟨B1, E1⟩ := D11.pickE [] [] (by kernel_rfl)
  have hA2 := hA.under (.builtin "re.Pattern.sub" ⟨[.ref 90, .str ⟨⟨[13, 10]⟩⟩ t2, .str ⟨⟨x⟩⟩ tn], []⟩) (m := 0) (by kernel_rfl)
  refine ⟨by kernel_rfl, code_start ?_⟩
  clear hA1
  change Means _ _ _ _ _ _ ⟨h11, g, d, (t0 + outI o11) + 0, os⟩
  (refine segF (t0 := t0 + outI o11) (i := 0) 100000 [0, 0] ((Fin.again (.builtin "re.Pattern.sub.loop" ⟨[.ref 90, .str ⟨⟨x⟩⟩ tn, .str ⟨⟨[13, 10]⟩⟩ t2, rawInt 0, rawInt 0, rawInt 0, rawInt (0 : Nat), rawInt (0 : Nat), .bool false, .ref B1, .bool false], []⟩)) ) E1 (by assumption) (by assumption) ?_; intro o12; refine ⟨by kernel_rfl, by kernel_rfl, by kernel_rfl, fun h12 D12 => ?_⟩)
  obtain ⟨B2, E2⟩ := D12.pickE [0] [(B1, listO (strValues []) 0)] (by kernel_rfl)
  refine ⟨by kernel_rfl, sub_loop (hA.less (by kernel_rfl)) (pat41 w) x [13, 10] tn t2 B1 [] (next2 x) (fun s hs => ⟨31, by omega, search2 ⟨x⟩ s hs⟩) (prog2 x) (by omega) (x.length + 1) 0 [] _ _ _ _ _ (by omega) (by omega) (by rw [List.length_nil]; omega) (by rw [List.map_nil]; show 0 + _ ≤ _; omega) E2 fun h3 B3 t3 tt D3 => ?_⟩
  exact hR _ _ _ (D3.finP [] rfl)
theorem sub36 (w : World) (A : Around) (h₀ : Heap) (hA : Fit 10 A (kt1 w) h₀) (R : Result → Shared → Prop) (B t0 : Nat) (g : Array GenState) (d : Drawn) (os : OsState) (x : List Nat) (tn t2 : Nat) {mods : List Nat} (hx : 2 * x.length + 10 ≤ 16777216) (hz : (subF x (next1 x) [46, 46] (x.length + 1) 0).length ≤ 16777216)
   (D : Rep (kt1 w) h₀ mods h₀ B [] [] 0)
   (hR : ∀ h1 t t', After h₀ h1 mods [] → R (.ok (.ret (.str ⟨⟨subF x (next1 x) [46, 46] (x.length + 1) 0⟩⟩ t))) ⟨h1, g, d, t', os⟩) :
   codeAny (PP w) A (.call (.builtin "re.Pattern.sub") ⟨[.ref 85, .str ⟨⟨[46, 46]⟩⟩ t2, .str ⟨⟨x⟩⟩ tn], []⟩) R ⟨h₀, g, d, t0, os⟩ := by
  obtain ⟨b1, b2, hw⟩ := parF_ex w
  have hA1 := hA.under (.call (.builtin "re.Pattern.sub") ⟨[.ref 85, .str ⟨⟨[46, 46]⟩⟩ t2, .str ⟨⟨x⟩⟩ tn], []⟩) (m := 0) (by kernel_rfl)
  refine code_start ?_
  change Means _ _ _ _ _ _ ⟨h₀, g, d, t0 + 0, os⟩
  (refine segF (t0 := t0) (i := 0) 100000 [0] ((Fin.again (.builtin "re.Pattern.sub" ⟨[.ref 85, .str ⟨⟨[46, 46]⟩⟩ t2, .str ⟨⟨x⟩⟩ tn], []⟩)) ) D (by assumption) (by assumption) ?_; intro o21; refine ⟨by kernel_rfl, by kernel_rfl, by kernel_rfl, fun h21 D21 => ?_⟩)
  obtain ⟨B1, E1⟩ := D21.pickE [] [] (by kernel_rfl)
  have hA2 := hA.under (.builtin "re.Pattern.sub" ⟨[.ref 85, .str ⟨⟨[46, 46]⟩⟩ t2, .str ⟨⟨x⟩⟩ tn], []⟩) (m := 0) (by kernel_rfl)
  refine ⟨by kernel_rfl, code_start ?_⟩
  clear hA1
  change Means _ _ _ _ _ _ ⟨h21, g, d, (t0 + outI o21) + 0, os⟩
  (refine segF (t0 := t0 + outI o21) (i := 0) 100000 [0, 0] ((Fin.again (.builtin "re.Pattern.sub.loop" ⟨[.ref 85, .str ⟨⟨x⟩⟩ tn, .str ⟨⟨[46, 46]⟩⟩ t2, rawInt 0, rawInt 0, rawInt 0, rawInt (0 : Nat), rawInt (0 : Nat), .bool false, .ref B1, .bool false], []⟩)) ) E1 (by assumption) (by assumption) ?_; intro o22; refine ⟨by kernel_rfl, by kernel_rfl, by kernel_rfl, fun h22 D22 => ?_⟩)
  obtain ⟨B2, E2⟩ := D22.pickE [0] [(B1, listO (strValues []) 0)] (by kernel_rfl)
  refine ⟨by kernel_rfl, sub_loop (hA.less (by kernel_rfl)) (pat36 w) x [46, 46] tn t2 B1 [] (next1 x) (fun s hs => ⟨3 * (x.length - s) + 6, by omega, search1 ⟨x⟩ s hs⟩) (prog1 x) (by omega) (x.length + 1) 0 [] _ _ _ _ _ (by omega) (by omega) (by rw [List.length_nil]; omega) (by rw [List.map_nil]; show 0 + _ ≤ _; omega) E2 fun h3 B3 t3 tt D3 => ?_⟩
  exact hR _ _ _ (D3.finP [] rfl)
noncomputable def n_data := [100, 97, 116, 97]
noncomputable def sub2 (x : List Nat) : List Nat := subF x (next2 x) [13, 10] (x.length + 1) 0
noncomputable def sub1 (x : List Nat) : List Nat := subF x (next1 x) [46, 46] (x.length + 1) 0
theorem quotedata (w : World) (A : Around) (h₀ : Heap) (hA : Fit 20 A (kt1 w) h₀) (R : Result → Shared → Prop) (B t0 : Nat) (g : Array GenState) (d : Drawn) (os : OsState) (x : List Nat) (tn : Nat) {mods : List Nat} (hx : 2 * x.length + 10 ≤ 16777216) (hy : 2 * (sub2 x).length + 10 ≤ 16777216) (hz : (sub1 (sub2 x)).length ≤ 16777216)
   (D : Rep (kt1 w) h₀ mods h₀ B [] [] 0)
   (hR : ∀ h1 t t', After h₀ h1 mods [] → R (.ok (.ret (.str ⟨⟨sub1 (sub2 x)⟩⟩ t))) ⟨h1, g, d, t', os⟩) :
   codeAny (PP w) A (.call (.ref 97) ⟨[.str ⟨⟨x⟩⟩ tn], []⟩) R ⟨h₀, g, d, t0, os⟩ := by
  obtain ⟨b1, b2, hw⟩ := parF_ex w
  refine code_ent (D.kt_ (a := 97) (o := obAt w 97) (by kernel_rfl)) (fd := fdAt w 97) (by kernel_rfl) (by have := hA.room; omega) ?_
  change Means _ _ _ _ _ _ ⟨h₀, g, d, t0 + 0, os⟩
  (refine segW (t0 := t0) (i := 0) 100000 [0, 1, 1, 0, 0, 0, 0, 0, 0, 0, 0, 0, 0, 0, 1] ((.call (.builtin "re.Pattern.sub") ⟨[.ref 90, .str ⟨⟨[13, 10]⟩⟩ 414, .str ⟨⟨x⟩⟩ tn], []⟩) ) D (by assumption) (by assumption) ?_; intro o31; refine ⟨by kernel_rfl, by kernel_rfl, by kernel_rfl, by kernel_rfl, by kernel_rfl, fun h31 D31 => ?_⟩)
  refine callW_of rfl ?_
  rw [mark_none]
  refine sub41 w _ _ (Fit.inner hA D31 _ (by kernel_rfl) (by kernel_rfl)) _ _ _ g d os x tn _ hx (by show (sub2 x).length ≤ _; omega) (D31.give [] (by kernel_rfl)) fun g1 t1 t' a1 => ?_
  obtain ⟨B2, E1⟩ := D31.backP [] [0] [(B, fobj [ent w n_data t0 (.str ⟨⟨x⟩⟩ tn)] 1)] (by kernel_rfl) a1 (by kernel_rfl)
  change Means _ _ _ _ (outκ o31) (outK o31 (.ok (.ret (.str ⟨⟨sub2 x⟩⟩ t1)))) ⟨g1, g, d, t' + 0, os⟩
  generalize sub2 x = y at hy hz hR
  (refine segW (t0 := t') (i := 0) 100000 [] (Code.call (Value.builtin "re.Pattern.sub") { pos := [Value.ref 85, Value.str { cps := { toList := [46, 46] : Array Nat } : Str } (t0 + 1), Value.str { cps := { toList := y : Array Nat } : Str } t1] : Args }) E1 (by assumption) (by assumption) ?_; intro o32; refine ⟨by kernel_rfl, by kernel_rfl, by kernel_rfl, by kernel_rfl, by kernel_rfl, fun h32 D32 => ?_⟩)
  refine callW_of rfl ?_
  rw [mark_none]
  refine sub36 w _ _ (Fit.inner hA D32 _ (by kernel_rfl) (by kernel_rfl)) _ _ _ g d os y t1 _ hy hz (D32.give [] (by kernel_rfl)) fun g2 t3 t4 a2 => ?_
  obtain ⟨B3, E2⟩ := D32.backP [] [0] [(B, fobj [ent w n_data t0 (.str ⟨⟨x⟩⟩ tn)] 1)] (by kernel_rfl) a2 (by kernel_rfl)
  change Means _ _ _ _ (outκ o32) (outK o32 (.ok (.ret (.str ⟨⟨sub1 y⟩⟩ t3)))) ⟨g2, g, d, t4 + 0, os⟩
  (refine segF (t0 := t4) (i := 0) 100000 [] ((Fin.done (Flow.ret (.str ⟨⟨sub1 y⟩⟩ t3))) ) E2 (by assumption) (by assumption) ?_; intro o33; refine ⟨by kernel_rfl, by kernel_rfl, by kernel_rfl, fun h33 D33 => ?_⟩)
  exact hR _ _ _ (D33.fin [] (by kernel_rfl))
end Mine
end
section
open PySem PySem.W PySem.Calls PyProof.Rows
set_option Elab.async false
set_option maxRecDepth 100000
namespace Mine
noncomputable def txV (Q : List (List Nat × Nat)) : List Value := Q.map fun p => .str ⟨⟨p.1⟩⟩ p.2
theorem txV_len (Q : List (List Nat × Nat)) : (txV Q).length = Q.length := by simp [txV]
theorem txV_app (a b : List (List Nat × Nat)) : txV (a ++ b) = txV a ++ txV b := by simp [txV]
theorem txV_strs : ∀ Q : List (List Nat × Nat), StrsAre (txV Q) (Q.map fun p => ⟨⟨p.1⟩⟩)
  | [] => .nil
  | p :: Q => .cons _ _ (txV_strs Q)
theorem key_swo (key : Nat → List Nat) : Swo (fun i j => decide (key i < key j)) := by
  refine ⟨fun x => by simpa using List.lt_irrefl _, fun x y z h1 h2 => ?_, fun x y h => ?_⟩
  · simp only [decide_eq_false_iff_not] at *
    exact List.not_lt.mpr (List.le_trans (List.not_lt.mp h2) (List.not_lt.mp h1))
  · simp only [decide_eq_true_eq, decide_eq_false_iff_not] at *
    exact fun h2 => List.lt_irrefl _ (List.lt_trans h h2)
theorem clear_obj (xs : List Value) (e : Nat) : ∃ e1, Obj.mapSeq (fun _ => (#[] : Array Value)) (listO xs e) = listO [] e1 := ⟨_, rfl⟩
theorem set_obj (xs ys : List Value) (e : Nat) : ∃ e1, Obj.mapSeq (fun _ => (⟨ys⟩ : Array Value)) (listO xs e) = listO ys e1 := ⟨_, rfl⟩
section
variable {w : World} {A : Around} {E : Value → Shared → Prop} {B t0 : Nat} {g : Array GenState} {d : Drawn} {os : OsState} {mods : List Nat} {prog : Program} {kt : Nat → Option Obj} {h₀ : Heap}
theorem kinds (K : List (List Nat × Nat)) (h2 : 2 ≤ K.length) : keyKind' (⟨txV K⟩ : Array Value) = pure oneType' := by
  match K, h2 with
  | [], h2 => simp at h2
  | [_], h2 => simp at h2
  | p :: q :: r, _ => exact keyKind_strs (txV_strs (p :: q :: r))
theorem key_at (K : List (List Nat × Nat)) (key : Nat → List Nat) (n : Nat) (hK : K.map (·.1) = (List.range n).map key) {i : Nat} (hi : i < n) : ∃ t, (txV K).getD i Value.none = .str ⟨⟨key i⟩⟩ t := by
  have hl : K.length = n := by have e := congrArg List.length hK; rwa [List.length_map, List.length_map, List.length_range] at e
  have e := congrArg (fun l : List (List Nat) => l[i]?) hK
  have hi' : i < K.length := by omega
  simp only [List.getElem?_map, List.getElem?_eq_getElem hi', Option.map_some, List.getElem?_range hi] at e
  refine ⟨(K[i]).2, ?_⟩
  rw [List.getD_eq_getElem?_getD]
  unfold txV
  rw [List.getElem?_map, List.getElem?_eq_getElem hi']
  show Value.str ⟨⟨(K[i]).1⟩⟩ _ = _
  rw [Option.some.inj e]
/-- the sort's last part -/
theorem wp_sorted_end {X : Led} {h : Heap} (vs : List Value) (key : Nat → List Nat) (K : List (List Nat × Nat)) (a kS e e1 : Nat) (hK : K.map (·.1) = (List.range vs.length).map key) (h2 : 2 ≤ vs.length) (h64 : vs.length < 64) {P : PySem.Fin → Shared → Prop}
   (D : Rep kt h₀ mods h B [(kS, listO (txV K) e), (a, listO [] e1)] X 0)
   (hR : ∀ h' B' e' p, VP vs.length p vs.length → ST (fun i j => decide (key i < key j)) p vs.length → Rep kt h₀ mods h' B' [(a, listO (p.toList.map fun i => vs.getD i .none) e')] X 0 → P (.done (.ret .none)) ⟨h', g, d, t0, os⟩) :
   wpAny (model prog w) A (ksk_end a false ⟨vs⟩ e1 (.ref kS) ⟨txV K⟩) P E ⟨h, g, d, t0, os⟩ := by
  have hl : K.length = vs.length := by have e := congrArg List.length hK; rwa [List.length_map, List.length_map, List.length_range] at e
  have hkl : (txV K).length = vs.length := by rw [txV_len, hl]
  unfold ksk_end
  have hn2 : ¬ (⟨vs⟩ : Array Value).size < 2 := by show ¬ vs.length < 2; omega
  dsimp only
  rw [if_neg hn2, if_neg hn2, if_neg Bool.false_ne_true, if_neg Bool.false_ne_true, kinds K (by omega)]
  refine wpAny_bind (wpAny_pure ?_)
  have run := kat_run (prog := prog) (w := w) (A := A) (E := E) (s := ⟨h, g, d, t0, os⟩) (κ := oneType') (ks := txV K) (vs := vs)
    (Q := fun st' s' => ∃ p : Array Nat, p.size = vs.length ∧ arrOf st' = p.map (kas_item ((txV K).toArray.zip vs.toArray)) ∧ failedOf st' = none ∧ s' = ⟨h, g, d, t0, os⟩ ∧ VP vs.length p vs.length ∧ ST (fun i j => decide (key i < key j)) p vs.length)
    (G := fun p s' => s' = ⟨h, g, d, t0, os⟩ ∧ VP vs.length p vs.length ∧ ST (fun i j => decide (key i < key j)) p vs.length) hkl h2 h64
    (fun p st' s' a1 a2 a3 a4 => ⟨p, a1, a2, a3, a4⟩) ?_
  · refine wpAny_bind (wpAny_mono run ?_ fun _ _ e => e)
    rintro ⟨⟨⟩, st'⟩ s' ⟨p, hp, har, hf, rfl, V, S⟩
    have hout := kat_snds hkl har
    have hz : (p.toList.map fun i => vs.getD i Value.none).length = vs.length := by rw [List.length_map, Array.length_toList, hp]
    unfold ksk_tail
    dsimp only
    rw [hout, hf, if_neg Bool.false_ne_true]
    have D1 := D.update (j := 0) (p := (kS, listO (txV K) e)) (f := Obj.mapSeq fun _ => #[]) rfl rfl
    have D2 := D1.update (j := 1) (p := (a, listO [] e1)) (f := Obj.mapSeq fun _ => (⟨p.toList.map fun i => vs.getD i Value.none⟩ : Array Value)) rfl rfl
    obtain ⟨e', he'⟩ := set_obj [] (p.toList.map fun i => vs.getD i Value.none) e1
    refine wpAny_bind (listUpdate_at (D.get (j := 0) rfl) rfl ?_ (by show (txV K).length ≤ _; rw [sizeLine_eq]; omega) (Nat.zero_le _))
    refine wpAny_bind (wpAny_letGo ?_)
    refine wpAny_bind (seqEpoch_at (D1.get (j := 1) rfl) rfl ?_)
    refine wpAny_bind (listUpdate_at (D1.get (j := 1) rfl) rfl ?_ (Nat.zero_le _) (by show (p.toList.map fun i => vs.getD i Value.none).length ≤ _; rw [sizeLine_eq]; omega))
    simp only [bne_self_eq_false, Bool.false_eq_true, if_false]
    refine wpAny_pure ?_
    obtain ⟨B3, D3⟩ := D2.pickE [1] [(a, Obj.mapSeq (fun _ => (⟨p.toList.map fun i => vs.getD i Value.none⟩ : Array Value)) (listO [] e1))] rfl
    rw [he'] at D3
    exact hR _ _ e' p V S D3
  · refine sort_wp (key_swo key) (fun i j C hi hj hC => ?_) (by omega) fun p V S => ⟨rfl, V, S⟩
    obtain ⟨t, et⟩ := key_at K key _ hK hi
    obtain ⟨u, eu⟩ := key_at K key _ hK hj
    unfold kas_ask
    rw [et, eu]
    exact kas_lt_str hC
theorem keyed_fold {X : Led} (vs : List Value) (key : Nat → List Nat) (f a kS e1 : Nat) (h64 : vs.length < 64)
   (hf : ∀ i (hi : i < vs.length) (L : Led) (h : Heap) (B t : Nat) (Q : Value → Shared → Prop), Rep kt h₀ mods h B L X 0 → (∀ h' B' t' tk, Rep kt h₀ mods h' B' L X 0 → Q (.str ⟨⟨key i⟩⟩ tk) ⟨h', g, d, t', os⟩) → wpAny (model prog w) A (call (.ref f) [vs[i]]) Q (fun _ _ => False) ⟨h, g, d, t, os⟩)
   {body : Value → PUnit → Sem (ForInStep PUnit)}
   (hb : ∀ x (K : List (List Nat × Nat)) e (h : Heap) (B t : Nat) k, K.length < 64 → Rep kt h₀ mods h B [(kS, listO (txV K) e), (a, listO [] e1)] X 0 →
     wpAny (model prog w) A (call (.ref f) [x]) (fun v s' => ∃ h' B' t' tk, v = .str ⟨⟨k⟩⟩ tk ∧ s' = ⟨h', g, d, t', os⟩ ∧ Rep kt h₀ mods h' B' [(kS, listO (txV K) e), (a, listO [] e1)] X 0) (fun _ _ => False) ⟨h, g, d, t, os⟩ →
     wpAny (model prog w) A (body x ⟨⟩) (fun r s' => r = .yield ⟨⟩ ∧ ∃ h' B' t' tk e', s' = ⟨h', g, d, t', os⟩ ∧ Rep kt h₀ mods h' B' [(kS, listO (txV (K ++ [(k, tk)])) e'), (a, listO [] e1)] X 0) E ⟨h, g, d, t, os⟩) :
   ∀ (r : List Value) (K : List (List Nat × Nat)) (e : Nat) (h : Heap) (B t : Nat), vs = vs.take K.length ++ r → K.length + r.length = vs.length → K.map (·.1) = (List.range K.length).map key → Rep kt h₀ mods h B [(kS, listO (txV K) e), (a, listO [] e1)] X 0 →
    wpAny (model prog w) A (forIn r PUnit.unit body) (fun _ s' => ∃ K e h' B' t', s' = ⟨h', g, d, t', os⟩ ∧ K.map (·.1) = (List.range vs.length).map key ∧ Rep kt h₀ mods h' B' [(kS, listO (txV K) e), (a, listO [] e1)] X 0) E ⟨h, g, d, t, os⟩
  | [], K, e, h, B, t, hr, hl, hK, D => by
    rw [List.forIn_nil]
    rw [List.length_nil, Nat.add_zero] at hl
    exact wpAny_pure ⟨K, e, h, B, t, rfl, by rw [← hl]; exact hK, D⟩
  | x :: r, K, e, h, B, t, hr, hl, hK, D => by
    rw [List.length_cons] at hl
    rw [List.forIn_cons]
    have hi : K.length < vs.length := by omega
    have ex : vs[K.length] = x := by
      have e0 : (vs.take K.length ++ x :: r)[K.length]? = some x := by
        rw [List.getElem?_append_right (by rw [List.length_take]; omega), List.length_take, Nat.min_eq_left (by omega), Nat.sub_self]
        rfl
      rw [← hr, List.getElem?_eq_getElem hi] at e0
      exact Option.some.inj e0
    refine wpAny_bind (wpAny_mono (hb x K e h B t (key K.length) (by omega) D ?_) (fun q s' hq => ?_) fun _ _ x => x)
    · rw [← ex]
      exact hf K.length hi _ h B t _ D fun h' B' t' tk D' => ⟨h', B', t', tk, rfl, rfl, D'⟩
    · obtain ⟨rfl, h', B', t', tk, e', rfl, D'⟩ := hq
      show wpAny (model prog w) A (forIn r PUnit.unit body) _ E _
      have hl' : (K ++ [(key K.length, tk)]).length = K.length + 1 := by rw [List.length_append]; rfl
      refine keyed_fold vs key f a kS e1 h64 hf hb r (K ++ [(key K.length, tk)]) e' h' B' t' ?_ (by rw [hl']; omega) ?_ D'
      · rw [hl', List.take_add_one, List.getElem?_eq_getElem hi, ex]
        show vs = vs.take K.length ++ [x] ++ r
        rw [List.append_assoc]
        exact hr
      · rw [hl', List.map_append, hK, List.range_succ, List.map_append]
        rfl
theorem wp_keyed {X : Led} (vs : List Value) (key : Nat → List Nat) (f a n : Nat) (h2 : 2 ≤ vs.length) (h64 : vs.length < 64) {P : PySem.Fin → Shared → Prop}
   (hf : ∀ i (hi : i < vs.length) (L : Led) (h : Heap) (B t : Nat) (Q : Value → Shared → Prop), Rep kt h₀ mods h B L X 0 → (∀ h' B' t' tk, Rep kt h₀ mods h' B' L X 0 → Q (.str ⟨⟨key i⟩⟩ tk) ⟨h', g, d, t', os⟩) → wpAny (model prog w) A (call (.ref f) [vs[i]]) Q (fun _ _ => False) ⟨h, g, d, t, os⟩)
   {h : Heap} (D : Rep kt h₀ mods h B [(a, listO vs n)] X 0)
   (hR : ∀ h' B' t' e' p, VP vs.length p vs.length → ST (fun i j => decide (key i < key j)) p vs.length → Rep kt h₀ mods h' B' [(a, listO (p.toList.map fun i => vs.getD i .none) e')] X 0 → P (.done (.ret .none)) ⟨h', g, d, t', os⟩) :
   wpAny (model prog w) A (ksk_tree a (.ref f) false) P E ⟨h, g, d, t0, os⟩ := by
  unfold ksk_tree
  obtain ⟨e1, he1⟩ := clear_obj vs n
  have D1 := D.update (j := 0) (p := (a, listO vs n)) (f := Obj.mapSeq fun _ => #[]) rfl rfl
  change Rep kt h₀ mods _ B [(a, Obj.mapSeq (fun _ => #[]) (listO vs n))] X 0 at D1
  rw [he1] at D1
  have D2 := D1.alloc (o := tupO vs) rfl
  have D3 := D2.alloc (o := listO [] 0) rfl
  refine wpAny_bind (listItems_at (D.get (j := 0) rfl) rfl ?_)
  refine wpAny_bind (listUpdate_at (D.get (j := 0) rfl) rfl ?_ (by show vs.length ≤ _; rw [sizeLine_eq]; omega) (Nat.zero_le _))
  refine wpAny_bind (seqEpoch_at (D1.get (j := 0) rfl) rfl ?_)
  refine wpAny_bind (wpAny_newTuple ?_ (by show vs.length ≤ _; rw [sizeLine_eq]; omega))
  refine wpAny_bind (wpAny_newList ?_ (Nat.zero_le _))
  refine wpAny_holding ?_
  have hB2 := D2.size
  show wpAny _ _ (ksk_rest a (.ref f) false ⟨vs⟩ e1 (.ref ((h.update a (Obj.mapSeq fun _ => #[])).push (tupO vs)).objs.size)) P E ⟨((h.update a (Obj.mapSeq fun _ => #[])).push (tupO vs)).push (listO [] 0), g, d, t0, os⟩
  rw [hB2]
  generalize ((h.update a (Obj.mapSeq fun _ => #[])).push (tupO vs)).push (listO [] 0) = h3 at D3
  obtain ⟨B4, D4⟩ := D3.pickE [2, 0] [(B + (0 + 1), listO (txV []) 0), (a, listO [] e1)] rfl
  generalize B + (0 + 1) = kS at D4
  unfold ksk_rest
  refine wpAny_bind (wpAny_rule ?_)
  first
    | rw [List.forIn_toArray]
    | rw [← Array.forIn_toList]
  refine wpAny_bind (wpAny_mono (keyed_fold vs key f a kS e1 h64 hf (fun x K e h B t k hz D hx => ?_) vs [] 0 h3 B4 t0 (by simp) (by simp) rfl D4) (fun _ s' hd => ?_) fun _ _ x => x)
  · refine wpAny_bind (wpAny_attempt (wpAny_mono hx (fun v s'' hk => ?_) fun _ _ hF => hF.elim))
    obtain ⟨h', B', t', tk, rfl, rfl, D'⟩ := hk
    have D5 := D'.update (j := 0) (p := (kS, listO (txV K) e)) (f := Obj.mapSeq (·.push (.str ⟨⟨k⟩⟩ tk))) rfl rfl
    refine wpAny_bind (listUpdate_at (D'.get (j := 0) rfl) rfl ?_ (by show (txV K).length ≤ _; rw [txV_len, sizeLine_eq]; omega) (by show ((⟨txV K⟩ : Array Value).push _).size ≤ _; rw [Array.size_push]; show (txV K).length + 1 ≤ _; rw [txV_len, sizeLine_eq]; omega))
    refine wpAny_pure ⟨rfl, h'.update kS _, B', t', tk, e + 1, rfl, ?_⟩
    have ep := push_obj (txV K) (.str ⟨⟨k⟩⟩ tk) e
    change Rep kt h₀ mods _ B' [(kS, Obj.mapSeq (·.push (.str ⟨⟨k⟩⟩ tk)) (listO (txV K) e)), (a, listO [] e1)] X 0 at D5
    rw [ep] at D5
    rw [txV_app]
    exact D5
  · obtain ⟨K, e, h', B', t', rfl, hK, D'⟩ := hd
    refine wpAny_bind (listItems_at (D'.get (j := 0) rfl) rfl ?_)
    exact wp_sorted_end vs key K a kS e e1 hK h2 h64 D' fun h'' B'' e' p V S D'' => hR _ _ _ _ _ V S D''
end
end Mine
end
section
open PySem PySem.W PySem.Calls PyProof.Rows
set_option Elab.async false
set_option maxRecDepth 100000
namespace Mine
theorem codeAny_toks {M : Model} {A : Around} {c : Code} {R : Result → Shared → Prop} {s : Shared} (h : codeAny M A c (fun r s' => s.toks ≤ s'.toks → R r s') s) : codeAny M A c R s := by
  intro Γ p hc hΓ
  obtain ⟨r, s', hr, hR⟩ := h Γ p hc hΓ
  exact ⟨r, s', hr, hR hr.toks_le⟩
theorem callW_toks {M : Model} {A : Around} {hd : Option Value} {c : Code} {R : Result → Shared → Prop} {s : Shared} (h : callW M A hd c (fun r s' => s.toks ≤ s'.toks → R r s') s) : callW M A hd c R s := by
  intro Γ p hΓ
  obtain ⟨r, s', hr, hR⟩ := h Γ p hΓ
  exact ⟨r, s', hr, hR hr.toks_le⟩
section
variable {prog : Program} {w : World} {A : Around} {R : Result → Shared → Prop} {s : Shared}
theorem code_meetsIn {T : String} {name : Str} {id : String} {B : Builtin} {self : Value} {rest : List Value} {S : PySem.Spec} (slot : Slot T name id) (hT : s.TypeIs self T)
    (entry : entryFor table id = some B) (args : argsOk id ⟨self :: rest, []⟩) (g : MeetsIn prog w (B ⟨self :: rest, []⟩) S) (h : S A R s) :
    codeAny (model prog w) A (.call (.builtin id) ⟨self :: rest, []⟩) R s :=
  codeAny_call_builtin slot.plain entry (slot.check _ _ _ _ _ _ _ _ hT args (g A R s h))
end
section
variable {kt : Nat → Option Obj} {h₀ h h' : Heap} {mods : List Nat} {B : Nat} {L X : Led} {r : Nat}
theorem Rep.ne_kt (D : Rep kt h₀ mods h B L X r) {a : Nat} {o : Obj} (e : kt a = some o) {p : Nat × Obj} (hp : p ∈ L ++ X) : p.1 ≠ a := by
  intro hq
  obtain ⟨e0, nm⟩ := D.top _ _ e
  rcases D.own p hp with q | q
  · exact nm (hq ▸ q)
  · rw [hq, e0] at q; cases q
/-- one object of the ledger is changed -/
theorem Rep.same (D : Rep kt h₀ mods h B L X r) {j : Nat} {p : Nat × Obj} (e : nth L j = some p) (hs : Heap.SameBut p.1 h h') {o : Obj} (ho : h'.get? p.1 = some o) : Rep kt h₀ mods h' B (upd L j o) X r := by
  obtain ⟨eu, en⟩ := upd_app o X L e
  refine ⟨by rw [hs.1, D.size], fun q hq => ?_, by rw [eu, upd_map]; exact D.nd, fun b o' e' nb => ?_, fun q hq => ?_, D.top, by rw [hs.1]; exact D.le⟩
  · rw [eu] at hq
    rcases upd_mem D.nd en hq with rfl | ⟨a, b⟩
    · exact ho
    · exact (hs.2 _ b).trans (D.at_ q a)
  · have ne : b ≠ p.1 := by
      rintro rfl
      rcases D.own p (nth_mem en) with q | q
      · exact nb q
      · rw [q] at e'; cases e'
    exact (hs.2 b ne).trans (D.keep b o' e' nb)
  · rw [eu] at hq
    rcases upd_mem D.nd en hq with rfl | ⟨a, _⟩
    · exact D.own p (nth_mem en)
    · exact D.own q a
end
/-- a dict's entries tell pairs -/
structure DP {prog : Program} {w : World} {K : Type} [DecidableEq K] (knd : PySem.KeyKind prog w K) (l : List DictEntry) (kvs : List (K × Value)) : Prop where
  keys : PySem.KeysOf knd ⟨l⟩
  prs : PySem.Pairs knd l kvs
  nd : (kvs.map (·.1)).Nodup
theorem DP.nil {prog : Program} {w : World} {K : Type} [DecidableEq K] {knd : PySem.KeyKind prog w K} : DP knd [] [] := ⟨fun _ he => by simp at he, .nil, List.nodup_nil⟩
section
variable {prog : Program} {w : World} {A : Around} {R : Result → Shared → Prop} {B t0 : Nat} {g : Array GenState} {d : Drawn} {os : OsState} {mods : List Nat} {kt : Nat → Option Obj} {h₀ : Heap}
variable {K : Type} [DecidableEq K] {knd : PySem.KeyKind prog w K}
theorem DP.of (P : DP knd l kvs) {h : Heap} {a n : Nat} (e : h.get? a = some (dictO l n)) : h.DictOf knd a kvs := ⟨_, ⟨l⟩, n, e, ⟨rfl, rfl, rfl⟩, rfl, P.keys, P.prs, P.nd⟩
theorem DP.to {h : Heap} {a : Nat} {kvs : List (K × Value)} (e : h.DictOf knd a kvs) : ∃ l n, DP knd l kvs ∧ h.get? a = some (dictO l n) := by
  obtain ⟨o, es, ep, ho, ⟨h1, h2, h3⟩, hd, hk, hp, hn⟩ := e
  refine ⟨es.toList, ep, ⟨hk, hp, hn⟩, ?_⟩
  rw [ho]
  obtain ⟨c, dc, dt, sl⟩ := o
  simp only at h1 h2 h3 hd
  subst h1 h2 h3 hd
  rfl
theorem not_sys (D : Rep kt h₀ mods h₀ B [(a, o)] [] 0) {os' : Obj} (hk : kt sysModules = some os') : (a == sysModules) = false := beq_eq_false_iff_ne.mpr (D.ne_kt hk (List.mem_cons_self ..))
theorem r_dcont {so : Obj} (hk : kt sysModules = some so) (a n : Nat) (l : List DictEntry) (kvs : List (K × Value)) (k : K) (key : Value) (hkey : knd.is k key = true) (P : DP knd l kvs) (D : Rep kt h₀ mods h₀ B [(a, dictO l n)] [] 0) (b : Bool) (hb : (PySem.valueAt kvs k).isSome = b)
   (hR : ∀ t', R (.ok (.ret (.bool b))) ⟨h₀, g, d, t', os⟩) :
   codeAny (model prog w) A (.call (.builtin "dict.__contains__") ⟨[.ref a, key], []⟩) R ⟨h₀, g, d, t0, os⟩ := by
  have hd : h₀.get? a = some (dictO l n) := D.get (j := 0) rfl
  refine code_meetsIn F.slot_dict_contains ⟨_, hd, rfl⟩ F.entry_dict_contains (F.args_dict_contains_2 _ _) (meets_dict_contains knd a hkey (not_sys D hk)) ⟨_, (P.of hd).mapOf, ?_⟩
  rw [hb]
  exact hR _
theorem r_dget (a n : Nat) (l : List DictEntry) (kvs : List (K × Value)) (k : K) (key v : Value) (hkey : knd.is k key = true) (P : DP knd l kvs) (D : Rep kt h₀ mods h₀ B [(a, dictO l n)] [] 0) (hv : PySem.valueAt kvs k = some v)
   (hR : ∀ t', R (.ok (.ret v)) ⟨h₀, g, d, t', os⟩) :
   codeAny (model prog w) A (.call (.builtin "dict.__getitem__") ⟨[.ref a, key], []⟩) R ⟨h₀, g, d, t0, os⟩ := by
  have hd : h₀.get? a = some (dictO l n) := D.get (j := 0) rfl
  exact code_meetsIn F.slot_dict_getitem ⟨_, hd, rfl⟩ F.entry_dict_getitem (F.args_dict_getitem_2 _ _) (meets_dict_getitem knd a hkey) ⟨_, v, (P.of hd).mapOf, hv, hR _⟩
theorem r_dgetd {so : Obj} (hk : kt sysModules = some so) (a n : Nat) (l : List DictEntry) (kvs : List (K × Value)) (k : K) (key dflt v : Value) (hkey : knd.is k key = true) (P : DP knd l kvs) (D : Rep kt h₀ mods h₀ B [(a, dictO l n)] [] 0) (hv : (PySem.valueAt kvs k).getD dflt = v)
   (hR : ∀ t', R (.ok (.ret v)) ⟨h₀, g, d, t', os⟩) :
   codeAny (model prog w) A (.call (.builtin "dict.get") ⟨[.ref a, key, dflt], []⟩) R ⟨h₀, g, d, t0, os⟩ := by
  have hd : h₀.get? a = some (dictO l n) := D.get (j := 0) rfl
  refine code_meetsIn F.slot_dict_get ⟨_, hd, rfl⟩ F.entry_dict_get (F.args_dict_get_3 _ _ _) (meets_dict_get_default knd a hkey (not_sys D hk) dflt) ⟨_, (P.of hd).mapOf, ?_⟩
  rw [hv]
  exact hR _
theorem r_dset (a n : Nat) (l : List DictEntry) (kvs : List (K × Value)) (k : K) (key v : Value) (hkey : knd.is k key = true) (P : DP knd l kvs) (hz : kvs.length ≤ 1000000) (D : Rep kt h₀ mods h₀ B [(a, dictO l n)] [] 0)
   (hR : ∀ h1 t' l' n', DP knd l' (PySem.stored kvs k v) → After h₀ h1 mods [(a, dictO l' n')] → R (.ok (.ret .none)) ⟨h1, g, d, t', os⟩) :
   codeAny (model prog w) A (.call (.builtin "dict.__setitem__") ⟨[.ref a, key, v], []⟩) R ⟨h₀, g, d, t0, os⟩ := by
  have hd : h₀.get? a = some (dictO l n) := D.get (j := 0) rfl
  refine code_meetsIn F.slot_dict_setitem ⟨_, hd, rfl⟩ F.entry_dict_setitem (F.args_dict_setitem_3 _ _ _) (meets_dict_setitem_pairs knd a hkey v) ⟨kvs, P.of hd, by rw [sizeLine_eq]; omega, fun h' hm hs => ?_⟩
  obtain ⟨l', n', P', e'⟩ := DP.to hm
  exact hR h' _ l' n' P' ((D.same (j := 0) (p := (a, dictO l n)) rfl hs e').fin [1] rfl)
end
section
variable {prog : Program} {w : World} {A : Around} {R : Result → Shared → Prop} {B t0 : Nat} {g : Array GenState} {d : Drawn} {os : OsState} {mods : List Nat} {kt : Nat → Option Obj} {h₀ : Heap}
theorem key_name : Str.ofString "key" = ⟨⟨[107, 101, 121]⟩⟩ := by decide +kernel
/-- list.sort with a key -/
theorem r_sortkey {X : Led} {h : Heap} (vs : List Value) (key : Nat → List Nat) (f a n : Nat) (h2 : 2 ≤ vs.length) (h64 : vs.length < 64)
   (hf : ∀ i (hi : i < vs.length) (L : Led) (h : Heap) (B t : Nat) (Q : Value → Shared → Prop), Rep kt h₀ mods h B L X 0 → (∀ h' B' t' tk, Rep kt h₀ mods h' B' L X 0 → Q (.str ⟨⟨key i⟩⟩ tk) ⟨h', g, d, t', os⟩) → wpAny (model prog w) A.in1 (call (.ref f) [vs[i]]) Q (fun _ _ => False) ⟨h, g, d, t, os⟩)
   (D : Rep kt h₀ mods h B [(a, listO vs n)] X 0)
   (hR : ∀ h' B' t' e' p, VP vs.length p vs.length → ST (fun i j => decide (key i < key j)) p vs.length → Rep kt h₀ mods h' B' [(a, listO (p.toList.map fun i => vs.getD i .none) e')] X 0 → R (.ok (.ret .none)) ⟨h', g, d, t', os⟩) :
   codeAny (model prog w) A (.call (.builtin "list.sort") ⟨[.ref a], [(⟨⟨[107, 101, 121]⟩⟩, .ref f)]⟩) R ⟨h, g, d, t0, os⟩ := by
  have hl : h.get? a = some (listO vs n) := D.get (j := 0) rfl
  rw [← key_name]
  refine codeAny_call_builtin slot_list_sort.plain entry_list_sort (slot_list_sort.check _ _ _ _ _ _ _ _ ⟨_, hl, rfl⟩ (ksk_l1 _ _) ?_)
  have W := wp_keyed (prog := prog) (w := w) (A := A.in1) (E := fun e s' => R (.error e) s') (t0 := t0) vs key f a n h2 h64 hf D hR (P := fun fin s' => match fin with | .done fl => R (.ok fl) s' | .again _ => False)
  rw [ksk_t1]
  exact wpAny_mono W (fun fin s' hq => by cases fin <;> first | exact hq | exact hq.elim) fun _ _ e => e
/-- a list of strs sorted -/
theorem r_sortstr (Q : List (List Nat × Nat)) (a n : Nat) (h64 : Q.length < 64) (D : Rep kt h₀ mods h₀ B [(a, listO (txV Q) n)] [] 0)
   (hR : ∀ h1 t' e' Q', Q'.Perm Q → Q'.Pairwise (fun x y => decide (y.1 < x.1) = false) → After h₀ h1 mods [(a, listO (txV Q') e')] → R (.ok (.ret .none)) ⟨h1, g, d, t', os⟩) :
   codeAny (model prog w) A (.call (.builtin "list.sort") ⟨[.ref a], []⟩) R ⟨h₀, g, d, t0, os⟩ := by
  have hl : h₀.get? a = some (seqObj "list" (txV Q).toArray n) := D.get (j := 0) rfl
  have hS := txV_strs Q
  refine codeAny_call_builtin slot_list_sort.plain entry_list_sort (slot_list_sort.check _ _ _ _ _ _ _ _ ⟨_, hl, rfl⟩ (args_list_sort _) ?_)
  refine wpAny_mono (list_sort_treeK (P := fun fin s' => match fin with | .done fl => R (.ok fl) s' | .again _ => False) strKind_oneLt hl hS.keysOf (fun v₁ v₂ rest e => keyKind_strs (ss := Q.map fun p => ⟨⟨p.1⟩⟩) (by rw [← e]; exact hS)) (by rw [txV_len]; exact h64) fun st' hp hs => ?_) (fun fin s' hq => by cases fin <;> first | exact hq | exact hq.elim) fun _ _ e => e
  -- the pairs are the items
  have hpl : (arrOf st').toList.Perm ((txV Q).zip (txV Q)) := by rw [← pairsOf_toList]; exact Array.perm_iff_toList_perm.mp hp
  have hzip : ∀ l : List (List Nat × Nat), (txV l).zip (txV l) = l.map fun p => (Value.str ⟨⟨p.1⟩⟩ p.2, Value.str ⟨⟨p.1⟩⟩ p.2) := by
    intro l
    induction l with
    | nil => rfl
    | cons p l ih =>
      show (Value.str ⟨⟨p.1⟩⟩ p.2, Value.str ⟨⟨p.1⟩⟩ p.2) :: (txV l).zip (txV l) = _
      rw [ih]
      rfl
  rw [hzip] at hpl
  obtain ⟨Q', hQ', hperm⟩ : ∃ Q' : List (List Nat × Nat), (arrOf st').toList = Q'.map (fun p => (Value.str ⟨⟨p.1⟩⟩ p.2, Value.str ⟨⟨p.1⟩⟩ p.2)) ∧ Q'.Perm Q := by
    refine ⟨(arrOf st').toList.map fun x => (((match x.1 with | .str y _ => y.cps.toList | _ => []) : List Nat), ((match x.1 with | .str _ t => t | _ => 0) : Nat)), ?_, ?_⟩
    · rw [List.map_map]
      refine (List.map_id _).symm.trans (List.map_congr_left fun x hx => ?_)
      obtain ⟨p, _, rfl⟩ := List.mem_map.mp (hpl.mem_iff.mp hx)
      rfl
    · have e := hpl.map fun x : Value × Value => (((match x.1 with | .str y _ => y.cps.toList | _ => []) : List Nat), ((match x.1 with | .str _ t => t | _ => 0) : Nat))
      rw [List.map_map] at e
      exact e.trans (List.Perm.of_eq (List.map_id Q))
  have hout : (arrOf st').map (·.2) = ⟨txV Q'⟩ := by
    apply Array.toList_inj.mp
    rw [Array.toList_map, hQ', List.map_map]
    rfl
  have hsz : (pairsOf (txV Q)).size = Q'.length := by rw [pairsOf_size, txV_len, hperm.length_eq]
  have D1 := D.update (j := 0) (p := (a, listO (txV Q) n)) (f := Obj.mapSeq fun _ => #[]) rfl rfl
  have D2 := D1.alloc (o := tupO (txV Q)) rfl
  have D3 := D2.alloc (o := listO [] 0) rfl
  obtain ⟨e1, he1⟩ := clear_obj (txV Q) n
  change Rep kt h₀ mods _ B [(a, Obj.mapSeq (fun _ => #[]) (listO (txV Q) n)), (B + 0, tupO (txV Q)), (B + (0 + 1), listO [] 0)] [] 2 at D3
  rw [he1] at D3
  have D4 := D3.update (j := 0) (p := (a, listO [] e1)) (f := Obj.mapSeq fun _ => (⟨txV Q'⟩ : Array Value)) rfl rfl
  obtain ⟨e2, he2⟩ := set_obj [] (txV Q') e1
  show R (.ok (.ret .none)) ⟨sortedHeap h₀ a (txV Q) ((arrOf st').map (·.2)), g, d, t0, os⟩
  rw [hout]
  refine hR _ _ e2 Q' hperm ?_ (D4.finP [0] ?_)
  · rw [List.pairwise_iff_getElem]
    intro i j hi hj hij
    have hs' := hs i j (Nat.le_of_lt hij) (by rw [hsz]; exact hj)
    have at_ : ∀ k (hk : k < Q'.length), KK PyProof.Rows.strKind (arrOf st') k = (Q'[k]).1 := fun k hk => by
      have e0 : (arrOf st')[k]? = some (Value.str ⟨⟨(Q'[k]).1⟩⟩ (Q'[k]).2, Value.str ⟨⟨(Q'[k]).1⟩⟩ (Q'[k]).2) := by
        rw [← Array.getElem?_toList, hQ', List.getElem?_map, List.getElem?_eq_getElem hk]
        rfl
      unfold KK
      rw [e0]
      rfl
    rw [at_ i hi, at_ j hj] at hs'
    exact hs'
  · show [(a, Obj.mapSeq (fun _ => (⟨txV Q'⟩ : Array Value)) (listO [] e1))] = _
    rw [he2]
end
end Mine
end
section
open PySem PySem.W PySem.Calls PyProof.Rows
set_option Elab.async false
set_option maxRecDepth 100000
namespace Mine
theorem cut_cons (x : List Nat) (s q : Nat) (hs : s < x.length) (hq : s < q) : cut x s q = x[s] :: cut x (s + 1) q := by
  unfold cut
  simp only [List.extract_toArray, List.extract_eq_drop_take]
  rw [List.drop_eq_getElem_cons hs]
  have : q - s = (q - (s + 1)) + 1 := by omega
  rw [this, List.take_succ_cons]
/-- a place that begins no match goes through as it is -/
theorem subF_skip (x rp : List Nat) (next : Nat → Option (Nat × Nat)) (k s : Nat) (hs : s < x.length) (hn : next s = next (s + 1)) (hp : ∀ q e, next (s + 1) = some (q, e) → s + 1 ≤ q) :
    subF x next rp (k + 1) s = x[s] :: subF x next rp (k + 1) (s + 1) := by
  show (match next s with | some (q, e) => cut x s q ++ rp ++ subF x next rp k e | none => cut x s x.length) = x[s] :: (match next (s + 1) with | some (q, e) => cut x (s + 1) q ++ rp ++ subF x next rp k e | none => cut x (s + 1) x.length)
  rw [hn]
  cases h : next (s + 1) with
  | none => exact cut_cons x s _ hs hs
  | some qe =>
    obtain ⟨q, e⟩ := qe
    have := hp q e h
    show cut x s q ++ rp ++ _ = x[s] :: (cut x (s + 1) q ++ rp ++ _)
    rw [cut_cons x s q hs (by omega)]
    rfl
theorem nextP_step {p : Nat → Bool} (k s : Nat) : nextP p (k + 1) s = if p s = true then some s else nextP p k (s + 1) := rfl
theorem next2_skip (x : List Nat) (s : Nat) (hs : s < x.length) (h : isNl ⟨x⟩ s = false) : next2 x s = next2 x (s + 1) := by
  unfold next2
  rw [show x.length + 1 - s = (x.length + 1 - (s + 1)) + 1 by omega, nextP_step, if_neg (by rw [h]; exact Bool.false_ne_true)]
theorem next1_skip (x : List Nat) (s : Nat) (hs : s < x.length) (h : bolDot ⟨x⟩ s = false) : next1 x s = next1 x (s + 1) := by
  unfold next1
  rw [show x.length - s + 1 = (x.length - (s + 1) + 1) + 1 by omega, nextP_step, if_neg (by rw [h]; exact Bool.false_ne_true)]
noncomputable def crlfA : Bool → List Nat → List Nat
  | _, [] => []
  | cr, c :: r => if (cr && c == 10) = true then crlfA false r else if c = 13 then 13 :: 10 :: crlfA true r else if c = 10 then 13 :: 10 :: crlfA false r else c :: crlfA false r
theorem crlfA_head (r : List Nat) (h : ∀ r', r ≠ 10 :: r') : crlfA true r = crlfA false r := by
  cases r with
  | nil => rfl
  | cons c r =>
    have hc : (c == 10) = false := beq_eq_false_iff_ne.mpr fun e => h r (e ▸ rfl)
    show (if (true && c == 10) = true then _ else _) = (if (false && c == 10) = true then _ else _)
    rw [hc]
    rfl
theorem sub2_eq (x : List Nat) : ∀ n k s, x.length - s = n → n < k → s ≤ x.length → subF x (next2 x) [13, 10] k s = crlfA false (x.drop s) := by
  intro n
  induction n using Nat.strongRecOn with
  | ind n ih =>
  intro k s hn hk hs
  obtain ⟨k, rfl⟩ : ∃ k', k = k' + 1 := ⟨k - 1, by omega⟩
  by_cases hl : s < x.length
  · have hd : x.drop s = x[s] :: x.drop (s + 1) := List.drop_eq_getElem_cons hl
    have hg : (⟨x⟩ : Array Nat).getD s 0 = x[s] := by simp [Array.getD, hl]
    rw [hd]
    cases hnl : isNl ⟨x⟩ s with
    | false =>
      rw [subF_skip x [13, 10] (next2 x) k s hl (next2_skip x s hl hnl) fun q e h => (prog2 x (s + 1) q e (by omega) h).1, ih (n - 1) (by omega) (k + 1) (s + 1) (by omega) (by omega) (by omega)]
      unfold isNl at hnl
      rw [decide_eq_true (show s < (⟨x⟩ : Array Nat).size from hl), Bool.true_and, hg] at hnl
      obtain ⟨h1, h2⟩ := Bool.or_eq_false_iff.mp hnl
      have h1' := beq_eq_false_iff_ne.mp h1
      have h2' := beq_eq_false_iff_ne.mp h2
      show _ = (if (false && x[s] == 10) = true then _ else if x[s] = 13 then _ else if x[s] = 10 then _ else _)
      rw [Bool.false_and, if_neg Bool.false_ne_true, if_neg h2', if_neg h1']
    | true =>
      have e1 : next2 x s = some (s, nlEnd ⟨x⟩ s) := by
        unfold next2
        rw [show x.length + 1 - s = (x.length - s) + 1 by omega, nextP_step, if_pos hnl]
        rfl
      have hpr := prog2 x s s _ hs e1
      have e2 : subF x (next2 x) [13, 10] (k + 1) s = 13 :: 10 :: subF x (next2 x) [13, 10] k (nlEnd ⟨x⟩ s) := by
        show (match next2 x s with | some (q, e) => cut x s q ++ [13, 10] ++ subF x (next2 x) [13, 10] k e | none => cut x s x.length) = _
        rw [e1]
        show cut x s s ++ [13, 10] ++ _ = _
        rw [cut_nil x s s (Nat.lt_irrefl s)]
        rfl
      rw [e2, ih (x.length - nlEnd ⟨x⟩ s) (by omega) k _ rfl (by omega) hpr.2.2]
      unfold isNl at hnl
      rw [decide_eq_true (show s < (⟨x⟩ : Array Nat).size from hl), Bool.true_and, hg] at hnl
      show _ = (if (false && x[s] == 10) = true then _ else if x[s] = 13 then _ else if x[s] = 10 then _ else _)
      rw [Bool.false_and, if_neg Bool.false_ne_true]
      by_cases h13 : x[s] = 13
      · rw [if_pos h13]
        unfold nlEnd
        rw [hg, h13]
        by_cases hA : (decide (s + 1 < (⟨x⟩ : Array Nat).size) && (⟨x⟩ : Array Nat).getD (s + 1) 0 == 10) = true
        · obtain ⟨a1, a2⟩ := Bool.and_eq_true_iff.mp hA
          have hl1 : s + 1 < x.length := of_decide_eq_true a1
          have hg1 : (⟨x⟩ : Array Nat).getD (s + 1) 0 = x[s + 1] := by simp [Array.getD, hl1]
          rw [hg1] at a2
          have h10 := beq_iff_eq.mp a2
          rw [if_pos (by rw [a1, hg1, a2]; rfl), List.drop_eq_getElem_cons hl1, h10]
          rfl
        · rw [if_neg (by rw [show ((13 : Nat) == 13) = true from rfl, Bool.true_and]; exact hA), crlfA_head]
          intro r' e
          apply hA
          have hl1 : s + 1 < x.length := by
            have : (x.drop (s + 1)).length = (10 :: r').length := by rw [e]
            rw [List.length_drop, List.length_cons] at this
            omega
          have hg1 : (⟨x⟩ : Array Nat).getD (s + 1) 0 = x[s + 1] := by simp [Array.getD, hl1]
          rw [List.drop_eq_getElem_cons hl1] at e
          rw [decide_eq_true (show s + 1 < (⟨x⟩ : Array Nat).size from hl1), hg1, (List.cons.inj e).1]
          rfl
      · have h10 : x[s] = 10 := by
          rcases Bool.or_eq_true_iff.mp hnl with h | h
          · exact beq_iff_eq.mp h
          · exact absurd (beq_iff_eq.mp h) h13
        rw [if_neg h13, if_pos h10]
        unfold nlEnd
        rw [hg, h10, if_neg (by simp)]
  · have e0 : s = x.length := by omega
    have e1 : next2 x s = none := by
      unfold next2
      rw [nextP_none]
      · rfl
      · intro q hq
        unfold isNl
        rw [decide_eq_false (show ¬ q < (⟨x⟩ : Array Nat).size from by show ¬ q < x.length; omega), Bool.false_and]
    show (match next2 x s with | some (q, e) => cut x s q ++ [13, 10] ++ subF x (next2 x) [13, 10] k e | none => cut x s x.length) = _
    rw [e1]
    show cut x s x.length = _
    rw [cut_nil x s _ hl, e0, List.drop_length]
    rfl
noncomputable def dotsA : Bool → List Nat → List Nat
  | _, [] => []
  | b, c :: r => if (b && c == 46) = true then 46 :: 46 :: dotsA false r else c :: dotsA (c == 10) r
theorem sub1_eq (x : List Nat) : ∀ n k s, x.length - s = n → n < k → s ≤ x.length → subF x (next1 x) [46, 46] k s = dotsA (s == 0 || (⟨x⟩ : Array Nat).getD (s - 1) 0 == 10) (x.drop s) := by
  intro n
  induction n using Nat.strongRecOn with
  | ind n ih =>
  intro k s hn hk hs
  obtain ⟨k, rfl⟩ : ∃ k', k = k' + 1 := ⟨k - 1, by omega⟩
  by_cases hl : s < x.length
  · have hd : x.drop s = x[s] :: x.drop (s + 1) := List.drop_eq_getElem_cons hl
    have hg : (⟨x⟩ : Array Nat).getD s 0 = x[s] := by simp [Array.getD, hl]
    rw [hd]
    have hs1 : (s + 1 == 0 || (⟨x⟩ : Array Nat).getD (s + 1 - 1) 0 == 10) = (x[s] == 10) := by
      rw [show s + 1 - 1 = s by omega, hg, show (s + 1 == 0) = false from rfl, Bool.false_or]
    cases hnl : bolDot ⟨x⟩ s with
    | false =>
      rw [subF_skip x [46, 46] (next1 x) k s hl (next1_skip x s hl hnl) fun q e h => (prog1 x (s + 1) q e (by omega) h).1, ih (n - 1) (by omega) (k + 1) (s + 1) (by omega) (by omega) (by omega), hs1]
      unfold bolDot at hnl
      rw [decide_eq_true (show s < (⟨x⟩ : Array Nat).size from hl), Bool.and_true, hg] at hnl
      show _ = (if (_ && x[s] == 46) = true then _ else _)
      rw [hnl, if_neg Bool.false_ne_true]
    | true =>
      have e1 : next1 x s = some (s, s + 1) := by
        unfold next1
        rw [nextP_step, if_pos hnl]
        rfl
      have e2 : subF x (next1 x) [46, 46] (k + 1) s = 46 :: 46 :: subF x (next1 x) [46, 46] k (s + 1) := by
        show (match next1 x s with | some (q, e) => cut x s q ++ [46, 46] ++ subF x (next1 x) [46, 46] k e | none => cut x s x.length) = _
        rw [e1]
        show cut x s s ++ [46, 46] ++ _ = _
        rw [cut_nil x s s (Nat.lt_irrefl s)]
        rfl
      rw [e2, ih (x.length - (s + 1)) (by omega) k _ rfl (by omega) (by omega), hs1]
      unfold bolDot at hnl
      rw [decide_eq_true (show s < (⟨x⟩ : Array Nat).size from hl), Bool.and_true, hg] at hnl
      show _ = (if (_ && x[s] == 46) = true then _ else _)
      rw [if_pos hnl, beq_iff_eq.mp (Bool.and_eq_true_iff.mp hnl).2]
      rfl
  · have e0 : s = x.length := by omega
    have e1 : next1 x s = none := by
      unfold next1
      rw [nextP_none]
      · rfl
      · intro q hq
        unfold bolDot
        rw [decide_eq_false (show ¬ q < (⟨x⟩ : Array Nat).size from by show ¬ q < x.length; omega), Bool.and_false, Bool.false_and]
    show (match next1 x s with | some (q, e) => cut x s q ++ [46, 46] ++ subF x (next1 x) [46, 46] k e | none => cut x s x.length) = _
    rw [e1]
    show cut x s x.length = _
    rw [cut_nil x s _ hl, e0, List.drop_length]
    unfold dotsA
    rfl
noncomputable def sent (x : List Nat) : List Nat := dotsA true (crlfA false x)
theorem sub_both (x : List Nat) : sub1 (sub2 x) = sent x := by
  unfold sub1 sub2 sent
  rw [sub2_eq x x.length _ 0 (by omega) (by omega) (by omega), List.drop_zero, sub1_eq (crlfA false x) (crlfA false x).length _ 0 (by omega) (by omega) (by omega), List.drop_zero]
  rfl
end Mine
end
section
open PySem PySem.W PySem.Calls PyProof.Rows
set_option Elab.async false
set_option maxRecDepth 100000
namespace Mine
noncomputable def joinL (sep : List Nat) : List (List Nat) → List Nat
  | [] => []
  | [p] => p
  | p :: q :: r => p ++ sep ++ joinL sep (q :: r)
noncomputable def splitC (c : Nat) : List Nat → List (List Nat)
  | [] => [[]]
  | a :: r => if a = c then [] :: splitC c r else match splitC c r with
    | [] => [[a]]
    | p :: q => (a :: p) :: q
theorem splitC_eq (c a : Nat) (r : List Nat) : splitC c (a :: r) = if a = c then [] :: splitC c r else match splitC c r with
    | [] => [[a]]
    | p :: q => (a :: p) :: q := rfl
theorem splitC_ne (c : Nat) (x : List Nat) : splitC c x ≠ [] := by
  cases x with
  | nil => simp [splitC]
  | cons a r =>
    unfold splitC
    split
    · simp
    · split <;> simp
theorem splitC_plain (c : Nat) (p x : List Nat) (h : c ∉ p) : splitC c (p ++ c :: x) = p :: splitC c x := by
  induction p with
  | nil => show (if c = c then _ else _) = _; rw [if_pos rfl]
  | cons a p ih =>
    have h1 : ¬ a = c := fun e => h (e ▸ List.mem_cons_self ..)
    have h2 := ih fun m => h (List.mem_cons_of_mem _ m)
    show splitC c (a :: (p ++ c :: x)) = _
    rw [splitC_eq, if_neg h1, h2]
theorem splitC_last (c : Nat) (p : List Nat) (h : c ∉ p) : splitC c p = [p] := by
  induction p with
  | nil => rfl
  | cons a p ih =>
    have h1 : ¬ a = c := fun e => h (e ▸ List.mem_cons_self ..)
    have h2 := ih fun m => h (List.mem_cons_of_mem _ m)
    rw [splitC_eq, if_neg h1, h2]
theorem splitC_join (c : Nat) : ∀ ps : List (List Nat), ps ≠ [] → (∀ p ∈ ps, c ∉ p) → splitC c (joinL [c] ps) = ps
  | [], h, _ => absurd rfl h
  | [p], _, h => splitC_last c p (h p (List.mem_singleton.mpr rfl))
  | p :: q :: r, _, h => by
    show splitC c (p ++ [c] ++ joinL [c] (q :: r)) = _
    rw [List.append_assoc]
    show splitC c (p ++ c :: joinL [c] (q :: r)) = _
    rw [splitC_plain c p _ (h p (List.mem_cons_self ..)), splitC_join c (q :: r) (by simp) fun a ha => h a (List.mem_cons_of_mem _ ha)]
theorem join_toList (sep : Str) : ∀ ps : List Str, (Str.join sep ps).cps.toList = joinL sep.cps.toList (ps.map fun p => p.cps.toList)
  | [] => rfl
  | [p] => rfl
  | p :: q :: r => by
    show (p ++ sep ++ Str.join sep (q :: r)).cps.toList = p.cps.toList ++ sep.cps.toList ++ joinL sep.cps.toList ((q :: r).map fun p => p.cps.toList)
    rw [← join_toList sep (q :: r)]
    simp only [Str.cps_append, Array.toList_append]
theorem txt_split (x : List Nat) (c : Nat) : (Txt.split ⟨⟨x⟩⟩ ⟨⟨[c]⟩⟩).map (fun p => p.cps.toList) = splitC c x := by
  have e := StrLaws.join_split (⟨⟨x⟩⟩ : Str) ⟨⟨[c]⟩⟩
  have e1 := congrArg (fun p : Str => p.cps.toList) e
  rw [join_toList] at e1
  have hne : (Txt.split (⟨⟨x⟩⟩ : Str) ⟨⟨[c]⟩⟩).map (fun p => p.cps.toList) ≠ [] := by
    have := split_pos (⟨⟨x⟩⟩ : Str) ⟨⟨[c]⟩⟩
    intro h
    rw [List.map_eq_nil_iff] at h
    rw [h] at this
    simp at this
  have e2 := splitC_join c _ hne fun p hp => by
    obtain ⟨q, hq, rfl⟩ := List.mem_map.mp hp
    exact StrLaws.split_free (⟨⟨x⟩⟩ : Str) c q hq
  change joinL [c] _ = x at e1
  rw [e1] at e2
  exact e2.symm
/-- every c made z -/
theorem txt_replace1 (x : List Nat) (c z : Nat) : (Txt.replace ⟨⟨x⟩⟩ ⟨⟨[c]⟩⟩ ⟨⟨[z]⟩⟩).cps.toList = x.map fun a => if a = c then z else a := by
  have e : Txt.replace (⟨⟨x⟩⟩ : Str) ⟨⟨[c]⟩⟩ ⟨⟨[z]⟩⟩ = Str.join ⟨⟨[z]⟩⟩ (Txt.split ⟨⟨x⟩⟩ ⟨⟨[c]⟩⟩) := StrLaws.replace_one _ _ c
  rw [e, join_toList, txt_split]
  show joinL [z] (splitC c x) = _
  have key : ∀ x : List Nat, joinL [z] (splitC c x) = x.map fun a => if a = c then z else a := by
    intro x
    induction x with
    | nil => rfl
    | cons a r ih =>
      rw [List.map_cons, ← ih, splitC_eq]
      split
      · rename_i h
        cases hq : splitC c r with
        | nil => exact absurd hq (splitC_ne c r)
        | cons p q => simp [joinL]
      · cases hq : splitC c r with
        | nil => exact absurd hq (splitC_ne c r)
        | cons p q => cases q with
          | nil => simp [joinL]
          | cons q1 q2 => simp [joinL]
  exact key x
noncomputable def crlf1 : List Nat → List Nat
  | [] => []
  | c :: r => if c = 13 then (match r with
    | [] => [13]
    | a :: r' => if a = 10 then 10 :: crlf1 r' else 13 :: crlf1 (a :: r')) else c :: crlf1 r
theorem crlf1_ne (c : Nat) (r : List Nat) (h : c ≠ 13) : crlf1 (c :: r) = c :: crlf1 r := by
  rw [crlf1.eq_def]
  show (if c = 13 then _ else c :: crlf1 r) = _
  rw [if_neg h]
theorem crlf1_pair (r : List Nat) : crlf1 (13 :: 10 :: r) = 10 :: crlf1 r := rfl
theorem crlf1_lone (a : Nat) (r : List Nat) (h : a ≠ 10) : crlf1 (13 :: a :: r) = 13 :: crlf1 (a :: r) := by
  show (if (13 : Nat) = 13 then (if a = 10 then 10 :: crlf1 r else 13 :: crlf1 (a :: r)) else _) = _
  rw [if_pos rfl, if_neg h]
/-- a stretch without the pair stays -/
theorem crlf1_skip (x : List Nat) : ∀ (n a : Nat), (∀ k, a ≤ k → k < a + n → ¬ (x[k]? = some 13 ∧ x[k + 1]? = some 10)) → a + n ≤ x.length → crlf1 (x.drop a) = (x.drop a).take n ++ crlf1 (x.drop (a + n))
  | 0, a, _, _ => by simp
  | n + 1, a, h, hl => by
    have ih := crlf1_skip x n (a + 1) (fun k h1 h2 => h k (by omega) (by omega)) (by omega)
    have ha : a < x.length := by omega
    have e : x.drop a = x[a] :: x.drop (a + 1) := List.drop_eq_getElem_cons ha
    rw [e]
    have key : crlf1 (x[a] :: x.drop (a + 1)) = x[a] :: crlf1 (x.drop (a + 1)) := by
      by_cases h13 : x[a] = 13
      · have h0 := h a (Nat.le_refl _) (by omega)
        rw [List.getElem?_eq_getElem ha, h13] at h0
        rw [h13]
        cases hq : x.drop (a + 1) with
        | nil => rfl
        | cons b r =>
          refine crlf1_lone b r fun hb => h0 ⟨rfl, ?_⟩
          have := congrArg List.head? hq
          rw [List.head?_drop] at this
          rw [this, ← hb]; rfl
      · exact crlf1_ne _ _ h13
    rw [key, ih, List.take_succ_cons]
    show _ = x[a] :: ((x.drop (a + 1)).take n ++ crlf1 (x.drop (a + (n + 1))))
    rw [show a + 1 + n = a + (n + 1) by omega]
theorem at_pair (x : List Nat) (k : Nat) : StrLaws.At (⟨⟨x⟩⟩ : Str) ⟨⟨[13, 10]⟩⟩ x.length k ↔ (x[k]? = some 13 ∧ x[k + 1]? = some 10) := by
  unfold StrLaws.At
  rw [StrLaws.subAt_eq]
  show (k + 2 ≤ x.length ∧ ((x.drop k).take 2 == [13, 10]) = true) ↔ _
  rw [beq_iff_eq]
  constructor
  · rintro ⟨h1, h2⟩
    have e0 := congrArg (fun l : List Nat => l[0]?) h2
    have e1 := congrArg (fun l : List Nat => l[1]?) h2
    simp only [List.getElem?_take_of_lt (by decide : 0 < 2), List.getElem?_take_of_lt (by decide : 1 < 2), List.getElem?_drop] at e0 e1
    exact ⟨e0, e1⟩
  · rintro ⟨h1, h2⟩
    have l1 := (List.getElem?_eq_some_iff.mp h1).1
    have l2 := (List.getElem?_eq_some_iff.mp h2).1
    refine ⟨by omega, ?_⟩
    rw [List.drop_eq_getElem_cons l1, List.drop_eq_getElem_cons l2]
    rw [List.getElem?_eq_getElem l1] at h1
    rw [List.getElem?_eq_getElem l2] at h2
    rw [Option.some.inj h1, Option.some.inj h2]
    rfl
theorem crlf_parts (x : List Nat) : ∀ (cuts : List Nat) (a f : Nat), StrLaws.ChainG (⟨⟨x⟩⟩ : Str) ⟨⟨[13, 10]⟩⟩ x.length a cuts f → (∀ k, f ≤ k → ¬ StrLaws.At (⟨⟨x⟩⟩ : Str) ⟨⟨[13, 10]⟩⟩ x.length k) → a ≤ x.length →
    joinL [10] ((StrLaws.partsFrom (⟨⟨x⟩⟩ : Str) 2 a cuts).map fun p => p.cps.toList) = crlf1 (x.drop a)
  | [], a, f, h, hn, ha => by
    have e : f = a := h
    subst e
    show (Builtin.Str.strSub (⟨⟨x⟩⟩ : Str) f x.length).cps.toList = _
    rw [StrLaws.strSub_toList]
    have s := crlf1_skip x (x.length - f) f (fun k h1 _ hk => hn k h1 ((at_pair x k).mpr hk)) (by omega)
    rw [s, show f + (x.length - f) = x.length by omega, List.drop_length]
    show (x.drop f).take (x.length - f) = _ ++ []
    rw [List.append_nil]
  | c :: r, a, f, h, hn, ha => by
    obtain ⟨h1, h2, h3, h4⟩ := h
    obtain ⟨p, q, e⟩ := StrLaws.partsFrom_ne (⟨⟨x⟩⟩ : Str) 2 (c + 2) r
    have hc := (at_pair x c).mp h2
    have l1 := (List.getElem?_eq_some_iff.mp hc.1).1
    have l2 := (List.getElem?_eq_some_iff.mp hc.2).1
    have ih := crlf_parts x r (c + 2) f h4 hn (by omega)
    show joinL [10] ((Builtin.Str.strSub (⟨⟨x⟩⟩ : Str) a c :: StrLaws.partsFrom (⟨⟨x⟩⟩ : Str) 2 (c + 2) r).map fun p => p.cps.toList) = _
    rw [e] at ih ⊢
    show (Builtin.Str.strSub (⟨⟨x⟩⟩ : Str) a c).cps.toList ++ [10] ++ joinL [10] ((p :: q).map fun p => p.cps.toList) = _
    rw [ih, StrLaws.strSub_toList, crlf1_skip x (c - a) a (fun k h5 h6 hk => h3 k h5 (by omega) ((at_pair x k).mpr hk)) (by omega), show a + (c - a) = c by omega]
    rw [List.drop_eq_getElem_cons l1, List.drop_eq_getElem_cons l2]
    have e1 : x[c] = 13 := by rw [List.getElem?_eq_getElem l1] at hc; exact Option.some.inj hc.1
    have e2 : x[c + 1] = 10 := by rw [List.getElem?_eq_getElem l2] at hc; exact Option.some.inj hc.2
    rw [e1, e2, crlf1_pair, List.append_assoc]
    rfl
theorem txt_replace2 (x : List Nat) : (Txt.replace ⟨⟨x⟩⟩ ⟨⟨[13, 10]⟩⟩ ⟨⟨[10]⟩⟩).cps.toList = crlf1 x := by
  obtain ⟨f, hG, hn⟩ := StrLaws.occ_tight (⟨⟨x⟩⟩ : Str) ⟨⟨[13, 10]⟩⟩ (by decide)
  have key := crlf_parts x _ 0 f hG hn (Nat.zero_le _)
  rw [List.drop_zero] at key
  have e2 : ∀ b, ((Builtin.Str.occurrences (⟨⟨x⟩⟩ : Str) ⟨⟨[13, 10]⟩⟩ 0 (⟨⟨x⟩⟩ : Str).length ((⟨⟨x⟩⟩ : Str).length + 1)).isEmpty || (((⟨⟨[13, 10]⟩⟩ : Str).length == 0) && ((⟨⟨[10]⟩⟩ : Str).length == 0))) = b → (if b = true then (⟨⟨x⟩⟩ : Str) else Builtin.Str.glued ⟨⟨[10]⟩⟩ (Builtin.Str.partsBetween ⟨⟨x⟩⟩ (Builtin.Str.occurrences (⟨⟨x⟩⟩ : Str) ⟨⟨[13, 10]⟩⟩ 0 (⟨⟨x⟩⟩ : Str).length ((⟨⟨x⟩⟩ : Str).length + 1)) 2)).cps.toList = crlf1 x := by
    intro b hb
    cases b with
    | true =>
      rw [if_pos rfl]
      rw [show (((⟨⟨[13, 10]⟩⟩ : Str).length == 0) && ((⟨⟨[10]⟩⟩ : Str).length == 0)) = false from rfl, Bool.or_false] at hb
      have e0 : Builtin.Str.occurrences (⟨⟨x⟩⟩ : Str) ⟨⟨[13, 10]⟩⟩ 0 (⟨⟨x⟩⟩ : Str).length ((⟨⟨x⟩⟩ : Str).length + 1) = [] := List.isEmpty_iff.mp hb
      rw [e0] at key
      rw [← key]
      show x = (Builtin.Str.strSub (⟨⟨x⟩⟩ : Str) 0 x.length).cps.toList
      rw [StrLaws.strSub_toList, List.drop_zero, Nat.sub_zero]
      exact List.take_length.symm
    | false =>
      rw [if_neg Bool.false_ne_true, StrLaws.glued_eq_join, StrLaws.partsBetween_eq, join_toList]
      exact key
  exact e2 _ rfl
/-- what _law_sent reckons -/
noncomputable def dotR (p : List Nat) : List Nat := match p with
  | 46 :: r => 46 :: 46 :: r
  | p => p
noncomputable def rowsL (x : List Nat) : List (List Nat) := splitC 10 ((crlf1 x).map fun a => if a = 13 then 10 else a)
noncomputable def lawSent (x : List Nat) : List Nat := joinL [13, 10] ((rowsL x).map dotR)
/-- line ends made CR LF -/
theorem joinL_cons (sep p : List Nat) (ps : List (List Nat)) (h : ps ≠ []) : joinL sep (p :: ps) = p ++ sep ++ joinL sep ps := by
  cases ps with
  | nil => exact absurd rfl h
  | cons q r => rfl
theorem joinL_head (sep : List Nat) (a : Nat) (p : List Nat) (ps : List (List Nat)) : joinL sep ((a :: p) :: ps) = a :: joinL sep (p :: ps) := by
  cases ps with
  | nil => rfl
  | cons q r => rfl
theorem crlfA_rows : ∀ (n : Nat) (x : List Nat), x.length ≤ n → crlfA false x = joinL [13, 10] (rowsL x)
  | 0, x, h => by
    obtain rfl : x = [] := List.length_eq_zero_iff.mp (by omega)
    rfl
  | n + 1, [], _ => rfl
  | n + 1, c :: r, h => by
    have hl : r.length ≤ n := by rw [List.length_cons] at h; omega
    have step : ∀ (d : Nat), d = 10 → ∀ y : List Nat, joinL [13, 10] (splitC 10 (d :: y)) = 13 :: 10 :: joinL [13, 10] (splitC 10 y) := by
      rintro d rfl y
      show joinL [13, 10] (if (10 : Nat) = 10 then [] :: splitC 10 y else _) = _
      rw [if_pos rfl, joinL_cons _ _ _ (splitC_ne 10 y)]
      rfl
    by_cases h13 : c = 13
    · subst h13
      show (if (false && (13 : Nat) == 10) = true then crlfA false r else if (13 : Nat) = 13 then 13 :: 10 :: crlfA true r else _) = _
      rw [if_neg (by decide), if_pos rfl]
      cases r with
      | nil => rfl
      | cons a r' =>
        by_cases ha : a = 10
        · subst ha
          have ih := crlfA_rows n r' (by rw [List.length_cons] at hl; omega)
          unfold rowsL
          rw [crlf1_pair, List.map_cons, if_neg (by decide), step 10 rfl]
          show 13 :: 10 :: crlfA true (10 :: r') = _
          rw [show crlfA true (10 :: r') = crlfA false r' from rfl, ih]
          rfl
        · have ih := crlfA_rows n (a :: r') hl
          unfold rowsL
          rw [crlf1_lone a r' ha, List.map_cons, if_pos rfl, step 10 rfl]
          rw [crlfA_head (a :: r') (by intro r'' e; injection e with e1 _; exact ha e1), ih]
          rfl
    · have ih := crlfA_rows n r hl
      by_cases h10 : c = 10
      · subst h10
        unfold rowsL
        rw [crlf1_ne 10 r (by decide), List.map_cons, if_neg (by decide), step 10 rfl]
        show 13 :: 10 :: crlfA false r = _
        rw [ih]
        rfl
      · unfold rowsL
        rw [crlf1_ne c r h13, List.map_cons, if_neg h13]
        show (if (false && c == 10) = true then crlfA false r else if c = 13 then 13 :: 10 :: crlfA true r else if c = 10 then 13 :: 10 :: crlfA false r else c :: crlfA false r) = _
        rw [if_neg (by simp), if_neg h13, if_neg h10, ih]
        unfold rowsL
        rw [splitC_eq, if_neg h10]
        cases hq : splitC 10 ((crlf1 r).map fun a => if a = 13 then 10 else a) with
        | nil => exact absurd hq (splitC_ne _ _)
        | cons p q => rw [joinL_head]
theorem splitC_free (c : Nat) : ∀ x : List Nat, ∀ p ∈ splitC c x, c ∉ p
  | [], p, hp => by rw [List.mem_singleton.mp hp]; simp
  | a :: r, p, hp => by
    rw [splitC_eq] at hp
    split at hp
    · rcases List.mem_cons.mp hp with rfl | hp
      · simp
      · exact splitC_free c r p hp
    · rename_i ha
      cases hq : splitC c r with
      | nil => exact absurd hq (splitC_ne _ _)
      | cons p0 q =>
        rw [hq] at hp
        have ih := splitC_free c r
        rw [hq] at ih
        rcases List.mem_cons.mp hp with rfl | hp
        · intro hm
          rcases List.mem_cons.mp hm with e | hm
          · exact ha e.symm
          · exact ih p0 (List.mem_cons_self ..) hm
        · exact ih p (List.mem_cons_of_mem _ hp)
theorem dots_row (p y : List Nat) (h : 10 ∉ p) : dotsA false (p ++ y) = p ++ dotsA false y := by
  induction p with
  | nil => rfl
  | cons a p ih =>
    have h1 : ¬ a = 10 := fun e => h (e ▸ List.mem_cons_self ..)
    show (if (false && a == 46) = true then _ else a :: dotsA (a == 10) (p ++ y)) = _
    rw [if_neg (by simp), show (a == 10) = false from beq_eq_false_iff_ne.mpr h1, ih fun m => h (List.mem_cons_of_mem _ m)]
    rfl
theorem dots_first (p y : List Nat) (h : 10 ∉ p) (hy : p = [] → ∀ r, y ≠ 46 :: r) : dotsA true (p ++ y) = dotR p ++ dotsA false y := by
  cases p with
  | nil =>
    show dotsA true y = dotsA false y
    cases y with
    | nil => rfl
    | cons a r =>
      have h1 : ¬ a = 46 := fun e => hy rfl r (by rw [e])
      show (if (true && a == 46) = true then _ else a :: dotsA (a == 10) r) = (if (false && a == 46) = true then _ else a :: dotsA (a == 10) r)
      rw [if_neg (by simp [h1]), if_neg (by simp)]
  | cons a p =>
    have h1 : ¬ a = 10 := fun e => h (e ▸ List.mem_cons_self ..)
    have h2 : 10 ∉ p := fun m => h (List.mem_cons_of_mem _ m)
    by_cases h46 : a = 46
    · subst h46
      show 46 :: 46 :: dotsA false (p ++ y) = _
      rw [dots_row p y h2]
      rfl
    · show (if (true && a == 46) = true then _ else a :: dotsA (a == 10) (p ++ y)) = _
      rw [if_neg (by simp [h46]), show (a == 10) = false from beq_eq_false_iff_ne.mpr h1, dots_row p y h2]
      have : dotR (a :: p) = a :: p := by
        unfold dotR
        split
        · rename_i e; injection e with e1 _; exact absurd e1 h46
        · rfl
      rw [this]
      rfl
theorem dots_rows : ∀ ps : List (List Nat), (∀ p ∈ ps, 10 ∉ p) → dotsA true (joinL [13, 10] ps) = joinL [13, 10] (ps.map dotR)
  | [], _ => rfl
  | [p], h => by
    have e := dots_first p [] (h p (List.mem_singleton.mpr rfl)) (fun _ r e => by cases e)
    rw [List.append_nil] at e
    show dotsA true p = dotR p
    rw [e]
    exact List.append_nil _
  | p :: q :: r, h => by
    have ih := dots_rows (q :: r) fun a ha => h a (List.mem_cons_of_mem _ ha)
    show dotsA true (p ++ [13, 10] ++ joinL [13, 10] (q :: r)) = dotR p ++ [13, 10] ++ joinL [13, 10] ((q :: r).map dotR)
    rw [List.append_assoc, dots_first p _ (h p (List.mem_cons_self ..)) (fun _ r e => by injection e with e1 _; cases e1), List.append_assoc, ← ih]
    rfl
theorem sent_law (x : List Nat) : sent x = lawSent x := by
  unfold sent lawSent
  rw [crlfA_rows x.length x (Nat.le_refl _)]
  exact dots_rows _ (splitC_free 10 _)
end Mine
end
section
open PySem PySem.W PySem.Calls PyProof.Rows
set_option Elab.async false
set_option maxRecDepth 100000
namespace Mine
section
variable {prog : Program} {w : World} {A : Around} {R : Result → Shared → Prop} {B t0 : Nat} {g : Array GenState} {d : Drawn} {os : OsState} {mods : List Nat} {kt : Nat → Option Obj} {h₀ : Heap}
theorem r_replace (x y z : List Nat) (t u v : Nat) (hu : u ≠ 0) (hv : v ≠ 0) (huv : u ≠ v) (hyz : y ≠ z) (hb : x.length + (x.length + 1) * z.length ≤ 16777216) {s : Shared} (q : List Nat) (hq : (Txt.replace ⟨⟨x⟩⟩ ⟨⟨y⟩⟩ ⟨⟨z⟩⟩).cps.toList = q)
   (hR : ∀ t1 t', R (.ok (.ret (.str ⟨⟨q⟩⟩ t1))) ⟨s.heap, s.gens, s.drawn, t', s.os⟩) :
   callW (model prog w) A none (.call (.builtin "str.replace") ⟨[.str ⟨⟨x⟩⟩ t, .str ⟨⟨y⟩⟩ u, .str ⟨⟨z⟩⟩ v], []⟩) R s := by
  refine callW_call (Q := fun v s' => R (.ok (.ret v)) s') (E := fun e s' => R (.error e) s') ?_ (fun _ _ h => h) (fun _ _ h => h)
  refine SC.replace hu hv huv ?_ hb fun t' k => ?_
  · rw [beq_eq_false_iff_ne]
    intro e
    injection e with e
    exact hyz (congrArg Array.toList e)
  · have e : Txt.replace (⟨⟨x⟩⟩ : Str) ⟨⟨y⟩⟩ ⟨⟨z⟩⟩ = ⟨⟨q⟩⟩ := by
      rw [← hq]
    rw [e]
    exact hR _ _
theorem strs_tx : ∀ (l : List Str) (n : Nat), strsFrom n l = txV (l.zipIdx n |>.map fun p => (p.1.cps.toList, p.2))
  | [], _ => rfl
  | x :: r, n => by
    show Value.str x n :: strsFrom (n + 1) r = _
    rw [strs_tx r (n + 1)]
    rfl
theorem r_split (x : List Nat) (c : Nat) (t u : Nat) (hx : x.length ≤ 1000000) (D : Rep kt h₀ mods h₀ B [] [] 0)
   (hR : ∀ h1 a t' Q, Q.map (·.1) = splitC c x → After h₀ h1 mods [(a, listO (txV Q) 0)] → R (.ok (.ret (.ref a))) ⟨h1, g, d, t', os⟩) :
   codeAny (model prog w) A (.call (.builtin "str.split") ⟨[.str ⟨⟨x⟩⟩ t, .str ⟨⟨[c]⟩⟩ u], []⟩) R ⟨h₀, g, d, t0, os⟩ := by
  have key := txt_split x c
  have hB : h₀.objs.size = B := D.size
  have one : splitC c x = [x] → (listOfItself (⟨⟨x⟩⟩ : Str) t) A R ⟨h₀, g, d, t0, os⟩ := fun e => by
    have D1 := D.alloc (o := listO (txV [(x, t)]) 0) rfl
    show R (.ok (.ret (.ref h₀.objs.size))) ⟨h₀.push (listO (txV [(x, t)]) 0), g, d, t0, os⟩
    rw [hB]
    exact hR _ _ _ [(x, t)] e.symm (D1.fin [1] rfl)
  cases h1 : (decide ((⟨⟨x⟩⟩ : Str).length < (⟨⟨[c]⟩⟩ : Str).length) || decide (Builtin.Str.strKind (⟨⟨x⟩⟩ : Str) < Builtin.Str.strKind (⟨⟨[c]⟩⟩ : Str))) with
  | true =>
    refine code_meets F.slot_str_split (typeIs_str _ _ _) F.entry_str_split (F.args_str_split_2 _ _) (meets_str_split_cannot_occur _ _ t u h1) (one ?_)
    rw [← key]
    unfold Txt.split
    rw [if_pos h1]
    rfl
  | false =>
    cases h2 : (Builtin.Str.occurrences (⟨⟨x⟩⟩ : Str) ⟨⟨[c]⟩⟩ 0 (⟨⟨x⟩⟩ : Str).length ((⟨⟨x⟩⟩ : Str).length + 1)).isEmpty with
    | true =>
      refine code_meets F.slot_str_split (typeIs_str _ _ _) F.entry_str_split (F.args_str_split_2 _ _) (meets_str_split_not_found _ _ t u h1 rfl h2) (one ?_)
      rw [← key]
      unfold Txt.split
      rw [if_neg (by rw [h1]; exact Bool.false_ne_true), if_pos h2]
      rfl
    | false =>
      have e0 : Txt.split (⟨⟨x⟩⟩ : Str) ⟨⟨[c]⟩⟩ = Builtin.Str.partsBetween (⟨⟨x⟩⟩ : Str) (Builtin.Str.occurrences (⟨⟨x⟩⟩ : Str) ⟨⟨[c]⟩⟩ 0 (⟨⟨x⟩⟩ : Str).length ((⟨⟨x⟩⟩ : Str).length + 1)) (⟨⟨[c]⟩⟩ : Str).length := by
        unfold Txt.split
        rw [if_neg (by rw [h1]; exact Bool.false_ne_true), if_neg (by rw [h2]; exact Bool.false_ne_true)]
      have hle := split_le (⟨⟨x⟩⟩ : Str) ⟨⟨[c]⟩⟩
      refine code_meets F.slot_str_split (typeIs_str _ _ _) F.entry_str_split (F.args_str_split_2 _ _) (meets_str_split_sep _ _ t u h1 rfl h2 (by rw [sizeLine_eq]; show x.length ≤ _; omega) ?_) ?_
      · rw [← e0]
        refine Nat.le_trans hle ?_
        rw [sizeLine_eq]; show x.length + 2 ≤ _; omega
      · rw [← e0]
        have ev : (strsFrom t0 (Txt.split (⟨⟨x⟩⟩ : Str) ⟨⟨[c]⟩⟩)).toArray = ⟨txV ((Txt.split (⟨⟨x⟩⟩ : Str) ⟨⟨[c]⟩⟩).zipIdx t0 |>.map fun p => (p.1.cps.toList, p.2))⟩ := by rw [strs_tx]
        have D1 := D.alloc (o := listO (txV ((Txt.split (⟨⟨x⟩⟩ : Str) ⟨⟨[c]⟩⟩).zipIdx t0 |>.map fun p => (p.1.cps.toList, p.2))) 0) rfl
        show R (.ok (.ret (.ref h₀.objs.size))) ⟨h₀.push { cls := .type "list", data := .seq (strsFrom t0 (Txt.split (⟨⟨x⟩⟩ : Str) ⟨⟨[c]⟩⟩)).toArray }, g, d, _, os⟩
        rw [ev, hB]
        refine hR _ _ _ _ ?_ (D1.fin [1] rfl)
        rw [← key, List.map_map]
        have : ∀ (l : List Str) (n : Nat), (l.zipIdx n).map (fun p => p.1.cps.toList) = l.map fun p => p.cps.toList := by
          intro l
          induction l with
          | nil => intro n; rfl
          | cons a l ih => intro n; rw [List.zipIdx_cons, List.map_cons, ih, List.map_cons]
        exact this _ _
theorem tx_values (Q : List (List Nat × Nat)) : txV Q = strValues (Q.map fun p => ((⟨⟨p.1⟩⟩ : Str), p.2)) := by
  unfold txV strValues
  rw [List.map_map]
  rfl
theorem joinL_len (sep : List Nat) : ∀ ps : List (List Nat), (joinL sep ps).length ≤ (ps.map List.length).sum + ps.length * sep.length
  | [] => by simp [joinL]
  | [p] => by simp [joinL]
  | p :: q :: r => by
    have ih := joinL_len sep (q :: r)
    show (p ++ sep ++ joinL sep (q :: r)).length ≤ (List.length p :: (q :: r).map List.length).sum + ((q :: r).length + 1) * sep.length
    rw [List.length_append, List.length_append, List.sum_cons, Nat.add_mul, Nat.one_mul]
    omega
theorem len_foldS (sep : Str) (l : List Str) : ∀ n : Nat, l.foldl (fun a s => a + s.length + sep.length) n = n + (l.map Str.length).sum + l.length * sep.length := by
  induction l with
  | nil => intro n; simp
  | cons p l ih =>
    intro n
    rw [List.foldl_cons, ih, List.map_cons, List.sum_cons, List.length_cons, Nat.add_mul, Nat.one_mul]
    omega
theorem r_joinS (sep : List Nat) (a t ep : Nat) (Q : List (List Nat × Nat)) (hz : ((Q.map (·.1)).map List.length).sum + Q.length * sep.length ≤ 16777216) (D : Rep kt h₀ mods h₀ B [(a, listO (txV Q) ep)] [] 0)
   (hR : ∀ t1 t', R (.ok (.ret (.str ⟨⟨joinL sep (Q.map (·.1))⟩⟩ t1))) ⟨h₀, g, d, t', os⟩) :
   codeAny (model prog w) A (.call (.builtin "str.join") ⟨[.str ⟨⟨sep⟩⟩ t, .ref a], []⟩) R ⟨h₀, g, d, t0, os⟩ := by
  have hl : h₀.get? a = some (listO (txV Q) ep) := D.get (j := 0) rfl
  rw [tx_values] at hl
  have em : (Q.map fun p => ((⟨⟨p.1⟩⟩ : Str), p.2)).map (·.1) = Q.map fun p => (⟨⟨p.1⟩⟩ : Str) := by rw [List.map_map]; rfl
  have eJ : Builtin.Str.glued ⟨⟨sep⟩⟩ ((Q.map fun p => ((⟨⟨p.1⟩⟩ : Str), p.2)).map (·.1)) = ⟨⟨joinL sep (Q.map (·.1))⟩⟩ := by
    have e1 := join_toList (⟨⟨sep⟩⟩ : Str) ((Q.map fun p => ((⟨⟨p.1⟩⟩ : Str), p.2)).map (·.1))
    rw [← StrLaws.glued_eq_join] at e1
    have e2 : (((Q.map fun p => ((⟨⟨p.1⟩⟩ : Str), p.2)).map (·.1)).map fun p : Str => p.cps.toList) = Q.map (·.1) := by rw [List.map_map, List.map_map]; rfl
    rw [e2] at e1
    have e3 : (Builtin.Str.glued ⟨⟨sep⟩⟩ ((Q.map fun p => ((⟨⟨p.1⟩⟩ : Str), p.2)).map (·.1))).cps = ⟨joinL sep (Q.map (·.1))⟩ := by
      apply Array.toList_inj.mp
      exact e1
    exact congrArg Str.mk e3
  refine code_meets F.slot_str_join (typeIs_str _ _ _) F.entry_str_join (F.args_str_join_2 _ _) (meets_str_join_list ⟨⟨sep⟩⟩ t a (Q.map fun p => ((⟨⟨p.1⟩⟩ : Str), p.2)) ?_) ⟨⟨_, hl, rfl, ep, rfl⟩, ?_⟩
  · rw [List.foldl_toArray, len_foldS, em]
    unfold Builtin.Str.tooLong
    rw [sizeLine_eq]
    have e4 : ((Q.map fun p => (⟨⟨p.1⟩⟩ : Str)).map Str.length) = (Q.map (·.1)).map List.length := by rw [List.map_map, List.map_map]; rfl
    rw [e4, List.length_map]
    exact decide_eq_false (by show ¬ (0 + _ + Q.length * sep.length > 16777216); omega)
  · refine post_join _ ⟨?_, fun t' k => ?_⟩
    · have := joinL_len sep (Q.map (·.1))
      rw [List.length_map] at this
      show (Builtin.Str.glued ⟨⟨sep⟩⟩ _).length ≤ sizeLine
      rw [eJ, sizeLine_eq]
      show (joinL sep (Q.map (·.1))).length ≤ _
      omega
    · show R (.ok (.ret (.str (Builtin.Str.glued ⟨⟨sep⟩⟩ _) t'))) _
      rw [eJ]
      exact hR _ _
theorem joinL_nil : ∀ ps : List (List Nat), joinL [] ps = ps.flatten
  | [] => rfl
  | [p] => by simp [joinL]
  | p :: q :: r => by
    show p ++ [] ++ joinL [] (q :: r) = _
    rw [joinL_nil (q :: r), List.append_nil]
    rfl
/-- a text's iterator: the class tells whether it is ASCII -/
noncomputable def sitC (asc : Bool) : String := match asc with
  | true => "str_ascii_iterator"
  | false => "str_iterator"
noncomputable def ascOf (x : List Nat) : Bool := (⟨⟨x⟩⟩ : Str).cps.all (· < 128)
theorem r_siterA (hA : Fit 0 A kt h₀) (x : List Nat) (t : Nat) (asc : Bool) (ha : ascOf x = asc) (D : Rep kt h₀ mods h₀ B [] [] 0)
   (hR : ∀ h1 a t', After h₀ h1 mods [(a, iterO (sitC asc) (.str ⟨⟨x⟩⟩ t) 0)] → R (.ok (.ret (.ref a))) ⟨h1, g, d, t', os⟩) :
   codeAny (model prog w) A (.call (.builtin "str.__iter__") ⟨[.str ⟨⟨x⟩⟩ t], []⟩) R ⟨h₀, g, d, t0, os⟩ := by
  obtain ⟨b1, b2, hw⟩ := parF_ex w
  have hA' := hA.in1
  refine code_slot F.slot_str_iter (typeIs_str _ _ _) F.entry_str_iter (F.args_str_iter_1 _) ?_
  show wpAny _ _ (do ret (← newFields (if (true && ascOf x) = true then "str_ascii_iterator" else "str_iterator") [.str ⟨⟨x⟩⟩ t, rawInt 0])) _ _ _
  rw [ha]
  refine means_base (s := ⟨h₀, g, d, t0 + 0, os⟩) ?_
  cases asc <;> (
    (refine segF (t0 := t0) (i := 0) 100000 [] (Fin.done (Flow.ret (Value.ref B))) D (by assumption) (by assumption) ?_; intro o1; refine ⟨by kernel_rfl, by kernel_rfl, by kernel_rfl, fun h1 D1 => ?_⟩)
    exact hR _ B _ (D1.fin [1] (by kernel_rfl)))
theorem r_wnext (hA : Fit 0 A kt h₀) (it t i : Nat) (b : List Nat) (c : Nat) (hx : b[i]? = some c) (D : Rep kt h₀ mods h₀ B [(it, iterO "str_iterator" (.str ⟨⟨b⟩⟩ t) i)] [] 0)
   (hR : ∀ h1 t1 t', After h₀ h1 mods [(it, iterO "str_iterator" (.str ⟨⟨b⟩⟩ t) (i + 1))] → R (.ok (.ret (.str ⟨⟨[c]⟩⟩ t1))) ⟨h1, g, d, t', os⟩) :
   codeAny (model prog w) A (.call (.builtin "str_iterator.__next__") ⟨[.ref it], []⟩) R ⟨h₀, g, d, t0, os⟩ := by
  obtain ⟨b1, b2, hw⟩ := parF_ex w
  have hA' := hA.in1
  have ho : h₀.get? it = some (iterO "str_iterator" (.str ⟨⟨b⟩⟩ t) i) := D.get (j := 0) rfl
  refine code_slot F.slot_str_iterator_next ⟨_, ho, rfl⟩ F.entry_str_iterator_next (F.args_str_iterator_next_1 _) ?_
  show wpAny _ _ (PySem.field (.ref it) 0 >>= _) _ _ _
  refine wpAny_bind (wpAny_field ho rfl (x := .str ⟨⟨b⟩⟩ t) rfl ?_)
  show wpAny _ _ (PySem.field (.ref it) 1 >>= _) _ _ _
  refine wpAny_bind (wpAny_field ho rfl (x := .int i 0) rfl ?_)
  have hx' : (⟨b⟩ : Array Nat)[i]? = some c := by rw [List.getElem?_toArray]; exact hx
  simp only [Int.toNat_natCast, hx']
  refine means_base (s := ⟨h₀, g, d, t0 + 0, os⟩) ?_
  (refine segF (t0 := t0) (i := 0) 100000 [1, 1] (Fin.done (Flow.ret (Value.str { cps := { toList := [c] : Array Nat } : Str } t0))) D (by assumption) (by assumption) ?_; intro o3; refine ⟨by kernel_rfl, by kernel_rfl, by kernel_rfl, fun h3 D3 => ?_⟩)
  exact hR _ _ _ (D3.fin [1] (by kernel_rfl))
theorem r_wend (hA : Fit 0 A kt h₀) (it t i : Nat) (b : List Nat) (hx : b[i]? = none) (D : Rep kt h₀ mods h₀ B [(it, iterO "str_iterator" (.str ⟨⟨b⟩⟩ t) i)] [] 0)
   (hR : ∀ h1 t' a a2, After h₀ h1 mods [(a2, tupO []), (a, stopO a2)] → R (.error (.ref a)) ⟨h1, g, d, t', os⟩) :
   codeAny (model prog w) A (.call (.builtin "str_iterator.__next__") ⟨[.ref it], []⟩) R ⟨h₀, g, d, t0, os⟩ := by
  obtain ⟨b1, b2, hw⟩ := parF_ex w
  have hA' := hA.in1
  have ho : h₀.get? it = some (iterO "str_iterator" (.str ⟨⟨b⟩⟩ t) i) := D.get (j := 0) rfl
  refine code_slot F.slot_str_iterator_next ⟨_, ho, rfl⟩ F.entry_str_iterator_next (F.args_str_iterator_next_1 _) ?_
  show wpAny _ _ (PySem.field (.ref it) 0 >>= _) _ _ _
  refine wpAny_bind (wpAny_field ho rfl (x := .str ⟨⟨b⟩⟩ t) rfl ?_)
  show wpAny _ _ (PySem.field (.ref it) 1 >>= _) _ _ _
  refine wpAny_bind (wpAny_field ho rfl (x := .int i 0) rfl ?_)
  have hx' : (⟨b⟩ : Array Nat)[i]? = none := by rw [List.getElem?_toArray]; exact hx
  simp only [Int.toNat_natCast, hx']
  refine means_base (s := ⟨h₀, g, d, t0 + 0, os⟩) ?_
  (refine segE (t0 := t0) (i := 0) 100000 [1, 1] (Value.ref (B + 1)) D (by assumption) (by assumption) ?_; intro o4; refine ⟨by kernel_rfl, by kernel_rfl, by kernel_rfl, fun h4 D4 => ?_⟩)
  exact hR _ _ (B + 1) B (D4.fin [0, 1, 1] (by kernel_rfl))
end
end Mine
end
section
open PySem PySem.W PySem.Calls PyProof.Rows
set_option Elab.async false
set_option maxRecDepth 100000
namespace Mine
section
variable {prog : Program} {w : World} {A : Around} {R : Result → Shared → Prop} {B t0 : Nat} {g : Array GenState} {d : Drawn} {os : OsState} {mods : List Nat} {kt : Nat → Option Obj} {h₀ : Heap}
theorem wp_lnext {h : Heap} (hA : Fit 0 A kt h) {Q : Option Value → Shared → Prop} {E : Value → Shared → Prop} (S it la i ep : Nat) (so : Obj) (l : List Value) (c : Value) (hx : l[i]? = some c)
   (D : Rep kt h₀ mods h B [(S, so), (it, iterO "list_iterator" (.ref la) i), (la, listO l ep)] [] 0)
   (hq : ∀ h' B' t', Rep kt h₀ mods h' B' [(S, so), (it, iterO "list_iterator" (.ref la) (i + 1)), (la, listO l ep)] [] 0 → Q (some c) ⟨h', g, d, t', os⟩) :
   wpAny (model prog w) A (pyNext (.ref it)) Q E ⟨h, g, d, t0, os⟩ := by
  have hit : h.get? it = some (iterO "list_iterator" (.ref la) i) := D.get (j := 1) rfl
  unfold pyNext
  refine wpAny_bind (wpAny_attempt (wpAny_callSpecial?_slot (name := Str.ofString "__next__") (T := "list_iterator") ⟨_, hit, rfl⟩ slot_listiter_next (wpAny_call ?_)))
  refine r_lnext hA it la i ep l c hx (D.give [0, 1, 1] rfl) fun h1 t' a => ?_
  obtain ⟨B2, E1⟩ := D.backP [0, 1, 1] [2, 0, 1] [(S, so), (it, iterO "list_iterator" (.ref la) (i + 1)), (la, listO l ep)] rfl a rfl
  exact wpAny_pure (hq _ _ _ E1)
theorem sum_step (hA : Fit 1 A kt h₀) (la le it st i : Nat) (l : List Value) (a b : Int) (ta tb : Nat) (hx : l[i]? = some (.int b tb)) (f1 : InLong b) (f2 : InLong (a + b)) {h : Heap} (ep : Nat)
   (D : Rep kt h₀ mods h B [(st, listO [.int a ta] ep), (it, iterO "list_iterator" (.ref la) i), (la, listO l le)] [] 0)
   (hR : ∀ h' B' t' tk e', Rep kt h₀ mods h' B' [(st, listO [.int (a + b) tk] e'), (it, iterO "list_iterator" (.ref la) (i + 1)), (la, listO l le)] [] 0 → codeAny (model prog w) A (.builtin "sum.loop" ⟨[.ref it, .ref st, .int 0 0, .int 0 0], []⟩) R ⟨h', g, d, t', os⟩) :
   codeAny (model prog w) A (.builtin "sum.loop" ⟨[.ref it, .ref st, .int 0 0, .int 0 0], []⟩) R ⟨h, g, d, t0, os⟩ := by
  refine codeAny_builtin F.entry_sum_loop ?_
  rw [Around.under_plainId F.plain_sum_loop _]
  show wpAny _ A.in1 (seqItems? (.ref st) >>= _) _ _ _
  refine wpAny_bind (wpAny_seqItems (D.get (j := 0) rfl) rfl ?_)
  show wpAny _ A.in1 (tryCatch (pyNext (.ref it)) _ >>= _) _ _ _
  refine wpAny_bind (wpAny_tryCatch (wp_lnext (Fit.move (hA.less (by kernel_rfl) : Fit 0 A kt h₀).in1 D) st it la i le _ l (.int b tb) hx D fun h' B' t' D' => ?_))
  have hc : ((decide (-(2 ^ 63) ≤ b) && decide (b < 2 ^ 63)) && (decide (-(2 ^ 63) ≤ a + b) && decide (a + b < 2 ^ 63))) = true := by
    obtain ⟨f1, f3⟩ := f1
    obtain ⟨f2, f4⟩ := f2
    simp only [Bool.and_eq_true, decide_eq_true_eq]
    exact ⟨⟨f1, f3⟩, f2, f4⟩
  show wpAny _ A.in1 (if (_ : Bool) = true then (mkInt (a + b) >>= _) else _) _ _ _
  split
  · refine wpAny_bind (wpAny_mkInt ?_)
    show wpAny _ A.in1 (updateSeq st (fun _ => #[.int (a + b) t']) >>= _) _ _ _
    have D2 := D'.update (j := 0) (p := (st, listO [.int a ta] ep)) (f := Obj.mapSeq fun _ => #[.int (a + b) t']) rfl rfl
    obtain ⟨e2, he2⟩ := set_obj [.int a ta] [.int (a + b) t'] ep
    change Rep kt h₀ mods _ B' [(st, Obj.mapSeq (fun _ => (⟨[.int (a + b) t']⟩ : Array Value)) (listO [.int a ta] ep)), (it, iterO "list_iterator" (.ref la) (i + 1)), (la, listO l le)] [] 0 at D2
    rw [he2] at D2
    exact wpAny_bind (wpAny_updateSeq (D'.get (j := 0) rfl) rfl (wpAny_pure ⟨plainId_quiet F.plain_sum_loop _, hR _ _ _ _ _ D2⟩))
  · rename_i hneg
    exact absurd hc hneg
theorem sum_loop (hA : Fit 10 A kt h₀) (la le it st : Nat) : ∀ (rest pre : List (Nat × Nat)) (m : Nat × Nat) (h : Heap) (B t0 ep : Nat), (∀ q ∈ rest, q.1 ≤ 1000000) → m.1 + rest.length * 1000000 ≤ 1000000000 →
   Rep kt h₀ mods h B [(st, listO [.int (.ofNat m.1) m.2] ep), (it, iterO "list_iterator" (.ref la) pre.length), (la, listO (natV (pre ++ rest)) le)] [] 0 →
   (∀ h' B' t' tk, Rep kt h₀ mods h' B' [(la, listO (natV (pre ++ rest)) le)] [] 0 → R (.ok (.ret (.int (.ofNat (m.1 + (rest.map (·.1)).sum)) tk))) ⟨h', g, d, t', os⟩) →
   codeAny (model prog w) A (.builtin "sum.loop" ⟨[.ref it, .ref st, .int 0 0, .int 0 0], []⟩) R ⟨h, g, d, t0, os⟩ := by
  obtain ⟨b1, b2, hw⟩ := parF_ex w
  have hA' := hA.under (.builtin "sum.loop" ⟨[.ref it, .ref st, .int 0 0, .int 0 0], []⟩) (m := 9) (by kernel_rfl)
  intro rest
  induction rest with
  | nil =>
    intro pre m h B t0 ep hb hz D hR
    refine code_start ?_
    refine Means.add0 ?_
    (refine segW (t0 := t0) (i := 0) 100000 [1, 2] (Code.call (Value.builtin "list_iterator.__next__") { pos := [Value.ref it] : Args }) D (by assumption) (by assumption) ?_; intro o11; refine ⟨by kernel_rfl, by kernel_rfl, by kernel_rfl, by kernel_rfl, by kernel_rfl, fun h11 D11 => ?_⟩)
    refine callW_of rfl ?_
    rw [mark_none]
    refine r_lend (Fit.inner hA' D11 _ (by kernel_rfl) (by kernel_rfl)) it la pre.length le (natV (pre ++ [])) (by simp [natV]) (D11.give [0, 1, 1] (by kernel_rfl)) fun g1 t' x y a1 => ?_
    obtain ⟨B2, E1⟩ := D11.backP [0, 1, 1] [0, 1, 2, 3] [(la, listO (natV (pre ++ [])) le), (y, tupO []), (x, stopO y), (st, listO [.int (.ofNat m.1) m.2] ep)] (by kernel_rfl) a1 (by kernel_rfl)
    refine Means.add0 ?_
    (refine segF (t0 := t') (i := 0) 100000 [3] ((Fin.done (Flow.ret (.int (.ofNat m.1) m.2))) ) E1 (by assumption) (by assumption) ?_; intro o12; refine ⟨by kernel_rfl, by kernel_rfl, by kernel_rfl, fun h12 D12 => ?_⟩)
    obtain ⟨B3, E2⟩ := D12.pickE [0] [(la, listO (natV (pre ++ [])) le)] (by kernel_rfl)
    exact hR _ _ _ _ E2
  | cons q rest ih =>
    intro pre m h B t0 ep hb hz D hR
    rw [List.length_cons] at hz
    have hq := hb q List.mem_cons_self
    have e1 : Int.ofNat q.1 = (q.1 : Int) := rfl
    have e2 : Int.ofNat m.1 = (m.1 : Int) := rfl
    refine sum_step (hA.less (by kernel_rfl)) la le it st pre.length (natV (pre ++ q :: rest)) (.ofNat m.1) (.ofNat q.1) m.2 q.2 (by simp [natV]) (by unfold InLong; omega) (by unfold InLong; omega) ep D fun h' B' t' tk e' D' => ?_
    rw [show pre ++ q :: rest = (pre ++ [q]) ++ rest by simp, show pre.length + 1 = (pre ++ [q]).length by simp] at D'
    refine ih (pre ++ [q]) (m.1 + q.1, tk) _ _ _ _ (fun x hx => hb x (List.mem_cons_of_mem _ hx)) (by show m.1 + q.1 + _ ≤ _; omega) D' fun h2 B2 t2 tk D3 => ?_
    have z := hR h2 B2 t2 tk (by rw [show pre ++ q :: rest = (pre ++ [q]) ++ rest by simp]; exact D3)
    rw [List.map_cons, List.sum_cons, ← Nat.add_assoc] at z
    exact z
theorem r_sum (hA : Fit 20 A kt h₀) (la le : Nat) (Q : List (Nat × Nat)) (hb : ∀ q ∈ Q, q.1 ≤ 1000000) (hz : Q.length ≤ 1000) (D : Rep kt h₀ mods h₀ B [(la, listO (natV Q) le)] [] 0)
   (hR : ∀ h1 t' tk, After h₀ h1 mods [(la, listO (natV Q) le)] → R (.ok (.ret (.int (.ofNat (Q.map (·.1)).sum) tk))) ⟨h1, g, d, t', os⟩) :
   codeAny (model prog w) A (.call (.builtin "sum") ⟨[.ref la], []⟩) R ⟨h₀, g, d, t0, os⟩ := by
  obtain ⟨b1, b2, hw⟩ := parF_ex w
  have hA1 := hA.under (.call (.builtin "sum") ⟨[.ref la], []⟩) (m := 20) (by kernel_rfl)
  refine code_start ?_
  refine Means.add0 ?_
  (refine segF (t0 := t0) (i := 0) 100000 [] ((Fin.again (.builtin "sum" ⟨[.ref la], []⟩)) ) D (by assumption) (by assumption) ?_; intro o41; refine ⟨by kernel_rfl, by kernel_rfl, by kernel_rfl, fun h41 D41 => ?_⟩)
  obtain ⟨B1, E1⟩ := D41.pickE [0] [(la, listO (natV Q) le)] (by kernel_rfl)
  refine ⟨by kernel_rfl, code_start ?_⟩
  have hA2 := hA.under (.builtin "sum" ⟨[.ref la], []⟩) (m := 20) (by kernel_rfl)
  clear hA1 D41
  refine Means.add0 ?_
  cases b1 <;> (
    (refine segF (t0 := t0 + outI o41) (i := 0) 100000 [1, 1, 1, 1, 2] ((Fin.again (.builtin "sum.loop" ⟨[.ref B1, .ref (B1 + 1), .int 0 0, .int 0 0], []⟩)) ) E1 (by assumption) (by assumption) ?_; intro o42; refine ⟨by kernel_rfl, by kernel_rfl, by kernel_rfl, fun h42 D42 => ?_⟩)
    obtain ⟨B2, E2⟩ := D42.pickE [2, 1, 0] [(B1 + 1, listO [.int (.ofNat 0) t0] 0), (B1, iterO "list_iterator" (.ref la) ([] : List (Nat × Nat)).length), (la, listO (natV ([] ++ Q)) le)] (by kernel_rfl)
    refine ⟨by kernel_rfl, sum_loop (hA.less (by kernel_rfl)) la le B1 (B1 + 1) Q [] (0, t0) _ _ _ _ hb (by show 0 + _ ≤ _; omega) E2 fun h' B' t'' tk D' => ?_⟩
    rw [show ((0, t0) : Nat × Nat).1 = 0 from rfl, Nat.zero_add]
    exact hR _ _ _ (D'.finP [0] rfl))
end
end Mine
end
section
open PySem PySem.W PySem.Calls PyProof.Rows
set_option Elab.async false
set_option maxRecDepth 100000
namespace Mine
noncomputable def uniqL : List (List Nat) → List (List Nat) → List (List Nat)
  | acc, [] => acc
  | acc, x :: r => uniqL (if x ∈ acc then acc else acc ++ [x]) r
theorem uniqL_le : ∀ (r acc : List (List Nat)), (uniqL acc r).length ≤ acc.length + r.length
  | [], acc => Nat.le_refl _
  | x :: r, acc => by
    have ih := uniqL_le r (if x ∈ acc then acc else acc ++ [x])
    show (uniqL (if x ∈ acc then acc else acc ++ [x]) r).length ≤ acc.length + (r.length + 1)
    have : (if x ∈ acc then acc else acc ++ [x]).length ≤ acc.length + 1 := by split <;> simp
    omega
/-- the set of what acc holds -/
noncomputable def SetIs (prog : Program) (w : World) (o : Obj) (acc : List (List Nat)) : Prop := o.SetObjOf (PySem.strKind prog w) (fun k => decide (k.cps.toList ∈ acc)) acc.length
section
variable {prog : Program} {w : World} {A : Around} {R : Result → Shared → Prop} {B t0 : Nat} {g : Array GenState} {d : Drawn} {os : OsState} {mods : List Nat} {kt : Nat → Option Obj} {h₀ : Heap}
theorem set_loop (hA : Fit 10 A kt h₀) (la le it st : Nat) : ∀ (rest pre : List (List Nat × Nat)) (acc : List (List Nat)) (so : Obj) (h : Heap) (B t0 : Nat), SetIs prog w so acc → acc.length + rest.length ≤ 1000 →
   Rep kt h₀ mods h B [(st, so), (it, iterO "list_iterator" (.ref la) pre.length), (la, listO (txV (pre ++ rest)) le)] [] 0 →
   (∀ h' B' t' so', SetIs prog w so' (uniqL acc (rest.map (·.1))) → Rep kt h₀ mods h' B' [(st, so'), (la, listO (txV (pre ++ rest)) le)] [] 0 → R (.ok (.ret .none)) ⟨h', g, d, t', os⟩) →
   codeAny (model prog w) A (.builtin "set.update.loop" ⟨[.ref st, .ref it], []⟩) R ⟨h, g, d, t0, os⟩ := by
  obtain ⟨b1, b2, hw⟩ := parF_ex w
  have hA' := hA.under (.builtin "set.update.loop" ⟨[.ref st, .ref it], []⟩) (m := 9) (by kernel_rfl)
  intro rest
  induction rest with
  | nil =>
    intro pre acc so h B t0 hs hz D hR
    refine code_start ?_
    refine Means.add0 ?_
    (refine segW (t0 := t0) (i := 0) 100000 [2] (Code.call (Value.builtin "list_iterator.__next__") { pos := [Value.ref it] : Args }) D (by assumption) (by assumption) ?_; intro o11; refine ⟨by kernel_rfl, by kernel_rfl, by kernel_rfl, by kernel_rfl, by kernel_rfl, fun h11 D11 => ?_⟩)
    refine callW_of rfl ?_
    rw [mark_none]
    refine r_lend (Fit.inner hA' D11 _ (by kernel_rfl) (by kernel_rfl)) it la pre.length le (txV (pre ++ [])) (by simp [txV]) (D11.give [0, 1, 1] (by kernel_rfl)) fun g1 t' x y a1 => ?_
    obtain ⟨B2, E1⟩ := D11.backP [0, 1, 1] [0, 1, 2, 3] [(la, listO (txV (pre ++ [])) le), (y, tupO []), (x, stopO y), (st, so)] (by kernel_rfl) a1 (by kernel_rfl)
    refine Means.add0 ?_
    (refine segF (t0 := t') (i := 0) 100000 [3] ((Fin.done (Flow.ret .none)) ) E1 (by assumption) (by assumption) ?_; intro o12; refine ⟨by kernel_rfl, by kernel_rfl, by kernel_rfl, fun h12 D12 => ?_⟩)
    obtain ⟨B3, E2⟩ := D12.pickE [3, 0] [(st, so), (la, listO (txV (pre ++ [])) le)] (by kernel_rfl)
    exact hR _ _ _ so hs E2
  | cons q rest ih =>
    intro pre acc so h B t0 hs hz D hR
    rw [List.length_cons] at hz
    refine codeAny_builtin F.entry_set_update_loop ?_
    rw [Around.under_plainId F.plain_set_update_loop _]
    show wpAny _ A.in1 (pyNext (.ref it) >>= _) _ _ _
    refine wpAny_bind (wp_lnext (Fit.move (hA.less (by kernel_rfl) : Fit 0 A kt h₀).in1 D) st it la pre.length le so (txV (pre ++ q :: rest)) (.str ⟨⟨q.1⟩⟩ q.2) (by simp [txV]) D fun h' B' t' D' => ?_)
    show wpAny _ A.in1 (holding [Value.str ⟨⟨q.1⟩⟩ q.2] (setAdd st (.str ⟨⟨q.1⟩⟩ q.2)) >>= _) _ _ _
    refine wpAny_bind (wpAny_holding ?_)
    unfold setAdd
    refine wpAny_holding ?_
    refine wpAny_bind ((PySem.strKind prog w).pyHash (k := ⟨⟨q.1⟩⟩) (strKind_is _ _ _ _) ?_)
    have hS := hs.setOf (D'.get (j := 0) rfl) (by unfold scanBound; omega)
    refine wpAny_setAddHashed_of (knd := PySem.strKind prog w) (s := ⟨h', g, d, t' + 1, os⟩) (strKind_is _ _ _ _) rfl hS (by unfold scanBound; omega) fun h2 hsb hS2 => ?_
    obtain ⟨so2, ho2, hso2⟩ := hS2.objOf
    have D2 := D'.same (j := 0) (p := (st, so)) rfl hsb ho2
    change Rep kt h₀ mods h2 B' [(st, so2), (it, iterO "list_iterator" (.ref la) (pre.length + 1)), (la, listO (txV (pre ++ q :: rest)) le)] [] 0 at D2
    rw [show pre ++ q :: rest = (pre ++ [q]) ++ rest by simp, show pre.length + 1 = (pre ++ [q]).length by simp] at D2
    have hacc : SetIs prog w so2 (if q.1 ∈ acc then acc else acc ++ [q.1]) := by
      unfold SetIs
      have e1 : (fun k' : Str => decide (k'.cps.toList ∈ acc) || decide (k' = ⟨⟨q.1⟩⟩)) = fun k' : Str => decide (k'.cps.toList ∈ (if q.1 ∈ acc then acc else acc ++ [q.1])) := by
        funext k
        have ek : (k = ⟨⟨q.1⟩⟩) ↔ k.cps.toList = q.1 := ⟨fun e => by rw [e], fun e => by cases k with | mk c => cases c with | mk l => have e' : l = q.1 := e; rw [e']⟩
        rw [Bool.eq_iff_iff]
        simp only [Bool.or_eq_true, decide_eq_true_eq, ek]
        split
        · rename_i hm
          exact ⟨fun h => h.elim id fun e => e ▸ hm, .inl⟩
        · rw [List.mem_append, List.mem_singleton]
      have e2 : (if decide (q.1 ∈ acc) = true then acc.length else acc.length + 1) = (if q.1 ∈ acc then acc else acc ++ [q.1]).length := by
        by_cases hm : q.1 ∈ acc
        · rw [if_pos (decide_eq_true hm), if_pos hm]
        · rw [if_neg (by rw [decide_eq_true_eq]; exact hm), if_neg hm, List.length_append]; rfl
      rw [← e1, ← e2]
      exact hso2
    have hlen : (if q.1 ∈ acc then acc else acc ++ [q.1]).length ≤ acc.length + 1 := by split <;> simp
    refine wpAny_pure ⟨plainId_quiet F.plain_set_update_loop _, ih (pre ++ [q]) _ so2 _ _ _ hacc (by omega) D2 fun h3 B3 t3 so3 hs3 D3 => ?_⟩
    exact hR h3 B3 t3 so3 hs3 (by rw [show pre ++ q :: rest = (pre ++ [q]) ++ rest by simp]; exact D3)
theorem set_fresh (led : Bool) : SetIs prog w { cls := .type "set", dict := none, data := .set #[] 0 (.fresh 0 0 led) } [] := by
  have h := setObjOf_fresh (knd := PySem.strKind prog w) led
  have e : (fun k : Str => decide (k.cps.toList ∈ ([] : List (List Nat)))) = fun _ => false := by funext k; simp
  unfold SetIs
  rw [e]
  exact h
theorem r_set (hA : Fit 30 A kt h₀) (la le : Nat) (Q : List (List Nat × Nat)) (hz : Q.length ≤ 1000) (D : Rep kt h₀ mods h₀ B [(la, listO (txV Q) le)] [] 0)
   (hR : ∀ h1 t' st so, SetIs prog w so (uniqL [] (Q.map (·.1))) → After h₀ h1 mods [(st, so), (la, listO (txV Q) le)] → R (.ok (.ret (.ref st))) ⟨h1, g, d, t', os⟩) :
   codeAny (model prog w) A (.call (.type "set") ⟨[.ref la], []⟩) R ⟨h₀, g, d, t0, os⟩ := by
  obtain ⟨b1, b2, hw⟩ := parF_ex w
  refine code_go ?_
  refine Means.add0 ?_
  cases b1 <;> (
    (refine segW (t0 := t0) (i := 0) 100000 [1, 2, 2, 1, 2, 2, 2, 2, 1, 1, 1, 1, 1, 1, 1, 3] (Code.builtin "set.update.loop" { pos := [Value.ref B, Value.ref (B + 1)] : Args }) D (by assumption) (by assumption) ?_; intro o41; refine ⟨by kernel_rfl, by kernel_rfl, by kernel_rfl, by kernel_rfl, by kernel_rfl, fun h41 D41 => ?_⟩)
    obtain ⟨B2, E2⟩ := D41.pickE [1, 2, 0] [(B, { cls := .type "set", dict := none, data := .set #[] 0 (.fresh 0 0 (!(w.params.followText "set-order"))) }), (B + 1, iterO "list_iterator" (.ref la) ([] : List (List Nat × Nat)).length), (la, listO (txV ([] ++ Q)) le)] (by kernel_rfl)
    refine callW_of rfl ?_
    rw [mark_none]
    refine set_loop (Fit.ar hA _ (by kernel_rfl) (by kernel_rfl)) la le (B + 1) B Q [] [] _ _ _ _ (set_fresh _) (by show 0 + _ ≤ _; omega) E2 fun h' B' t' so' hs D' => ?_
    refine Means.add0 ?_
    (refine segF (t0 := t') (i := 0) 100000 [] ((Fin.done (Flow.ret (.ref B))) ) D' (by assumption) (by assumption) ?_; intro o42; refine ⟨by kernel_rfl, by kernel_rfl, by kernel_rfl, fun h42 D42 => ?_⟩)
    exact hR _ _ _ _ hs (D42.finP [0, 1] (by kernel_rfl)))
theorem r_setlen (st : Nat) (so : Obj) (acc : List (List Nat)) (hs : SetIs prog w so acc) (hz : acc.length ≤ 1000000) (D : Rep kt h₀ mods h₀ B [(st, so)] [] 0)
   (hR : ∀ t1 t', R (.ok (.ret (.int (.ofNat acc.length) t1))) ⟨h₀, g, d, t', os⟩) :
   callW (model prog w) A none (.call (.builtin "len") ⟨[.ref st], []⟩) R ⟨h₀, g, d, t0, os⟩ := by
  obtain ⟨hex, es, ep, t, hd, hel, hmem, hn, hf⟩ := hs
  refine callW_call (Q := fun v s' => R (.ok (.ret v)) s') (E := fun e s' => R (.error e) s') ?_ (fun _ _ h => h) (fun _ _ h => h)
  refine call_len_set (D.get (j := 0) rfl) hex hd hf (by omega) ?_
  rw [hn]
  exact hR _ _
end
end Mine
end
section
open PySem PySem.W PySem.Calls PyProof.Rows
set_option Elab.async false
set_option maxRecDepth 100000
namespace Mine
noncomputable def signN (c : Nat) : Nat := match c % 9 with
  | 0 => 10
  | 1 => 13
  | 2 => 46
  | 3 => 97
  | 4 => 92
  | 5 => 34
  | 6 => 32
  | 7 => 46
  | _ => c / 9
theorem r_chr {prog : Program} {w : World} {A : Around} {R : Result → Shared → Prop} (c t : Nat) (hc : c ≤ 1114111) {s : Shared} (hR : ∀ t1 t', R (.ok (.ret (.str ⟨⟨[c]⟩⟩ t1))) ⟨s.heap, s.gens, s.drawn, t', s.os⟩) :
   callW (model prog w) A none (.call (.builtin "chr") ⟨[.int (.ofNat c) t], []⟩) R s := by
  refine callW_call (Q := fun v s' => R (.ok (.ret v)) s') (E := fun e s' => R (.error e) s') (chr_of_range (by show (0 : Int) ≤ ((c : Nat) : Int); omega) (by show ((c : Nat) : Int) ≤ 1114111; omega) ?_) (fun _ _ h => h) (fun _ _ h => h)
  exact hR _ _
theorem sign_menu (a u c : Nat) : ∃ tk, ([.str ⟨⟨[10]⟩⟩ a, .str ⟨⟨[13]⟩⟩ (a + 1), .str ⟨⟨[46]⟩⟩ (a + 2), .str ⟨⟨[97]⟩⟩ (a + 3), .str ⟨⟨[92]⟩⟩ (a + 4), .str ⟨⟨[34]⟩⟩ (a + 5), .str ⟨⟨[32]⟩⟩ (a + 6), .str ⟨⟨[46]⟩⟩ (a + 7), .str ⟨⟨[c / 9]⟩⟩ u] : List Value)[c % 9]? = some (.str ⟨⟨[signN c]⟩⟩ tk) := by
  unfold signN
  have h9 : c % 9 < 9 := Nat.mod_lt _ (by decide)
  generalize c % 9 = m at h9
  match m, h9 with
  | 0, _ => exact ⟨_, rfl⟩
  | 1, _ => exact ⟨_, rfl⟩
  | 2, _ => exact ⟨_, rfl⟩
  | 3, _ => exact ⟨_, rfl⟩
  | 4, _ => exact ⟨_, rfl⟩
  | 5, _ => exact ⟨_, rfl⟩
  | 6, _ => exact ⟨_, rfl⟩
  | 7, _ => exact ⟨_, rfl⟩
  | 8, _ => exact ⟨_, rfl⟩
theorem law_sign (w : World) (A : Around) (h₀ : Heap) (hA : Fit 20 A (kt1 w) h₀) (R : Result → Shared → Prop) (B t0 : Nat) (g : Array GenState) (d : Drawn) (os : OsState) (c tc : Nat) (hc : c < 2304) {mods : List Nat}
   (D : Rep (kt1 w) h₀ mods h₀ B [] [] 0)
   (hR : ∀ h1 t' tk, After h₀ h1 mods [] → R (.ok (.ret (.str ⟨⟨[signN c]⟩⟩ tk))) ⟨h1, g, d, t', os⟩) :
   codeAny (PP w) A (.call (.ref 104) ⟨[.int (.ofNat c) tc], []⟩) R ⟨h₀, g, d, t0, os⟩ := by
  obtain ⟨b1, b2, hw⟩ := parF_ex w
  refine code_ent (D.kt_ (a := 104) (o := obAt w 104) (by kernel_rfl)) (fd := fdAt w 104) (by kernel_rfl) (by have := hA.room; omega) ?_
  refine Means.add0 ?_
  cases b1 <;> (
    (refine segW (t0 := t0) (i := 0) 100000 [0, 1, 1, 0, 0, 1] (Code.call (Value.builtin "int.__floordiv__") { pos := [Value.int (Int.ofNat c) tc, Value.int 9 (t0 + 9)] : Args }) D (by assumption) (by assumption) ?_; intro o11; refine ⟨by kernel_rfl, by kernel_rfl, by kernel_rfl, by kernel_rfl, by kernel_rfl, fun h11 D11 => ?_⟩)
    refine r_fdivN c 9 _ _ (by decide) (by decide) fun u1 u2 => ?_
    refine Means.add0 ?_
    (refine segW (t0 := u2) (i := 0) 100000 [] (Code.call (Value.builtin "chr") { pos := [Value.int (Int.ofNat (c / 9)) u1] : Args }) D11 (by assumption) (by assumption) ?_; intro o12; refine ⟨by kernel_rfl, by kernel_rfl, by kernel_rfl, by kernel_rfl, by kernel_rfl, fun h12 D12 => ?_⟩)
    refine r_chr (c / 9) u1 (by omega) fun u3 u4 => ?_
    refine Means.add0 ?_
    (refine segW (t0 := u4) (i := 0) 100000 [1] (Code.call (Value.builtin "int.__mod__") { pos := [Value.int (Int.ofNat c) tc, Value.int 9 u4] : Args }) D12 (by assumption) (by assumption) ?_; intro o13; refine ⟨by kernel_rfl, by kernel_rfl, by kernel_rfl, by kernel_rfl, by kernel_rfl, fun h13 D13 => ?_⟩)
    refine r_modN c 9 _ _ (by decide) fun u5 u6 => ?_
    refine Means.add0 ?_
    (refine segW (t0 := u6) (i := 0) 100000 [2, 2, 2] (Code.call (Value.builtin "list.__getitem__") { pos := [Value.ref (B + 1), Value.int (Int.ofNat (c % 9)) u5] : Args }) D13 (by assumption) (by assumption) ?_; intro o14; refine ⟨by kernel_rfl, by kernel_rfl, by kernel_rfl, by kernel_rfl, by kernel_rfl, fun h14 D14 => ?_⟩)
    obtain ⟨tk, htk⟩ := sign_menu (t0 + 1) u3 c
    refine callW_of rfl ?_
    rw [mark_none]
    refine r_lget (B + 1) 0 (c % 9) u5 _ _ htk (by omega) (D14.give [0, 1] (by kernel_rfl)) ?_
    refine Means.add0 ?_
    (refine segF (t0 := u6 + outI o14) (i := 0) 100000 [1] ((Fin.done (Flow.ret (.str ⟨⟨[signN c]⟩⟩ tk))) ) D14 (by assumption) (by assumption) ?_; intro o15; refine ⟨by kernel_rfl, by kernel_rfl, by kernel_rfl, fun h15 D15 => ?_⟩)
    exact hR _ _ _ (D15.fin [] rfl))
end Mine
end
section
open PySem PySem.W PySem.Calls PyProof.Rows
set_option Elab.async false
set_option maxRecDepth 100000
namespace Mine
theorem fm_congr {α β : Type} {f g : α → Option β} : ∀ (l : List α), (∀ a ∈ l, f a = g a) → l.filterMap f = l.filterMap g := by
  intro l
  induction l with
  | nil => intro _; rfl
  | cons a l ih =>
    intro h
    rw [List.filterMap_cons, List.filterMap_cons, h a List.mem_cons_self, ih fun x hx => h x (List.mem_cons_of_mem _ hx)]
theorem pick_seg (x : List Nat) (a b : Nat) (hab : a ≤ b) (hb : b ≤ x.length) : (sliceRange (a : Nat) (b : Nat) 1).filterMap (fun k => x[k]?) = (x.drop a).take (b - a) := by
  have e : sliceRange (a : Nat) (b : Nat) 1 = (List.range (b - a)).map fun (k : Nat) => a + k := by
    unfold sliceRange
    have e1 : (if (1 : Int) > 0 then (if ((a : Nat) : Int) < (b : Nat) then (((b : Nat) : Int) - (a : Nat) + 1 - 1) / 1 else 0) else (if ((a : Nat) : Int) > (b : Nat) then (((a : Nat) : Int) - (b : Nat) - 1 - 1) / (-1) else 0)).toNat = b - a := by
      rw [if_pos (by decide)]
      split
      · rw [Int.ediv_one]; omega
      · omega
    simp only [] at e1 ⊢
    rw [e1]
    refine List.map_congr_left fun k _ => ?_
    omega
  rw [e, List.filterMap_map]
  have hl : ((x.drop a).take (b - a)).length = b - a := by rw [List.length_take, List.length_drop]; omega
  have hr := range_pick ((x.drop a).take (b - a))
  rw [hl] at hr
  refine Eq.trans (fm_congr _ fun k hk => ?_) hr
  have hk2 : k < b - a := List.mem_range.mp hk
  show x[a + k]? = _
  rw [List.getElem?_take_of_lt hk2, List.getElem?_drop]
theorem seg_len (a b : Nat) : (sliceRange (a : Nat) (b : Nat) 1).length = b - a := by
  unfold sliceRange
  rw [List.length_map, List.length_range, if_pos (by decide)]
  split
  · rw [Int.ediv_one]; omega
  · show (0 : Int).toNat = _; omega
/-- x[:k] -/
theorem picked_to (x : List Nat) (k t : Nat) : slicePicked ⟨⟨x⟩⟩ none (some (((k : Nat) : Int), t)) none = sliceRange (0 : Nat) (min k x.length : Nat) 1 := by
  have e : max 0 (min (if ((k : Nat) : Int) < 0 then ((k : Nat) : Int) + (x.length : Int) else ((k : Nat) : Int)) (x.length : Int)) = ((min k x.length : Nat) : Int) := by
    rw [if_neg (by omega)]
    omega
  show sliceRange 0 (max 0 (min (if ((k : Nat) : Int) < 0 then ((k : Nat) : Int) + (x.length : Int) else ((k : Nat) : Int)) (x.length : Int))) 1 = _
  rw [e]
  rfl
section
variable {w : World} {A : Around} {h₀ : Heap} {R : Result → Shared → Prop} {B t0 : Nat} {g : Array GenState} {d : Drawn} {os : OsState} {mods : List Nat} {prog : Program} {kt : Nat → Option Obj}
theorem r_sliceTo (x : List Nat) (k tn t a : Nat) (hx : x.length ≤ 16777216) (D : Rep kt h₀ mods h₀ B [(a, sliceO .none (.int (.ofNat k) t) .none)] [] 0)
   (hR : ∀ t1 t', R (.ok (.ret (.str ⟨⟨x.take k⟩⟩ t1))) ⟨h₀, g, d, t', os⟩) :
   codeAny (model prog w) A (.call (.builtin "str.__getitem__") ⟨[.str ⟨⟨x⟩⟩ tn, .ref a], []⟩) R ⟨h₀, g, d, t0, os⟩ := by
  refine r_slice x (x.take k) tn a none (some (((k : Nat) : Int), t)) none rfl ?_ (by rw [List.length_take]; omega) ?_ D hR
  · rw [picked_to, pick_seg x 0 _ (Nat.zero_le _) (Nat.min_le_right _ _), List.drop_zero, Nat.sub_zero]
    exact (List.take_eq_take_min ..).symm
  · intro h
    rw [picked_to, seg_len] at h
    have h2 : min k x.length - 0 = x.length := beq_iff_eq.mp (Bool.and_eq_true_iff.mp h).2
    exact List.take_of_length_le (by omega)
end
end Mine
end
section
open PySem PySem.W PySem.Calls PyProof.Rows
set_option Elab.async false
set_option maxRecDepth 100000
namespace Mine
theorem picked_mid (x : List Nat) (a b t u : Nat) : slicePicked ⟨⟨x⟩⟩ (some (((a : Nat) : Int), t)) (some (((b : Nat) : Int), u)) none = sliceRange (min a x.length : Nat) (min b x.length : Nat) 1 := by
  have e : ∀ k : Nat, max 0 (min (if ((k : Nat) : Int) < 0 then ((k : Nat) : Int) + (x.length : Int) else ((k : Nat) : Int)) (x.length : Int)) = ((min k x.length : Nat) : Int) := by
    intro k
    rw [if_neg (by omega)]
    omega
  show sliceRange (max 0 (min (if ((a : Nat) : Int) < 0 then ((a : Nat) : Int) + (x.length : Int) else ((a : Nat) : Int)) (x.length : Int))) (max 0 (min (if ((b : Nat) : Int) < 0 then ((b : Nat) : Int) + (x.length : Int) else ((b : Nat) : Int)) (x.length : Int))) 1 = _
  rw [e, e]
theorem sliceRange_nil (a b : Nat) (h : b ≤ a) : sliceRange (a : Nat) (b : Nat) 1 = [] := by
  apply List.length_eq_zero_iff.mp
  rw [seg_len]
  omega
section
variable {w : World} {A : Around} {h₀ : Heap} {R : Result → Shared → Prop} {B t0 : Nat} {g : Array GenState} {d : Drawn} {os : OsState} {mods : List Nat} {prog : Program} {kt : Nat → Option Obj}
theorem r_sliceMid (x : List Nat) (k m tn t u a : Nat) (hx : x.length ≤ 16777216) (D : Rep kt h₀ mods h₀ B [(a, sliceO (.int (.ofNat k) t) (.int (.ofNat m) u) .none)] [] 0)
   (hR : ∀ t1 t', R (.ok (.ret (.str ⟨⟨(x.drop k).take (m - k)⟩⟩ t1))) ⟨h₀, g, d, t', os⟩) :
   codeAny (model prog w) A (.call (.builtin "str.__getitem__") ⟨[.str ⟨⟨x⟩⟩ tn, .ref a], []⟩) R ⟨h₀, g, d, t0, os⟩ := by
  refine r_slice x ((x.drop k).take (m - k)) tn a (some (((k : Nat) : Int), t)) (some (((m : Nat) : Int), u)) none rfl ?_ (by rw [List.length_take, List.length_drop]; omega) ?_ D hR
  · rw [picked_mid]
    by_cases h : min k x.length ≤ min m x.length
    · rw [pick_seg x _ _ h (Nat.min_le_right _ _)]
      by_cases hk : k ≤ x.length
      · rw [Nat.min_eq_left hk]
        by_cases hm : m ≤ x.length
        · rw [Nat.min_eq_left hm]
        · rw [Nat.min_eq_right (by omega : x.length ≤ m), List.take_of_length_le (by rw [List.length_drop]; exact Nat.le_refl _), List.take_of_length_le (by rw [List.length_drop]; omega)]
      · rw [Nat.min_eq_right (by omega : x.length ≤ k), List.drop_length, List.drop_of_length_le (by omega), List.take_nil, List.take_nil]
    · rw [sliceRange_nil _ _ (by omega), show m - k = 0 by omega]
      rfl
  · intro h
    rw [picked_mid, seg_len] at h
    have h2 : min m x.length - min k x.length = x.length := beq_iff_eq.mp (Bool.and_eq_true_iff.mp h).2
    by_cases h0 : x.length = 0
    · rw [List.length_eq_zero_iff.mp h0, List.drop_nil, List.take_nil]
    · have hk : k = 0 := by omega
      subst hk
      rw [List.drop_zero]
      exact List.take_of_length_le (by omega)
end
end Mine
end
section
open PySem PySem.W PySem.Calls PyProof.Rows
set_option Elab.async false
set_option maxRecDepth 100000
namespace Mine
noncomputable def eSE (w : World) : Expr := match stmtAt w 109 1 with
  | .Return (some (.Call _ (e :: _) _ _)) _ => e
  | _ => default
noncomputable def q_se := [95, 108, 97, 119, 95, 115, 101, 110, 116, 46, 60, 108, 111, 99, 97, 108, 115, 62, 46]
noncomputable def n_row := [114, 111, 119]
theorem dotR_yes (p : List Nat) (h : p.take 1 = [46]) : dotR p = 46 :: p := by
  cases p with
  | nil => cases h
  | cons a r =>
    have e : a = 46 := (List.cons.inj h).1
    subst e
    rfl
theorem dotR_no (p : List Nat) (h : ¬ p.take 1 = [46]) : dotR p = p := by
  cases p with
  | nil => rfl
  | cons a r =>
    have e : ¬ a = 46 := fun q => h (by rw [q]; rfl)
    unfold dotR
    split
    · rename_i e1; injection e1 with e1 _; exact absurd e1 e
    · rfl
theorem se_loop (w : World) (A : Around) (h₀ : Heap) (mods : List Nat) (hA : Fit 5 A (kt1 w) h₀) (R : Result → Shared → Prop) (g : Array GenState) (d : Drawn) (os : OsState) (it acc di fr fa ef : Nat)  (X : Led) :
   ∀ (rest pre : List (List Nat × Nat)) (P : List (List Nat × Nat)) (h : Heap) (B t0 ep : Nat) (dl : List DictEntry) (dn : Nat), (dl = [] ∧ dn = 0 ∨ ∃ k v, dl = [ent w n_row k v] ∧ dn = 1) → P.length + rest.length ≤ 16777000 → (∀ q ∈ rest, q.1.length ≤ 1000000) →
   Rep (kt1 w) h₀ mods h B [(acc, listO (txV P) ep), (it, iterO "list_iterator" (.ref fa) pre.length), (fa, listO (txV (pre ++ rest)) ef), (di, dictO dl dn)] X 0 →
   (∀ h1 B' t' ep' Q dl' dn', (rest = [] ∧ dl' = dl ∧ dn' = dn ∨ ∃ k v, dl' = [ent w n_row k v] ∧ dn' = 1) → Q.map (·.1) = rest.map (fun q => dotR q.1) → Rep (kt1 w) h₀ mods h1 B' [(acc, listO (txV (P ++ Q)) ep'), (fa, listO (txV (pre ++ rest)) ef), (di, dictO dl' dn')] X 0 → R (.ok .next) ⟨h1, g, d, t', os⟩) →
   codeAny (PP w) A (compL w 109 (eSE w) (.ref it) (.ref acc) di q_se fr) R ⟨h, g, d, t0, os⟩ := by
  obtain ⟨b1, b2, hw⟩ := parF_ex w
  have hA' := hA.under (compL w 109 (eSE w) (.ref it) (.ref acc) di q_se fr) (m := 4) (by kernel_rfl)
  intro rest
  induction rest with
  | nil =>
    intro pre P h B t0 ep dl dn hdl hsz hrow D hR
    refine code_start ?_
    refine Means.add0 ?_
    (refine segW (t0 := t0) (i := 0) 100000 [2] (Code.call (Value.builtin "list_iterator.__next__") { pos := [Value.ref it] : Args }) D (by assumption) (by assumption) ?_; intro o11; refine ⟨by kernel_rfl, by kernel_rfl, by kernel_rfl, by kernel_rfl, by kernel_rfl, fun h11 D11 => ?_⟩)
    refine callW_of rfl ?_
    rw [mark_none]
    refine r_lend (Fit.inner hA' D11 _ (by kernel_rfl) (by kernel_rfl)) it fa pre.length ef (txV (pre ++ [])) (by simp [txV]) (D11.give [0, 1, 1] (by kernel_rfl)) fun g1 t' x y a1 => ?_
    obtain ⟨B2, E1⟩ := D11.backP [0, 1, 1] [3, 0, 4, 1, 2] ([(acc, listO (txV P) ep), (fa, listO (txV (pre ++ [])) ef), (di, dictO dl dn)] ++ [(y, tupO []), (x, stopO y)]) (by kernel_rfl) a1 (by kernel_rfl)
    refine Means.add0 ?_
    (refine segF (t0 := t') (i := 0) 100000 [5] (Fin.done Flow.next) E1 (by assumption) (by assumption) ?_; intro o12; refine ⟨by kernel_rfl, by kernel_rfl, by kernel_rfl, fun h12 D12 => ?_⟩)
    obtain ⟨B3, E2⟩ := D12.pickE [0, 1, 2] [(acc, listO (txV (P ++ [])) ep), (fa, listO (txV (pre ++ [])) ef), (di, dictO dl dn)] (by rw [List.append_nil P]; kernel_rfl)
    exact hR _ _ _ _ [] _ _ (.inl ⟨rfl, rfl, rfl⟩) rfl E2
  | cons q rest ih =>
    intro pre P h B t0 ep dl dn hdl hsz hrow D hR
    refine code_start ?_
    refine Means.add0 ?_
    (refine segW (t0 := t0) (i := 0) 100000 [2] (Code.call (Value.builtin "list_iterator.__next__") { pos := [Value.ref it] : Args }) D (by assumption) (by assumption) ?_; intro o21; refine ⟨by kernel_rfl, by kernel_rfl, by kernel_rfl, by kernel_rfl, by kernel_rfl, fun h21 D21 => ?_⟩)
    refine callW_of rfl ?_
    rw [mark_none]
    refine r_lnext (Fit.inner hA' D21 _ (by kernel_rfl) (by kernel_rfl)) it fa pre.length ef (txV (pre ++ q :: rest)) (.str ⟨⟨q.1⟩⟩ q.2) (by simp [txV]) (D21.give [0, 1, 1] (by kernel_rfl)) fun g1 t' a1 => ?_
    obtain ⟨B2, E1⟩ := D21.backP [0, 1, 1] [2, 0, 1, 3] [(acc, listO (txV P) ep), (it, iterO "list_iterator" (.ref fa) (pre.length + 1)), (fa, listO (txV (pre ++ q :: rest)) ef), (di, dictO dl dn)] (by kernel_rfl) a1 (by kernel_rfl)
    refine Means.add0 ?_
    have e1 : pre ++ q :: rest = (pre ++ [q]) ++ rest := by simp
    have e2 : pre.length + 1 = (pre ++ [q]).length := by simp
    have hSP : (txV P).length = P.length := by simp [txV]
    rw [List.length_cons] at hsz
    have hb := hrow q List.mem_cons_self
    cases b1 <;> rcases hdl with ⟨rfl, rfl⟩ | ⟨k, v, rfl, rfl⟩ <;> (
      (refine segW (t0 := t') (i := 0) 100000 [4, 4, 4] (Code.call (Value.builtin "str.__getitem__") { pos := [Value.str { cps := { toList := q.fst : Array Nat } : Str } q.snd, Value.ref B2] : Args }) E1 (by assumption) (by assumption) ?_; intro o31; refine ⟨by kernel_rfl, by kernel_rfl, by kernel_rfl, by kernel_rfl, by kernel_rfl, fun h31 D31 => ?_⟩)
      obtain ⟨kk, B3, E3⟩ : ∃ kk B', Rep (kt1 w) h₀ mods h31 B' [(acc, listO (txV P) ep), (it, iterO "list_iterator" (.ref fa) (pre.length + 1)), (fa, listO (txV (pre ++ q :: rest)) ef), (di, dictO [ent w n_row kk (.str ⟨⟨q.1⟩⟩ q.2)] 1)] X 0 := by first | exact ⟨t', D31.pickE [0, 1, 2, 3] _ (by kernel_rfl!)⟩ | exact ⟨k, D31.pickE [0, 1, 2, 3] _ (by kernel_rfl!)⟩
      refine callW_of rfl ?_
      rw [mark_none]
      refine r_sliceTo q.1 1 q.2 (t' + 1) _ (by omega) (D31.give [0, 0, 0, 0, 1] (by kernel_rfl)) fun t1 t2 => ?_
      refine Means.add0 ?_
      clear D31
      (refine segW (t0 := t2) (i := 0) 100000 [] (Code.call (Value.builtin "str.__eq__") { pos := [Value.str { cps := { toList := List.take 1 q.fst : Array Nat } : Str } t1, Value.str { cps := { toList := [46] : Array Nat } : Str } t2] : Args }) E3 (by assumption) (by assumption) ?_; intro o32; refine ⟨by kernel_rfl, by kernel_rfl, by kernel_rfl, by kernel_rfl, by kernel_rfl, fun h32 D32 => ?_⟩)
      refine callW_of rfl ?_
      rw [mark_none]
      by_cases hd : q.1.take 1 = [46]
      · refine r_seq (q.1.take 1) [46] _ _ true (by rw [hd]; rfl) ?_
        refine Means.add0 ?_
        (refine segW (t0 := t2 + outI o32) (i := 0) 100000 [4] (Code.call (Value.builtin "str.__add__") { pos := [Value.str { cps := { toList := [46] : Array Nat } : Str } (t2 + 1), Value.str { cps := { toList := q.fst : Array Nat } : Str } q.snd] : Args }) D32 (by assumption) (by assumption) ?_; intro o33; refine ⟨by kernel_rfl, by kernel_rfl, by kernel_rfl, by kernel_rfl, by kernel_rfl, fun h33 D33 => ?_⟩)
        refine r_sadd [46] q.1 _ q.2 (by show 1 + _ ≤ _; omega) fun u1 u2 => ?_
        refine Means.add0 ?_
        rw [show [46] ++ q.1 = dotR q.1 from (dotR_yes q.1 hd).symm]
        obtain ⟨B3, E3⟩ := D33.pickE [0, 1, 2, 3] [(acc, listO (txV P) ep), (it, iterO "list_iterator" (.ref fa) (pre.length + 1)), (fa, listO (txV (pre ++ q :: rest)) ef), (di, dictO [ent w n_row kk (.str ⟨⟨q.1⟩⟩ q.2)] 1)] (by kernel_rfl)
        (refine segW (t0 := u2) (i := 0) 100000 [] ((.call (.builtin "list.append") ⟨[.ref acc, .str ⟨⟨dotR q.1⟩⟩ u1], []⟩) ) E3 (by assumption) (by assumption) ?_; intro o102; refine ⟨by kernel_rfl, by kernel_rfl, by kernel_rfl, by kernel_rfl, by kernel_rfl, fun h102 D102 => ?_⟩)
        refine callW_of rfl ?_
        rw [mark_none]
        refine r_append acc ep (txV P) _ (by omega) (D102.give [1] (by kernel_rfl)) fun g3 t3 a3 => ?_
        obtain ⟨B4, E4⟩ := D102.backP [1] [0, 1, 2, 3] [(acc, listO (txV P ++ [.str ⟨⟨dotR q.1⟩⟩ u1]) (ep + 1)), (it, iterO "list_iterator" (.ref fa) (pre.length + 1)), (fa, listO (txV (pre ++ q :: rest)) ef), (di, dictO [ent w n_row kk (.str ⟨⟨q.1⟩⟩ q.2)] 1)] (by kernel_rfl) a3 (by kernel_rfl)
        refine Means.add0 ?_
        (refine segF (t0 := t3) (i := 0) 100000 [] ((Fin.again (compL w 109 (eSE w) (.ref it) (.ref acc) di q_se fr)) ) E4 (by assumption) (by assumption) ?_; intro o103; refine ⟨by kernel_rfl, by kernel_rfl, by kernel_rfl, fun h103 D103 => ?_⟩)
        obtain ⟨B5, E5⟩ := D103.pickE [0, 1, 2, 3] [(acc, listO (txV P ++ [.str ⟨⟨dotR q.1⟩⟩ u1]) (ep + 1)), (it, iterO "list_iterator" (.ref fa) (pre.length + 1)), (fa, listO (txV (pre ++ q :: rest)) ef), (di, dictO [ent w n_row kk (.str ⟨⟨q.1⟩⟩ q.2)] 1)] (by kernel_rfl)
        have e3 : txV P ++ [.str ⟨⟨dotR q.1⟩⟩ u1] = txV (P ++ [(dotR q.1, u1)]) := by simp [txV]
        rw [e1, e2, e3] at E5
        refine ⟨by kernel_rfl, ih (pre ++ [q]) (P ++ [(dotR q.1, u1)]) _ _ _ _ _ _ (.inr ⟨_, _, rfl, rfl⟩) (by rw [List.length_append, List.length_singleton]; omega) (fun x hx => hrow x (List.mem_cons_of_mem _ hx)) E5 fun h1 B' t9 ep' Q dl' dn' hd2 hQ E => ?_⟩
        refine hR h1 B' t9 ep' ((dotR q.1, u1) :: Q) dl' dn' (.inr (hd2.elim (fun h => ⟨_, _, h.2.1, h.2.2⟩) id)) (by rw [List.map_cons, List.map_cons, hQ]) ?_
        rw [List.append_assoc, ← e1] at E
        exact E
      · refine r_seq (q.1.take 1) [46] _ _ false (beq_eq_false_iff_ne.mpr hd) ?_
        refine Means.add0 ?_
        obtain ⟨B3, E3⟩ := D32.pickE [0, 1, 2, 3] [(acc, listO (txV P) ep), (it, iterO "list_iterator" (.ref fa) (pre.length + 1)), (fa, listO (txV (pre ++ q :: rest)) ef), (di, dictO [ent w n_row kk (.str ⟨⟨q.1⟩⟩ q.2)] 1)] (by kernel_rfl)
        (refine segW (t0 := t2 + outI o32) (i := 0) 100000 [4] ((.call (.builtin "list.append") ⟨[.ref acc, .str ⟨⟨q.1⟩⟩ q.2], []⟩) ) E3 (by assumption) (by assumption) ?_; intro o202; refine ⟨by kernel_rfl, by kernel_rfl, by kernel_rfl, by kernel_rfl, by kernel_rfl, fun h202 D202 => ?_⟩)
        refine callW_of rfl ?_
        rw [mark_none]
        refine r_append acc ep (txV P) _ (by omega) (D202.give [1] (by kernel_rfl)) fun g3 t3 a3 => ?_
        obtain ⟨B4, E4⟩ := D202.backP [1] [0, 1, 2, 3] [(acc, listO (txV P ++ [.str ⟨⟨q.1⟩⟩ q.2]) (ep + 1)), (it, iterO "list_iterator" (.ref fa) (pre.length + 1)), (fa, listO (txV (pre ++ q :: rest)) ef), (di, dictO [ent w n_row kk (.str ⟨⟨q.1⟩⟩ q.2)] 1)] (by kernel_rfl) a3 (by kernel_rfl)
        refine Means.add0 ?_
        (refine segF (t0 := t3) (i := 0) 100000 [] ((Fin.again (compL w 109 (eSE w) (.ref it) (.ref acc) di q_se fr)) ) E4 (by assumption) (by assumption) ?_; intro o203; refine ⟨by kernel_rfl, by kernel_rfl, by kernel_rfl, fun h203 D203 => ?_⟩)
        obtain ⟨B5, E5⟩ := D203.pickE [0, 1, 2, 3] [(acc, listO (txV P ++ [.str ⟨⟨q.1⟩⟩ q.2]) (ep + 1)), (it, iterO "list_iterator" (.ref fa) (pre.length + 1)), (fa, listO (txV (pre ++ q :: rest)) ef), (di, dictO [ent w n_row kk (.str ⟨⟨q.1⟩⟩ q.2)] 1)] (by kernel_rfl)
        have e3 : txV P ++ [.str ⟨⟨q.1⟩⟩ q.2] = txV (P ++ [(q.1, q.2)]) := by simp [txV]
        rw [e1, e2, e3] at E5
        refine ⟨by kernel_rfl, ih (pre ++ [q]) (P ++ [(q.1, q.2)]) _ _ _ _ _ _ (.inr ⟨_, _, rfl, rfl⟩) (by rw [List.length_append, List.length_singleton]; omega) (fun x hx => hrow x (List.mem_cons_of_mem _ hx)) E5 fun h1 B' t9 ep' Q dl' dn' hd2 hQ E => ?_⟩
        refine hR h1 B' t9 ep' ((q.1, q.2) :: Q) dl' dn' (.inr (hd2.elim (fun h => ⟨_, _, h.2.1, h.2.2⟩) id)) (by rw [List.map_cons, List.map_cons, hQ]; show _ = dotR q.1 :: _; rw [dotR_no q.1 hd]) ?_
        rw [List.append_assoc, ← e1] at E
        exact E
)
theorem se_start (w : World) (A : Around) (h₀ : Heap) (mods : List Nat) (hA : Fit 5 A (kt1 w) h₀) (R : Result → Shared → Prop) (g : Array GenState) (d : Drawn) (os : OsState) (it acc di fr fa ef : Nat)  (F : List (List Nat × Nat)) (hne : F ≠ []) (X : Led) (hz : F.length ≤ 1000000) (hF : (∀ q ∈ F, q.1.length ≤ 1000000)) (h : Heap) (B t0 : Nat)
   (D : Rep (kt1 w) h₀ mods h B [(acc, listO ([]) 0), (it, iterO "list_iterator" (.ref fa) 0), (fa, listO (txV F) ef), (di, dictO [] 0)] X 0)
   (hR : ∀ h1 B' t' ep' Q dl' dn', (∃ k v, dl' = [ent w n_row k v] ∧ dn' = 1) → Q.map (·.1) = F.map (fun q => dotR q.1) → Rep (kt1 w) h₀ mods h1 B' [(acc, listO (txV Q) ep'), (fa, listO (txV F) ef), (di, dictO dl' dn')] X 0 → R (.ok .next) ⟨h1, g, d, t', os⟩) :
   codeAny (PP w) A (compS w 109 (eSE w) (.ref it) (.ref acc) di q_se fr) R ⟨h, g, d, t0, os⟩ := by
  obtain ⟨b1, b2, hw⟩ := parF_ex w
  have hA' := hA.under (compS w 109 (eSE w) (.ref it) (.ref acc) di q_se fr) (m := 4) (by kernel_rfl)
  refine code_start ?_
  refine Means.add0 ?_
  cases b2 <;> cases b1 <;> (
    (first | (refine segF (t0 := t0) (i := 0) 100000 [2, 2, 1, 2, 2] ((Fin.again (compL w 109 (eSE w) (.ref it) (.ref acc) di q_se fr)) ) D (by assumption) (by assumption) ?_; intro o1; refine ⟨by kernel_rfl!, by kernel_rfl!, by kernel_rfl!, fun h1 D1 => ?_⟩) | (refine segF (t0 := t0) (i := 0) 100000 [] ((Fin.again (compL w 109 (eSE w) (.ref it) (.ref acc) di q_se fr)) ) D (by assumption) (by assumption) ?_; intro o1; refine ⟨by kernel_rfl!, by kernel_rfl!, by kernel_rfl!, fun h1 D1 => ?_⟩))
    obtain ⟨B2, E1⟩ := D1.pickE [0, 1, 2, 3] [(acc, listO (txV []) 0), (it, iterO "list_iterator" (.ref fa) ([] : List (List Nat × Nat)).length), (fa, listO (txV ([] ++ F)) ef), (di, dictO [] 0)] (by kernel_rfl)
    exact ⟨by kernel_rfl, se_loop w A h₀ mods hA R g d os it acc di fr fa ef  X F [] [] _ _ _ _ _ _ (.inl ⟨rfl, rfl⟩) (by rw [List.length_nil]; omega) hF E1 fun h1 B' t' ep' Q dl' dn' hd => hR h1 B' t' ep' Q dl' dn' (hd.elim (fun h => absurd h.1 hne) id)⟩)
end Mine
end
section
open PySem PySem.W PySem.Calls PyProof.Rows
set_option Elab.async false
set_option maxRecDepth 100000
namespace Mine
theorem crlf1_len (x : List Nat) : ∀ n, x.length ≤ n → (crlf1 x).length ≤ x.length := by
  intro n
  induction n generalizing x with
  | zero => intro h; obtain rfl : x = [] := List.length_eq_zero_iff.mp (by omega); exact Nat.le_refl _
  | succ n ih =>
    intro h
    match x, h with
    | [], _ => exact Nat.le_refl _
    | c :: r, h =>
      rw [List.length_cons] at h ⊢
      by_cases hc : c = 13
      · subst hc
        match r, h with
        | [], _ => exact Nat.le_refl _
        | a :: r', h =>
          rw [List.length_cons] at h ⊢
          by_cases ha : a = 10
          · subst ha
            rw [crlf1_pair, List.length_cons]
            have := ih r' (by omega)
            omega
          · rw [crlf1_lone a r' ha, List.length_cons]
            have := ih (a :: r') (by rw [List.length_cons]; omega)
            rw [List.length_cons] at this
            omega
      · rw [crlf1_ne c r hc, List.length_cons]
        have := ih r (by omega)
        omega
theorem splitC_sum (c : Nat) (x : List Nat) : ((splitC c x).map List.length).sum + (splitC c x).length = x.length + 1 := by
  induction x with
  | nil => rfl
  | cons a r ih =>
    rw [splitC_eq]
    split
    · show 0 + ((splitC c r).map List.length).sum + ((splitC c r).length + 1) = r.length + 1 + 1
      omega
    · cases hq : splitC c r with
      | nil => exact absurd hq (splitC_ne _ _)
      | cons p q =>
        rw [hq] at ih
        show (p.length + 1) + (q.map List.length).sum + (q.length + 1) = r.length + 1 + 1
        have : p.length + (q.map List.length).sum + (q.length + 1) = r.length + 1 := ih
        omega
theorem dotR_len (p : List Nat) : (dotR p).length ≤ p.length + 1 := by
  unfold dotR; split <;> simp
theorem dotR_sum : ∀ ps : List (List Nat), ((ps.map dotR).map List.length).sum ≤ (ps.map List.length).sum + ps.length
  | [] => Nat.le_refl _
  | p :: q => by
    have ih := dotR_sum q
    have := dotR_len p
    show (dotR p).length + ((q.map dotR).map List.length).sum ≤ p.length + (q.map List.length).sum + (q.length + 1)
    omega
theorem mem_sum : ∀ (ps : List (List Nat)) (p : List Nat), p ∈ ps → p.length ≤ (ps.map List.length).sum
  | q :: r, p, h => by
    rcases List.mem_cons.mp h with rfl | h
    · show _ ≤ p.length + _; omega
    · have := mem_sum r p h; show _ ≤ q.length + (r.map List.length).sum; omega
theorem law_sent (w : World) (A : Around) (h₀ : Heap) (hA : Fit 30 A (kt1 w) h₀) (R : Result → Shared → Prop) (B t0 : Nat) (g : Array GenState) (d : Drawn) (os : OsState) (x : List Nat) (tn : Nat) (ht : 1 ≤ t0) (hx : x.length ≤ 1000) {mods : List Nat}
   (D : Rep (kt1 w) h₀ mods h₀ B [] [] 0)
   (hR : ∀ h1 t' tk, After h₀ h1 mods [] → R (.ok (.ret (.str ⟨⟨lawSent x⟩⟩ tk))) ⟨h1, g, d, t', os⟩) :
   codeAny (PP w) A (.call (.ref 109) ⟨[.str ⟨⟨x⟩⟩ tn], []⟩) R ⟨h₀, g, d, t0, os⟩ := by
  obtain ⟨b1, b2, hw⟩ := parF_ex w
  have hl1 := crlf1_len x _ (Nat.le_refl _)
  refine code_ent (D.kt_ (a := 109) (o := obAt w 109) (by kernel_rfl)) (fd := fdAt w 109) (by kernel_rfl) (by have := hA.room; omega) ?_
  refine Means.add0 ?_
  cases b1 <;> (
    (refine segW (t0 := t0) (i := 0) 100000 [0, 1, 1, 1] (Code.call (Value.builtin "str.replace") { pos := [Value.str { cps := { toList := x : Array Nat } : Str } tn, Value.str { cps := { toList := [13, 10] : Array Nat } : Str } (t0 + 1), Value.str { cps := { toList := [10] : Array Nat } : Str } (t0 + 2)] : Args }) D (by assumption) (by assumption) ?_; intro o11; refine ⟨by kernel_rfl, by kernel_rfl, by kernel_rfl, by kernel_rfl, by kernel_rfl, fun h11 D11 => ?_⟩)
    refine callW_toks ?_
    refine r_replace x [13, 10] [10] tn _ _ (by omega) (by omega) (by omega) (by decide) (by show x.length + (x.length + 1) * 1 ≤ _; omega) (crlf1 x) (txt_replace2 x) fun u1 u2 hu => ?_
    have hu : 1 ≤ u2 := by have : t0 + outI o11 ≤ u2 := hu; omega
    refine Means.add0 ?_
    (refine segW (t0 := u2) (i := 0) 100000 [] (Code.call (Value.builtin "str.replace") { pos := [Value.str { cps := { toList := crlf1 x : Array Nat } : Str } u1, Value.str { cps := { toList := [13] : Array Nat } : Str } u2, Value.str { cps := { toList := [10] : Array Nat } : Str } (u2 + 1)] : Args }) D11 (by assumption) (by assumption) ?_; intro o12; refine ⟨by kernel_rfl, by kernel_rfl, by kernel_rfl, by kernel_rfl, by kernel_rfl, fun h12 D12 => ?_⟩)
    refine r_replace (crlf1 x) [13] [10] u1 _ _ (by omega) (by omega) (by omega) (by decide) (by show (crlf1 x).length + ((crlf1 x).length + 1) * 1 ≤ _; omega) _ (txt_replace1 (crlf1 x) 13 10) fun u3 u4 => ?_
    refine Means.add0 ?_
    (refine segW (t0 := u4) (i := 0) 100000 [] (Code.call (Value.builtin "str.split") { pos := [Value.str { cps := { toList := List.map (fun a => if a = 13 then 10 else a) (crlf1 x) : Array Nat } : Str } u3, Value.str { cps := { toList := [10] : Array Nat } : Str } u4] : Args }) D12 (by assumption) (by assumption) ?_; intro o13; refine ⟨by kernel_rfl, by kernel_rfl, by kernel_rfl, by kernel_rfl, by kernel_rfl, fun h13 D13 => ?_⟩)
    refine callW_of rfl ?_
    rw [mark_none]
    refine r_split ((crlf1 x).map fun a => if a = 13 then 10 else a) 10 u3 _ (by rw [List.length_map]; omega) (D13.give [] (by kernel_rfl)) fun h4 fa u5 Q hQ a4 => ?_
    obtain ⟨B4, E4⟩ := D13.backP [] [0, 1] [(fa, listO (txV Q) 0), (B, fobj [ent w [116, 101, 120, 116] t0 (.str ⟨⟨x⟩⟩ tn)] 1)] (by kernel_rfl) a4 (by kernel_rfl)
    refine Means.add0 ?_
    (refine segL (t0 := u5) (i := 0) 100000 [2, 2, 2, 1, 1, 1, 1, 3] ((compS w 109 (eSE w) (.ref B4) (.ref (B4 + 1)) (B4 + 2) q_se B) ) E4 (by assumption) (by assumption) ?_; intro o14; refine ⟨by kernel_rfl, by kernel_rfl, by kernel_rfl, by kernel_rfl, fun h14 D14 => ?_⟩)
    obtain ⟨B5, E5⟩ := D14.partX [3, 2, 0, 4] [1] [(B4 + 1, listO [] 0), (B4, iterO "list_iterator" (.ref fa) 0), (fa, listO (txV Q) 0), (B4 + 2, dictO [] 0)] [(B, fobj [ent w [116, 101, 120, 116] t0 (.str ⟨⟨x⟩⟩ tn), ent w [114, 111, 119, 115] u5 (.ref fa)] 2)] (by kernel_rfl) (by kernel_rfl)
    have hs := splitC_sum 10 ((crlf1 x).map fun a => if a = 13 then 10 else a)
    rw [List.length_map] at hs
    have hQl : Q.length = (splitC 10 ((crlf1 x).map fun a => if a = 13 then 10 else a)).length := by rw [← hQ, List.length_map]
    refine se_start w _ h₀ mods (hA.ar _ (by kernel_rfl) (by kernel_rfl)) _ g d os B4 (B4 + 1) (B4 + 2) B fa 0 Q (by intro e; rw [e] at hQ; exact splitC_ne _ _ hQ.symm) _ (by omega) (fun q hq => by have := mem_sum _ q.1 (List.mem_map.mpr ⟨q, hq, rfl⟩); rw [hQ] at this; omega) _ _ _ E5 fun h6 B6 t6 ep6 P dl6 dn6 hdl6 hP E6 => ?_
    obtain ⟨B7, E7⟩ := E6.unpartX.pickE [0, 2, 3] [(B4 + 1, listO (txV P) ep6), (B4 + 2, dictO dl6 dn6), (B, fobj [ent w [116, 101, 120, 116] t0 (.str ⟨⟨x⟩⟩ tn), ent w [114, 111, 119, 115] u5 (.ref fa)] 2)] rfl
    refine Means.add0 ?_
    have hP' : P.map (·.1) = (rowsL x).map dotR := by
      rw [hP]
      unfold rowsL
      rw [← hQ, List.map_map]
      rfl
    have hd := dotR_sum (rowsL x)
    have hPl : P.length = (rowsL x).length := by have e := congrArg List.length hP'; rwa [List.length_map, List.length_map] at e
    change ((rowsL x).map List.length).sum + (rowsL x).length = _ at hs
    obtain ⟨kk, vv, rfl, rfl⟩ := hdl6
    (refine segW (t0 := t6) (i := 0) 100000 [2, 2, 2] (Code.call (Value.builtin "str.join") { pos := [Value.str { cps := { toList := [13, 10] : Array Nat } : Str } (u5 + 1), Value.ref (B4 + 1)] : Args }) E7 (by assumption) (by assumption) ?_; intro o15; refine ⟨by kernel_rfl, by kernel_rfl, by kernel_rfl, by kernel_rfl, by kernel_rfl, fun h15 D15 => ?_⟩)
    refine callW_of rfl ?_
    rw [mark_none]
    refine r_joinS [13, 10] (B4 + 1) _ ep6 P ?_ (D15.give [1] (by kernel_rfl)) fun tk t9 => ?_
    · rw [hP', hPl]
      show _ + (rowsL x).length * 2 ≤ _
      omega
    rw [hP']
    refine Means.add0 ?_
    (refine segF (t0 := t9) (i := 0) 100000 [] ((Fin.done (Flow.ret (.str ⟨⟨lawSent x⟩⟩ tk))) ) D15 (by assumption) (by assumption) ?_; intro o16; refine ⟨by kernel_rfl, by kernel_rfl, by kernel_rfl, fun h16 D16 => ?_⟩)
    exact hR _ _ _ (D16.fin [] rfl))
end Mine
end
section
open PySem PySem.W PySem.Calls PyProof.Rows
set_option Elab.async false
set_option maxRecDepth 100000
namespace Mine
theorem ap_loop (w : World) (A : Around) (h₀ : Heap) (mods : List Nat) (hA : Fit 0 A (kt1 w) h₀) (R : Result → Shared → Prop) (f : Nat) (g : Array GenState) (d : Drawn) (os : OsState) (k1 k2 k3 t3 : Nat) :
  ∀ (n : Nat) (h : Heap) (B t0 tn t2 ep : Nat) (vb : List UInt8) (md : List DictEntry), (md = [] ∨ ∃ k v, md = [ent w n_mod k v]) → vb.length + (hexB n).length ≤ 16777000 →
   Rep (kt1 w) h₀ mods h B [(f, fobj (ent w n_num k1 (.int (.ofNat n) tn) :: ent w n_val k2 (.bytes ⟨vb⟩ t2) :: ent w n_AP k3 (.bytes APs t3) :: md) ep)] [] 0 →
   (∀ h1 B' t' tn' t2' md' ep', Rep (kt1 w) h₀ mods h1 B' [(f, fobj (ent w n_num k1 (.int (.ofNat 0) tn') :: ent w n_val k2 (.bytes ⟨hexB n ++ vb⟩ t2') :: ent w n_AP k3 (.bytes APs t3) :: md') ep')] [] 0 → R (.ok .next) ⟨h1, g, d, t', os⟩) →
   codeAny (PP w) A (whileOf (stmtAt w 80 3) (envOf w 80 f q_ap)) R ⟨h, g, d, t0, os⟩ := by
  obtain ⟨b1, b2, hw⟩ := parF_ex w
  have hA' := hA.under (whileOf (stmtAt w 80 3) (envOf w 80 f q_ap)) (m := 0) (by kernel_rfl)
  intro n
  induction n using Nat.strongRecOn with
  | ind n ih =>
  intro h B t0 tn t2 ep vb md hmd hsz D hR
  match n, ih, hsz, D, hR with
  | 0, ih, hsz, D, hR =>
    refine code_start ?_
    change Means _ _ _ _ _ _ ⟨h, g, d, t0 + 0, os⟩
    cases b1
    all_goals rcases hmd with rfl | ⟨k, v, rfl⟩
    all_goals (refine segF (t0 := t0) (i := 0) 100000 [1, 1] (Fin.done Flow.next) D (by assumption) (by assumption) ?_; intro o11; refine ⟨by kernel_rfl, by kernel_rfl, by kernel_rfl, fun h11 D11 => ?_⟩)
    · obtain ⟨B4, E3⟩ := D11.onlyE [1] [(f, fobj [ent w n_num k1 (.int (.ofNat 0) tn), ent w n_val k2 (.bytes ⟨hexB 0 ++ vb⟩ t2), ent w n_AP k3 (.bytes APs t3)] ep)] (by rw [hexB_zero, List.nil_append]; kernel_rfl)
      exact hR _ _ _ _ _ _ _ E3
    · obtain ⟨B4, E3⟩ := D11.onlyE [1] [(f, fobj [ent w n_num k1 (.int (.ofNat 0) tn), ent w n_val k2 (.bytes ⟨hexB 0 ++ vb⟩ t2), ent w n_AP k3 (.bytes APs t3), ent w n_mod k v] ep)] (by rw [hexB_zero, List.nil_append]; kernel_rfl)
      exact hR _ _ _ _ _ _ _ E3
    · obtain ⟨B4, E3⟩ := D11.onlyE [1] [(f, fobj [ent w n_num k1 (.int (.ofNat 0) tn), ent w n_val k2 (.bytes ⟨hexB 0 ++ vb⟩ t2), ent w n_AP k3 (.bytes APs t3)] ep)] (by rw [hexB_zero, List.nil_append]; kernel_rfl)
      exact hR _ _ _ _ _ _ _ E3
    · obtain ⟨B4, E3⟩ := D11.onlyE [1] [(f, fobj [ent w n_num k1 (.int (.ofNat 0) tn), ent w n_val k2 (.bytes ⟨hexB 0 ++ vb⟩ t2), ent w n_AP k3 (.bytes APs t3), ent w n_mod k v] ep)] (by rw [hexB_zero, List.nil_append]; kernel_rfl)
      exact hR _ _ _ _ _ _ _ E3
  | n + 1, ih, hsz, D, hR =>
    rw [hexB_succ, List.length_append, List.length_singleton] at hsz
    rw [hexB_succ] at hR
    refine code_start ?_
    change Means _ _ _ _ _ _ ⟨h, g, d, t0 + 0, os⟩
    have hq : (n + 1) / 16 < n + 1 := by omega
    have ih' := ih _ hq
    clear ih
    have hr : (n + 1) % 16 < 16 := Nat.mod_lt _ (by decide)
    cases b1
    all_goals rcases hmd with rfl | ⟨k, v, rfl⟩
    · (refine segW (t0 := t0) (i := 0) 100000 [1, 1, 0, 0, 1] (Code.call (Value.builtin "divmod") { pos := [Value.int (Int.ofNat (n + 1)) tn, Value.int 16 t0] : Args }) D (by assumption) (by assumption) ?_; intro o101; refine ⟨by kernel_rfl, by kernel_rfl, by kernel_rfl, by kernel_rfl, by kernel_rfl, fun h101 D101 => ?_⟩)
      refine callW_of rfl ?_
      rw [mark_none]
      refine r_divmod (Fit.inner hA' D101 _ (by kernel_rfl) (by kernel_rfl)) _ _ _ (D101.give [] (by kernel_rfl)) fun g1 a u1 u2 t' a1 => ?_
      obtain ⟨B2, E1⟩ := D101.backE [] [1, 1] [(a, tupO [.int (.ofNat ((n+1) / 16)) u1, .int (.ofNat ((n+1) % 16)) u2]), (f, fobj [ent w n_num k1 (.int (.ofNat (n + 1)) tn), ent w n_val k2 (.bytes ⟨vb⟩ t2), ent w n_AP k3 (.bytes APs t3)] ep)] (by kernel_rfl) a1 (by kernel_rfl)
      generalize (n+1) / 16 = q at E1 ih' hR hsz
      generalize (n+1) % 16 = r at E1 hr hR
      change Means _ _ _ _ (outκ o101) (outK o101 _) ⟨g1, g, d, t' + 0, os⟩
      (refine segW (t0 := t') (i := 0) 100000 [1, 1, 1, 1, 1, 3, 3, 1, 3, 3, 3, 1, 3, 3, 3, 1, 3, 3, 3, 1, 3, 3, 3, 1, 3, 3, 3, 1, 3, 3, 5, 2, 2, 2, 2, 2, 2, 2, 1] ((Code.call (Value.builtin "bytes.__getitem__") ⟨[Value.bytes APs t3, Value.ref (B2 + 3)], []⟩) ) E1 (by assumption) (by assumption) ?_; intro o102; refine ⟨by kernel_rfl, by kernel_rfl, by kernel_rfl, by kernel_rfl, by kernel_rfl, fun h102 D102 => ?_⟩)
      refine callW_of rfl ?_
      rw [mark_none]
      refine r_APslice (Fit.inner hA' D102 _ (by kernel_rfl) (by kernel_rfl)) r u2 (t' + 3) t3 (B2 + 3) _ hr (D102.give [0, 0, 0, 0, 0, 1] (by kernel_rfl)) fun g2 v1 t'' a2 => ?_
      obtain ⟨B3, E2⟩ := D102.backE [0, 0, 0, 0, 0, 1] [0, 1] [(f, fobj [ent w n_num k1 (.int (.ofNat q) u1), ent w n_val k2 (.bytes ⟨vb⟩ t2), ent w n_AP k3 (.bytes APs t3), ent w n_mod (t' + 1) (.int (.ofNat r) u2)] (ep + 1))] (by kernel_rfl) a2 (by kernel_rfl)
      change Means _ _ _ _ (outκ o102) (outK o102 _) ⟨g2, g, d, t'' + 0, os⟩
      (refine segW (t0 := t'') (i := 0) 100000 [1] (Code.call (Value.builtin "bytes.__add__") { pos := [Value.bytes { toList := [UInt8.ofNat (65 + r)] : Array UInt8 } v1, Value.bytes { toList := vb : Array UInt8 } t2] : Args }) E2 (by assumption) (by assumption) ?_; intro o103; refine ⟨by kernel_rfl, by kernel_rfl, by kernel_rfl, by kernel_rfl, by kernel_rfl, fun h103 D103 => ?_⟩)
      refine r_baddL [UInt8.ofNat (65 + r)] vb _ _ (by show 1 + vb.length ≤ _; omega) fun t4 u4 => ?_
      obtain ⟨B4, E3⟩ := D103.onlyE [1] [(f, fobj [ent w n_num k1 (.int (.ofNat q) u1), ent w n_val k2 (.bytes ⟨vb⟩ t2), ent w n_AP k3 (.bytes APs t3), ent w n_mod (t' + 1) (.int (.ofNat r) u2)] (ep + 1))] (by kernel_rfl)
      change Means _ _ _ _ (outκ o103) (outK o103 _) ⟨h103, g, d, u4 + 0, os⟩
      (refine segF (t0 := u4) (i := 0) 100000 [1, 1] ((Fin.again (whileOf (stmtAt w 80 3) (envOf w 80 f q_ap))) ) E3 (by assumption) (by assumption) ?_; intro o104; refine ⟨by kernel_rfl, by kernel_rfl, by kernel_rfl, fun h104 D104 => ?_⟩)
      have E4 := D104.only [1] (Lo := [(f, fobj (ent w n_num k1 (.int (.ofNat q) u1) :: ent w n_val k2 (.bytes ⟨[UInt8.ofNat (65 + r)] ++ vb⟩ t4) :: ent w n_AP k3 (.bytes APs t3) :: [ent w n_mod (t' + 1) (.int (.ofNat r) u2)]) (ep + 1))]) (by kernel_rfl)
      refine ⟨by kernel_rfl, ih' _ _ _ _ _ _ _ _ (.inr ⟨_, _, rfl⟩) (by rw [List.length_append, List.length_singleton]; omega) E4 ?_⟩
      rw [← List.append_assoc]
      exact hR
    · (refine segW (t0 := t0) (i := 0) 100000 [1, 1, 0, 0, 1] (Code.call (Value.builtin "divmod") { pos := [Value.int (Int.ofNat (n + 1)) tn, Value.int 16 t0] : Args }) D (by assumption) (by assumption) ?_; intro o201; refine ⟨by kernel_rfl, by kernel_rfl, by kernel_rfl, by kernel_rfl, by kernel_rfl, fun h201 D201 => ?_⟩)
      refine callW_of rfl ?_
      rw [mark_none]
      refine r_divmod (Fit.inner hA' D201 _ (by kernel_rfl) (by kernel_rfl)) _ _ _ (D201.give [] (by kernel_rfl)) fun g1 a u1 u2 t' a1 => ?_
      obtain ⟨B2, E1⟩ := D201.backE [] [1, 1] [(a, tupO [.int (.ofNat ((n+1) / 16)) u1, .int (.ofNat ((n+1) % 16)) u2]), (f, fobj [ent w n_num k1 (.int (.ofNat (n + 1)) tn), ent w n_val k2 (.bytes ⟨vb⟩ t2), ent w n_AP k3 (.bytes APs t3), ent w n_mod k v] ep)] (by kernel_rfl) a1 (by kernel_rfl)
      generalize (n+1) / 16 = q at E1 ih' hR hsz
      generalize (n+1) % 16 = r at E1 hr hR
      change Means _ _ _ _ (outκ o201) (outK o201 _) ⟨g1, g, d, t' + 0, os⟩
      (refine segW (t0 := t') (i := 0) 100000 [1, 1, 1, 1, 1, 3, 3, 1, 3, 3, 3, 1, 3, 3, 3, 1, 3, 3, 3, 1, 3, 3, 3, 1, 3, 3, 3, 1, 3, 3, 5, 2, 2, 2, 2, 2, 2, 2, 1] ((Code.call (Value.builtin "bytes.__getitem__") ⟨[Value.bytes APs t3, Value.ref (B2 + 3)], []⟩) ) E1 (by assumption) (by assumption) ?_; intro o202; refine ⟨by kernel_rfl, by kernel_rfl, by kernel_rfl, by kernel_rfl, by kernel_rfl, fun h202 D202 => ?_⟩)
      refine callW_of rfl ?_
      rw [mark_none]
      refine r_APslice (Fit.inner hA' D202 _ (by kernel_rfl) (by kernel_rfl)) r u2 (t' + 3) t3 (B2 + 3) _ hr (D202.give [0, 0, 0, 0, 0, 1] (by kernel_rfl)) fun g2 v1 t'' a2 => ?_
      obtain ⟨B3, E2⟩ := D202.backE [0, 0, 0, 0, 0, 1] [0, 1] [(f, fobj [ent w n_num k1 (.int (.ofNat q) u1), ent w n_val k2 (.bytes ⟨vb⟩ t2), ent w n_AP k3 (.bytes APs t3), ent w n_mod k (.int (.ofNat r) u2)] ep)] (by kernel_rfl) a2 (by kernel_rfl)
      change Means _ _ _ _ (outκ o202) (outK o202 _) ⟨g2, g, d, t'' + 0, os⟩
      (refine segW (t0 := t'') (i := 0) 100000 [1] (Code.call (Value.builtin "bytes.__add__") { pos := [Value.bytes { toList := [UInt8.ofNat (65 + r)] : Array UInt8 } v1, Value.bytes { toList := vb : Array UInt8 } t2] : Args }) E2 (by assumption) (by assumption) ?_; intro o203; refine ⟨by kernel_rfl, by kernel_rfl, by kernel_rfl, by kernel_rfl, by kernel_rfl, fun h203 D203 => ?_⟩)
      refine r_baddL [UInt8.ofNat (65 + r)] vb _ _ (by show 1 + vb.length ≤ _; omega) fun t4 u4 => ?_
      obtain ⟨B4, E3⟩ := D203.onlyE [1] [(f, fobj [ent w n_num k1 (.int (.ofNat q) u1), ent w n_val k2 (.bytes ⟨vb⟩ t2), ent w n_AP k3 (.bytes APs t3), ent w n_mod k (.int (.ofNat r) u2)] ep)] (by kernel_rfl)
      change Means _ _ _ _ (outκ o203) (outK o203 _) ⟨h203, g, d, u4 + 0, os⟩
      (refine segF (t0 := u4) (i := 0) 100000 [1, 1] ((Fin.again (whileOf (stmtAt w 80 3) (envOf w 80 f q_ap))) ) E3 (by assumption) (by assumption) ?_; intro o204; refine ⟨by kernel_rfl, by kernel_rfl, by kernel_rfl, fun h204 D204 => ?_⟩)
      have E4 := D204.only [1] (Lo := [(f, fobj (ent w n_num k1 (.int (.ofNat q) u1) :: ent w n_val k2 (.bytes ⟨[UInt8.ofNat (65 + r)] ++ vb⟩ t4) :: ent w n_AP k3 (.bytes APs t3) :: [ent w n_mod k (.int (.ofNat r) u2)]) ep)]) (by kernel_rfl)
      refine ⟨by kernel_rfl, ih' _ _ _ _ _ _ _ _ (.inr ⟨_, _, rfl⟩) (by rw [List.length_append, List.length_singleton]; omega) E4 ?_⟩
      rw [← List.append_assoc]
      exact hR
    · (refine segW (t0 := t0) (i := 0) 100000 [1, 1, 0, 0, 1] (Code.call (Value.builtin "divmod") { pos := [Value.int (Int.ofNat (n + 1)) tn, Value.int 16 t0] : Args }) D (by assumption) (by assumption) ?_; intro o301; refine ⟨by kernel_rfl, by kernel_rfl, by kernel_rfl, by kernel_rfl, by kernel_rfl, fun h301 D301 => ?_⟩)
      refine callW_of rfl ?_
      rw [mark_none]
      refine r_divmod (Fit.inner hA' D301 _ (by kernel_rfl) (by kernel_rfl)) _ _ _ (D301.give [] (by kernel_rfl)) fun g1 a u1 u2 t' a1 => ?_
      obtain ⟨B2, E1⟩ := D301.backE [] [1, 1] [(a, tupO [.int (.ofNat ((n+1) / 16)) u1, .int (.ofNat ((n+1) % 16)) u2]), (f, fobj [ent w n_num k1 (.int (.ofNat (n + 1)) tn), ent w n_val k2 (.bytes ⟨vb⟩ t2), ent w n_AP k3 (.bytes APs t3)] ep)] (by kernel_rfl) a1 (by kernel_rfl)
      generalize (n+1) / 16 = q at E1 ih' hR hsz
      generalize (n+1) % 16 = r at E1 hr hR
      change Means _ _ _ _ (outκ o301) (outK o301 _) ⟨g1, g, d, t' + 0, os⟩
      (refine segW (t0 := t') (i := 0) 100000 [1, 1, 1, 1, 1, 3, 3, 1, 3, 3, 3, 1, 3, 3, 3, 1, 3, 3, 3, 1, 3, 3, 3, 1, 3, 3, 3, 1, 3, 3, 5, 2, 2, 2, 2, 2, 2, 2, 1] ((Code.call (Value.builtin "bytes.__getitem__") ⟨[Value.bytes APs t3, Value.ref (B2 + 3)], []⟩) ) E1 (by assumption) (by assumption) ?_; intro o302; refine ⟨by kernel_rfl, by kernel_rfl, by kernel_rfl, by kernel_rfl, by kernel_rfl, fun h302 D302 => ?_⟩)
      refine callW_of rfl ?_
      rw [mark_none]
      refine r_APslice (Fit.inner hA' D302 _ (by kernel_rfl) (by kernel_rfl)) r u2 (t' + 3) t3 (B2 + 3) _ hr (D302.give [0, 0, 0, 0, 0, 1] (by kernel_rfl)) fun g2 v1 t'' a2 => ?_
      obtain ⟨B3, E2⟩ := D302.backE [0, 0, 0, 0, 0, 1] [0, 1] [(f, fobj [ent w n_num k1 (.int (.ofNat q) u1), ent w n_val k2 (.bytes ⟨vb⟩ t2), ent w n_AP k3 (.bytes APs t3), ent w n_mod (t' + 1) (.int (.ofNat r) u2)] (ep + 1))] (by kernel_rfl) a2 (by kernel_rfl)
      change Means _ _ _ _ (outκ o302) (outK o302 _) ⟨g2, g, d, t'' + 0, os⟩
      (refine segW (t0 := t'') (i := 0) 100000 [1] (Code.call (Value.builtin "bytes.__add__") { pos := [Value.bytes { toList := [UInt8.ofNat (65 + r)] : Array UInt8 } v1, Value.bytes { toList := vb : Array UInt8 } t2] : Args }) E2 (by assumption) (by assumption) ?_; intro o303; refine ⟨by kernel_rfl, by kernel_rfl, by kernel_rfl, by kernel_rfl, by kernel_rfl, fun h303 D303 => ?_⟩)
      refine r_baddL [UInt8.ofNat (65 + r)] vb _ _ (by show 1 + vb.length ≤ _; omega) fun t4 u4 => ?_
      obtain ⟨B4, E3⟩ := D303.onlyE [1] [(f, fobj [ent w n_num k1 (.int (.ofNat q) u1), ent w n_val k2 (.bytes ⟨vb⟩ t2), ent w n_AP k3 (.bytes APs t3), ent w n_mod (t' + 1) (.int (.ofNat r) u2)] (ep + 1))] (by kernel_rfl)
      change Means _ _ _ _ (outκ o303) (outK o303 _) ⟨h303, g, d, u4 + 0, os⟩
      (refine segF (t0 := u4) (i := 0) 100000 [1, 1] ((Fin.again (whileOf (stmtAt w 80 3) (envOf w 80 f q_ap))) ) E3 (by assumption) (by assumption) ?_; intro o304; refine ⟨by kernel_rfl, by kernel_rfl, by kernel_rfl, fun h304 D304 => ?_⟩)
      have E4 := D304.only [1] (Lo := [(f, fobj (ent w n_num k1 (.int (.ofNat q) u1) :: ent w n_val k2 (.bytes ⟨[UInt8.ofNat (65 + r)] ++ vb⟩ t4) :: ent w n_AP k3 (.bytes APs t3) :: [ent w n_mod (t' + 1) (.int (.ofNat r) u2)]) (ep + 1))]) (by kernel_rfl)
      refine ⟨by kernel_rfl, ih' _ _ _ _ _ _ _ _ (.inr ⟨_, _, rfl⟩) (by rw [List.length_append, List.length_singleton]; omega) E4 ?_⟩
      rw [← List.append_assoc]
      exact hR
    · (refine segW (t0 := t0) (i := 0) 100000 [1, 1, 0, 0, 1] (Code.call (Value.builtin "divmod") { pos := [Value.int (Int.ofNat (n + 1)) tn, Value.int 16 t0] : Args }) D (by assumption) (by assumption) ?_; intro o401; refine ⟨by kernel_rfl, by kernel_rfl, by kernel_rfl, by kernel_rfl, by kernel_rfl, fun h401 D401 => ?_⟩)
      refine callW_of rfl ?_
      rw [mark_none]
      refine r_divmod (Fit.inner hA' D401 _ (by kernel_rfl) (by kernel_rfl)) _ _ _ (D401.give [] (by kernel_rfl)) fun g1 a u1 u2 t' a1 => ?_
      obtain ⟨B2, E1⟩ := D401.backE [] [1, 1] [(a, tupO [.int (.ofNat ((n+1) / 16)) u1, .int (.ofNat ((n+1) % 16)) u2]), (f, fobj [ent w n_num k1 (.int (.ofNat (n + 1)) tn), ent w n_val k2 (.bytes ⟨vb⟩ t2), ent w n_AP k3 (.bytes APs t3), ent w n_mod k v] ep)] (by kernel_rfl) a1 (by kernel_rfl)
      generalize (n+1) / 16 = q at E1 ih' hR hsz
      generalize (n+1) % 16 = r at E1 hr hR
      change Means _ _ _ _ (outκ o401) (outK o401 _) ⟨g1, g, d, t' + 0, os⟩
      (refine segW (t0 := t') (i := 0) 100000 [1, 1, 1, 1, 1, 3, 3, 1, 3, 3, 3, 1, 3, 3, 3, 1, 3, 3, 3, 1, 3, 3, 3, 1, 3, 3, 3, 1, 3, 3, 5, 2, 2, 2, 2, 2, 2, 2, 1] ((Code.call (Value.builtin "bytes.__getitem__") ⟨[Value.bytes APs t3, Value.ref (B2 + 3)], []⟩) ) E1 (by assumption) (by assumption) ?_; intro o402; refine ⟨by kernel_rfl, by kernel_rfl, by kernel_rfl, by kernel_rfl, by kernel_rfl, fun h402 D402 => ?_⟩)
      refine callW_of rfl ?_
      rw [mark_none]
      refine r_APslice (Fit.inner hA' D402 _ (by kernel_rfl) (by kernel_rfl)) r u2 (t' + 3) t3 (B2 + 3) _ hr (D402.give [0, 0, 0, 0, 0, 1] (by kernel_rfl)) fun g2 v1 t'' a2 => ?_
      obtain ⟨B3, E2⟩ := D402.backE [0, 0, 0, 0, 0, 1] [0, 1] [(f, fobj [ent w n_num k1 (.int (.ofNat q) u1), ent w n_val k2 (.bytes ⟨vb⟩ t2), ent w n_AP k3 (.bytes APs t3), ent w n_mod k (.int (.ofNat r) u2)] ep)] (by kernel_rfl) a2 (by kernel_rfl)
      change Means _ _ _ _ (outκ o402) (outK o402 _) ⟨g2, g, d, t'' + 0, os⟩
      (refine segW (t0 := t'') (i := 0) 100000 [1] (Code.call (Value.builtin "bytes.__add__") { pos := [Value.bytes { toList := [UInt8.ofNat (65 + r)] : Array UInt8 } v1, Value.bytes { toList := vb : Array UInt8 } t2] : Args }) E2 (by assumption) (by assumption) ?_; intro o403; refine ⟨by kernel_rfl, by kernel_rfl, by kernel_rfl, by kernel_rfl, by kernel_rfl, fun h403 D403 => ?_⟩)
      refine r_baddL [UInt8.ofNat (65 + r)] vb _ _ (by show 1 + vb.length ≤ _; omega) fun t4 u4 => ?_
      obtain ⟨B4, E3⟩ := D403.onlyE [1] [(f, fobj [ent w n_num k1 (.int (.ofNat q) u1), ent w n_val k2 (.bytes ⟨vb⟩ t2), ent w n_AP k3 (.bytes APs t3), ent w n_mod k (.int (.ofNat r) u2)] ep)] (by kernel_rfl)
      change Means _ _ _ _ (outκ o403) (outK o403 _) ⟨h403, g, d, u4 + 0, os⟩
      (refine segF (t0 := u4) (i := 0) 100000 [1, 1] ((Fin.again (whileOf (stmtAt w 80 3) (envOf w 80 f q_ap))) ) E3 (by assumption) (by assumption) ?_; intro o404; refine ⟨by kernel_rfl, by kernel_rfl, by kernel_rfl, fun h404 D404 => ?_⟩)
      have E4 := D404.only [1] (Lo := [(f, fobj (ent w n_num k1 (.int (.ofNat q) u1) :: ent w n_val k2 (.bytes ⟨[UInt8.ofNat (65 + r)] ++ vb⟩ t4) :: ent w n_AP k3 (.bytes APs t3) :: [ent w n_mod k (.int (.ofNat r) u2)]) ep)]) (by kernel_rfl)
      refine ⟨by kernel_rfl, ih' _ _ _ _ _ _ _ _ (.inr ⟨_, _, rfl⟩) (by rw [List.length_append, List.length_singleton]; omega) E4 ?_⟩
      rw [← List.append_assoc]
      exact hR
end Mine
end
section
open PySem PySem.W PySem.Calls PyProof.Rows
set_option Elab.async false
set_option maxRecDepth 100000
namespace Mine
theorem int2ap (w : World) (A : Around) (h₀ : Heap) (hA : Fit 5 A (kt1 w) h₀) (R : Result → Shared → Prop) (B t0 : Nat) (g : Array GenState) (d : Drawn) (os : OsState) (n : Int) (tn : Nat) {mods : List Nat}
   (hsz : (hexB n.natAbs).length ≤ 16777000)
   (D : Rep (kt1 w) h₀ mods h₀ B [] [] 0)
   (hR : ∀ h1 t t', After h₀ h1 mods [] → R (.ok (.ret (.bytes ⟨hexB n.natAbs⟩ t))) ⟨h1, g, d, t', os⟩) :
   codeAny (PP w) A (.call (.ref 80) ⟨[.int n tn], []⟩) R ⟨h₀, g, d, t0, os⟩ := by
  obtain ⟨b1, b2, hw⟩ := parF_ex w
  cases n with
  | ofNat m =>
    change (hexB m).length ≤ _ at hsz
    change ∀ h1 t t', After h₀ h1 mods [] → R (.ok (.ret (.bytes ⟨hexB m⟩ t))) ⟨h1, g, d, t', os⟩ at hR
    refine code_ent (D.kt_ (a := 80) (o := obAt w 80) (by kernel_rfl)) (fd := fdAt w 80) (by kernel_rfl) (by have := hA.room; omega) ?_
    change Means _ _ _ _ _ _ ⟨h₀, g, d, t0 + 0, os⟩
    cases b1
    · (refine segL (t0 := t0) (i := 0) 100000 [0, 1, 1, 1, 1, 1, 1, 0, 0, 0, 0, 1, 1, 1, 1, 1, 1, 1, 1] ((whileOf (stmtAt w 80 3) (envOf w 80 B q_ap)) ) D (by assumption) (by assumption) ?_; intro o101; refine ⟨by kernel_rfl, by kernel_rfl, by kernel_rfl, by kernel_rfl, fun h101 D101 => ?_⟩)
      obtain ⟨B1, E1⟩ := D101.onlyE [1] [(B, fobj [ent w n_num t0 (.int (.ofNat m) tn), ent w n_val (t0 + 2) (.bytes ⟨[]⟩ (t0 + 1)), ent w n_AP (t0 + 4) (.bytes APs (t0 + 3))] 3)] (by kernel_rfl)
      refine ap_loop w _ _ _ (hA.ar _ (by kernel_rfl) (by kernel_rfl)) _ _ g d os _ _ _ _ m _ _ _ _ _ _ [] [] (.inl rfl) (by show 0 + _ ≤ _; omega) E1 ?_
      intro h2 B2 t2 tn' t2' md ep E2
      rw [List.append_nil] at E2
      change Means _ _ _ _ (outκ o101) (outK o101 _) ⟨h2, g, d, t2 + 0, os⟩
      (refine segF (t0 := t2) (i := 0) 100000 [1] ((Fin.done (Flow.ret (.bytes ⟨hexB m⟩ t2'))) ) E2 (by assumption) (by assumption) ?_; intro o102; refine ⟨by kernel_rfl, by kernel_rfl, by kernel_rfl, fun h102 D102 => ?_⟩)
      exact hR _ _ _ (D102.fin [] (by kernel_rfl))
    · (refine segL (t0 := t0) (i := 0) 100000 [0, 1, 1, 1, 1, 1, 1, 0, 0, 0, 0, 1, 1, 1, 1, 1, 1, 1, 1] ((whileOf (stmtAt w 80 3) (envOf w 80 B q_ap)) ) D (by assumption) (by assumption) ?_; intro o201; refine ⟨by kernel_rfl, by kernel_rfl, by kernel_rfl, by kernel_rfl, fun h201 D201 => ?_⟩)
      obtain ⟨B1, E1⟩ := D201.onlyE [1] [(B, fobj [ent w n_num t0 (.int (.ofNat m) tn), ent w n_val (t0 + 2) (.bytes ⟨[]⟩ (t0 + 1)), ent w n_AP (t0 + 4) (.bytes APs (t0 + 3))] 3)] (by kernel_rfl)
      refine ap_loop w _ _ _ (hA.ar _ (by kernel_rfl) (by kernel_rfl)) _ _ g d os _ _ _ _ m _ _ _ _ _ _ [] [] (.inl rfl) (by show 0 + _ ≤ _; omega) E1 ?_
      intro h2 B2 t2 tn' t2' md ep E2
      rw [List.append_nil] at E2
      change Means _ _ _ _ (outκ o201) (outK o201 _) ⟨h2, g, d, t2 + 0, os⟩
      (refine segF (t0 := t2) (i := 0) 100000 [1] ((Fin.done (Flow.ret (.bytes ⟨hexB m⟩ t2'))) ) E2 (by assumption) (by assumption) ?_; intro o202; refine ⟨by kernel_rfl, by kernel_rfl, by kernel_rfl, fun h202 D202 => ?_⟩)
      exact hR _ _ _ (D202.fin [] (by kernel_rfl))
  | negSucc l =>
    cases l with
    | zero =>
     change ∀ h1 t t', After h₀ h1 mods [] → R (.ok (.ret (.bytes ⟨hexB 1⟩ t))) ⟨h1, g, d, t', os⟩ at hR
     change (hexB 1).length ≤ _ at hsz
     refine code_ent (D.kt_ (a := 80) (o := obAt w 80) (by kernel_rfl)) (fd := fdAt w 80) (by kernel_rfl) (by have := hA.room; omega) ?_
     change Means _ _ _ _ _ _ ⟨h₀, g, d, t0 + 0, os⟩
     cases b1
     · (refine segL (t0 := t0) (i := 0) 100000 [0, 1, 1, 1, 1, 1, 1, 0, 0, 0, 0, 1, 1, 1, 1, 1, 1, 1, 1] ((whileOf (stmtAt w 80 3) (envOf w 80 B q_ap)) ) D (by assumption) (by assumption) ?_; intro o301; refine ⟨by kernel_rfl, by kernel_rfl, by kernel_rfl, by kernel_rfl, fun h301 D301 => ?_⟩)
       obtain ⟨B1, E1⟩ := D301.onlyE [1] [(B, fobj [ent w n_num t0 (.int (.ofNat 1) (t0 + 5)), ent w n_val (t0 + 2) (.bytes ⟨[]⟩ (t0 + 1)), ent w n_AP (t0 + 4) (.bytes APs (t0 + 3))] 3)] (by kernel_rfl)
       refine ap_loop w _ _ _ (hA.ar _ (by kernel_rfl) (by kernel_rfl)) _ _ g d os _ _ _ _ 1 _ _ _ _ _ _ [] [] (.inl rfl) (by show 0 + _ ≤ _; omega) E1 ?_
       intro h2 B2 t2 tn' t2' md ep E2
       rw [List.append_nil] at E2
       change Means _ _ _ _ (outκ o301) (outK o301 _) ⟨h2, g, d, t2 + 0, os⟩
       (refine segF (t0 := t2) (i := 0) 100000 [1] ((Fin.done (Flow.ret (.bytes ⟨hexB 1⟩ t2'))) ) E2 (by assumption) (by assumption) ?_; intro o302; refine ⟨by kernel_rfl, by kernel_rfl, by kernel_rfl, fun h302 D302 => ?_⟩)
       exact hR _ _ _ (D302.fin [] (by kernel_rfl))
     · (refine segL (t0 := t0) (i := 0) 100000 [0, 1, 1, 1, 1, 1, 1, 0, 0, 0, 0, 1, 1, 1, 1, 1, 1, 1, 1] ((whileOf (stmtAt w 80 3) (envOf w 80 B q_ap)) ) D (by assumption) (by assumption) ?_; intro o401; refine ⟨by kernel_rfl, by kernel_rfl, by kernel_rfl, by kernel_rfl, fun h401 D401 => ?_⟩)
       obtain ⟨B1, E1⟩ := D401.onlyE [1] [(B, fobj [ent w n_num t0 (.int (.ofNat 1) (t0 + 5)), ent w n_val (t0 + 2) (.bytes ⟨[]⟩ (t0 + 1)), ent w n_AP (t0 + 4) (.bytes APs (t0 + 3))] 3)] (by kernel_rfl)
       refine ap_loop w _ _ _ (hA.ar _ (by kernel_rfl) (by kernel_rfl)) _ _ g d os _ _ _ _ 1 _ _ _ _ _ _ [] [] (.inl rfl) (by show 0 + _ ≤ _; omega) E1 ?_
       intro h2 B2 t2 tn' t2' md ep E2
       rw [List.append_nil] at E2
       change Means _ _ _ _ (outκ o401) (outK o401 _) ⟨h2, g, d, t2 + 0, os⟩
       (refine segF (t0 := t2) (i := 0) 100000 [1] ((Fin.done (Flow.ret (.bytes ⟨hexB 1⟩ t2'))) ) E2 (by assumption) (by assumption) ?_; intro o402; refine ⟨by kernel_rfl, by kernel_rfl, by kernel_rfl, fun h402 D402 => ?_⟩)
       exact hR _ _ _ (D402.fin [] (by kernel_rfl))
    | succ l =>
     change ∀ h1 t t', After h₀ h1 mods [] → R (.ok (.ret (.bytes ⟨hexB (l + 2)⟩ t))) ⟨h1, g, d, t', os⟩ at hR
     change (hexB (l + 2)).length ≤ _ at hsz
     refine code_ent (D.kt_ (a := 80) (o := obAt w 80) (by kernel_rfl)) (fd := fdAt w 80) (by kernel_rfl) (by have := hA.room; omega) ?_
     change Means _ _ _ _ _ _ ⟨h₀, g, d, t0 + 0, os⟩
     cases b1
     · (refine segL (t0 := t0) (i := 0) 100000 [0, 1, 1, 1, 1, 1, 1, 0, 0, 0, 0, 1, 1, 1, 1, 1, 1, 1, 1] ((whileOf (stmtAt w 80 3) (envOf w 80 B q_ap)) ) D (by assumption) (by assumption) ?_; intro o501; refine ⟨by kernel_rfl, by kernel_rfl, by kernel_rfl, by kernel_rfl, fun h501 D501 => ?_⟩)
       obtain ⟨B1, E1⟩ := D501.onlyE [1] [(B, fobj [ent w n_num t0 (.int (.ofNat (l + 2)) (t0 + 5)), ent w n_val (t0 + 2) (.bytes ⟨[]⟩ (t0 + 1)), ent w n_AP (t0 + 4) (.bytes APs (t0 + 3))] 3)] (by kernel_rfl)
       refine ap_loop w _ _ _ (hA.ar _ (by kernel_rfl) (by kernel_rfl)) _ _ g d os _ _ _ _ (l + 2) _ _ _ _ _ _ [] [] (.inl rfl) (by show 0 + _ ≤ _; omega) E1 ?_
       intro h2 B2 t2 tn' t2' md ep E2
       rw [List.append_nil] at E2
       change Means _ _ _ _ (outκ o501) (outK o501 _) ⟨h2, g, d, t2 + 0, os⟩
       (refine segF (t0 := t2) (i := 0) 100000 [1] ((Fin.done (Flow.ret (.bytes ⟨hexB (l + 2)⟩ t2'))) ) E2 (by assumption) (by assumption) ?_; intro o502; refine ⟨by kernel_rfl, by kernel_rfl, by kernel_rfl, fun h502 D502 => ?_⟩)
       exact hR _ _ _ (D502.fin [] (by kernel_rfl))
     · (refine segL (t0 := t0) (i := 0) 100000 [0, 1, 1, 1, 1, 1, 1, 0, 0, 0, 0, 1, 1, 1, 1, 1, 1, 1, 1] ((whileOf (stmtAt w 80 3) (envOf w 80 B q_ap)) ) D (by assumption) (by assumption) ?_; intro o601; refine ⟨by kernel_rfl, by kernel_rfl, by kernel_rfl, by kernel_rfl, fun h601 D601 => ?_⟩)
       obtain ⟨B1, E1⟩ := D601.onlyE [1] [(B, fobj [ent w n_num t0 (.int (.ofNat (l + 2)) (t0 + 5)), ent w n_val (t0 + 2) (.bytes ⟨[]⟩ (t0 + 1)), ent w n_AP (t0 + 4) (.bytes APs (t0 + 3))] 3)] (by kernel_rfl)
       refine ap_loop w _ _ _ (hA.ar _ (by kernel_rfl) (by kernel_rfl)) _ _ g d os _ _ _ _ (l + 2) _ _ _ _ _ _ [] [] (.inl rfl) (by show 0 + _ ≤ _; omega) E1 ?_
       intro h2 B2 t2 tn' t2' md ep E2
       rw [List.append_nil] at E2
       change Means _ _ _ _ (outκ o601) (outK o601 _) ⟨h2, g, d, t2 + 0, os⟩
       (refine segF (t0 := t2) (i := 0) 100000 [1] ((Fin.done (Flow.ret (.bytes ⟨hexB (l + 2)⟩ t2'))) ) E2 (by assumption) (by assumption) ?_; intro o602; refine ⟨by kernel_rfl, by kernel_rfl, by kernel_rfl, fun h602 D602 => ?_⟩)
       exact hR _ _ _ (D602.fin [] (by kernel_rfl))
end Mine
end
section
open PySem PySem.W PySem.Calls PyProof.Rows
set_option Elab.async false
set_option maxRecDepth 100000
namespace Mine
noncomputable def wB (w : World) (i : Nat) : Stmt := match stmtAt w 114 1 with
  | .For _ _ b .. => b.getD i default
  | _ => default
noncomputable def eWW (w : World) : Expr := match wB w 2 with
  | .Expr (.Call _ (.Call _ (e :: _) _ _ :: _) _ _) _ => e
  | _ => default
noncomputable def q_ww := [95, 108, 97, 119, 95, 119, 111, 114, 100, 115, 46, 60, 108, 111, 99, 97, 108, 115, 62, 46]
noncomputable def n_octet := [111, 99, 116, 101, 116]
theorem ww_loop (w : World) (A : Around) (h₀ : Heap) (mods : List Nat) (hA : Fit 5 A (kt1 w) h₀) (R : Result → Shared → Prop) (g : Array GenState) (d : Drawn) (os : OsState) (it acc di fr tb : Nat)  (X : Led) :
   ∀ (rest pre : List (UInt8)) (P : List (List Nat × Nat)) (h : Heap) (B t0 ep : Nat) (dl : List DictEntry) (dn : Nat), (dl = [] ∧ dn = 0 ∨ ∃ k v, dl = [ent w n_octet k v] ∧ dn = 1) → P.length + rest.length ≤ 16777000 →
   Rep (kt1 w) h₀ mods h B [(acc, listO (txV P) ep), (it, iterO "bytes_iterator" (.bytes ⟨(pre ++ rest)⟩ tb) pre.length), (di, dictO dl dn)] X 0 →
   (∀ h1 B' t' ep' Q dl' dn', (rest = [] ∧ dl' = dl ∧ dn' = dn ∨ ∃ k v, dl' = [ent w n_octet k v] ∧ dn' = 1) → Q.map (·.1) = rest.map (fun c => [c.toNat]) → Rep (kt1 w) h₀ mods h1 B' [(acc, listO (txV (P ++ Q)) ep'), (di, dictO dl' dn')] X 0 → R (.ok .next) ⟨h1, g, d, t', os⟩) →
   codeAny (PP w) A (compL w 114 (eWW w) (.ref it) (.ref acc) di q_ww fr) R ⟨h, g, d, t0, os⟩ := by
  obtain ⟨b1, b2, hw⟩ := parF_ex w
  have hA' := hA.under (compL w 114 (eWW w) (.ref it) (.ref acc) di q_ww fr) (m := 4) (by kernel_rfl)
  intro rest
  induction rest with
  | nil =>
    intro pre P h B t0 ep dl dn hdl hsz  D hR
    refine code_start ?_
    refine Means.add0 ?_
    (refine segW (t0 := t0) (i := 0) 100000 [2] (Code.call (Value.builtin "bytes_iterator.__next__") { pos := [Value.ref it] : Args }) D (by assumption) (by assumption) ?_; intro o11; refine ⟨by kernel_rfl, by kernel_rfl, by kernel_rfl, by kernel_rfl, by kernel_rfl, fun h11 D11 => ?_⟩)
    refine callW_of rfl ?_
    rw [mark_none]
    refine r_bend (Fit.inner hA' D11 _ (by kernel_rfl) (by kernel_rfl)) it tb pre.length (pre ++ []) (by simp) (D11.give [0, 1] (by kernel_rfl)) fun g1 t' x y a1 => ?_
    obtain ⟨B2, E1⟩ := D11.backP [0, 1] [2, 3, 0, 1] ([(acc, listO (txV P) ep), (di, dictO dl dn)] ++ [(y, tupO []), (x, stopO y)]) (by kernel_rfl) a1 (by kernel_rfl)
    refine Means.add0 ?_
    (refine segF (t0 := t') (i := 0) 100000 [4] (Fin.done Flow.next) E1 (by assumption) (by assumption) ?_; intro o12; refine ⟨by kernel_rfl, by kernel_rfl, by kernel_rfl, fun h12 D12 => ?_⟩)
    obtain ⟨B3, E2⟩ := D12.pickE [0, 1] [(acc, listO (txV (P ++ [])) ep), (di, dictO dl dn)] (by rw [List.append_nil P]; kernel_rfl)
    exact hR _ _ _ _ [] _ _ (.inl ⟨rfl, rfl, rfl⟩) rfl E2
  | cons q rest ih =>
    intro pre P h B t0 ep dl dn hdl hsz  D hR
    have e1 : pre ++ q :: rest = (pre ++ [q]) ++ rest := by simp
    have e2 : pre.length + 1 = (pre ++ [q]).length := by simp
    have hSP : (txV P).length = P.length := by simp [txV]
    rw [List.length_cons] at hsz
    refine code_start ?_
    refine Means.add0 ?_
    (refine segW (t0 := t0) (i := 0) 100000 [2] (Code.call (Value.builtin "bytes_iterator.__next__") { pos := [Value.ref it] : Args }) D (by assumption) (by assumption) ?_; intro o21; refine ⟨by kernel_rfl, by kernel_rfl, by kernel_rfl, by kernel_rfl, by kernel_rfl, fun h21 D21 => ?_⟩)
    refine callW_of rfl ?_
    rw [mark_none]
    refine r_bnext (Fit.inner hA' D21 _ (by kernel_rfl) (by kernel_rfl)) it tb pre.length (pre ++ q :: rest) q (by simp) (D21.give [0, 1] (by kernel_rfl)) fun g1 t1 t' a1 => ?_
    obtain ⟨B2, E1⟩ := D21.backP [0, 1] [1, 0, 2] [(acc, listO (txV P) ep), (it, iterO "bytes_iterator" (.bytes ⟨(pre ++ q :: rest)⟩ tb) (pre.length + 1)), (di, dictO dl dn)] (by kernel_rfl) a1 (by kernel_rfl)
    refine Means.add0 ?_
    cases b1 <;> rcases hdl with ⟨rfl, rfl⟩ | ⟨k, v, rfl, rfl⟩ <;> (
      (refine segW (t0 := t') (i := 0) 100000 [3, 3, 0, 0, 3] (Code.call (Value.builtin "chr") { pos := [Value.int (Int.ofNat (UInt8.toNat q)) t1] : Args }) E1 (by assumption) (by assumption) ?_; intro o31; refine ⟨by kernel_rfl, by kernel_rfl, by kernel_rfl, by kernel_rfl, by kernel_rfl, fun h31 D31 => ?_⟩)
      refine r_chr q.toNat t1 (by have := q.toNat_lt; omega) fun u1 u2 => ?_
      refine Means.add0 ?_
      obtain ⟨kk, B3, E3⟩ : ∃ kk B', Rep (kt1 w) h₀ mods h31 B' [(acc, listO (txV P) ep), (it, iterO "bytes_iterator" (.bytes ⟨(pre ++ q :: rest)⟩ tb) (pre.length + 1)), (di, dictO [ent w n_octet kk (.int (.ofNat q.toNat) t1)] 1)] X 0 := by first | exact ⟨t', D31.pickE [0, 1, 2] _ (by kernel_rfl!)⟩ | exact ⟨k, D31.pickE [0, 1, 2] _ (by kernel_rfl!)⟩
      clear D31
      (refine segW (t0 := u2) (i := 0) 100000 [] ((.call (.builtin "list.append") ⟨[.ref acc, .str ⟨⟨[q.toNat]⟩⟩ u1], []⟩) ) E3 (by assumption) (by assumption) ?_; intro o102; refine ⟨by kernel_rfl, by kernel_rfl, by kernel_rfl, by kernel_rfl, by kernel_rfl, fun h102 D102 => ?_⟩)
      refine callW_of rfl ?_
      rw [mark_none]
      refine r_append acc ep (txV P) _ (by omega) (D102.give [1] (by kernel_rfl)) fun g3 t3 a3 => ?_
      obtain ⟨B4, E4⟩ := D102.backP [1] [0, 1, 2] [(acc, listO (txV P ++ [.str ⟨⟨[q.toNat]⟩⟩ u1]) (ep + 1)), (it, iterO "bytes_iterator" (.bytes ⟨(pre ++ q :: rest)⟩ tb) (pre.length + 1)), (di, dictO [ent w n_octet kk (.int (.ofNat q.toNat) t1)] 1)] (by kernel_rfl) a3 (by kernel_rfl)
      refine Means.add0 ?_
      (refine segF (t0 := t3) (i := 0) 100000 [] ((Fin.again (compL w 114 (eWW w) (.ref it) (.ref acc) di q_ww fr)) ) E4 (by assumption) (by assumption) ?_; intro o103; refine ⟨by kernel_rfl, by kernel_rfl, by kernel_rfl, fun h103 D103 => ?_⟩)
      obtain ⟨B5, E5⟩ := D103.pickE [0, 1, 2] [(acc, listO (txV P ++ [.str ⟨⟨[q.toNat]⟩⟩ u1]) (ep + 1)), (it, iterO "bytes_iterator" (.bytes ⟨(pre ++ q :: rest)⟩ tb) (pre.length + 1)), (di, dictO [ent w n_octet kk (.int (.ofNat q.toNat) t1)] 1)] (by kernel_rfl)
      have e3 : txV P ++ [.str ⟨⟨[q.toNat]⟩⟩ u1] = txV (P ++ [([q.toNat], u1)]) := by simp [txV]
      rw [e1, e2, e3] at E5
      refine ⟨by kernel_rfl, ih (pre ++ [q]) (P ++ [([q.toNat], u1)]) _ _ _ _ _ _ (.inr ⟨_, _, rfl, rfl⟩) (by rw [List.length_append, List.length_singleton]; omega)  E5 fun h1 B' t9 ep' Q dl' dn' hd2 hQ E => ?_⟩
      refine hR h1 B' t9 ep' (([q.toNat], u1) :: Q) dl' dn' (.inr (hd2.elim (fun h => ⟨_, _, h.2.1, h.2.2⟩) id)) (by rw [List.map_cons, List.map_cons, hQ]) ?_
      rw [List.append_assoc] at E
      exact E
)
theorem ww_start (w : World) (A : Around) (h₀ : Heap) (mods : List Nat) (hA : Fit 5 A (kt1 w) h₀) (R : Result → Shared → Prop) (g : Array GenState) (d : Drawn) (os : OsState) (it acc di fr tb : Nat)  (F : List (UInt8)) (hne : F ≠ []) (X : Led) (hz : F.length ≤ 1000000)  (h : Heap) (B t0 : Nat)
   (D : Rep (kt1 w) h₀ mods h B [(acc, listO ([]) 0), (it, iterO "bytes_iterator" (.bytes ⟨F⟩ tb) 0), (di, dictO [] 0)] X 0)
   (hR : ∀ h1 B' t' ep' Q dl' dn', (∃ k v, dl' = [ent w n_octet k v] ∧ dn' = 1) → Q.map (·.1) = F.map (fun c => [c.toNat]) → Rep (kt1 w) h₀ mods h1 B' [(acc, listO (txV Q) ep'), (di, dictO dl' dn')] X 0 → R (.ok .next) ⟨h1, g, d, t', os⟩) :
   codeAny (PP w) A (compS w 114 (eWW w) (.ref it) (.ref acc) di q_ww fr) R ⟨h, g, d, t0, os⟩ := by
  obtain ⟨b1, b2, hw⟩ := parF_ex w
  have hA' := hA.under (compS w 114 (eWW w) (.ref it) (.ref acc) di q_ww fr) (m := 4) (by kernel_rfl)
  refine code_start ?_
  refine Means.add0 ?_
  cases b2 <;> cases b1 <;> (
    (first | (refine segF (t0 := t0) (i := 0) 100000 [2, 2, 1, 2, 2] ((Fin.again (compL w 114 (eWW w) (.ref it) (.ref acc) di q_ww fr)) ) D (by assumption) (by assumption) ?_; intro o1; refine ⟨by kernel_rfl!, by kernel_rfl!, by kernel_rfl!, fun h1 D1 => ?_⟩) | (refine segF (t0 := t0) (i := 0) 100000 [] ((Fin.again (compL w 114 (eWW w) (.ref it) (.ref acc) di q_ww fr)) ) D (by assumption) (by assumption) ?_; intro o1; refine ⟨by kernel_rfl!, by kernel_rfl!, by kernel_rfl!, fun h1 D1 => ?_⟩))
    obtain ⟨B2, E1⟩ := D1.pickE [0, 1, 2] [(acc, listO (txV []) 0), (it, iterO "bytes_iterator" (.bytes ⟨([] ++ F)⟩ tb) ([] : List (UInt8)).length), (di, dictO [] 0)] (by kernel_rfl)
    exact ⟨by kernel_rfl, ww_loop w A h₀ mods hA R g d os it acc di fr tb  X F [] [] _ _ _ _ _ _ (.inl ⟨rfl, rfl⟩) (by rw [List.length_nil]; omega)  E1 fun h1 B' t' ep' Q dl' dn' hd => hR h1 B' t' ep' Q dl' dn' (hd.elim (fun h => absurd h.1 hne) id)⟩)
end Mine
end
section
open PySem PySem.W PySem.Calls PyProof.Rows
set_option Elab.async false
set_option maxRecDepth 100000
namespace Mine
noncomputable def n_places := [112, 108, 97, 99, 101, 115]
noncomputable def n_pairs := [112, 97, 105, 114, 115]
noncomputable def n_words := [119, 111, 114, 100, 115]
noncomputable def n_place := [112, 108, 97, 99, 101]
noncomputable def n_number := [110, 117, 109, 98, 101, 114]
noncomputable def woF (w : World) (k0 k1 k2 pa qa wa : Nat) (dl : List DictEntry) (n : Nat) : Obj := fobj (ent w n_places k0 (.ref pa) :: ent w n_pairs k1 (.ref qa) :: ent w n_words k2 (.ref wa) :: dl) n
noncomputable def woS (w : World) (dl : List DictEntry) (n : Nat) : Prop := (dl = [] ∧ n = 3) ∨ ∃ kp vp kn vn, dl = [ent w n_place kp vp, ent w n_number kn vn] ∧ n = 5
noncomputable def wordOf (x p : Nat) : List Nat := [66, 65 + x / 16, 65 + x % 16, 65 + p]
theorem hexL_pos (n : Nat) (h : n ≠ 0) : hexL n = hexL (n / 16) ++ [n % 16] := by
  rw [hexL, dif_neg h]
theorem hex_word (x p : Nat) (hx : x < 256) (hp : p < 16) : hexL (4096 + 16 * x + p) = [1, x / 16, x % 16, p] := by
  rw [hexL_pos _ (by omega), show (4096 + 16 * x + p) / 16 = 256 + x by omega, show (4096 + 16 * x + p) % 16 = p by omega]
  rw [hexL_pos _ (by omega), show (256 + x) / 16 = 16 + x / 16 by omega, show (256 + x) % 16 = x % 16 by omega]
  rw [hexL_pos _ (by omega), show (16 + x / 16) / 16 = 1 by omega, show (16 + x / 16) % 16 = x / 16 by omega]
  rw [hexL_pos 1 (by decide), show 1 / 16 = 0 from rfl]
  have h0 : hexL 0 = [] := by rw [hexL]; rfl
  rw [h0]
  rfl
theorem word_bytes (x p : Nat) (hx : x < 256) (hp : p < 16) : (hexB (4096 + 16 * x + p)).map (fun c => [c.toNat]) = (wordOf x p).map fun a => [a] := by
  have e := hexB_toNat (4096 + 16 * x + p)
  unfold hexS at e
  rw [hex_word x p hx hp] at e
  have e2 := congrArg (List.map fun a : Nat => [a]) e
  rw [List.map_map] at e2
  rw [show (fun c : UInt8 => [c.toNat]) = (fun a : Nat => [a]) ∘ UInt8.toNat from rfl, e2]
  rfl
theorem hexB_len (x p : Nat) (hx : x < 256) (hp : p < 16) : (hexB (4096 + 16 * x + p)).length = 4 := by
  unfold hexB
  rw [List.length_map, hex_word x p hx hp]
  rfl
theorem flat_ones (l : List Nat) : (l.map fun a => [a]).flatten = l := by
  induction l with
  | nil => rfl
  | cons a l ih => rw [List.map_cons, List.flatten_cons, ih]; rfl
noncomputable def woC (w : World) (it f : Nat) : Code := forOf (stmtAt w 114 1) (.ref it) (envOf w 114 f q_ww)
theorem wo_turn (w : World) (A : Around) (h₀ : Heap) (mods : List Nat) (hA : Fit 50 A (kt1 w) h₀) (R : Result → Shared → Prop) (g : Array GenState) (d : Drawn) (os : OsState) (f it k0 k1 k2 pa qa wa ep eq : Nat) (Q : List (Nat × Nat))
   (q : Nat × Nat) (pre rest : List (Nat × Nat)) (W : List (List Nat × Nat)) (hW : W.length ≤ 1000000) (x tx : Nat) (hx : (natV Q)[q.1]? = some (.int (.ofNat x) tx)) (hq : q.1 < 16) (hx2 : x < 256) (X : Led) (h : Heap) (B t0 ew : Nat) (dl : List DictEntry) (n : Nat) (hdl : woS w dl n)
   (D : Rep (kt1 w) h₀ mods h B [(f, woF w k0 k1 k2 pa qa wa dl n), (it, iterO "list_iterator" (.ref pa) pre.length), (pa, listO (natV (pre ++ q :: rest)) ep), (qa, listO (natV Q) eq), (wa, listO (txV W) ew)] X 0)
   (hR : ∀ h' B' t' dl' n' tk ew', woS w dl' n' → Rep (kt1 w) h₀ mods h' B' [(f, woF w k0 k1 k2 pa qa wa dl' n'), (it, iterO "list_iterator" (.ref pa) (pre.length + 1)), (pa, listO (natV (pre ++ q :: rest)) ep), (qa, listO (natV Q) eq), (wa, listO (txV (W ++ [(wordOf x q.1, tk)])) ew')] X 0 → codeAny (PP w) A (woC w it f) R ⟨h', g, d, t', os⟩) :
   codeAny (PP w) A (woC w it f) R ⟨h, g, d, t0, os⟩ := by
  obtain ⟨b1, b2, hw⟩ := parF_ex w
  have hA' := hA.under (woC w it f) (m := 49) (by kernel_rfl)
  refine code_start ?_
  refine Means.add0 ?_
  (refine segW (t0 := t0) (i := 0) 100000 [2] (Code.call (Value.builtin "list_iterator.__next__") { pos := [Value.ref it] : Args }) D (by assumption) (by assumption) ?_; intro o21; refine ⟨by kernel_rfl, by kernel_rfl, by kernel_rfl, by kernel_rfl, by kernel_rfl, fun h21 D21 => ?_⟩)
  refine callW_of rfl ?_
  rw [mark_none]
  refine r_lnext (Fit.inner hA' D21 _ (by kernel_rfl) (by kernel_rfl)) it pa pre.length ep (natV (pre ++ q :: rest)) (.int (.ofNat q.1) q.2) (by simp [natV]) (D21.give [0, 1, 1] (by kernel_rfl)) fun g1 t' a1 => ?_
  obtain ⟨B2, E1⟩ := D21.backP [0, 1, 1] [2, 0, 1, 3, 4] [(f, woF w k0 k1 k2 pa qa wa dl n), (it, iterO "list_iterator" (.ref pa) (pre.length + 1)), (pa, listO (natV (pre ++ q :: rest)) ep), (qa, listO (natV Q) eq), (wa, listO (txV W) ew)] (by kernel_rfl) a1 (by kernel_rfl)
  refine Means.add0 ?_
  cases b1 <;> rcases hdl with ⟨rfl, rfl⟩ | ⟨kp, vp, kn, vn, rfl, rfl⟩ <;> (
    (refine segW (t0 := t') (i := 0) 100000 [1, 1, 1, 1, 4, 4, 4] (Code.call (Value.builtin "list.__getitem__") { pos := [Value.ref qa, Value.int (Int.ofNat q.fst) q.snd] : Args }) E1 (by assumption) (by assumption) ?_; intro o31; refine ⟨by kernel_rfl, by kernel_rfl, by kernel_rfl, by kernel_rfl, by kernel_rfl, fun h31 D31 => ?_⟩)
    refine callW_of rfl ?_
    rw [mark_none]
    refine r_lget qa eq q.1 q.2 (natV Q) _ hx (by omega) (D31.give [0, 0, 0, 1] (by kernel_rfl)) ?_
    refine Means.add0 ?_
    (refine segW (t0 := t' + outI o31) (i := 0) 100000 [1, 1, 1, 1, 1, 1, 1] (Code.call (Value.builtin "int.__mod__") { pos := [Value.int (Int.ofNat q.fst) q.snd, Value.int 2 (t' + 7)] : Args }) D31 (by assumption) (by assumption) ?_; intro o32; refine ⟨by kernel_rfl, by kernel_rfl, by kernel_rfl, by kernel_rfl, by kernel_rfl, fun h32 D32 => ?_⟩)
    obtain ⟨kq, km, B3, E3⟩ : ∃ kq km B', Rep (kt1 w) h₀ mods h32 B' [(f, woF w k0 k1 k2 pa qa wa [ent w n_place kq (.int (.ofNat q.1) q.2), ent w n_number km (.int (.ofNat (4096 + 16 * x + q.1)) (t' + 5))] 5), (it, iterO "list_iterator" (.ref pa) (pre.length + 1)), (pa, listO (natV (pre ++ q :: rest)) ep), (qa, listO (natV Q) eq), (wa, listO (txV W) ew)] X 0 := by
      first | exact ⟨t', t' + 6, D32.pickE [0, 1, 2, 3, 4] _ (by kernel_rfl!)⟩ | exact ⟨kp, kn, D32.pickE [0, 1, 2, 3, 4] _ (by kernel_rfl!)⟩
    clear D32 D31
    refine r_modN q.1 2 _ _ (by decide) fun u1 u2 => ?_
    rcases Nat.mod_two_eq_zero_or_one q.1 with hm | hm
    · rw [hm]
      refine Means.add0 ?_
      (refine segL (t0 := u2) (i := 0) 100000 [1, 1, 5, 5, 5, 5, 0, 1, 0] ((.call (.ref 80) ⟨[.int (.ofNat (4096 + 16 * x + q.1)) (t' + 5)], []⟩) ) E3 (by assumption) (by assumption) ?_; intro o40; refine ⟨by kernel_rfl, by kernel_rfl, by kernel_rfl, by kernel_rfl, fun h40 D40 => ?_⟩)
      obtain ⟨B4, E4⟩ := D40.pickE [0, 1, 2, 3, 4] [(f, woF w k0 k1 k2 pa qa wa [ent w n_place kq (.int (.ofNat q.1) q.2), ent w n_number km (.int (.ofNat (4096 + 16 * x + q.1)) (t' + 5))] 5), (it, iterO "list_iterator" (.ref pa) (pre.length + 1)), (pa, listO (natV (pre ++ q :: rest)) ep), (qa, listO (natV Q) eq), (wa, listO (txV W) ew)] (by kernel_rfl)
      clear D40 E3
      have hN : Int.natAbs (.ofNat (4096 + 16 * x + q.1)) = 4096 + 16 * x + q.1 := by rfl
      refine int2ap w _ _ (Fit.inner hA' E4 _ (by kernel_rfl) (by kernel_rfl)) _ _ _ g d os (.ofNat (4096 + 16 * x + q.1)) _ (by rw [hN, hexB_len x q.1 hx2 hq]; decide) (E4.give [] (by kernel_rfl)) fun h5 tb t5 a5 => ?_
      rw [hN]
      obtain ⟨B6, E6⟩ := E4.backP [] [0, 1, 2, 3, 4] [(f, woF w k0 k1 k2 pa qa wa [ent w n_place kq (.int (.ofNat q.1) q.2), ent w n_number km (.int (.ofNat (4096 + 16 * x + q.1)) (t' + 5))] 5), (it, iterO "list_iterator" (.ref pa) (pre.length + 1)), (pa, listO (natV (pre ++ q :: rest)) ep), (qa, listO (natV Q) eq), (wa, listO (txV W) ew)] (by kernel_rfl) a5 (by kernel_rfl)
      refine Means.add0 ?_
      (refine segL (t0 := t5) (i := 0) 100000 [1, 6] ((compS w 114 (eWW w) (.ref B6) (.ref (B6 + 1)) (B6 + 2) q_ww f) ) E6 (by assumption) (by assumption) ?_; intro o41; refine ⟨by kernel_rfl, by kernel_rfl, by kernel_rfl, by kernel_rfl, fun h41 D41 => ?_⟩)
      obtain ⟨B7, E7⟩ := D41.partX [6, 5, 7] [0, 1, 2, 3, 4] [(B6 + 1, listO [] 0), (B6, iterO "bytes_iterator" (.bytes ⟨hexB (4096 + 16 * x + q.1)⟩ tb) 0), (B6 + 2, dictO [] 0)] [(f, woF w k0 k1 k2 pa qa wa [ent w n_place kq (.int (.ofNat q.1) q.2), ent w n_number km (.int (.ofNat (4096 + 16 * x + q.1)) (t' + 5))] 5), (it, iterO "list_iterator" (.ref pa) (pre.length + 1)), (pa, listO (natV (pre ++ q :: rest)) ep), (qa, listO (natV Q) eq), (wa, listO (txV W) ew)] (by kernel_rfl) (by kernel_rfl)
      refine ww_start w _ h₀ mods (hA'.ar _ (by kernel_rfl) (by kernel_rfl)) _ g d os B6 (B6 + 1) (B6 + 2) f tb (hexB (4096 + 16 * x + q.1)) (by intro e; have := congrArg List.length e; rw [hexB_len x q.1 hx2 hq] at this; cases this) _ (by rw [hexB_len x q.1 hx2 hq]; decide) _ _ _ E7 fun h8 B8 t8 ep8 P dl8 dn8 hdl8 hP E8 => ?_
      rw [word_bytes x q.1 hx2 hq] at hP
      obtain ⟨kk, vv, rfl, rfl⟩ := hdl8
      obtain ⟨B9, E9⟩ := E8.unpartX.pickE [2, 3, 4, 5, 6, 0, 1] ([(f, woF w k0 k1 k2 pa qa wa [ent w n_place kq (.int (.ofNat q.1) q.2), ent w n_number km (.int (.ofNat (4096 + 16 * x + q.1)) (t' + 5))] 5), (it, iterO "list_iterator" (.ref pa) (pre.length + 1)), (pa, listO (natV (pre ++ q :: rest)) ep), (qa, listO (natV Q) eq), (wa, listO (txV W) ew)] ++ [(B6 + 1, listO (txV P) ep8), (B6 + 2, dictO [ent w n_octet kk vv] 1)]) rfl
      refine Means.add0 ?_
      (refine segW (t0 := t8) (i := 0) 100000 [7, 7, 7] (Code.call (Value.builtin "str.join") { pos := [Value.str { cps := { toList := [] : Array Nat } : Str } (u2 + 1), Value.ref (B6 + 1)] : Args }) E9 (by assumption) (by assumption) ?_; intro o42; refine ⟨by kernel_rfl, by kernel_rfl, by kernel_rfl, by kernel_rfl, by kernel_rfl, fun h42 D42 => ?_⟩)
      refine callW_of rfl ?_
      rw [mark_none]
      have hPs : ((P.map (·.1)).map List.length).sum = 4 := by rw [hP]; rfl
      have hPl : P.length = 4 := by have e := congrArg List.length hP; rwa [List.length_map] at e
      refine r_joinS [] (B6 + 1) _ ep8 P (by rw [hPs, hPl]; decide) (D42.give [0, 0, 0, 0, 0, 1] (by kernel_rfl)) fun tk t10 => ?_
      rw [joinL_nil, hP, flat_ones]
      obtain ⟨B10, E10⟩ := D42.pickE [0, 1, 2, 3, 4] [(f, woF w k0 k1 k2 pa qa wa [ent w n_place kq (.int (.ofNat q.1) q.2), ent w n_number km (.int (.ofNat (4096 + 16 * x + q.1)) (t' + 5))] 5), (it, iterO "list_iterator" (.ref pa) (pre.length + 1)), (pa, listO (natV (pre ++ q :: rest)) ep), (qa, listO (natV Q) eq), (wa, listO (txV W) ew)] (by kernel_rfl)
      clear D42 E9
      refine Means.add0 ?_
      (refine segW (t0 := t10) (i := 0) 100000 [] ((.call (.builtin "list.append") ⟨[.ref wa, .str ⟨⟨wordOf x q.1⟩⟩ tk], []⟩) ) E10 (by assumption) (by assumption) ?_; intro o43; refine ⟨by kernel_rfl, by kernel_rfl, by kernel_rfl, by kernel_rfl, by kernel_rfl, fun h43 D43 => ?_⟩)
      refine callW_of rfl ?_
      rw [mark_none]
      refine r_append wa ew (txV W) _ (by rw [txV_len]; omega) (D43.give [0, 0, 0, 0, 1] (by kernel_rfl)) fun h11 t11 a11 => ?_
      obtain ⟨B11, E11⟩ := D43.backP [0, 0, 0, 0, 1] [1, 2, 3, 4, 0] [(f, woF w k0 k1 k2 pa qa wa [ent w n_place kq (.int (.ofNat q.1) q.2), ent w n_number km (.int (.ofNat (4096 + 16 * x + q.1)) (t' + 5))] 5), (it, iterO "list_iterator" (.ref pa) (pre.length + 1)), (pa, listO (natV (pre ++ q :: rest)) ep), (qa, listO (natV Q) eq), (wa, listO (txV W ++ [.str ⟨⟨wordOf x q.1⟩⟩ tk]) (ew + 1))] (by kernel_rfl) a11 (by kernel_rfl)
      refine Means.add0 ?_
      (refine segF (t0 := t11) (i := 0) 100000 [] ((Fin.again (woC w it f)) ) E11 (by assumption) (by assumption) ?_; intro o44; refine ⟨by kernel_rfl, by kernel_rfl, by kernel_rfl, fun h44 D44 => ?_⟩)
      obtain ⟨B12, E12⟩ := D44.pickE [0, 1, 2, 3, 4] [(f, woF w k0 k1 k2 pa qa wa [ent w n_place kq (.int (.ofNat q.1) q.2), ent w n_number km (.int (.ofNat (4096 + 16 * x + q.1)) (t' + 5))] 5), (it, iterO "list_iterator" (.ref pa) (pre.length + 1)), (pa, listO (natV (pre ++ q :: rest)) ep), (qa, listO (natV Q) eq), (wa, listO (txV W ++ [.str ⟨⟨wordOf x q.1⟩⟩ tk]) (ew + 1))] (by kernel_rfl)
      rw [show txV W ++ [.str ⟨⟨wordOf x q.1⟩⟩ tk] = txV (W ++ [(wordOf x q.1, tk)]) by simp [txV]] at E12
      exact ⟨by kernel_rfl, hR _ _ _ _ _ _ _ (.inr ⟨_, _, _, _, rfl, rfl⟩) E12⟩
    · rw [hm]
      refine Means.add0 ?_
      (refine segL (t0 := u2) (i := 0) 100000 [1, 1, 1, 1, 1, 1, 5, 5, 5, 5, 0, 1, 0] ((.call (.ref 80) ⟨[.int (-(.ofNat (4096 + 16 * x + q.1))) (u2 + 1)], []⟩) ) E3 (by assumption) (by assumption) ?_; intro o50; refine ⟨by kernel_rfl, by kernel_rfl, by kernel_rfl, by kernel_rfl, fun h50 D50 => ?_⟩)
      obtain ⟨B4, E4⟩ := D50.pickE [0, 1, 2, 3, 4] [(f, woF w k0 k1 k2 pa qa wa [ent w n_place kq (.int (.ofNat q.1) q.2), ent w n_number km (.int (-(.ofNat (4096 + 16 * x + q.1))) (u2 + 1))] 5), (it, iterO "list_iterator" (.ref pa) (pre.length + 1)), (pa, listO (natV (pre ++ q :: rest)) ep), (qa, listO (natV Q) eq), (wa, listO (txV W) ew)] (by kernel_rfl)
      clear D50 E3
      have hN : Int.natAbs (-(.ofNat (4096 + 16 * x + q.1))) = 4096 + 16 * x + q.1 := by exact Int.natAbs_neg _
      refine int2ap w _ _ (Fit.inner hA' E4 _ (by kernel_rfl) (by kernel_rfl)) _ _ _ g d os (-(.ofNat (4096 + 16 * x + q.1))) _ (by rw [hN, hexB_len x q.1 hx2 hq]; decide) (E4.give [] (by kernel_rfl)) fun h5 tb t5 a5 => ?_
      rw [hN]
      obtain ⟨B6, E6⟩ := E4.backP [] [0, 1, 2, 3, 4] [(f, woF w k0 k1 k2 pa qa wa [ent w n_place kq (.int (.ofNat q.1) q.2), ent w n_number km (.int (-(.ofNat (4096 + 16 * x + q.1))) (u2 + 1))] 5), (it, iterO "list_iterator" (.ref pa) (pre.length + 1)), (pa, listO (natV (pre ++ q :: rest)) ep), (qa, listO (natV Q) eq), (wa, listO (txV W) ew)] (by kernel_rfl) a5 (by kernel_rfl)
      refine Means.add0 ?_
      (refine segL (t0 := t5) (i := 0) 100000 [1, 6] ((compS w 114 (eWW w) (.ref B6) (.ref (B6 + 1)) (B6 + 2) q_ww f) ) E6 (by assumption) (by assumption) ?_; intro o51; refine ⟨by kernel_rfl, by kernel_rfl, by kernel_rfl, by kernel_rfl, fun h51 D51 => ?_⟩)
      obtain ⟨B7, E7⟩ := D51.partX [6, 5, 7] [0, 1, 2, 3, 4] [(B6 + 1, listO [] 0), (B6, iterO "bytes_iterator" (.bytes ⟨hexB (4096 + 16 * x + q.1)⟩ tb) 0), (B6 + 2, dictO [] 0)] [(f, woF w k0 k1 k2 pa qa wa [ent w n_place kq (.int (.ofNat q.1) q.2), ent w n_number km (.int (-(.ofNat (4096 + 16 * x + q.1))) (u2 + 1))] 5), (it, iterO "list_iterator" (.ref pa) (pre.length + 1)), (pa, listO (natV (pre ++ q :: rest)) ep), (qa, listO (natV Q) eq), (wa, listO (txV W) ew)] (by kernel_rfl) (by kernel_rfl)
      refine ww_start w _ h₀ mods (hA'.ar _ (by kernel_rfl) (by kernel_rfl)) _ g d os B6 (B6 + 1) (B6 + 2) f tb (hexB (4096 + 16 * x + q.1)) (by intro e; have := congrArg List.length e; rw [hexB_len x q.1 hx2 hq] at this; cases this) _ (by rw [hexB_len x q.1 hx2 hq]; decide) _ _ _ E7 fun h8 B8 t8 ep8 P dl8 dn8 hdl8 hP E8 => ?_
      rw [word_bytes x q.1 hx2 hq] at hP
      obtain ⟨kk, vv, rfl, rfl⟩ := hdl8
      obtain ⟨B9, E9⟩ := E8.unpartX.pickE [2, 3, 4, 5, 6, 0, 1] ([(f, woF w k0 k1 k2 pa qa wa [ent w n_place kq (.int (.ofNat q.1) q.2), ent w n_number km (.int (-(.ofNat (4096 + 16 * x + q.1))) (u2 + 1))] 5), (it, iterO "list_iterator" (.ref pa) (pre.length + 1)), (pa, listO (natV (pre ++ q :: rest)) ep), (qa, listO (natV Q) eq), (wa, listO (txV W) ew)] ++ [(B6 + 1, listO (txV P) ep8), (B6 + 2, dictO [ent w n_octet kk vv] 1)]) rfl
      refine Means.add0 ?_
      (refine segW (t0 := t8) (i := 0) 100000 [7, 7, 7] (Code.call (Value.builtin "str.join") { pos := [Value.str { cps := { toList := [] : Array Nat } : Str } (u2 + 3), Value.ref (B6 + 1)] : Args }) E9 (by assumption) (by assumption) ?_; intro o52; refine ⟨by kernel_rfl, by kernel_rfl, by kernel_rfl, by kernel_rfl, by kernel_rfl, fun h52 D52 => ?_⟩)
      refine callW_of rfl ?_
      rw [mark_none]
      have hPs : ((P.map (·.1)).map List.length).sum = 4 := by rw [hP]; rfl
      have hPl : P.length = 4 := by have e := congrArg List.length hP; rwa [List.length_map] at e
      refine r_joinS [] (B6 + 1) _ ep8 P (by rw [hPs, hPl]; decide) (D52.give [0, 0, 0, 0, 0, 1] (by kernel_rfl)) fun tk t10 => ?_
      rw [joinL_nil, hP, flat_ones]
      obtain ⟨B10, E10⟩ := D52.pickE [0, 1, 2, 3, 4] [(f, woF w k0 k1 k2 pa qa wa [ent w n_place kq (.int (.ofNat q.1) q.2), ent w n_number km (.int (-(.ofNat (4096 + 16 * x + q.1))) (u2 + 1))] 5), (it, iterO "list_iterator" (.ref pa) (pre.length + 1)), (pa, listO (natV (pre ++ q :: rest)) ep), (qa, listO (natV Q) eq), (wa, listO (txV W) ew)] (by kernel_rfl)
      clear D52 E9
      refine Means.add0 ?_
      (refine segW (t0 := t10) (i := 0) 100000 [] ((.call (.builtin "list.append") ⟨[.ref wa, .str ⟨⟨wordOf x q.1⟩⟩ tk], []⟩) ) E10 (by assumption) (by assumption) ?_; intro o53; refine ⟨by kernel_rfl, by kernel_rfl, by kernel_rfl, by kernel_rfl, by kernel_rfl, fun h53 D53 => ?_⟩)
      refine callW_of rfl ?_
      rw [mark_none]
      refine r_append wa ew (txV W) _ (by rw [txV_len]; omega) (D53.give [0, 0, 0, 0, 1] (by kernel_rfl)) fun h11 t11 a11 => ?_
      obtain ⟨B11, E11⟩ := D53.backP [0, 0, 0, 0, 1] [1, 2, 3, 4, 0] [(f, woF w k0 k1 k2 pa qa wa [ent w n_place kq (.int (.ofNat q.1) q.2), ent w n_number km (.int (-(.ofNat (4096 + 16 * x + q.1))) (u2 + 1))] 5), (it, iterO "list_iterator" (.ref pa) (pre.length + 1)), (pa, listO (natV (pre ++ q :: rest)) ep), (qa, listO (natV Q) eq), (wa, listO (txV W ++ [.str ⟨⟨wordOf x q.1⟩⟩ tk]) (ew + 1))] (by kernel_rfl) a11 (by kernel_rfl)
      refine Means.add0 ?_
      (refine segF (t0 := t11) (i := 0) 100000 [] ((Fin.again (woC w it f)) ) E11 (by assumption) (by assumption) ?_; intro o54; refine ⟨by kernel_rfl, by kernel_rfl, by kernel_rfl, fun h54 D54 => ?_⟩)
      obtain ⟨B12, E12⟩ := D54.pickE [0, 1, 2, 3, 4] [(f, woF w k0 k1 k2 pa qa wa [ent w n_place kq (.int (.ofNat q.1) q.2), ent w n_number km (.int (-(.ofNat (4096 + 16 * x + q.1))) (u2 + 1))] 5), (it, iterO "list_iterator" (.ref pa) (pre.length + 1)), (pa, listO (natV (pre ++ q :: rest)) ep), (qa, listO (natV Q) eq), (wa, listO (txV W ++ [.str ⟨⟨wordOf x q.1⟩⟩ tk]) (ew + 1))] (by kernel_rfl)
      rw [show txV W ++ [.str ⟨⟨wordOf x q.1⟩⟩ tk] = txV (W ++ [(wordOf x q.1, tk)]) by simp [txV]] at E12
      exact ⟨by kernel_rfl, hR _ _ _ _ _ _ _ (.inr ⟨_, _, _, _, rfl, rfl⟩) E12⟩)
end Mine
end
section
open PySem PySem.W PySem.Calls PyProof.Rows
set_option Elab.async false
set_option maxRecDepth 100000
namespace Mine
theorem wo_end (w : World) (A : Around) (h₀ : Heap) (mods : List Nat) (hA : Fit 50 A (kt1 w) h₀) (R : Result → Shared → Prop) (g : Array GenState) (d : Drawn) (os : OsState) (f it pa ep : Nat) (fo : Obj) (P : List (Nat × Nat)) (X : Led) (h : Heap) (B t0 : Nat)
   (D : Rep (kt1 w) h₀ mods h B [(f, fo), (it, iterO "list_iterator" (.ref pa) P.length), (pa, listO (natV P) ep)] X 0)
   (hR : ∀ h' B' t', Rep (kt1 w) h₀ mods h' B' [(f, fo), (pa, listO (natV P) ep)] X 0 → R (.ok .next) ⟨h', g, d, t', os⟩) :
   codeAny (PP w) A (woC w it f) R ⟨h, g, d, t0, os⟩ := by
  obtain ⟨b1, b2, hw⟩ := parF_ex w
  have hA' := hA.under (woC w it f) (m := 49) (by kernel_rfl)
  refine code_start ?_
  refine Means.add0 ?_
  (refine segW (t0 := t0) (i := 0) 100000 [2] (Code.call (Value.builtin "list_iterator.__next__") { pos := [Value.ref it] : Args }) D (by assumption) (by assumption) ?_; intro o11; refine ⟨by kernel_rfl, by kernel_rfl, by kernel_rfl, by kernel_rfl, by kernel_rfl, fun h11 D11 => ?_⟩)
  refine callW_of rfl ?_
  rw [mark_none]
  refine r_lend (Fit.inner hA' D11 _ (by kernel_rfl) (by kernel_rfl)) it pa P.length ep (natV P) (by simp [natV]) (D11.give [0, 1, 1] (by kernel_rfl)) fun g1 t' a b a1 => ?_
  obtain ⟨B2, E2⟩ := D11.backP [0, 1, 1] [0, 1, 2, 3] [(pa, listO (natV P) ep), (b, tupO []), (a, stopO b), (f, fo)] (by kernel_rfl) a1 (by kernel_rfl)
  refine Means.add0 ?_
  (refine segF (t0 := t') (i := 0) 100000 [3] ((Fin.again (Code.block [] (envOf w 114 f q_ww))) ) E2 (by assumption) (by assumption) ?_; intro o12; refine ⟨by kernel_rfl, by kernel_rfl, by kernel_rfl, fun h12 D12 => ?_⟩)
  obtain ⟨B3, E3⟩ := D12.pickE [3, 0] [(f, fo), (pa, listO (natV P) ep)] (by kernel_rfl)
  have hA2 := hA.under (Code.block [] (envOf w 114 f q_ww)) (m := 0) (by kernel_rfl)
  refine ⟨by kernel_rfl, code_start ?_⟩
  refine Means.add0 ?_
  (refine segF (t0 := t' + outI o12) (i := 0) 100000 [] (Fin.done Flow.next) E3 (by assumption) (by assumption) ?_; intro o13; refine ⟨by kernel_rfl, by kernel_rfl, by kernel_rfl, fun h13 D13 => ?_⟩)
  obtain ⟨B4, E4⟩ := D13.pickE [0, 1] [(f, fo), (pa, listO (natV P) ep)] (by kernel_rfl)
  exact hR _ _ _ E4
noncomputable def wordsL (Q P : List Nat) : List (List Nat) := P.map fun p => wordOf (Q.getD p 0) p
theorem wo_all (w : World) (A : Around) (h₀ : Heap) (mods : List Nat) (hA : Fit 50 A (kt1 w) h₀) (R : Result → Shared → Prop) (g : Array GenState) (d : Drawn) (os : OsState) (f it k0 k1 k2 pa qa wa ep eq : Nat) (Q : List (Nat × Nat)) (hQl : Q.length ≤ 16) (hQ : ∀ q ∈ Q, q.1 < 256) (X : Led) :
   ∀ (rest pre : List (Nat × Nat)) (W : List (List Nat × Nat)) (h : Heap) (B t0 ew : Nat) (dl : List DictEntry) (n : Nat), woS w dl n → (∀ q ∈ rest, q.1 < Q.length) → W.length + rest.length ≤ 1000000 →
   Rep (kt1 w) h₀ mods h B [(f, woF w k0 k1 k2 pa qa wa dl n), (it, iterO "list_iterator" (.ref pa) pre.length), (pa, listO (natV (pre ++ rest)) ep), (qa, listO (natV Q) eq), (wa, listO (txV W) ew)] X 0 →
   (∀ h' B' t' dl' n' ew' V, woS w dl' n' → V.map (·.1) = wordsL (Q.map (·.1)) (rest.map (·.1)) → Rep (kt1 w) h₀ mods h' B' [(f, woF w k0 k1 k2 pa qa wa dl' n'), (pa, listO (natV (pre ++ rest)) ep), (qa, listO (natV Q) eq), (wa, listO (txV (W ++ V)) ew')] X 0 → R (.ok .next) ⟨h', g, d, t', os⟩) →
   codeAny (PP w) A (woC w it f) R ⟨h, g, d, t0, os⟩ := by
  intro rest
  induction rest with
  | nil =>
    intro pre W h B t0 ew dl n hdl hq hz D hR
    rw [List.append_nil] at D
    obtain ⟨B2, D2⟩ := D.partX [0, 1, 2] [3, 4] [(f, woF w k0 k1 k2 pa qa wa dl n), (it, iterO "list_iterator" (.ref pa) pre.length), (pa, listO (natV pre) ep)] [(qa, listO (natV Q) eq), (wa, listO (txV W) ew)] rfl rfl
    refine wo_end w A h₀ mods hA R g d os f it pa ep _ pre _ h B2 t0 D2 fun h' B' t' D' => ?_
    have D3 := D'.unpartX
    refine hR h' B' t' dl n ew [] hdl rfl ?_
    rw [List.append_nil, List.append_nil]
    exact D3
  | cons q rest ih =>
    intro pre W h B t0 ew dl n hdl hq hz D hR
    rw [List.length_cons] at hz
    have hq1 := hq q List.mem_cons_self
    have hx := natV_get Q q.1 hq1
    have hm : (Q.getD q.1 (0, 0)) ∈ Q := by
      rw [List.getD_eq_getElem?_getD, List.getElem?_eq_getElem hq1]
      exact List.getElem_mem hq1
    refine wo_turn w A h₀ mods hA R g d os f it k0 k1 k2 pa qa wa ep eq Q q pre rest W (by omega) _ _ hx (by omega) (hQ _ hm) X h B t0 ew dl n hdl D fun h' B' t' dl' n' tk ew' hdl' D' => ?_
    have e1 : pre ++ q :: rest = (pre ++ [q]) ++ rest := by simp
    have e2 : pre.length + 1 = (pre ++ [q]).length := by simp
    rw [e1, e2] at D'
    refine ih (pre ++ [q]) (W ++ [(wordOf (Q.getD q.1 (0, 0)).1 q.1, tk)]) h' B' t' ew' dl' n' hdl' (fun x hx => hq x (List.mem_cons_of_mem _ hx)) (by rw [List.length_append, List.length_singleton]; omega) D' fun h2 B2 t2 dl2 n2 ew2 V hd2 hV D2 => ?_
    rw [← e1, List.append_assoc] at D2
    refine hR h2 B2 t2 dl2 n2 ew2 ((wordOf (Q.getD q.1 (0, 0)).1 q.1, tk) :: V) hd2 ?_ D2
    rw [List.map_cons, hV, List.map_cons]
    show _ = wordOf ((Q.map (·.1)).getD q.1 0) q.1 :: wordsL (Q.map (·.1)) (rest.map (·.1))
    have : (Q.map (·.1)).getD q.1 0 = (Q.getD q.1 (0, 0)).1 := by
      rw [List.getD_eq_getElem?_getD, List.getD_eq_getElem?_getD, List.getElem?_map]
      cases Q[q.1]? <;> rfl
    rw [this]
theorem law_words (w : World) (A : Around) (h₀ : Heap) (hA : Fit 60 A (kt1 w) h₀) (R : Result → Shared → Prop) (B t0 : Nat) (g : Array GenState) (d : Drawn) (os : OsState) (pa qa ep eq : Nat) (P Q : List (Nat × Nat)) (hQl : Q.length ≤ 16) (hQ : ∀ q ∈ Q, q.1 < 256) (hP : ∀ q ∈ P, q.1 < Q.length) (hPz : P.length ≤ 1000) {mods : List Nat}
   (D : Rep (kt1 w) h₀ mods h₀ B [(pa, listO (natV P) ep), (qa, listO (natV Q) eq)] [] 0)
   (hR : ∀ h1 t' wa ew W, W.map (·.1) = wordsL (Q.map (·.1)) (P.map (·.1)) → After h₀ h1 mods [(wa, listO (txV W) ew), (pa, listO (natV P) ep), (qa, listO (natV Q) eq)] → R (.ok (.ret (.ref wa))) ⟨h1, g, d, t', os⟩) :
   codeAny (PP w) A (.call (.ref 114) ⟨[.ref pa, .ref qa], []⟩) R ⟨h₀, g, d, t0, os⟩ := by
  obtain ⟨b1, b2, hw⟩ := parF_ex w
  refine code_ent (D.kt_ (a := 114) (o := obAt w 114) (by kernel_rfl)) (fd := fdAt w 114) (by kernel_rfl) (by have := hA.room; omega) ?_
  refine Means.add0 ?_
  cases b1 <;> (
    (refine segL (t0 := t0) (i := 0) 100000 [0, 3, 3, 3, 3, 3, 3, 3, 1, 1, 1, 1, 5] ((woC w (B + 2) B) ) D (by assumption) (by assumption) ?_; intro o21; refine ⟨by kernel_rfl, by kernel_rfl, by kernel_rfl, by kernel_rfl, fun h21 D21 => ?_⟩)
    obtain ⟨B2, E2⟩ := D21.pickE [2, 4, 0, 1, 3] [(B, woF w t0 (t0 + 1) (t0 + 2) pa qa (B + 1) [] 3), (B + 2, iterO "list_iterator" (.ref pa) ([] : List (Nat × Nat)).length), (pa, listO (natV ([] ++ P)) ep), (qa, listO (natV Q) eq), (B + 1, listO (txV []) 0)] (by kernel_rfl)
    refine wo_all w _ h₀ _ (hA.ar _ (by kernel_rfl) (by kernel_rfl)) _ g d os B (B + 2) t0 (t0 + 1) (t0 + 2) pa qa (B + 1) ep eq Q hQl hQ [] P [] [] _ _ _ _ _ _ (.inl ⟨rfl, rfl⟩) hP (by show 0 + _ ≤ _; omega) E2 fun h3 B3 t3 dl n ew V hdl hV E3 => ?_
    refine Means.add0 ?_
    rcases hdl with ⟨rfl, rfl⟩ | ⟨kp, vp, kn, vn, rfl, rfl⟩ <;> (
      (refine segF (t0 := t3) (i := 0) 100000 [1] ((Fin.done (Flow.ret (.ref (B + 1)))) ) E3 (by assumption) (by assumption) ?_; intro o22; refine ⟨by kernel_rfl, by kernel_rfl, by kernel_rfl, fun h22 D22 => ?_⟩)
      exact hR _ _ (B + 1) ew V hV (D22.finP [3, 1, 2] (by kernel_rfl))))
end Mine
end
section
open PySem PySem.W PySem.Calls PyProof.Rows
set_option Elab.async false
set_option maxRecDepth 100000
namespace Mine
section
variable {prog : Program} {w : World} {A₀ : Around} {Q₀ : PySem.Fin → Shared → Prop} {E₀ : Value → Shared → Prop} {s : Shared}
variable {kt : Nat → Option Obj} {h₀ h : Heap} {mods : List Nat} {B t0 : Nat} {g : Array GenState} {d : Drawn} {os : OsState} {L X : Led} {κ : Ko} {t : Sem PySem.Fin} {r i : Nat}
/-- the stretches, where the first of the world's two rows makes no odds -/
theorem segLb (n : Nat) (sc : List Nat) (c : Code) (D : Rep kt h₀ mods h B L X r) {m₀ : Nat} (hA : Fit m₀ A₀ kt h₀) {b1 b2 : Bool} (hw : w.params = parF w b1 b2)
    (hb : run denF ⟨prog, parF w true b2⟩ kt B t0 n sc κ t L r i [] = run denF ⟨prog, parF w false b2⟩ kt B t0 n sc κ t L r i [])
    (H : let o := run denF ⟨prog, parF w false b2⟩ kt B t0 n sc κ t L r i []
      outKind o = 3 ∧ outH o = none ∧ outC o = c ∧ (outOb o).map (·.1) = (outOb o).map (·.2) ∧
      ∀ h', Rep kt h₀ mods h' B (outL o) X (outR o) → codeAny (model prog w) (around A₀ (outκ o)) c (fun r s'' => Means (model prog w) A₀ Q₀ E₀ (outκ o) (outK o r) s'') ⟨h', g, d, t0 + outI o, os⟩) :
    Means (model prog w) A₀ Q₀ E₀ κ t ⟨h, g, d, t0 + i, os⟩ := by
  cases b1 with
  | false => exact segL n sc c D hA hw H
  | true => refine segL n sc c D hA hw ?_; rw [hb]; exact H
theorem segWb (n : Nat) (sc : List Nat) (c : Code) (D : Rep kt h₀ mods h B L X r) {m₀ : Nat} (hA : Fit m₀ A₀ kt h₀) {b1 b2 : Bool} (hw : w.params = parF w b1 b2)
    (hb : run denF ⟨prog, parF w true b2⟩ kt B t0 n sc κ t L r i [] = run denF ⟨prog, parF w false b2⟩ kt B t0 n sc κ t L r i [])
    (H : let o := run denF ⟨prog, parF w false b2⟩ kt B t0 n sc κ t L r i []
      outKind o = 3 ∧ outH o = none ∧ outAg o = false ∧ outC o = c ∧ (outOb o).map (·.1) = (outOb o).map (·.2) ∧
      ∀ h', Rep kt h₀ mods h' B (outL o) X (outR o) → callW (model prog w) (around A₀ (outκ o)) none c (fun r s'' => Means (model prog w) A₀ Q₀ E₀ (outκ o) (outK o r) s'') ⟨h', g, d, t0 + outI o, os⟩) :
    Means (model prog w) A₀ Q₀ E₀ κ t ⟨h, g, d, t0 + i, os⟩ := by
  cases b1 with
  | false => exact segW n sc c D hA hw H
  | true => refine segW n sc c D hA hw ?_; rw [hb]; exact H
end
end Mine
end
section
open PySem PySem.W PySem.Calls PyProof.Rows
set_option Elab.async false
set_option maxRecDepth 100000
namespace Mine
noncomputable def lnD (w : World) (k : Nat → Nat) (pb : Nat) : Obj := { cls := .type "dict", data := .dict ⟨[ent w n_lineno (k 0) (.int 1 (k 1)), ent w n_instream (k 2) .none, ent w n_whitespace (k 3) (.str wsS (k 4)), ent w n_pushback (k 5) (.ref pb)]⟩ 4 }
noncomputable def n_self := [115, 101, 108, 102]
noncomputable def n_token := [116, 111, 107, 101, 110]
structure LN where
  lx : Nat
  ld : Nat
  pb : Nat
  k : Nat → Nat
/-- a line: its lexer's objects, with what is pushed -/
noncomputable def LN.led (a : LN) (w : World) (p : List Value) (e : Nat) : Led := [(a.lx, instO a.ld), (a.ld, lnD w a.k a.pb), (a.pb, listO p e)]
theorem twelve {P : Nat → Prop} (h1 : P 1) (h2 : P 2) (h3 : P 3) (h4 : P 4) (h5 : P 5) (h6 : P 6) (h7 : P 7) (h8 : P 8) (h9 : P 9) (h10 : P 10) (h11 : P 11) (h12 : P 12) : ∀ n, 1 ≤ n → n ≤ 12 → P n
  | 1, _, _ => h1 | 2, _, _ => h2 | 3, _, _ => h3 | 4, _, _ => h4 | 5, _, _ => h5 | 6, _, _ => h6
  | 7, _, _ => h7 | 8, _, _ => h8 | 9, _, _ => h9 | 10, _, _ => h10 | 11, _, _ => h11 | 12, _, _ => h12
  | 0, h, _ => absurd h (by decide)
  | n + 13, _, h => absurd h (by omega)
section
variable {prog : Program} {w : World} {A₀ : Around} {Q₀ : PySem.Fin → Shared → Prop} {E₀ : Value → Shared → Prop} {s : Shared}
variable {kt : Nat → Option Obj} {h₀ h : Heap} {mods : List Nat} {B t0 : Nat} {g : Array GenState} {d : Drawn} {os : OsState} {L X : Led} {κ : Ko} {r i : Nat}
/-- a stretch whose start holds a number that it does not depend on -/
theorem segWn (N : Nat) (sc : List Nat) (c : Code) (D : Rep kt h₀ mods h B L X r) {m₀ : Nat} (hA : Fit m₀ A₀ kt h₀) {b1 b2 : Bool} (hw : w.params = parF w b1 b2) (T : Nat → Sem PySem.Fin) (n : Nat) (h1 : 1 ≤ n) (h2 : n ≤ 12)
    (hr : ∀ n, 1 ≤ n → n ≤ 12 → run denF ⟨prog, parF w b1 b2⟩ kt B t0 N sc κ (T n) L r i [] = run denF ⟨prog, parF w b1 b2⟩ kt B t0 N sc κ (T 1) L r i [])
    (H : let o := run denF ⟨prog, parF w b1 b2⟩ kt B t0 N sc κ (T 1) L r i []
      outKind o = 3 ∧ outH o = none ∧ outAg o = false ∧ outC o = c ∧ (outOb o).map (·.1) = (outOb o).map (·.2) ∧
      ∀ h', Rep kt h₀ mods h' B (outL o) X (outR o) → callW (model prog w) (around A₀ (outκ o)) none c (fun r s'' => Means (model prog w) A₀ Q₀ E₀ (outκ o) (outK o r) s'') ⟨h', g, d, t0 + outI o, os⟩) :
    Means (model prog w) A₀ Q₀ E₀ κ (T n) ⟨h, g, d, t0 + i, os⟩ := by
  refine segW N sc c D hA hw ?_
  rw [hr n h1 h2]
  exact H
end
theorem r_llen {prog : Program} {kt : Nat → Option Obj} {w : World} {A : Around} {h₀ : Heap} {R : Result → Shared → Prop} {B t0 : Nat} {g : Array GenState} {d : Drawn} {os : OsState} {mods : List Nat} (la ep n : Nat) (l : List Value) (hn : l.length = n) (D : Rep kt h₀ mods h₀ B [(la, listO l ep)] [] 0)
   (hR : ∀ t1 t', R (.ok (.ret (.int (.ofNat n) t1))) ⟨h₀, g, d, t', os⟩) :
   codeAny (model prog w) A (.call (.builtin "list.__len__") ⟨[.ref la], []⟩) R ⟨h₀, g, d, t0, os⟩ := by
  have hl : h₀.get? la = some (listO l ep) := D.get (j := 0) rfl
  subst hn
  exact code_meets F.slot_list_len ⟨_, hl, rfl⟩ F.entry_list_len (F.args_list_len_1 _) (AutoListH.list___len___list_0 la ⟨l⟩ ep) ⟨hl, hR _ _⟩
theorem pop0_obj (l : List Value) (v : Value) (ep : Nat) : Obj.mapSeq (fun xs => xs.eraseIdxIfInBounds 0) (listO (v :: l) ep) = listO l (ep + 1) := by
  have e1 : (⟨v :: l⟩ : Array Value).eraseIdxIfInBounds 0 = ⟨l⟩ := by
    apply Array.toList_inj.mp
    rw [Array.toList_eraseIdxIfInBounds]
    rfl
  show (⟨.type "list", none, .seq ((⟨v :: l⟩ : Array Value).eraseIdxIfInBounds 0) (if ((⟨v :: l⟩ : Array Value).eraseIdxIfInBounds 0).size == (⟨v :: l⟩ : Array Value).size then ep else ep + 1), #[]⟩ : Obj) = _
  rw [e1]
  have e2 : ((⟨l⟩ : Array Value).size == (⟨v :: l⟩ : Array Value).size) = false := by
    show (l.length == (v :: l).length) = false
    rw [List.length_cons]
    exact beq_eq_false_iff_ne.mpr (by omega)
  rw [e2]
  rfl
theorem r_pop0 {prog : Program} {kt : Nat → Option Obj} {w : World} {A : Around} {h₀ : Heap} {R : Result → Shared → Prop} {B t0 : Nat} {g : Array GenState} {d : Drawn} {os : OsState} {mods : List Nat} (la ep u : Nat) (l : List Value) (v : Value) (hsz : l.length + 1 ≤ 16777216) (D : Rep kt h₀ mods h₀ B [(la, listO (v :: l) ep)] [] 0)
   (hR : ∀ h1 t', After h₀ h1 mods [(la, listO l (ep + 1))] → R (.ok (.ret v)) ⟨h1, g, d, t', os⟩) :
   codeAny (model prog w) A (.call (.builtin "list.pop") ⟨[.ref la, .int 0 u], []⟩) R ⟨h₀, g, d, t0, os⟩ := by
  have hl : h₀.get? la = some (listO (v :: l) ep) := D.get (j := 0) rfl
  have hk : seqIndex? 0 (⟨v :: l⟩ : Array Value).size = some 0 := by
    unfold seqIndex?
    show (if _ then _ else _) = _
    have e : ((0 : Int) < ((l.length + 1 : Nat) : Int)) := by omega
    have e2 : (0 : Int) < (((⟨v :: l⟩ : Array Value).size : Nat) : Int) := e
    simp [e2]
  refine code_meets F.slot_list_pop ⟨_, hl, rfl⟩ F.entry_list_pop (F.args_list_pop_2 _ _) (PySem.MeetsSeq.list_pop_at la ⟨v :: l⟩ ep 0 u 0 v (by decide) hk (by rw [List.getElem?_toArray]; rfl) (by show (v :: l).length ≤ _; rw [List.length_cons, sizeLine_eq]; exact hsz)) ⟨hl, ?_⟩
  have D1 := D.update (j := 0) (p := (la, listO (v :: l) ep)) (f := Obj.mapSeq fun xs => xs.eraseIdxIfInBounds 0) rfl rfl
  refine hR _ _ (D1.fin [1] ?_)
  show [(la, Obj.mapSeq (fun xs => xs.eraseIdxIfInBounds 0) (listO (v :: l) ep))] = _
  rw [pop0_obj]
/-- push_token -/
theorem ln_push (w : World) (A : Around) (h₀ : Heap) (hA : Fit 60 A (kt1 w) h₀) (R : Result → Shared → Prop) (B t0 : Nat) (g : Array GenState) (d : Drawn) (os : OsState) (a : LN) (Q : List (List Nat × Nat)) (e : Nat) (x : List Nat) (tx : Nat) {mods : List Nat} (hz : Q.length ≤ 1000000)
   (D : Rep (kt1 w) h₀ mods h₀ B (a.led w (txV Q) e) [] 0)
   (hR : ∀ h1 t' e', After h₀ h1 mods (a.led w (txV (Q ++ [(x, tx)])) e') → R (.ok (.ret .none)) ⟨h1, g, d, t', os⟩) :
   codeAny (PP w) A (.call (.ref 66) ⟨[.ref a.lx, .str ⟨⟨x⟩⟩ tx], []⟩) R ⟨h₀, g, d, t0, os⟩ := by
  obtain ⟨b1, b2, hw⟩ := parF_ex w
  refine code_ent (D.kt_ (a := 66) (o := obAt w 66) (by kernel_rfl)) (fd := fdAt w 66) (by kernel_rfl) (by have := hA.room; omega) ?_
  refine Means.add0 ?_
  cases b1 <;> (
    (refine segW (t0 := t0) (i := 0) 100000 [0, 4, 4, 4, 4, 4, 1, 0, 0, 0, 1, 1, 0, 0, 0, 1, 1, 0, 2, 3, 3, 3, 3, 4] (Code.call (Value.builtin "list.append") { pos := [Value.ref a.pb, Value.str { cps := { toList := x : Array Nat } : Str } tx] : Args }) D (by assumption) (by assumption) ?_; intro o31; refine ⟨by kernel_rfl, by kernel_rfl, by kernel_rfl, by kernel_rfl, by kernel_rfl, fun h31 D31 => ?_⟩)
    refine callW_of rfl ?_
    rw [mark_none]
    refine r_append a.pb e (txV Q) (.str ⟨⟨x⟩⟩ tx) (by rw [txV_len]; omega) (D31.give [0, 0, 1, 0] (by kernel_rfl)) fun h2 t2 a2 => ?_
    obtain ⟨B2, E2⟩ := D31.backP [0, 0, 1, 0] [1, 2, 0, 3] (a.led w (txV Q ++ [.str ⟨⟨x⟩⟩ tx]) (e + 1) ++ [(B, fobj [ent w n_self t0 (.ref a.lx), ent w n_token (t0 + 1) (.str ⟨⟨x⟩⟩ tx)] 2)]) (by kernel_rfl) a2 (by kernel_rfl)
    refine Means.add0 ?_
    (refine segF (t0 := t2) (i := 0) 100000 [] ((Fin.done (Flow.ret .none)) ) E2 (by assumption) (by assumption) ?_; intro o32; refine ⟨by kernel_rfl, by kernel_rfl, by kernel_rfl, fun h32 D32 => ?_⟩)
    rw [txV_app] at hR
    exact hR _ _ (e + 1) (D32.finP [0, 1, 2] (by kernel_rfl)))
/-- get_token of what was pushed -/
theorem ln_get (w : World) (A : Around) (h₀ : Heap) (hA : Fit 60 A (kt1 w) h₀) (R : Result → Shared → Prop) (B t0 : Nat) (g : Array GenState) (d : Drawn) (os : OsState) (a : LN) (Q : List (List Nat × Nat)) (e : Nat) (x : List Nat) (tx : Nat) {mods : List Nat} (hz : Q.length ≤ 11)
   (D : Rep (kt1 w) h₀ mods h₀ B (a.led w (txV ((x, tx) :: Q)) e) [] 0)
   (hR : ∀ h1 t' e', After h₀ h1 mods (a.led w (txV Q) e') → R (.ok (.ret (.str ⟨⟨x⟩⟩ tx))) ⟨h1, g, d, t', os⟩) :
   codeAny (PP w) A (.call (.ref 59) ⟨[.ref a.lx], []⟩) R ⟨h₀, g, d, t0, os⟩ := by
  obtain ⟨b1, b2, hw⟩ := parF_ex w
  refine code_ent (D.kt_ (a := 59) (o := obAt w 59) (by kernel_rfl)) (fd := fdAt w 59) (by kernel_rfl) (by have := hA.room; omega) ?_
  refine Means.add0 ?_
  cases b1 <;> (
    (refine segW (t0 := t0) (i := 0) 100000 [0, 4, 4, 4, 1, 0, 0, 0, 1, 1, 0, 0, 0, 1, 1, 0, 2, 3, 3, 1, 3] (Code.call (Value.builtin "list.__len__") { pos := [Value.ref a.pb] : Args }) D (by assumption) (by assumption) ?_; intro o41; refine ⟨by kernel_rfl, by kernel_rfl, by kernel_rfl, by kernel_rfl, by kernel_rfl, fun h41 D41 => ?_⟩)
    refine callW_of rfl ?_
    rw [mark_none]
    refine r_llen a.pb e (Q.length + 1) (txV ((x, tx) :: Q)) (by rw [txV_len, List.length_cons]) (D41.give [0, 0, 1, 0] (by kernel_rfl)) fun t1 t2 => ?_
    refine Means.add0 ?_
    refine segWn (t0 := t2) (i := 0) 100000 [4, 1, 0, 0, 0, 1, 1, 0, 0, 0, 1, 1, 0, 2, 3, 3, 3, 3] (Code.call (.builtin "list.pop") { pos := [.ref a.pb, .int 0 (t2 + 2)] : Args }) D41 (by assumption) (by assumption) (fun n => outK o41 (.ok (.ret (.int (.ofNat n) t1)))) (Q.length + 1) (by omega) (by omega) (twelve rfl (by kernel_rfl) (by kernel_rfl) (by kernel_rfl) (by kernel_rfl) (by kernel_rfl) (by kernel_rfl) (by kernel_rfl) (by kernel_rfl) (by kernel_rfl) (by kernel_rfl) (by kernel_rfl)) ?_; intro o42; refine ⟨by kernel_rfl, by kernel_rfl, by kernel_rfl, by kernel_rfl, by kernel_rfl, fun h42 D42 => ?_⟩
    clear D41
    refine callW_of rfl ?_
    rw [mark_none]
    refine r_pop0 a.pb e _ (txV Q) (.str ⟨⟨x⟩⟩ tx) (by rw [txV_len]; omega) (D42.give [0, 0, 1, 0] (by kernel_rfl)) fun h3 t3 a3 => ?_
    obtain ⟨B3, E3⟩ := D42.backP [0, 0, 1, 0] [1, 2, 0, 3] (a.led w (txV Q) (e + 1) ++ [(B, fobj [ent w n_self t0 (.ref a.lx)] 1)]) (by kernel_rfl) a3 (by kernel_rfl)
    refine Means.add0 ?_
    (refine segF (t0 := t3) (i := 0) 100000 [] ((Fin.done (Flow.ret (.str ⟨⟨x⟩⟩ tx))) ) E3 (by assumption) (by assumption) ?_; intro o43; refine ⟨by kernel_rfl, by kernel_rfl, by kernel_rfl, fun h43 D43 => ?_⟩)
    exact hR _ _ (e + 1) (D43.finP [0, 1, 2] (by kernel_rfl)))
end Mine
end
section
open PySem PySem.W PySem.Calls PyProof.Rows
set_option Elab.async false
set_option maxRecDepth 100000
namespace Mine
noncomputable def n_at := [97, 116]
noncomputable def n_lines := [108, 105, 110, 101, 115]
noncomputable def n_word := [119, 111, 114, 100]
noncomputable def q_ld := [95, 108, 97, 119, 95, 100, 101, 97, 108, 116, 46, 60, 108, 111, 99, 97, 108, 115, 62, 46]
/-- a line: its letter, its lexer, what was pushed -/
structure LI where
  c : Nat
  a : LN
  Q : List (List Nat × Nat)
  e : Nat
noncomputable def LI.led (i : LI) (w : World) : Led := i.a.led w (txV i.Q) i.e
noncomputable def linesL (w : World) (T : List LI) : Led := T.flatMap fun i => i.led w
noncomputable def linesK (T : List LI) : List (Str × Value) := T.map fun i => (⟨⟨[i.c]⟩⟩, .ref i.a.lx)
noncomputable def ldF (w : World) (k0 k1 k2 wa ta at_ da : Nat) (dl : List DictEntry) (n : Nat) : Obj := fobj (ent w n_words k0 (.ref wa) :: ent w n_at k1 (.int (.ofNat at_) ta) :: ent w n_lines k2 (.ref da) :: dl) n
noncomputable def ldS (w : World) (dl : List DictEntry) (n : Nat) : Prop := (dl = [] ∧ n = 3) ∨ ∃ k v, dl = [ent w n_word k v] ∧ n = 4
noncomputable def ldC (w : World) (it f : Nat) : Code := forOf (stmtAt w 119 1) (.ref it) (envOf w 119 f q_ld)
theorem linesL_app (w : World) (a b : List LI) : linesL w (a ++ b) = linesL w a ++ linesL w b := by unfold linesL; rw [List.flatMap_append]
theorem linesL_cons (w : World) (i : LI) (b : List LI) : linesL w (i :: b) = i.led w ++ linesL w b := rfl
theorem Rep.openL {kt : Nat → Option Obj} {h₀ h : Heap} {mods : List Nat} {B : Nat} {L X : Led} {r : Nat} {w : World} {T1 T2 : List LI} {i : LI} (D : Rep kt h₀ mods h B L (linesL w (T1 ++ i :: T2) ++ X) r) : Rep kt h₀ mods h B (L ++ i.led w) (linesL w (T1 ++ T2) ++ X) r := by
  refine D.perm ?_
  rw [linesL_app, linesL_app, linesL_cons, List.append_assoc, List.append_assoc, List.append_assoc]
  refine List.Perm.append_left L ?_
  rw [List.append_assoc]
  exact (List.perm_append_comm_assoc _ _ _)
theorem Rep.shutL {kt : Nat → Option Obj} {h₀ h : Heap} {mods : List Nat} {B : Nat} {L X : Led} {r : Nat} {w : World} {T1 T2 : List LI} {i : LI} (D : Rep kt h₀ mods h B (L ++ i.led w) (linesL w (T1 ++ T2) ++ X) r) : Rep kt h₀ mods h B L (linesL w (T1 ++ i :: T2) ++ X) r := by
  refine D.perm ?_
  rw [linesL_app, linesL_app, linesL_cons, List.append_assoc, List.append_assoc, List.append_assoc]
  refine List.Perm.append_left L ?_
  rw [List.append_assoc]
  exact (List.perm_append_comm_assoc _ _ _).symm
theorem ld_in (w : World) (A : Around) (h₀ : Heap) (mods : List Nat) (hA : Fit 70 A (kt1 w) h₀) (R : Result → Shared → Prop) (g : Array GenState) (d : Drawn) (os : OsState) (f it k0 k1 k2 wa ta at_ da ew : Nat)
   (q : List Nat × Nat) (c : Nat) (hc : q.1[at_]? = some c) (hat : at_ < 1000) (pre rest : List (List Nat × Nat)) (T1 T2 : List LI) (i : LI) (hi : i.c = c) (hz : i.Q.length ≤ 1000000) (X : Led) (h : Heap) (B t0 n nd : Nat) (ld : List DictEntry) (P : DP (PySem.strKind (PP w).prog w) ld (linesK (T1 ++ i :: T2))) (dl : List DictEntry) (hdl : ldS w dl n)
   (D : Rep (kt1 w) h₀ mods h B [(f, ldF w k0 k1 k2 wa ta at_ da dl n), (it, iterO "list_iterator" (.ref wa) pre.length), (wa, listO (txV (pre ++ q :: rest)) ew), (da, dictO ld nd)] (linesL w (T1 ++ i :: T2) ++ X) 0)
   (hR : ∀ h' B' t' dl' n' e', (∃ k v, dl' = [ent w n_word k v] ∧ n' = 4) → Rep (kt1 w) h₀ mods h' B' [(f, ldF w k0 k1 k2 wa ta at_ da dl' n'), (it, iterO "list_iterator" (.ref wa) (pre.length + 1)), (wa, listO (txV (pre ++ q :: rest)) ew), (da, dictO ld nd)] (linesL w (T1 ++ ⟨i.c, i.a, i.Q ++ [q], e'⟩ :: T2) ++ X) 0 → codeAny (PP w) A (ldC w it f) R ⟨h', g, d, t', os⟩) :
   codeAny (PP w) A (ldC w it f) R ⟨h, g, d, t0, os⟩ := by
  obtain ⟨b1, b2, hw⟩ := parF_ex w
  have hA' := hA.under (ldC w it f) (m := 69) (by kernel_rfl)
  have hv : PySem.valueAt (linesK (T1 ++ i :: T2)) (⟨⟨[c]⟩⟩ : Str) = some (.ref i.a.lx) := by
    refine PySem.valueAt_of_get P.nd (i := T1.length) ?_
    unfold linesK
    rw [List.map_append, List.getElem?_append_right (by rw [List.length_map]; exact Nat.le_refl _), List.length_map, Nat.sub_self, ← hi]
    rfl
  refine code_start ?_
  refine Means.add0 ?_
  (refine segW (t0 := t0) (i := 0) 100000 [2] (Code.call (Value.builtin "list_iterator.__next__") { pos := [Value.ref it] : Args }) D (by assumption) (by assumption) ?_; intro o21; refine ⟨by kernel_rfl, by kernel_rfl, by kernel_rfl, by kernel_rfl, by kernel_rfl, fun h21 D21 => ?_⟩)
  refine callW_of rfl ?_
  rw [mark_none]
  refine r_lnext (Fit.inner hA' D21 _ (by kernel_rfl) (by kernel_rfl)) it wa pre.length ew (txV (pre ++ q :: rest)) (.str ⟨⟨q.1⟩⟩ q.2) (by simp [txV]) (D21.give [0, 1, 1] (by kernel_rfl)) fun g1 t' a1 => ?_
  obtain ⟨B2, E1⟩ := D21.backP [0, 1, 1] [2, 0, 1, 3] [(f, ldF w k0 k1 k2 wa ta at_ da dl n), (it, iterO "list_iterator" (.ref wa) (pre.length + 1)), (wa, listO (txV (pre ++ q :: rest)) ew), (da, dictO ld nd)] (by kernel_rfl) a1 (by kernel_rfl)
  refine Means.add0 ?_
  rcases hdl with ⟨rfl, rfl⟩ | ⟨k, v, rfl, rfl⟩ <;> (
    (refine segW (t0 := t') (i := 0) 100000 [1, 1, 1, 1] (Code.call (Value.builtin "str.__getitem__") { pos := [Value.str { cps := { toList := q.fst : Array Nat } : Str } q.snd, Value.int (Int.ofNat at_) ta] : Args }) E1 (by assumption) (by assumption) ?_; intro o31; refine ⟨by kernel_rfl, by kernel_rfl, by kernel_rfl, by kernel_rfl, by kernel_rfl, fun h31 D31 => ?_⟩)
    refine callW_of rfl ?_
    rw [mark_none]
    refine r_sget q.1 at_ q.2 ta c (by omega) hc fun t1 t2 => ?_
    refine Means.add0 ?_
    (refine segW (t0 := t2) (i := 0) 100000 [1, 4, 4] (Code.call (Value.builtin "dict.__contains__") { pos := [Value.ref da, Value.str { cps := { toList := [c] : Array Nat } : Str } t1] : Args }) D31 (by assumption) (by assumption) ?_; intro o32; refine ⟨by kernel_rfl, by kernel_rfl, by kernel_rfl, by kernel_rfl, by kernel_rfl, fun h32 D32 => ?_⟩)
    refine callW_of rfl ?_
    rw [mark_none]
    refine r_dcont (so := obAt w sysModules) (by kernel_rfl) da nd ld _ (⟨⟨[c]⟩⟩ : Str) _ (strKind_is _ _ _ _) P (D32.give [0, 0, 0, 1] (by kernel_rfl)) true (by rw [hv]; rfl) fun t3 => ?_
    refine Means.add0 ?_
    (refine segW (t0 := t3) (i := 0) 100000 [1, 1, 1] (Code.call (Value.builtin "str.__getitem__") { pos := [Value.str { cps := { toList := q.fst : Array Nat } : Str } q.snd, Value.int (Int.ofNat at_) ta] : Args }) D32 (by assumption) (by assumption) ?_; intro o33; refine ⟨by kernel_rfl, by kernel_rfl, by kernel_rfl, by kernel_rfl, by kernel_rfl, fun h33 D33 => ?_⟩)
    refine callW_of rfl ?_
    rw [mark_none]
    refine r_sget q.1 at_ q.2 ta c (by omega) hc fun t4 t5 => ?_
    refine Means.add0 ?_
    (refine segW (t0 := t5) (i := 0) 100000 [4, 4, 4] (Code.call (Value.builtin "dict.__getitem__") { pos := [Value.ref da, Value.str { cps := { toList := [c] : Array Nat } : Str } t4] : Args }) D33 (by assumption) (by assumption) ?_; intro o34; refine ⟨by kernel_rfl, by kernel_rfl, by kernel_rfl, by kernel_rfl, by kernel_rfl, fun h34 D34 => ?_⟩)
    refine callW_of rfl ?_
    rw [mark_none]
    refine r_dget da nd ld _ (⟨⟨[c]⟩⟩ : Str) _ (.ref i.a.lx) (strKind_is _ _ _ _) P (D34.give [0, 0, 0, 1] (by kernel_rfl)) hv fun t6 => ?_
    refine Means.add0 ?_
    obtain ⟨kk, B5, E5⟩ : ∃ kk B', Rep (kt1 w) h₀ mods h34 B' [(f, ldF w k0 k1 k2 wa ta at_ da [ent w n_word kk (.str ⟨⟨q.1⟩⟩ q.2)] 4), (it, iterO "list_iterator" (.ref wa) (pre.length + 1)), (wa, listO (txV (pre ++ q :: rest)) ew), (da, dictO ld nd)] (linesL w (T1 ++ i :: T2) ++ X) 0 := by
      first | exact ⟨t', D34.pickE [0, 1, 2, 3] _ (by kernel_rfl!)⟩ | exact ⟨k, D34.pickE [0, 1, 2, 3] _ (by kernel_rfl!)⟩
    clear D34 D33 D32 D31
    have E5 := E5.openL
    (refine segL (t0 := t6) (i := 0) 100000 [5, 0, 0, 0, 5, 0, 0, 0, 5, 0, 0, 0, 0, 5, 6, 1, 0] ((.call (.ref 66) ⟨[.ref i.a.lx, .str ⟨⟨q.1⟩⟩ q.2], []⟩) ) E5 (by assumption) (by assumption) ?_; intro o35; refine ⟨by kernel_rfl, by kernel_rfl, by kernel_rfl, by kernel_rfl, fun h35 D35 => ?_⟩)
    refine ln_push w _ _ (Fit.inner hA' D35 _ (by kernel_rfl) (by kernel_rfl)) _ _ _ g d os i.a i.Q i.e q.1 q.2 hz (D35.give [0, 0, 0, 0, 1, 1, 1] (by kernel_rfl)) fun h6 t7 e' a6 => ?_
    obtain ⟨B6, E6⟩ := D35.backP [0, 0, 0, 0, 1, 1, 1] [3, 4, 5, 6, 0, 1, 2] ([(f, ldF w k0 k1 k2 wa ta at_ da [ent w n_word kk (.str ⟨⟨q.1⟩⟩ q.2)] 4), (it, iterO "list_iterator" (.ref wa) (pre.length + 1)), (wa, listO (txV (pre ++ q :: rest)) ew), (da, dictO ld nd)] ++ LI.led ⟨i.c, i.a, i.Q ++ [(q.1, q.2)], e'⟩ w) (by kernel_rfl) a6 (by kernel_rfl)
    clear D35 E5
    refine Means.add0 ?_
    (refine segF (t0 := t7) (i := 0) 100000 [] ((Fin.again (ldC w it f)) ) E6 (by assumption) (by assumption) ?_; intro o36; refine ⟨by kernel_rfl, by kernel_rfl, by kernel_rfl, fun h36 D36 => ?_⟩)
    obtain ⟨B7, E7⟩ := D36.pickE [0, 1, 2, 3, 4, 5, 6] ([(f, ldF w k0 k1 k2 wa ta at_ da [ent w n_word kk (.str ⟨⟨q.1⟩⟩ q.2)] 4), (it, iterO "list_iterator" (.ref wa) (pre.length + 1)), (wa, listO (txV (pre ++ q :: rest)) ew), (da, dictO ld nd)] ++ LI.led ⟨i.c, i.a, i.Q ++ [(q.1, q.2)], e'⟩ w) (by kernel_rfl)
    exact ⟨by kernel_rfl, hR _ _ _ _ _ e' ⟨_, _, rfl, rfl⟩ E7.shutL⟩)
end Mine
end
section
open PySem PySem.W PySem.Calls PyProof.Rows
set_option Elab.async false
set_option maxRecDepth 100000
namespace Mine
theorem valueAt_none {K : Type} [DecidableEq K] (k : K) : ∀ l : List (K × Value), (∀ p ∈ l, p.1 ≠ k) → PySem.valueAt l k = none := by
  intro l h
  unfold PySem.valueAt
  rw [List.find?_eq_none.mpr ?_]
  · rfl
  · intro p hp; simpa using h p hp
theorem stored_none {K : Type} [DecidableEq K] (k : K) (v : Value) (l : List (K × Value)) (h : ∀ p ∈ l, p.1 ≠ k) : PySem.stored l k v = l ++ [(k, v)] := by
  unfold PySem.stored
  rw [if_neg]
  rw [List.any_eq_true]
  rintro ⟨p, hp, e⟩
  exact h p hp (by simpa using e)
theorem ld_new (w : World) (A : Around) (h₀ : Heap) (mods : List Nat) (hA : Fit 70 A (kt1 w) h₀) (R : Result → Shared → Prop) (g : Array GenState) (d : Drawn) (os : OsState) (f it k0 k1 k2 wa ta at_ da ew : Nat)
   (q : List Nat × Nat) (c : Nat) (hc : q.1[at_]? = some c) (hat : at_ < 1000) (pre rest : List (List Nat × Nat)) (T : List LI) (hi : ∀ i ∈ T, i.c ≠ c) (hT : T.length ≤ 1000000) (X : Led) (h : Heap) (B t0 n nd : Nat) (ld : List DictEntry) (P : DP (PySem.strKind (PP w).prog w) ld (linesK T)) (dl : List DictEntry) (hdl : ldS w dl n)
   (D : Rep (kt1 w) h₀ mods h B [(f, ldF w k0 k1 k2 wa ta at_ da dl n), (it, iterO "list_iterator" (.ref wa) pre.length), (wa, listO (txV (pre ++ q :: rest)) ew), (da, dictO ld nd)] (linesL w T ++ X) 0)
   (hR : ∀ h' B' t' dl' n' e' a ld' nd', (∃ k v, dl' = [ent w n_word k v] ∧ n' = 4) → DP (PySem.strKind (PP w).prog w) ld' (linesK (T ++ [⟨c, a, [q], e'⟩])) → Rep (kt1 w) h₀ mods h' B' [(f, ldF w k0 k1 k2 wa ta at_ da dl' n'), (it, iterO "list_iterator" (.ref wa) (pre.length + 1)), (wa, listO (txV (pre ++ q :: rest)) ew), (da, dictO ld' nd')] (linesL w (T ++ [⟨c, a, [q], e'⟩]) ++ X) 0 → codeAny (PP w) A (ldC w it f) R ⟨h', g, d, t', os⟩) :
   codeAny (PP w) A (ldC w it f) R ⟨h, g, d, t0, os⟩ := by
  obtain ⟨b1, b2, hw⟩ := parF_ex w
  have hA' := hA.under (ldC w it f) (m := 69) (by kernel_rfl)
  have hne : ∀ p ∈ linesK T, p.1 ≠ (⟨⟨[c]⟩⟩ : Str) := by
    intro p hp e
    obtain ⟨i, hi', rfl⟩ := List.mem_map.mp hp
    exact hi i hi' (by injection (congrArg (fun x : Str => x.cps.toList) e))
  have hv := valueAt_none _ _ hne
  have hz : (linesK T).length ≤ 1000000 := by unfold linesK; rw [List.length_map]; exact hT
  refine code_start ?_
  refine Means.add0 ?_
  (refine segW (t0 := t0) (i := 0) 100000 [2] (Code.call (Value.builtin "list_iterator.__next__") { pos := [Value.ref it] : Args }) D (by assumption) (by assumption) ?_; intro o21; refine ⟨by kernel_rfl, by kernel_rfl, by kernel_rfl, by kernel_rfl, by kernel_rfl, fun h21 D21 => ?_⟩)
  refine callW_of rfl ?_
  rw [mark_none]
  refine r_lnext (Fit.inner hA' D21 _ (by kernel_rfl) (by kernel_rfl)) it wa pre.length ew (txV (pre ++ q :: rest)) (.str ⟨⟨q.1⟩⟩ q.2) (by simp [txV]) (D21.give [0, 1, 1] (by kernel_rfl)) fun g1 t' a1 => ?_
  obtain ⟨B2, E1⟩ := D21.backP [0, 1, 1] [2, 0, 1, 3] [(f, ldF w k0 k1 k2 wa ta at_ da dl n), (it, iterO "list_iterator" (.ref wa) (pre.length + 1)), (wa, listO (txV (pre ++ q :: rest)) ew), (da, dictO ld nd)] (by kernel_rfl) a1 (by kernel_rfl)
  refine Means.add0 ?_
  rcases hdl with ⟨rfl, rfl⟩ | ⟨k, v, rfl, rfl⟩ <;> (
    (refine segW (t0 := t') (i := 0) 100000 [1, 1, 1, 1] (Code.call (Value.builtin "str.__getitem__") { pos := [Value.str { cps := { toList := q.fst : Array Nat } : Str } q.snd, Value.int (Int.ofNat at_) ta] : Args }) E1 (by assumption) (by assumption) ?_; intro o31; refine ⟨by kernel_rfl, by kernel_rfl, by kernel_rfl, by kernel_rfl, by kernel_rfl, fun h31 D31 => ?_⟩)
    refine callW_of rfl ?_
    rw [mark_none]
    refine r_sget q.1 at_ q.2 ta c (by omega) hc fun t1 t2 => ?_
    refine Means.add0 ?_
    (refine segW (t0 := t2) (i := 0) 100000 [1, 4, 4] (Code.call (Value.builtin "dict.__contains__") { pos := [Value.ref da, Value.str { cps := { toList := [c] : Array Nat } : Str } t1] : Args }) D31 (by assumption) (by assumption) ?_; intro o32; refine ⟨by kernel_rfl, by kernel_rfl, by kernel_rfl, by kernel_rfl, by kernel_rfl, fun h32 D32 => ?_⟩)
    refine callW_of rfl ?_
    rw [mark_none]
    refine r_dcont (so := obAt w sysModules) (by kernel_rfl) da nd ld _ (⟨⟨[c]⟩⟩ : Str) _ (strKind_is _ _ _ _) P (D32.give [0, 0, 0, 1] (by kernel_rfl)) false (by rw [hv]; rfl) fun t3 => ?_
    refine Means.add0 ?_
    (refine segW (t0 := t3) (i := 0) 100000 [0, 0, 0, 1, 0, 0, 0, 0, 0, 0, 1, 0, 0, 0, 0, 0, 0, 0, 0, 0, 0, 0, 0, 0, 0, 0, 0, 0, 0, 0, 0, 6, 0, 6, 0, 0, 0, 0, 2, 0, 0, 7, 7, 7, 7, 7, 6, 0, 0, 0, 1, 6, 0, 6, 0, 6, 0, 0, 0, 6, 0, 5, 5, 5, 7, 7, 6, 0, 0, 0, 1, 6, 0, 6, 0, 6, 0, 0, 0, 6, 0, 5, 5, 5, 7, 6, 0, 0, 0, 1, 6, 0, 6, 0, 6, 0, 0, 0, 6, 0, 5, 5, 5, 7, 6, 0, 0, 0, 1, 6, 0, 6, 0, 6, 0, 0, 0, 6, 0, 5, 5, 5, 1, 1, 1] (Code.call (Value.builtin "str.__getitem__") { pos := [Value.str { cps := { toList := q.fst : Array Nat } : Str } q.snd, Value.int (Int.ofNat at_) ta] : Args }) D32 (by assumption) (by assumption) ?_; intro o33; refine ⟨by kernel_rfl, by kernel_rfl, by kernel_rfl, by kernel_rfl, by kernel_rfl, fun h33 D33 => ?_⟩)
    refine callW_of rfl ?_
    rw [mark_none]
    refine r_sget q.1 at_ q.2 ta c (by omega) hc fun t4 t5 => ?_
    refine Means.add0 ?_
    (refine segW (t0 := t5) (i := 0) 100000 [4, 4] (Code.call (Value.builtin "dict.__setitem__") { pos := [Value.ref da, Value.str { cps := { toList := [c] : Array Nat } : Str } t4, Value.ref (B2 + 1)] : Args }) D33 (by assumption) (by assumption) ?_; intro o34; refine ⟨by kernel_rfl, by kernel_rfl, by kernel_rfl, by kernel_rfl, by kernel_rfl, fun h34 D34 => ?_⟩)
    refine callW_of rfl ?_
    rw [mark_none]
    refine r_dset da nd ld _ (⟨⟨[c]⟩⟩ : Str) _ _ (strKind_is _ _ _ _) P hz (D34.give [0, 0, 0, 1] (by kernel_rfl)) fun h5 t6 ld' nd' P' a5 => ?_
    rw [stored_none _ _ _ hne] at P'
    obtain ⟨a, kk, hce, B5, E5⟩ : ∃ (a : LN) (kk : Nat), a.lx = B2 + 1 ∧ ∃ B', Rep (kt1 w) h₀ mods h5 B' ([(f, ldF w k0 k1 k2 wa ta at_ da [ent w n_word kk (.str ⟨⟨q.1⟩⟩ q.2)] 4), (it, iterO "list_iterator" (.ref wa) (pre.length + 1)), (wa, listO (txV (pre ++ q :: rest)) ew), (da, dictO ld' nd')] ++ LI.led ⟨c, a, [], 0⟩ w) (linesL w T ++ X) 0 := by
      refine ⟨⟨B2 + 1, B2, B2 + 3, fun n => match n with | 0 => t3 + 4 | 1 => t3 + 2 | 2 => t3 + 6 | 3 => t3 + 9 | 4 => t3 + 7 | _ => t3 + 11⟩, ?_⟩
      obtain ⟨B4, E4⟩ := D34.backP [0, 0, 0, 1] [1, 2, 3, 0, 4, 5, 6, 7] _ (by kernel_rfl!) a5 rfl
      first | exact ⟨t', rfl, E4.pickE [0, 1, 2, 3, 5, 4, 7] _ (by kernel_rfl!)⟩ | exact ⟨k, rfl, E4.pickE [0, 1, 2, 3, 5, 4, 7] _ (by kernel_rfl!)⟩
    clear D34 D33 D32 D31
    have hP : DP (PySem.strKind (PP w).prog w) ld' (linesK (T ++ [⟨c, a, [], 0⟩])) := by
      unfold linesK at P' ⊢
      rw [List.map_append, List.map_singleton, hce]
      exact P'
    have hv' : PySem.valueAt (linesK (T ++ [⟨c, a, [], 0⟩])) (⟨⟨[c]⟩⟩ : Str) = some (.ref a.lx) := by
      refine PySem.valueAt_of_get hP.nd (i := T.length) ?_
      unfold linesK
      rw [List.map_append, List.getElem?_append_right (by rw [List.length_map]; exact Nat.le_refl _), List.length_map, Nat.sub_self]
      rfl
    refine Means.add0 ?_
    (refine segW (t0 := t6) (i := 0) 100000 [1, 1, 1] (Code.call (Value.builtin "str.__getitem__") { pos := [Value.str { cps := { toList := q.fst : Array Nat } : Str } q.snd, Value.int (Int.ofNat at_) ta] : Args }) E5 (by assumption) (by assumption) ?_; intro o35; refine ⟨by kernel_rfl, by kernel_rfl, by kernel_rfl, by kernel_rfl, by kernel_rfl, fun h35 D35 => ?_⟩)
    refine callW_of rfl ?_
    rw [mark_none]
    refine r_sget q.1 at_ q.2 ta c (by omega) hc fun t7 t8 => ?_
    refine Means.add0 ?_
    (refine segW (t0 := t8) (i := 0) 100000 [4, 4, 4] (Code.call (Value.builtin "dict.__getitem__") { pos := [Value.ref da, Value.str { cps := { toList := [c] : Array Nat } : Str } t7] : Args }) D35 (by assumption) (by assumption) ?_; intro o36; refine ⟨by kernel_rfl, by kernel_rfl, by kernel_rfl, by kernel_rfl, by kernel_rfl, fun h36 D36 => ?_⟩)
    refine callW_of rfl ?_
    rw [mark_none]
    refine r_dget da nd' ld' _ (⟨⟨[c]⟩⟩ : Str) _ (.ref a.lx) (strKind_is _ _ _ _) hP (D36.give [0, 0, 0, 1] (by kernel_rfl)) hv' fun t9 => ?_
    refine Means.add0 ?_
    (refine segL (t0 := t9) (i := 0) 100000 [5, 0, 0, 0, 5, 0, 0, 0, 5, 0, 0, 0, 0, 5, 6, 1, 0] ((.call (.ref 66) ⟨[.ref a.lx, .str ⟨⟨q.1⟩⟩ q.2], []⟩) ) D36 (by assumption) (by assumption) ?_; intro o37; refine ⟨by kernel_rfl, by kernel_rfl, by kernel_rfl, by kernel_rfl, fun h37 D37 => ?_⟩)
    refine ln_push w _ _ (Fit.inner hA' D37 _ (by kernel_rfl) (by kernel_rfl)) _ _ _ g d os a [] 0 q.1 q.2 (Nat.zero_le _) (D37.give [0, 0, 0, 0, 1, 1, 1] (by kernel_rfl)) fun h6 t10 e' a6 => ?_
    obtain ⟨B6, E6⟩ := D37.backP [0, 0, 0, 0, 1, 1, 1] [3, 4, 5, 6, 0, 1, 2] ([(f, ldF w k0 k1 k2 wa ta at_ da [ent w n_word kk (.str ⟨⟨q.1⟩⟩ q.2)] 4), (it, iterO "list_iterator" (.ref wa) (pre.length + 1)), (wa, listO (txV (pre ++ q :: rest)) ew), (da, dictO ld' nd')] ++ LI.led ⟨c, a, [(q.1, q.2)], e'⟩ w) (by kernel_rfl) a6 (by kernel_rfl)
    clear D37 D36 D35 E5
    refine Means.add0 ?_
    (refine segF (t0 := t10) (i := 0) 100000 [] ((Fin.again (ldC w it f)) ) E6 (by assumption) (by assumption) ?_; intro o38; refine ⟨by kernel_rfl, by kernel_rfl, by kernel_rfl, fun h38 D38 => ?_⟩)
    obtain ⟨B7, E7⟩ := D38.pickE [0, 1, 2, 3, 4, 5, 6] ([(f, ldF w k0 k1 k2 wa ta at_ da [ent w n_word kk (.str ⟨⟨q.1⟩⟩ q.2)] 4), (it, iterO "list_iterator" (.ref wa) (pre.length + 1)), (wa, listO (txV (pre ++ q :: rest)) ew), (da, dictO ld' nd')] ++ LI.led ⟨c, a, [(q.1, q.2)], e'⟩ w) (by kernel_rfl)
    refine ⟨by kernel_rfl, hR _ B7 _ [ent w n_word kk (.str ⟨⟨q.1⟩⟩ q.2)] 4 e' a ld' nd' ⟨_, _, rfl, rfl⟩ ?_ ?_⟩
    · unfold linesK at hP ⊢
      rw [List.map_append] at hP ⊢
      exact hP
    · have := Rep.shutL (T1 := T) (T2 := []) (i := ⟨c, a, [(q.1, q.2)], e'⟩) (X := X) (by rw [List.append_nil]; exact E7)
      exact this)
end Mine
end
section
open PySem PySem.W PySem.Calls PyProof.Rows
set_option Elab.async false
set_option maxRecDepth 100000
namespace Mine
/-- what the lines hold behind the words -/
structure Dealt (at_ : Nat) (W : List (List Nat × Nat)) (T : List LI) : Prop where
  nd : (T.map (·.c)).Nodup
  q : ∀ i ∈ T, i.Q = W.filter (fun q => q.1[at_]? == some i.c)
  all : ∀ q ∈ W, ∃ i ∈ T, q.1[at_]? = some i.c
  len : T.length ≤ W.length
  ne : ∀ i ∈ T, i.Q ≠ []
theorem Dealt.nil (at_ : Nat) : Dealt at_ [] [] := ⟨List.nodup_nil, fun _ h => by simp at h, fun _ h => by simp at h, Nat.le_refl _, fun _ h => by simp at h⟩
theorem Dealt.old {at_ : Nat} {W : List (List Nat × Nat)} {T1 T2 : List LI} {i : LI} (h : Dealt at_ W (T1 ++ i :: T2)) (q : List Nat × Nat) (hq : q.1[at_]? = some i.c) (e' : Nat) : Dealt at_ (W ++ [q]) (T1 ++ ⟨i.c, i.a, i.Q ++ [q], e'⟩ :: T2) := by
  have hn := h.nd
  rw [List.map_append, List.map_cons] at hn
  refine ⟨by rw [List.map_append, List.map_cons]; exact hn, fun j hj => ?_, fun p hp => ?_, ?_, fun j hj => ?_⟩
  · rw [List.filter_append]
    have old : ∀ j ∈ T1 ++ T2, j.Q = W.filter (fun q => q.1[at_]? == some j.c) ++ [q].filter (fun q => q.1[at_]? == some j.c) := by
      intro j hj
      have hj' : j ∈ T1 ++ i :: T2 := by
        rcases List.mem_append.mp hj with h | h
        · exact List.mem_append_left _ h
        · exact List.mem_append_right _ (List.mem_cons_of_mem _ h)
      have hne : i.c ≠ j.c := by
        intro e
        rw [List.nodup_append] at hn
        rcases List.mem_append.mp hj with h | h
        · exact hn.2.2 _ (List.mem_map_of_mem h) _ List.mem_cons_self e.symm
        · have := List.nodup_cons.mp hn.2.1
          exact this.1 (e ▸ List.mem_map_of_mem h)
      rw [h.q j hj', List.filter_cons_of_neg (by rw [hq]; simpa using hne), List.filter_nil, List.append_nil]
    rcases List.mem_append.mp hj with hj | hj
    · exact old j (List.mem_append_left _ hj)
    · rcases List.mem_cons.mp hj with rfl | hj
      · show i.Q ++ [q] = _
        rw [h.q i (by simp), List.filter_cons_of_pos (by rw [hq]; simp), List.filter_nil]
      · exact old j (List.mem_append_right _ hj)
  · have key : ∀ c, (∃ i' ∈ T1 ++ i :: T2, c = some i'.c) → ∃ i' ∈ T1 ++ (⟨i.c, i.a, i.Q ++ [q], e'⟩ : LI) :: T2, c = some i'.c := by
      rintro c ⟨j, hj, e⟩
      rcases List.mem_append.mp hj with hj | hj
      · exact ⟨j, List.mem_append_left _ hj, e⟩
      · rcases List.mem_cons.mp hj with rfl | hj
        · exact ⟨_, List.mem_append_right _ List.mem_cons_self, e⟩
        · exact ⟨j, List.mem_append_right _ (List.mem_cons_of_mem _ hj), e⟩
    rcases List.mem_append.mp hp with hp | hp
    · exact key _ (h.all p hp)
    · rw [List.mem_singleton.mp hp]
      exact key _ ⟨i, by simp, hq⟩
  · have := h.len
    simp only [List.length_append, List.length_cons, List.length_nil] at this ⊢
    omega
  · rcases List.mem_append.mp hj with hj | hj
    · exact h.ne j (List.mem_append_left _ hj)
    · rcases List.mem_cons.mp hj with rfl | hj
      · show i.Q ++ [q] ≠ []
        simp
      · exact h.ne j (List.mem_append_right _ (List.mem_cons_of_mem _ hj))
theorem Dealt.new {at_ : Nat} {W : List (List Nat × Nat)} {T : List LI} (h : Dealt at_ W T) (q : List Nat × Nat) (c : Nat) (hq : q.1[at_]? = some c) (hc : ∀ i ∈ T, i.c ≠ c) (a : LN) (e' : Nat) : Dealt at_ (W ++ [q]) (T ++ [⟨c, a, [q], e'⟩]) := by
  refine ⟨?_, fun j hj => ?_, fun p hp => ?_, by rw [List.length_append, List.length_append, List.length_singleton, List.length_singleton]; exact Nat.succ_le_succ h.len, fun j hj => ?_⟩
  · rw [List.map_append, List.nodup_append]
    refine ⟨h.nd, by simp, fun x hx y hy e => ?_⟩
    obtain ⟨i, hi, rfl⟩ := List.mem_map.mp hx
    have : y = c := by simpa using hy
    exact hc i hi (e.trans this)
  · rw [List.filter_append]
    rcases List.mem_append.mp hj with hj | hj
    · rw [h.q j hj, List.filter_cons_of_neg (by rw [hq]; simpa using fun e => hc j hj e.symm), List.filter_nil, List.append_nil]
    · rw [List.mem_singleton.mp hj]
      show [q] = List.filter (fun q => q.1[at_]? == some c) W ++ _
      rw [List.filter_eq_nil_iff.mpr, List.filter_cons_of_pos (by rw [hq]; simp), List.filter_nil, List.nil_append]
      intro p hp e
      obtain ⟨i, hi, e'⟩ := h.all p hp
      rw [e'] at e
      exact hc i hi (by simpa using e)
  · rcases List.mem_append.mp hp with hp | hp
    · obtain ⟨i, hi, e⟩ := h.all p hp
      exact ⟨i, List.mem_append_left _ hi, e⟩
    · rw [List.mem_singleton.mp hp]
      exact ⟨_, List.mem_append_right _ (List.mem_singleton.mpr rfl), hq⟩
  · rcases List.mem_append.mp hj with hj | hj
    · exact h.ne j hj
    · rw [List.mem_singleton.mp hj]
      show [q] ≠ []
      simp
theorem ld_all (w : World) (A : Around) (h₀ : Heap) (mods : List Nat) (hA : Fit 70 A (kt1 w) h₀) (R : Result → Shared → Prop) (g : Array GenState) (d : Drawn) (os : OsState) (f it k0 k1 k2 wa ta at_ da ew : Nat) (hat : at_ < 1000) (X : Led) : ∀ (rest pre : List (List Nat × Nat)) (T : List LI) (h : Heap) (B t0 n nd : Nat) (ld : List DictEntry) (dl : List DictEntry),
   (∀ q ∈ rest, ∃ c, q.1[at_]? = some c) → (pre ++ rest).length ≤ 1000 → Dealt at_ pre T → DP (PySem.strKind (PP w).prog w) ld (linesK T) → ldS w dl n → (rest = [] → n = 4) →
   Rep (kt1 w) h₀ mods h B [(f, ldF w k0 k1 k2 wa ta at_ da dl n), (it, iterO "list_iterator" (.ref wa) pre.length), (wa, listO (txV (pre ++ rest)) ew), (da, dictO ld nd)] (linesL w T ++ X) 0 →
   (∀ h' B' t' kk v ld' nd' T', Dealt at_ (pre ++ rest) T' → DP (PySem.strKind (PP w).prog w) ld' (linesK T') → Rep (kt1 w) h₀ mods h' B' [(f, ldF w k0 k1 k2 wa ta at_ da [ent w n_word kk v] 4), (wa, listO (txV (pre ++ rest)) ew), (da, dictO ld' nd')] (linesL w T' ++ X) 0 → R (.ok .next) ⟨h', g, d, t', os⟩) →
   codeAny (PP w) A (ldC w it f) R ⟨h, g, d, t0, os⟩ := by
  intro rest
  induction rest with
  | nil =>
    intro pre T h B t0 n nd ld dl hc hz hT P hdl hn D hR
    obtain ⟨b1, b2, hw⟩ := parF_ex w
    have hA' := hA.under (ldC w it f) (m := 69) (by kernel_rfl)
    obtain ⟨kk, v, rfl, rfl⟩ : ∃ k v, dl = [ent w n_word k v] ∧ n = 4 := by
      rcases hdl with ⟨_, h⟩ | h
      · exact absurd (hn rfl) (by omega)
      · exact h
    refine code_start ?_
    refine Means.add0 ?_
    (refine segW (t0 := t0) (i := 0) 100000 [2] (Code.call (Value.builtin "list_iterator.__next__") { pos := [Value.ref it] : Args }) D (by assumption) (by assumption) ?_; intro o11; refine ⟨by kernel_rfl, by kernel_rfl, by kernel_rfl, by kernel_rfl, by kernel_rfl, fun h11 D11 => ?_⟩)
    refine callW_of rfl ?_
    rw [mark_none]
    refine r_lend (Fit.inner hA' D11 _ (by kernel_rfl) (by kernel_rfl)) it wa pre.length ew (txV (pre ++ [])) (by simp [txV]) (D11.give [0, 1, 1] (by kernel_rfl)) fun g1 t' x y a1 => ?_
    obtain ⟨B2, E1⟩ := D11.backP [0, 1, 1] [3, 0, 4, 1, 2] ([(f, ldF w k0 k1 k2 wa ta at_ da [ent w n_word kk v] 4), (wa, listO (txV (pre ++ [])) ew), (da, dictO ld nd)] ++ [(y, tupO []), (x, stopO y)]) (by kernel_rfl) a1 (by kernel_rfl)
    refine Means.add0 ?_
    (refine segF (t0 := t') (i := 0) 100000 [5] ((Fin.again (Code.block [] (envOf w 119 f q_ld))) ) E1 (by assumption) (by assumption) ?_; intro o12; refine ⟨by kernel_rfl, by kernel_rfl, by kernel_rfl, fun h12 D12 => ?_⟩)
    obtain ⟨B3, E2⟩ := D12.pickE [0, 1, 2] [(f, ldF w k0 k1 k2 wa ta at_ da [ent w n_word kk v] 4), (wa, listO (txV (pre ++ [])) ew), (da, dictO ld nd)] (by kernel_rfl)
    have hA2 := hA.under (Code.block [] (envOf w 119 f q_ld)) (m := 0) (by kernel_rfl)
    refine ⟨by kernel_rfl, code_start ?_⟩
    refine Means.add0 ?_
    (refine segF (t0 := t' + outI o12) (i := 0) 100000 [] (Fin.done Flow.next) E2 (by assumption) (by assumption) ?_; intro o13; refine ⟨by kernel_rfl, by kernel_rfl, by kernel_rfl, fun h13 D13 => ?_⟩)
    obtain ⟨B4, E4⟩ := D13.pickE [0, 1, 2] [(f, ldF w k0 k1 k2 wa ta at_ da [ent w n_word kk v] 4), (wa, listO (txV (pre ++ [])) ew), (da, dictO ld nd)] (by kernel_rfl)
    exact hR _ _ _ kk v ld nd T (by rw [List.append_nil]; exact hT) P E4
  | cons q rest ih =>
    intro pre T h B t0 n nd ld dl hc hz hT P hdl hn D hR
    obtain ⟨c, hqc⟩ := hc q List.mem_cons_self
    have e1 : pre ++ q :: rest = (pre ++ [q]) ++ rest := by simp
    have e2 : pre.length + 1 = (pre ++ [q]).length := by simp
    have hz' : pre.length ≤ 1000 := by rw [List.length_append] at hz; omega
    have hTl := hT.len
    by_cases hx : ∃ i ∈ T, i.c = c
    · obtain ⟨i, hi, hic⟩ := hx
      obtain ⟨T1, T2, rfl⟩ := List.append_of_mem hi
      have hQ : i.Q.length ≤ pre.length := by rw [hT.q i hi]; exact List.length_filter_le _ _
      refine ld_in w A h₀ mods hA R g d os f it k0 k1 k2 wa ta at_ da ew q c hqc hat pre rest T1 T2 i hic (by omega) X h B t0 n nd ld P dl hdl D fun h' B' t' dl' n' e' hdl' D' => ?_
      rw [e1, e2] at D'
      refine ih (pre ++ [q]) _ h' B' t' n' nd ld dl' (fun p hp => hc p (List.mem_cons_of_mem _ hp)) (by rw [← e1]; exact hz) (hT.old q (hic ▸ hqc) e') (by unfold linesK at P ⊢; rw [List.map_append] at P ⊢; exact P) (.inr hdl') (fun _ => by obtain ⟨_, _, _, e⟩ := hdl'; exact e) D' ?_
      · intro h1 B1 t1 kk v ld' nd' T' hT' P' D1
        rw [← e1] at hT' D1
        exact hR h1 B1 t1 kk v ld' nd' T' hT' P' D1
    · have hx' : ∀ i ∈ T, i.c ≠ c := fun i hi e => hx ⟨i, hi, e⟩
      refine ld_new w A h₀ mods hA R g d os f it k0 k1 k2 wa ta at_ da ew q c hqc hat pre rest T hx' (by omega) X h B t0 n nd ld P dl hdl D fun h' B' t' dl' n' e' a ld' nd' hdl' P' D' => ?_
      rw [e1, e2] at D'
      refine ih (pre ++ [q]) _ h' B' t' n' nd' ld' dl' (fun p hp => hc p (List.mem_cons_of_mem _ hp)) (by rw [← e1]; exact hz) (hT.new q c hqc hx' a e') P' (.inr hdl') (fun _ => by obtain ⟨_, _, _, e⟩ := hdl'; exact e) D' ?_
      · intro h1 B1 t1 kk v ld2 nd2 T' hT' P2 D1
        rw [← e1] at hT' D1
        exact hR h1 B1 t1 kk v ld2 nd2 T' hT' P2 D1
end Mine
end
section
open PySem PySem.W PySem.Calls PyProof.Rows
set_option Elab.async false
set_option maxRecDepth 100000
namespace Mine
noncomputable def dkiO (a i n ep : Nat) : Obj := { cls := .type "dict_keyiterator", data := .fields ⟨[.ref a, .int (.ofNat i) 0, .int (.ofNat n) 0, .int (.ofNat ep) 0]⟩ }
section
variable {prog : Program} {w : World} {A : Around} {R : Result → Shared → Prop} {B t0 : Nat} {g : Array GenState} {d : Drawn} {os : OsState} {mods : List Nat} {kt : Nat → Option Obj} {h₀ : Heap}
theorem r_diter {so : Obj} (hk : kt sysModules = some so) (a n : Nat) (l : List DictEntry) (m : Nat) (hm : l.length = m) (D : Rep kt h₀ mods h₀ B [(a, dictO l n)] [] 0)
   (hR : ∀ h1 it t', After h₀ h1 mods [(a, dictO l n), (it, dkiO a 0 m n)] → R (.ok (.ret (.ref it))) ⟨h1, g, d, t', os⟩) :
   codeAny (model prog w) A (.call (.builtin "dict.__iter__") ⟨[.ref a], []⟩) R ⟨h₀, g, d, t0, os⟩ := by
  have hd : h₀.get? a = some (dictO l n) := D.get (j := 0) rfl
  have hns : (a == sysModules) = false := not_sys D hk
  refine code_slot F.slot_dict_iter ⟨_, hd, rfl⟩ F.entry_dict_iter (F.args_dict_iter_1 _) ?_
  show wpAny _ _ (Builtin.«dict.__iter__» _) _ _ _
  unfold Builtin.«dict.__iter__»
  refine wpAny_bind ?_
  unfold Builtin.Dict.dictSlotNone
  refine wpAny_bind (wpAny_notOrdered_dict ⟨_, hd, rfl⟩ ?_)
  show wpAny _ _ (pure (Value.ref a)) _ _ _
  refine wpAny_pure ?_
  show wpAny _ _ (Builtin.Dict.showsAll a >>= _) _ _ _
  unfold Builtin.Dict.showsAll
  rw [if_neg (by rw [hns]; exact Bool.false_ne_true)]
  refine wpAny_bind (wpAny_pure ?_)
  refine wpAny_bind (wpAny_dictEntries hd rfl ?_)
  refine wpAny_bind (wpAny_dictEpoch hd rfl ?_)
  refine wpAny_bind (wpAny_newObj_type (wpAny_pure ?_))
  subst hm
  have hs : h₀.objs.size = B := by simpa using D.size
  subst hs
  have D1 := D.alloc (o := dkiO a 0 l.length n) rfl
  exact hR _ _ _ (D1.fin [1, 1] rfl)
theorem r_dnext (hA : Fit 0 A kt h₀) (it a i n : Nat) (l : List DictEntry) (hh : Int) (k : Str) (tk : Nat) (v : Nat) (hx : l[i]? = some ⟨hh, .str k tk, .ref v⟩) (D : Rep kt h₀ mods h₀ B [(it, dkiO a i l.length n), (a, dictO l n)] [] 0)
   (hR : ∀ h1 t', After h₀ h1 mods [(it, dkiO a (i + 1) l.length n), (a, dictO l n)] → R (.ok (.ret (.str k tk))) ⟨h1, g, d, t', os⟩) :
   codeAny (model prog w) A (.call (.builtin "dict_keyiterator.__next__") ⟨[.ref it], []⟩) R ⟨h₀, g, d, t0, os⟩ := by
  obtain ⟨b1, b2, hw⟩ := parF_ex w
  have hA' := hA.in1
  have ho : h₀.get? it = some (dkiO a i l.length n) := D.get (j := 0) rfl
  have hl : h₀.get? a = some (dictO l n) := D.get (j := 1) rfl
  refine code_slot PySem.F.slot_dict_keyiterator_next ⟨_, ho, rfl⟩ PySem.F.entry_dict_keyiterator_next (PySem.F.args_dict_keyiterator_next_1 _) ?_
  show wpAny _ _ _ _ _ _
  refine wpAny_bind (wpAny_pure ?_)
  refine wpAny_bind ?_
  refine wpAny_bind ?_
  first | refine wpAny_bind (wpAny_typeNameOfWhole_keyiter ⟨_, ho, rfl⟩ (wpAny_pure ?_)) | refine wpAny_bind (wpAny_typeNameOf_keyiter ⟨_, ho, rfl⟩ (wpAny_pure ?_))
  refine wpAny_bind (wpAny_fieldsOf ho rfl ?_)
  have hown : Builtin.Dict_items.ownsTuple "dict_keyiterator" = false := by decide
  simp only [hown, Bool.false_eq_true, if_false]
  show wpAny _ _ (if (Value.ref a == Value.none) = true then _ else _) _ _ _
  rw [if_neg (show ¬ ((Value.ref a == Value.none) = true) from Bool.false_ne_true)]
  refine wpAny_bind (wpAny_pure ?_)
  refine wpAny_bind (wpAny_dictEntries hl rfl ?_)
  rw [if_neg (by simp)]
  refine wpAny_bind (wpAny_pure ?_)
  refine wpAny_bind (wpAny_dictEpoch hl rfl ?_)
  rw [if_neg (by simp)]
  refine wpAny_pure ?_
  have hx' : (⟨l⟩ : Array DictEntry)[i]? = some ⟨hh, .str k tk, .ref v⟩ := by rw [List.getElem?_toArray]; exact hx
  have hx'' : (⟨l⟩ : Array DictEntry)[(Int.ofNat i).toNat]? = some ⟨hh, .str k tk, .ref v⟩ := hx'
  simp only [show ¬ ((Int.ofNat i) < 0) from Int.not_lt.mpr (Int.natCast_nonneg i), if_false, hx'']
  refine means_base (s := ⟨h₀, g, d, t0 + 0, os⟩) ?_
  (refine segF (t0 := t0) (i := 0) 100000 [1, 1, 1, 1, 1] ((Fin.done (Flow.ret (.str k tk))) ) D (by assumption) (by assumption) ?_; intro o11; refine ⟨by kernel_rfl, by kernel_rfl, by kernel_rfl, fun h11 D11 => ?_⟩)
  exact hR _ _ (D11.fin [1, 1] (by kernel_rfl))
theorem r_dend (hA : Fit 0 A kt h₀) (it a i n : Nat) (l : List DictEntry) (hx : l[i]? = none) (D : Rep kt h₀ mods h₀ B [(it, dkiO a i l.length n), (a, dictO l n)] [] 0)
   (hR : ∀ h1 t' x a2, After h₀ h1 mods [(a, dictO l n), (a2, tupO []), (x, stopO a2)] → R (.error (.ref x)) ⟨h1, g, d, t', os⟩) :
   codeAny (model prog w) A (.call (.builtin "dict_keyiterator.__next__") ⟨[.ref it], []⟩) R ⟨h₀, g, d, t0, os⟩ := by
  obtain ⟨b1, b2, hw⟩ := parF_ex w
  have hA' := hA.in1
  have ho : h₀.get? it = some (dkiO a i l.length n) := D.get (j := 0) rfl
  have hl : h₀.get? a = some (dictO l n) := D.get (j := 1) rfl
  refine code_slot PySem.F.slot_dict_keyiterator_next ⟨_, ho, rfl⟩ PySem.F.entry_dict_keyiterator_next (PySem.F.args_dict_keyiterator_next_1 _) ?_
  show wpAny _ _ _ _ _ _
  refine wpAny_bind (wpAny_pure ?_)
  refine wpAny_bind ?_
  refine wpAny_bind ?_
  first | refine wpAny_bind (wpAny_typeNameOfWhole_keyiter ⟨_, ho, rfl⟩ (wpAny_pure ?_)) | refine wpAny_bind (wpAny_typeNameOf_keyiter ⟨_, ho, rfl⟩ (wpAny_pure ?_))
  refine wpAny_bind (wpAny_fieldsOf ho rfl ?_)
  have hown : Builtin.Dict_items.ownsTuple "dict_keyiterator" = false := by decide
  simp only [hown, Bool.false_eq_true, if_false]
  show wpAny _ _ (if (Value.ref a == Value.none) = true then _ else _) _ _ _
  rw [if_neg (show ¬ ((Value.ref a == Value.none) = true) from Bool.false_ne_true)]
  refine wpAny_bind (wpAny_pure ?_)
  refine wpAny_bind (wpAny_dictEntries hl rfl ?_)
  rw [if_neg (by simp)]
  refine wpAny_bind (wpAny_pure ?_)
  refine wpAny_bind (wpAny_dictEpoch hl rfl ?_)
  rw [if_neg (by simp)]
  refine wpAny_pure ?_
  have hx' : (⟨l⟩ : Array DictEntry)[i]? = none := by rw [List.getElem?_toArray]; exact hx
  have hx'' : (⟨l⟩ : Array DictEntry)[(Int.ofNat i).toNat]? = none := hx'
  simp only [show ¬ ((Int.ofNat i) < 0) from Int.not_lt.mpr (Int.natCast_nonneg i), if_false, hx'']
  refine means_base (s := ⟨h₀, g, d, t0 + 0, os⟩) ?_
  (refine segE (t0 := t0) (i := 0) 100000 [1, 1, 1] ((Value.ref (B + 1)) ) D (by assumption) (by assumption) ?_; intro o12; refine ⟨by kernel_rfl, by kernel_rfl, by kernel_rfl, fun h12 D12 => ?_⟩)
  exact hR _ _ (B + 1) B (D12.fin [0, 1, 1, 1] (by kernel_rfl))
end
end Mine
end
section
open PySem PySem.W PySem.Calls PyProof.Rows
set_option Elab.async false
set_option maxRecDepth 100000
namespace Mine
noncomputable def eLK (w : World) : Expr := match stmtAt w 119 3 with
  | .For _ (.Call _ (e :: _) _ _) _ _ _ => e
  | _ => default
noncomputable def n_key := [107, 101, 121]
noncomputable def LK (ld : List DictEntry) (T : List LI) : Prop := (∀ (j : Nat) (q : LI), T[j]? = some q → ∃ hh tk, ld[j]? = some ⟨hh, .str ⟨⟨[q.c]⟩⟩ tk, .ref q.a.lx⟩) ∧ ld.length = T.length
theorem lk_loop (w : World) (A : Around) (h₀ : Heap) (mods : List Nat) (hA : Fit 5 A (kt1 w) h₀) (R : Result → Shared → Prop) (g : Array GenState) (d : Drawn) (os : OsState) (it acc di fr fa ef : Nat) (ld : List DictEntry) (X : Led) :
   ∀ (rest pre : List (LI)) (P : List (List Nat × Nat)) (h : Heap) (B t0 ep : Nat) (dl : List DictEntry) (dn : Nat), (dl = [] ∧ dn = 0 ∨ ∃ k v, dl = [ent w n_key k v] ∧ dn = 1) → P.length + rest.length ≤ 16777000 → (LK ld (pre ++ rest)) →
   Rep (kt1 w) h₀ mods h B [(acc, listO (txV P) ep), (it, dkiO fa pre.length ld.length ef), (fa, dictO ld ef), (di, dictO dl dn)] X 0 →
   (∀ h1 B' t' ep' Q dl' dn', (rest = [] ∧ dl' = dl ∧ dn' = dn ∨ ∃ k v, dl' = [ent w n_key k v] ∧ dn' = 1) → Q.map (·.1) = rest.map (fun q => [q.c]) → Rep (kt1 w) h₀ mods h1 B' [(acc, listO (txV (P ++ Q)) ep'), (fa, dictO ld ef), (di, dictO dl' dn')] X 0 → R (.ok .next) ⟨h1, g, d, t', os⟩) →
   codeAny (PP w) A (compL w 119 (eLK w) (.ref it) (.ref acc) di q_ld fr) R ⟨h, g, d, t0, os⟩ := by
  obtain ⟨b1, b2, hw⟩ := parF_ex w
  have hA' := hA.under (compL w 119 (eLK w) (.ref it) (.ref acc) di q_ld fr) (m := 4) (by kernel_rfl)
  intro rest
  induction rest with
  | nil =>
    intro pre P h B t0 ep dl dn hdl hsz hT D hR
    refine code_start ?_
    refine Means.add0 ?_
    (refine segW (t0 := t0) (i := 0) 100000 [2] (Code.call (Value.builtin "dict_keyiterator.__next__") { pos := [Value.ref it] : Args }) D (by assumption) (by assumption) ?_; intro o11; refine ⟨by kernel_rfl, by kernel_rfl, by kernel_rfl, by kernel_rfl, by kernel_rfl, fun h11 D11 => ?_⟩)
    refine callW_of rfl ?_
    rw [mark_none]
    refine r_dend (Fit.inner hA' D11 _ (by kernel_rfl) (by kernel_rfl)) it fa pre.length ef ld (List.getElem?_eq_none (by rw [hT.2]; simp)) (D11.give [0, 1, 1] (by kernel_rfl)) fun g1 t' x y a1 => ?_
    obtain ⟨B2, E1⟩ := D11.backP [0, 1, 1] [3, 0, 4, 1, 2] ([(acc, listO (txV P) ep), (fa, dictO ld ef), (di, dictO dl dn)] ++ [(y, tupO []), (x, stopO y)]) (by kernel_rfl) a1 (by kernel_rfl)
    refine Means.add0 ?_
    (refine segF (t0 := t') (i := 0) 100000 [5] (Fin.done Flow.next) E1 (by assumption) (by assumption) ?_; intro o12; refine ⟨by kernel_rfl, by kernel_rfl, by kernel_rfl, fun h12 D12 => ?_⟩)
    obtain ⟨B3, E2⟩ := D12.pickE [0, 1, 2] [(acc, listO (txV (P ++ [])) ep), (fa, dictO ld ef), (di, dictO dl dn)] (by rw [List.append_nil P]; kernel_rfl)
    exact hR _ _ _ _ [] _ _ (.inl ⟨rfl, rfl, rfl⟩) rfl E2
  | cons q rest ih =>
    intro pre P h B t0 ep dl dn hdl hsz hT D hR
    refine code_start ?_
    refine Means.add0 ?_
    (refine segW (t0 := t0) (i := 0) 100000 [2] (Code.call (Value.builtin "dict_keyiterator.__next__") { pos := [Value.ref it] : Args }) D (by assumption) (by assumption) ?_; intro o21; refine ⟨by kernel_rfl, by kernel_rfl, by kernel_rfl, by kernel_rfl, by kernel_rfl, fun h21 D21 => ?_⟩)
    refine callW_of rfl ?_
    rw [mark_none]
    obtain ⟨hh, tk, hg⟩ := hT.1 pre.length q (by simp)
    refine r_dnext (Fit.inner hA' D21 _ (by kernel_rfl) (by kernel_rfl)) it fa pre.length ef ld hh _ tk _ hg (D21.give [0, 1, 1] (by kernel_rfl)) fun g1 t' a1 => ?_
    obtain ⟨B2, E1⟩ := D21.backP [0, 1, 1] [2, 0, 1, 3] [(acc, listO (txV P) ep), (it, dkiO fa (pre.length + 1) ld.length ef), (fa, dictO ld ef), (di, dictO dl dn)] (by kernel_rfl) a1 (by kernel_rfl)
    refine Means.add0 ?_
    have e1 : pre ++ q :: rest = (pre ++ [q]) ++ rest := by simp
    have e2 : pre.length + 1 = (pre ++ [q]).length := by simp
    have hSP : (txV P).length = P.length := by simp [txV]
    rw [List.length_cons] at hsz
    rcases hdl with ⟨rfl, rfl⟩ | ⟨k, v, rfl, rfl⟩ <;> (
      (refine segW (t0 := t') (i := 0) 100000 [4, 4, 4] ((.call (.builtin "list.append") ⟨[.ref acc, .str ⟨⟨[q.c]⟩⟩ tk], []⟩) ) E1 (by assumption) (by assumption) ?_; intro o102; refine ⟨by kernel_rfl, by kernel_rfl, by kernel_rfl, by kernel_rfl, by kernel_rfl, fun h102 D102 => ?_⟩)
      refine callW_of rfl ?_
      rw [mark_none]
      refine r_append acc ep (txV P) _ (by omega) (D102.give [1] (by kernel_rfl)) fun g3 t3 a3 => ?_
      obtain ⟨kk, B4, E4⟩ : ∃ kk B', Rep (kt1 w) h₀ mods g3 B' [(acc, listO (txV P ++ [.str ⟨⟨[q.c]⟩⟩ tk]) (ep + 1)), (it, dkiO fa (pre.length + 1) ld.length ef), (fa, dictO ld ef), (di, dictO [ent w n_key kk (.str ⟨⟨[q.c]⟩⟩ tk)] 1)] X 0 := by first | exact ⟨t', D102.backP [1] [0, 1, 2, 3] _ (by kernel_rfl!) a3 (by kernel_rfl!)⟩ | exact ⟨k, D102.backP [1] [0, 1, 2, 3] _ (by kernel_rfl!) a3 (by kernel_rfl!)⟩
      refine Means.add0 ?_
      (refine segF (t0 := t3) (i := 0) 100000 [] ((Fin.again (compL w 119 (eLK w) (.ref it) (.ref acc) di q_ld fr)) ) E4 (by assumption) (by assumption) ?_; intro o103; refine ⟨by kernel_rfl, by kernel_rfl, by kernel_rfl, fun h103 D103 => ?_⟩)
      obtain ⟨B5, E5⟩ := D103.pickE [0, 1, 2, 3] [(acc, listO (txV P ++ [.str ⟨⟨[q.c]⟩⟩ tk]) (ep + 1)), (it, dkiO fa (pre.length + 1) ld.length ef), (fa, dictO ld ef), (di, dictO [ent w n_key kk (.str ⟨⟨[q.c]⟩⟩ tk)] 1)] (by kernel_rfl)
      have e3 : txV P ++ [.str ⟨⟨[q.c]⟩⟩ tk] = txV (P ++ [([q.c], tk)]) := by simp [txV]
      rw [e2, e3] at E5
      refine ⟨by kernel_rfl, ih (pre ++ [q]) (P ++ [([q.c], tk)]) _ _ _ _ _ _ (.inr ⟨_, _, rfl, rfl⟩) (by rw [List.length_append, List.length_singleton]; omega) (by rw [← e1]; exact hT) E5 fun h1 B' t9 ep' Q dl' dn' hd2 hQ E => ?_⟩
      refine hR h1 B' t9 ep' (([q.c], tk) :: Q) dl' dn' (.inr (hd2.elim (fun h => ⟨_, _, h.2.1, h.2.2⟩) id)) (by rw [List.map_cons, List.map_cons, hQ]) ?_
      rw [List.append_assoc] at E
      exact E
)
theorem lk_start (w : World) (A : Around) (h₀ : Heap) (mods : List Nat) (hA : Fit 5 A (kt1 w) h₀) (R : Result → Shared → Prop) (g : Array GenState) (d : Drawn) (os : OsState) (it acc di fr fa ef : Nat) (ld : List DictEntry) (F : List (LI)) (hne : F ≠ []) (X : Led) (hz : F.length ≤ 1000000) (hF : LK ld F) (h : Heap) (B t0 : Nat)
   (D : Rep (kt1 w) h₀ mods h B [(acc, listO ([]) 0), (it, dkiO fa 0 ld.length ef), (fa, dictO ld ef), (di, dictO [] 0)] X 0)
   (hR : ∀ h1 B' t' ep' Q dl' dn', (∃ k v, dl' = [ent w n_key k v] ∧ dn' = 1) → Q.map (·.1) = F.map (fun q => [q.c]) → Rep (kt1 w) h₀ mods h1 B' [(acc, listO (txV Q) ep'), (fa, dictO ld ef), (di, dictO dl' dn')] X 0 → R (.ok .next) ⟨h1, g, d, t', os⟩) :
   codeAny (PP w) A (compS w 119 (eLK w) (.ref it) (.ref acc) di q_ld fr) R ⟨h, g, d, t0, os⟩ := by
  obtain ⟨b1, b2, hw⟩ := parF_ex w
  have hA' := hA.under (compS w 119 (eLK w) (.ref it) (.ref acc) di q_ld fr) (m := 4) (by kernel_rfl)
  refine code_start ?_
  refine Means.add0 ?_
  cases b2 <;> cases b1 <;> (
    (first | (refine segF (t0 := t0) (i := 0) 100000 [2, 2, 1, 2, 2] ((Fin.again (compL w 119 (eLK w) (.ref it) (.ref acc) di q_ld fr)) ) D (by assumption) (by assumption) ?_; intro o1; refine ⟨by kernel_rfl!, by kernel_rfl!, by kernel_rfl!, fun h1 D1 => ?_⟩) | (refine segF (t0 := t0) (i := 0) 100000 [] ((Fin.again (compL w 119 (eLK w) (.ref it) (.ref acc) di q_ld fr)) ) D (by assumption) (by assumption) ?_; intro o1; refine ⟨by kernel_rfl!, by kernel_rfl!, by kernel_rfl!, fun h1 D1 => ?_⟩))
    obtain ⟨B2, E1⟩ := D1.pickE [0, 1, 2, 3] [(acc, listO (txV []) 0), (it, dkiO fa ([] : List (LI)).length ld.length ef), (fa, dictO ld ef), (di, dictO [] 0)] (by kernel_rfl)
    exact ⟨by kernel_rfl, lk_loop w A h₀ mods hA R g d os it acc di fr fa ef ld X F [] [] _ _ _ _ _ _ (.inl ⟨rfl, rfl⟩) (by rw [List.length_nil]; omega) hF E1 fun h1 B' t' ep' Q dl' dn' hd => hR h1 B' t' ep' Q dl' dn' (hd.elim (fun h => absurd h.1 hne) id)⟩)
end Mine
end
section
open PySem PySem.W PySem.Calls PyProof.Rows
set_option Elab.async false
set_option maxRecDepth 100000
namespace Mine
noncomputable def n_told := [116, 111, 108, 100]
noncomputable def n_letter := [108, 101, 116, 116, 101, 114]
noncomputable def n_line := [108, 105, 110, 101]
noncomputable def ldB (w : World) (i : Nat) : Stmt := match stmtAt w 119 3 with
  | .For _ _ b _ _ => b.getD i default
  | _ => default
noncomputable def ldG (w : World) (k : Nat → Nat) (wa ta at_ da to : Nat) (wv : Value) (c tl lx : Nat) : Obj := fobj [ent w n_words (k 0) (.ref wa), ent w n_at (k 1) (.int (.ofNat at_) ta), ent w n_lines (k 2) (.ref da), ent w n_word (k 3) wv, ent w n_told (k 4) (.ref to), ent w n_letter (k 5) (.str ⟨⟨[c]⟩⟩ tl), ent w n_line (k 6) (.ref lx)] 7
noncomputable def lwC (w : World) (f : Nat) : Code := whileOf (ldB w 3) (envOf w 119 f q_ld)
theorem lw_loop (w : World) (A : Around) (h₀ : Heap) (mods : List Nat) (hA : Fit 65 A (kt1 w) h₀) (R : Result → Shared → Prop) (g : Array GenState) (d : Drawn) (os : OsState) (f wa ta at_ da to c tl te : Nat) (k : Nat → Nat) (a : LN) (X : Led) :
   ∀ (S : List (List Nat × Nat)) (P : List (List Nat × Nat)) (cur : List Nat × Nat) (rem : List (List Nat × Nat)) (h : Heap) (B t0 ep e : Nat), S ++ [([], te)] = cur :: rem → (∀ q ∈ S, q.1 ≠ []) → S.length ≤ 11 → P.length + S.length ≤ 1000 →
   Rep (kt1 w) h₀ mods h B ([(f, ldG w k wa ta at_ da to (.str ⟨⟨cur.1⟩⟩ cur.2) c tl a.lx), (to, listO (txV P) ep)] ++ a.led w (txV rem) e) X 0 →
   (∀ h' B' t' ep', Rep (kt1 w) h₀ mods h' B' [(f, ldG w k wa ta at_ da to (.str ⟨⟨[]⟩⟩ te) c tl a.lx), (to, listO (txV (P ++ S)) ep')] X 0 → R (.ok .next) ⟨h', g, d, t', os⟩) →
   codeAny (PP w) A (lwC w f) R ⟨h, g, d, t0, os⟩ := by
  obtain ⟨b1, b2, hw⟩ := parF_ex w
  have hA' := hA.under (lwC w f) (m := 64) (by kernel_rfl)
  intro S
  induction S with
  | nil =>
    intro P cur rem h B t0 ep e hS hne hl hP D hR
    obtain ⟨rfl, rfl⟩ := List.cons.inj hS
    refine code_start ?_
    refine Means.add0 ?_
    (refine segWb (t0 := t0) (i := 0) 100000 [1] (Code.call (Value.builtin "str.__ne__") { pos := [Value.str { cps := { toList := [] : Array Nat } : Str } te, Value.str { cps := { toList := [] : Array Nat } : Str } t0] : Args }) D (by assumption) (by assumption) (by kernel_rfl) ?_; intro o11; refine ⟨by kernel_rfl, by kernel_rfl, by kernel_rfl, by kernel_rfl, by kernel_rfl, fun h11 D11 => ?_⟩)
    refine callW_of rfl ?_
    rw [mark_none]
    refine r_sne [] [] _ _ false rfl ?_
    refine Means.add0 ?_
    (refine segF (t0 := t0 + outI o11) (i := 0) 100000 [] (Fin.done Flow.next) D11 (by assumption) (by assumption) ?_; intro o12; refine ⟨by kernel_rfl, by kernel_rfl, by kernel_rfl, fun h12 D12 => ?_⟩)
    obtain ⟨B3, E3⟩ := D12.pickE [0, 1] [(f, ldG w k wa ta at_ da to (.str ⟨⟨[]⟩⟩ te) c tl a.lx), (to, listO (txV (P ++ [])) ep)] (by rw [List.append_nil]; kernel_rfl)
    exact hR _ _ _ _ E3
  | cons q S ih =>
    intro P cur rem h B t0 ep e hS hne hl hP D hR
    obtain ⟨rfl, hr⟩ := List.cons.inj hS
    obtain ⟨c2, r2, h2⟩ : ∃ c2 r2, S ++ [([], te)] = c2 :: r2 := by cases S <;> exact ⟨_, _, rfl⟩
    have hr : c2 :: r2 = rem := h2.symm.trans hr
    subst hr
    rw [List.length_cons] at hl hP
    have hr2 : r2.length = S.length := by have := congrArg List.length h2; simp only [List.length_append, List.length_cons, List.length_nil] at this; omega
    refine code_start ?_
    refine Means.add0 ?_
    (refine segWb (t0 := t0) (i := 0) 100000 [1] (Code.call (Value.builtin "str.__ne__") { pos := [Value.str { cps := { toList := q.fst : Array Nat } : Str } q.snd, Value.str { cps := { toList := [] : Array Nat } : Str } t0] : Args }) D (by assumption) (by assumption) (by kernel_rfl) ?_; intro o21; refine ⟨by kernel_rfl, by kernel_rfl, by kernel_rfl, by kernel_rfl, by kernel_rfl, fun h21 D21 => ?_⟩)
    refine callW_of rfl ?_
    rw [mark_none]
    refine r_sne _ [] _ _ true (bne_iff_ne.mpr (hne _ List.mem_cons_self)) ?_
    refine Means.add0 ?_
    (refine segW (t0 := t0 + outI o21) (i := 0) 100000 [1, 2, 2, 2, 2, 1] (Code.call (Value.builtin "list.append") { pos := [Value.ref to, Value.str { cps := { toList := q.fst : Array Nat } : Str } q.snd] : Args }) D21 (by assumption) (by assumption) ?_; intro o22; refine ⟨by kernel_rfl, by kernel_rfl, by kernel_rfl, by kernel_rfl, by kernel_rfl, fun h22 D22 => ?_⟩)
    refine callW_of rfl ?_
    rw [mark_none]
    refine r_append to ep (txV P) (.str ⟨⟨q.1⟩⟩ q.2) (by rw [txV_len]; omega) (D22.give [0, 1] (by kernel_rfl)) fun g2 t2 a2 => ?_
    obtain ⟨B2, E2⟩ := D22.backP [0, 1] [1, 0, 2, 3, 4] ([(f, ldG w k wa ta at_ da to (.str ⟨⟨q.1⟩⟩ q.2) c tl a.lx), (to, listO (txV P ++ [.str ⟨⟨q.1⟩⟩ q.2]) (ep + 1))] ++ a.led w (txV (c2 :: r2)) e) (by kernel_rfl) a2 (by kernel_rfl)
    clear D22 D21 D
    refine Means.add0 ?_
    (refine segL (t0 := t2) (i := 0) 100000 [1, 3, 0, 0, 0, 3, 0, 0, 0, 3, 0, 0, 0, 0, 3, 4, 0] ((.call (.ref 59) ⟨[.ref a.lx], []⟩) ) E2 (by assumption) (by assumption) ?_; intro o23; refine ⟨by kernel_rfl, by kernel_rfl, by kernel_rfl, by kernel_rfl, fun h23 D23 => ?_⟩)
    refine ln_get w _ _ (Fit.inner hA' D23 _ (by kernel_rfl) (by kernel_rfl)) _ _ _ g d os a r2 e c2.1 c2.2 (by omega) (D23.give [0, 0, 1, 1, 1] (by kernel_rfl)) fun h3 t3 e3 a3 => ?_
    obtain ⟨B3, E3⟩ := D23.backP [0, 0, 1, 1, 1] [3, 4, 0, 1, 2] ([(f, ldG w k wa ta at_ da to (.str ⟨⟨q.1⟩⟩ q.2) c tl a.lx), (to, listO (txV P ++ [.str ⟨⟨q.1⟩⟩ q.2]) (ep + 1))] ++ a.led w (txV r2) e3) (by kernel_rfl) a3 (by kernel_rfl)
    clear D23 E2
    refine Means.add0 ?_
    (refine segF (t0 := t3) (i := 0) 100000 [1, 1] ((Fin.again (lwC w f)) ) E3 (by assumption) (by assumption) ?_; intro o24; refine ⟨by kernel_rfl, by kernel_rfl, by kernel_rfl, fun h24 D24 => ?_⟩)
    obtain ⟨B4, E4⟩ := D24.pickE [0, 1, 2, 3, 4] ([(f, ldG w k wa ta at_ da to (.str ⟨⟨c2.1⟩⟩ c2.2) c tl a.lx), (to, listO (txV P ++ [.str ⟨⟨q.1⟩⟩ q.2]) (ep + 1))] ++ a.led w (txV r2) e3) (by kernel_rfl)
    rw [show txV P ++ [Value.str ⟨⟨q.1⟩⟩ q.2] = txV (P ++ [(q.1, q.2)]) from (txV_app P [(q.1, q.2)]).symm] at E4
    refine ⟨by kernel_rfl, ih (P ++ [(q.1, q.2)]) c2 r2 _ _ _ _ _ h2 (fun p hp => hne p (List.mem_cons_of_mem _ hp)) (by omega) (by rw [List.length_append, List.length_singleton]; omega) E4 fun h5 B5 t5 ep5 E5 => ?_⟩
    rw [List.append_assoc] at E5
    exact hR h5 B5 t5 ep5 E5
end Mine
end
section
open PySem PySem.W PySem.Calls PyProof.Rows
set_option Elab.async false
set_option maxRecDepth 100000
namespace Mine
noncomputable def ldH (w : World) (k : Nat → Nat) (wa ta at_ da to : Nat) (wv : Value) (tl : List DictEntry) (n : Nat) : Obj := fobj (ent w n_words (k 0) (.ref wa) :: ent w n_at (k 1) (.int (.ofNat at_) ta) :: ent w n_lines (k 2) (.ref da) :: ent w n_word (k 3) wv :: ent w n_told (k 4) (.ref to) :: tl) n
noncomputable def ltS (w : World) (tl : List DictEntry) (n : Nat) : Prop := (tl = [] ∧ n = 5) ∨ ∃ a b v u, tl = [ent w n_letter a v, ent w n_line b u] ∧ n = 7
noncomputable def ltC (w : World) (it f : Nat) : Code := forOf (stmtAt w 119 3) (.ref it) (envOf w 119 f q_ld)
noncomputable def kx (k : Nat → Nat) (a b : Nat) : Nat → Nat := fun n => match n with | 5 => a | 6 => b | n => k n
theorem lt_turn (w : World) (A : Around) (h₀ : Heap) (mods : List Nat) (hA : Fit 80 A (kt1 w) h₀) (R : Result → Shared → Prop) (g : Array GenState) (d : Drawn) (os : OsState) (f it sa es wa ta at_ da nd to : Nat) (k : Nat → Nat)
   (ld : List DictEntry) (T0 T1 T2 : List LI) (i : LI) (hi : i ∈ T0) (P0 : DP (PySem.strKind (PP w).prog w) ld (linesK T0)) (hne : ∀ q ∈ i.Q, q.1 ≠ []) (hq : i.Q.length ≤ 11) (tc : Nat) (pre rest : List (List Nat × Nat)) (P : List (List Nat × Nat)) (hP : P.length + i.Q.length ≤ 1000) (X : Led) (h : Heap) (B t0 n ep : Nat) (wv : Value) (tl : List DictEntry) (hs : ltS w tl n)
   (D : Rep (kt1 w) h₀ mods h B [(f, ldH w k wa ta at_ da to wv tl n), (it, iterO "list_iterator" (.ref sa) pre.length), (sa, listO (txV (pre ++ ([i.c], tc) :: rest)) es), (da, dictO ld nd), (to, listO (txV P) ep)] (linesL w (T1 ++ i :: T2) ++ X) 0)
   (hR : ∀ h' B' t' wv' tl' n' ep', ltS w tl' n' → Rep (kt1 w) h₀ mods h' B' [(f, ldH w k wa ta at_ da to wv' tl' n'), (it, iterO "list_iterator" (.ref sa) (pre.length + 1)), (sa, listO (txV (pre ++ ([i.c], tc) :: rest)) es), (da, dictO ld nd), (to, listO (txV (P ++ i.Q)) ep')] (linesL w (T1 ++ T2) ++ X) 0 → codeAny (PP w) A (ltC w it f) R ⟨h', g, d, t', os⟩) :
   codeAny (PP w) A (ltC w it f) R ⟨h, g, d, t0, os⟩ := by
  obtain ⟨b1, b2, hw⟩ := parF_ex w
  have hA' := hA.under (ltC w it f) (m := 79) (by kernel_rfl)
  have hv : PySem.valueAt (linesK T0) (⟨⟨[i.c]⟩⟩ : Str) = some (.ref i.a.lx) := by
    obtain ⟨j, hj⟩ := List.mem_iff_getElem?.mp hi
    refine PySem.valueAt_of_get P0.nd (i := j) ?_
    unfold linesK
    rw [List.getElem?_map, hj]
    rfl
  have D := D.openL
  refine code_start ?_
  refine Means.add0 ?_
  (refine segW (t0 := t0) (i := 0) 100000 [2] (Code.call (Value.builtin "list_iterator.__next__") { pos := [Value.ref it] : Args }) D (by assumption) (by assumption) ?_; intro o21; refine ⟨by kernel_rfl, by kernel_rfl, by kernel_rfl, by kernel_rfl, by kernel_rfl, fun h21 D21 => ?_⟩)
  refine callW_of rfl ?_
  rw [mark_none]
  refine r_lnext (Fit.inner hA' D21 _ (by kernel_rfl) (by kernel_rfl)) it sa pre.length es (txV (pre ++ ([i.c], tc) :: rest)) (.str ⟨⟨[i.c]⟩⟩ tc) (by simp [txV]) (D21.give [0, 1, 1] (by kernel_rfl)) fun g1 t' a1 => ?_
  obtain ⟨B2, E1⟩ := D21.backP [0, 1, 1] [2, 0, 1, 3, 4, 5, 6, 7] ([(f, ldH w k wa ta at_ da to wv tl n), (it, iterO "list_iterator" (.ref sa) (pre.length + 1)), (sa, listO (txV (pre ++ ([i.c], tc) :: rest)) es), (da, dictO ld nd), (to, listO (txV P) ep)] ++ i.led w) (by kernel_rfl) a1 (by kernel_rfl)
  refine Means.add0 ?_
  rcases hs with ⟨rfl, rfl⟩ | ⟨x5, x6, v5, v6, rfl, rfl⟩ <;> (
    (refine segW (t0 := t') (i := 0) 100000 [1, 1, 1, 1, 4, 4, 4] (Code.call (Value.builtin "dict.__getitem__") { pos := [Value.ref da, Value.str { cps := { toList := [i.c] : Array Nat } : Str } tc] : Args }) E1 (by assumption) (by assumption) ?_; intro o31; refine ⟨by kernel_rfl, by kernel_rfl, by kernel_rfl, by kernel_rfl, by kernel_rfl, fun h31 D31 => ?_⟩)
    refine callW_of rfl ?_
    rw [mark_none]
    refine r_dget da nd ld _ (⟨⟨[i.c]⟩⟩ : Str) _ (.ref i.a.lx) (strKind_is _ _ _ _) P0 (D31.give [0, 0, 0, 1] (by kernel_rfl)) hv fun t6 => ?_
    refine Means.add0 ?_
    (refine segL (t0 := t6) (i := 0) 100000 [1, 1, 1, 6, 0, 0, 0, 6, 0, 0, 0, 6, 0, 0, 0, 0, 6, 7, 0] (Code.call (Value.ref 66) { pos := [Value.ref i.a.lx, Value.str { cps := { toList := [] : Array Nat } : Str } (t6 + 1)] : Args }) D31 (by assumption) (by assumption) ?_; intro o32; refine ⟨by kernel_rfl, by kernel_rfl, by kernel_rfl, by kernel_rfl, fun h32 D32 => ?_⟩)
    obtain ⟨y5, y6, B4, E4⟩ : ∃ y5 y6 B', Rep (kt1 w) h₀ mods h32 B' ([(f, ldG w (kx k y5 y6) wa ta at_ da to wv i.c tc i.a.lx), (it, iterO "list_iterator" (.ref sa) (pre.length + 1)), (sa, listO (txV (pre ++ ([i.c], tc) :: rest)) es), (da, dictO ld nd), (to, listO (txV P) ep)] ++ i.a.led w (txV i.Q) i.e) (linesL w (T1 ++ T2) ++ X) 0 := by
      first
       | exact ⟨t', t6, D32.pickE [0, 1, 2, 3, 4, 5, 6, 7] _ (by kernel_rfl!)⟩
       | exact ⟨x5, x6, D32.pickE [0, 1, 2, 3, 4, 5, 6, 7] _ (by kernel_rfl!)⟩
    refine ln_push w _ _ (Fit.inner hA' D32 _ (by kernel_rfl) (by kernel_rfl)) _ _ _ g d os i.a i.Q i.e [] _ (by omega) (E4.give [0, 0, 0, 0, 0, 1, 1, 1] (by kernel_rfl)) fun h5 t5 e5 a5 => ?_
    clear D32 D31
    obtain ⟨B5, E5⟩ := E4.backP [0, 0, 0, 0, 0, 1, 1, 1] [3, 4, 5, 6, 7, 0, 1, 2] ([(f, ldG w (kx k y5 y6) wa ta at_ da to wv i.c tc i.a.lx), (it, iterO "list_iterator" (.ref sa) (pre.length + 1)), (sa, listO (txV (pre ++ ([i.c], tc) :: rest)) es), (da, dictO ld nd), (to, listO (txV P) ep)] ++ i.a.led w (txV (i.Q ++ [([], t6 + 1)])) e5) (by kernel_rfl) a5 (by kernel_rfl)
    obtain ⟨c2, r2, hcr⟩ : ∃ c2 r2, i.Q ++ [([], t6 + 1)] = c2 :: r2 := by cases i.Q <;> exact ⟨_, _, rfl⟩
    have hr2 : r2.length = i.Q.length := by have := congrArg List.length hcr; simp only [List.length_append, List.length_cons, List.length_nil] at this; omega
    rw [hcr] at E5
    refine Means.add0 ?_
    (refine segL (t0 := t5) (i := 0) 100000 [1, 6, 0, 0, 0, 6, 0, 0, 0, 6, 0, 0, 0, 0, 6, 7, 0] ((.call (.ref 59) ⟨[.ref i.a.lx], []⟩) ) E5 (by assumption) (by assumption) ?_; intro o33; refine ⟨by kernel_rfl, by kernel_rfl, by kernel_rfl, by kernel_rfl, fun h33 D33 => ?_⟩)
    refine ln_get w _ _ (Fit.inner hA' D33 _ (by kernel_rfl) (by kernel_rfl)) _ _ _ g d os i.a r2 e5 c2.1 c2.2 (by omega) (D33.give [0, 0, 0, 0, 0, 1, 1, 1] (by kernel_rfl)) fun h6 t7 e6 a6 => ?_
    obtain ⟨B6, E6⟩ := D33.backP [0, 0, 0, 0, 0, 1, 1, 1] [3, 4, 5, 6, 7, 0, 1, 2] ([(f, ldG w (kx k y5 y6) wa ta at_ da to wv i.c tc i.a.lx), (it, iterO "list_iterator" (.ref sa) (pre.length + 1)), (sa, listO (txV (pre ++ ([i.c], tc) :: rest)) es), (da, dictO ld nd), (to, listO (txV P) ep)] ++ i.a.led w (txV r2) e6) (by kernel_rfl) a6 (by kernel_rfl)
    clear D33 E5 E4
    refine Means.add0 ?_
    (refine segL (t0 := t7) (i := 0) 100000 [1, 1] ((lwC w f) ) E6 (by assumption) (by assumption) ?_; intro o34; refine ⟨by kernel_rfl, by kernel_rfl, by kernel_rfl, by kernel_rfl, fun h34 D34 => ?_⟩)
    obtain ⟨B7, E7⟩ := D34.partX [0, 4, 5, 6, 7] [1, 2, 3] ([(f, ldG w (kx k y5 y6) wa ta at_ da to (.str ⟨⟨c2.1⟩⟩ c2.2) i.c tc i.a.lx), (to, listO (txV P) ep)] ++ i.a.led w (txV r2) e6) [(it, iterO "list_iterator" (.ref sa) (pre.length + 1)), (sa, listO (txV (pre ++ ([i.c], tc) :: rest)) es), (da, dictO ld nd)] (by kernel_rfl) (by kernel_rfl)
    clear D34
    refine lw_loop w _ h₀ mods (hA'.ar (m := 65) _ (by kernel_rfl) (by kernel_rfl)) _ g d os f wa ta at_ da to i.c tc (t6 + 1) (kx k y5 y6) i.a _ i.Q P c2 r2 _ _ _ _ _ hcr hne hq hP E7 fun h8 B8 t8 ep8 D8 => ?_
    obtain ⟨B9, E9⟩ := D8.unpartX.pickE [0, 2, 3, 4, 1] [(f, ldG w (kx k y5 y6) wa ta at_ da to (.str ⟨⟨[]⟩⟩ (t6 + 1)) i.c tc i.a.lx), (it, iterO "list_iterator" (.ref sa) (pre.length + 1)), (sa, listO (txV (pre ++ ([i.c], tc) :: rest)) es), (da, dictO ld nd), (to, listO (txV (P ++ i.Q)) ep8)] (by kernel_rfl)
    clear D8
    refine Means.add0 ?_
    (refine segF (t0 := t8) (i := 0) 100000 [] ((Fin.again (ltC w it f)) ) E9 (by assumption) (by assumption) ?_; intro o35; refine ⟨by kernel_rfl, by kernel_rfl, by kernel_rfl, fun h35 D35 => ?_⟩)
    obtain ⟨B10, E10⟩ := D35.pickE [0, 1, 2, 3, 4] [(f, ldG w (kx k y5 y6) wa ta at_ da to (.str ⟨⟨[]⟩⟩ (t6 + 1)) i.c tc i.a.lx), (it, iterO "list_iterator" (.ref sa) (pre.length + 1)), (sa, listO (txV (pre ++ ([i.c], tc) :: rest)) es), (da, dictO ld nd), (to, listO (txV (P ++ i.Q)) ep8)] (by kernel_rfl)
    exact ⟨by kernel_rfl, hR _ _ _ (.str ⟨⟨[]⟩⟩ (t6 + 1)) [ent w n_letter y5 (.str ⟨⟨[i.c]⟩⟩ tc), ent w n_line y6 (.ref i.a.lx)] 7 ep8 (.inr ⟨_, _, _, _, rfl, rfl⟩) E10⟩)
end Mine
end
section
open PySem PySem.W PySem.Calls PyProof.Rows
set_option Elab.async false
set_option maxRecDepth 100000
namespace Mine
noncomputable def byL (at_ : Nat) (W : List (List Nat × Nat)) (x : List Nat) : List (List Nat × Nat) := W.filter (fun q => q.1[at_]? == x[0]?)
theorem lt_all (w : World) (A : Around) (h₀ : Heap) (mods : List Nat) (hA : Fit 80 A (kt1 w) h₀) (R : Result → Shared → Prop) (g : Array GenState) (d : Drawn) (os : OsState) (f it sa es wa ta at_ da nd to : Nat) (k : Nat → Nat)
   (ld : List DictEntry) (T0 : List LI) (P0 : DP (PySem.strKind (PP w).prog w) ld (linesK T0)) (W : List (List Nat × Nat)) (hD : Dealt at_ W T0) (hne : ∀ q ∈ W, q.1 ≠ []) (hq : W.length ≤ 11) (X : Led) :
   ∀ (rest pre P : List (List Nat × Nat)) (Tl : List LI) (h : Heap) (B t0 n ep : Nat) (wv : Value) (tl : List DictEntry), ltS w tl n → (rest.map (·.1)).Perm (Tl.map fun i => [i.c]) → (∀ i ∈ Tl, i ∈ T0) → P.length + rest.length * 11 ≤ 1000 →
   Rep (kt1 w) h₀ mods h B [(f, ldH w k wa ta at_ da to wv tl n), (it, iterO "list_iterator" (.ref sa) pre.length), (sa, listO (txV (pre ++ rest)) es), (da, dictO ld nd), (to, listO (txV P) ep)] (linesL w Tl ++ X) 0 →
   (∀ h' B' t' wv' tl' n' ep', ltS w tl' n' → Rep (kt1 w) h₀ mods h' B' [(f, ldH w k wa ta at_ da to wv' tl' n'), (to, listO (txV (P ++ (rest.map (·.1)).flatMap (byL at_ W))) ep')] X 0 → R (.ok .next) ⟨h', g, d, t', os⟩) →
   codeAny (PP w) A (ltC w it f) R ⟨h, g, d, t0, os⟩ := by
  intro rest
  induction rest with
  | nil =>
    intro pre P Tl h B t0 n ep wv tl hs hp hT hz D hR
    obtain rfl : Tl = [] := by
      have := hp.length_eq
      simpa using this.symm
    obtain ⟨b1, b2, hw⟩ := parF_ex w
    have hA' := hA.under (ltC w it f) (m := 79) (by kernel_rfl)
    refine code_start ?_
    refine Means.add0 ?_
    (refine segW (t0 := t0) (i := 0) 100000 [2] (Code.call (Value.builtin "list_iterator.__next__") { pos := [Value.ref it] : Args }) D (by assumption) (by assumption) ?_; intro o11; refine ⟨by kernel_rfl, by kernel_rfl, by kernel_rfl, by kernel_rfl, by kernel_rfl, fun h11 D11 => ?_⟩)
    refine callW_of rfl ?_
    rw [mark_none]
    refine r_lend (Fit.inner hA' D11 _ (by kernel_rfl) (by kernel_rfl)) it sa pre.length es (txV (pre ++ [])) (by simp [txV]) (D11.give [0, 1, 1] (by kernel_rfl)) fun g1 t' x y a1 => ?_
    obtain ⟨B2, E1⟩ := D11.backP [0, 1, 1] [3, 5, 1, 2] [(f, ldH w k wa ta at_ da to wv tl n), (to, listO (txV P) ep), (y, tupO []), (x, stopO y)] (by kernel_rfl) a1 (by kernel_rfl)
    refine Means.add0 ?_
    (refine segF (t0 := t') (i := 0) 100000 [4] ((Fin.again (Code.block [] (envOf w 119 f q_ld))) ) E1 (by assumption) (by assumption) ?_; intro o12; refine ⟨by kernel_rfl, by kernel_rfl, by kernel_rfl, fun h12 D12 => ?_⟩)
    obtain ⟨B3, E2⟩ := D12.pickE [0, 1] [(f, ldH w k wa ta at_ da to wv tl n), (to, listO (txV P) ep)] (by kernel_rfl)
    have hA2 := hA.under (Code.block [] (envOf w 119 f q_ld)) (m := 0) (by kernel_rfl)
    refine ⟨by kernel_rfl, code_start ?_⟩
    refine Means.add0 ?_
    (refine segF (t0 := t' + outI o12) (i := 0) 100000 [] (Fin.done Flow.next) E2 (by assumption) (by assumption) ?_; intro o13; refine ⟨by kernel_rfl, by kernel_rfl, by kernel_rfl, fun h13 D13 => ?_⟩)
    obtain ⟨B4, E4⟩ := D13.pickE [0, 1] [(f, ldH w k wa ta at_ da to wv tl n), (to, listO (txV (P ++ (([] : List (List Nat × Nat)).map (·.1)).flatMap (byL at_ W))) ep)] (by rw [show P ++ (([] : List (List Nat × Nat)).map (·.1)).flatMap (byL at_ W) = P by simp]; kernel_rfl)
    exact hR _ _ _ wv tl n ep hs E4
  | cons q rest ih =>
    intro pre P Tl h B t0 n ep wv tl hs hp hT hz D hR
    obtain ⟨i, hi, hic⟩ := List.mem_map.mp (hp.mem_iff.mp (by rw [List.map_cons]; exact List.mem_cons_self) : q.1 ∈ _)
    obtain ⟨T1, T2, rfl⟩ := List.append_of_mem hi
    have e1 : pre ++ q :: rest = (pre ++ [q]) ++ rest := by simp
    have e2 : pre.length + 1 = (pre ++ [q]).length := by simp
    have hi0 : i ∈ T0 := hT i (by simp)
    have hQ : i.Q = byL at_ W q.1 := by rw [hD.q i hi0, ← hic]; rfl
    have hQl : i.Q.length ≤ 11 := by rw [hQ]; exact Nat.le_trans (List.length_filter_le _ _) hq
    rw [List.length_cons] at hz
    obtain ⟨q1, q2⟩ := q
    subst hic
    refine lt_turn w A h₀ mods hA R g d os f it sa es wa ta at_ da nd to k ld T0 T1 T2 i hi0 P0 (fun p hp' => hne p ?_) hQl q2 pre rest P (by omega) X h B t0 n ep wv tl hs D fun h' B' t' wv' tl' n' ep' hs' D' => ?_
    · rw [hQ] at hp'
      exact (List.mem_filter.mp hp').1
    · rw [e1, e2] at D'
      have hp2 : (rest.map (·.1)).Perm ((T1 ++ T2).map fun i => [i.c]) := by
        have h1 : (([i.c] : List Nat) :: rest.map (·.1)).Perm ([i.c] :: (T1 ++ T2).map fun i => [i.c]) := by
          refine hp.trans ?_
          rw [List.map_append, List.map_append, List.map_cons]
          exact List.perm_middle
        exact h1.cons_inv
      refine ih (pre ++ [([i.c], q2)]) (P ++ i.Q) (T1 ++ T2) h' B' t' n' ep' wv' tl' hs' hp2 (fun j hj => hT j ?_) (by rw [List.length_append]; omega) D' fun h5 B5 t5 wv5 tl5 n5 ep5 hs5 D5 => ?_
      · rcases List.mem_append.mp hj with h | h
        · exact List.mem_append_left _ h
        · exact List.mem_append_right _ (List.mem_cons_of_mem _ h)
      · rw [List.append_assoc, hQ] at D5
        exact hR h5 B5 t5 wv5 tl5 n5 ep5 hs5 D5
end Mine
end
section
open PySem PySem.W PySem.Calls PyProof.Rows
set_option Elab.async false
set_option maxRecDepth 100000
namespace Mine
section
variable {prog : Program} {w : World} {A : Around} {R : Result → Shared → Prop} {B t0 : Nat} {g : Array GenState} {d : Drawn} {os : OsState} {mods : List Nat} {kt : Nat → Option Obj} {h₀ : Heap}
theorem r_sorted {X : Led} {h : Heap} (a n : Nat) (l : List Value) (hz : l.length ≤ 1000000) (kw : List (Str × Value)) (harg : argsOk "sorted" ⟨[.ref a], kw⟩) (D : Rep kt h₀ mods h B [(a, listO l n)] X 0)
   (hS : ∀ h1 B1 t1 b, Rep kt h₀ mods h1 B1 [(b, listO l 0)] ((a, listO l n) :: X) 0 → codeAny (model prog w) A.in1 (.call (.builtin "list.sort") ⟨[.ref b], kw⟩) (fun r s' => r = .ok (.ret .none) ∧ R (.ok (.ret (.ref b))) s') ⟨h1, g, d, t1, os⟩) :
   callW (model prog w) A none (.call (.builtin "sorted") ⟨[.ref a], kw⟩) R ⟨h, g, d, t0, os⟩ := by
  have hd : h.get? a = some (listO l n) := D.get (j := 0) rfl
  refine callW_call (Q := fun v s' => R (.ok (.ret v)) s') (E := fun e s' => R (.error e) s') ?_ (fun _ _ h => h) (fun _ _ h => h)
  refine call_function_entry_kw kind_sorted plain_sorted entry_sorted harg ?_
  unfold Builtin.«sorted»
  refine wpAny_bind (m := checkCount "sorted" 1 1 _) (wpAny_pure ?_)
  refine wpAny_bind (collect_list (l := a) (vs := l) ⟨_, hd, rfl, n, rfl⟩ ?_ (by rw [sizeLine_eq]; omega))
  have hs : h.objs.size = B := by simpa using D.size
  subst hs
  have D1 := D.alloc (o := listO [] 0) rfl
  have D2 := D1.update (j := 1) (p := (h.objs.size + 0, listO [] 0)) (f := Obj.mapSeq (· ++ l.toArray)) rfl rfl
  have D3 := D2.alloc (o := listO l 0) rfl
  refine wpAny_bind (wpAny_newList ?_)
  refine wpAny_bind (wpAny_holding (wpAny_call ?_))
  have hsz : ((h.push (seqObj "list" #[] 0)).update h.objs.size (Obj.mapSeq (· ++ l.toArray))).objs.size = h.objs.size + 1 := by
    rw [Heap.size_update, size_push']
  have D4 := (D3.pickE [2, 0] [(h.objs.size + 1, listO l 0), (a, listO l n)] rfl)
  obtain ⟨B4, E4⟩ := D4
  obtain ⟨B5, E5⟩ := E4.partX [0] [1] [(h.objs.size + 1, listO l 0)] [(a, listO l n)] rfl rfl
  have W := hS _ _ t0 _ E5
  show codeAny _ _ (.call (.builtin "list.sort") ⟨[.ref ((h.push (seqObj "list" #[] 0)).update h.objs.size (Obj.mapSeq (· ++ l.toArray))).objs.size], kw⟩) _ _
  rw [hsz]
  refine codeAny_mono W fun r s' hr => ?_
  obtain ⟨rfl, hr⟩ := hr
  exact wpAny_pure ⟨_, rfl, hr⟩
end
end Mine
end
section
open PySem PySem.W PySem.Calls PyProof.Rows
set_option Elab.async false
set_option maxRecDepth 100000
namespace Mine
theorem LK_of {ld : List DictEntry} {T : List LI} {w : World} (P : DP (PySem.strKind (PP w).prog w) ld (linesK T)) : LK ld T := by
  have hl : ld.length = T.length := by have := P.prs.length; unfold linesK at this; rw [List.length_map] at this; exact this
  refine ⟨fun j q hq => ?_, hl⟩
  have hj : j < ld.length := by
    rw [hl]
    exact (List.getElem?_eq_some_iff.mp hq).1
  have he : ld[j]? = some ld[j] := List.getElem?_eq_getElem hj
  obtain ⟨h1, h2⟩ := P.prs.get? (k := ⟨⟨[q.c]⟩⟩) (v := .ref q.a.lx) he (by unfold linesK; rw [List.getElem?_map, hq]; rfl)
  obtain ⟨t, ht⟩ := PySem.Value.isStrOf_shape h1
  refine ⟨ld[j].hash, t, ?_⟩
  rw [he]
  congr 1
  calc ld[j] = ⟨ld[j].hash, ld[j].key, ld[j].val⟩ := rfl
    _ = _ := by rw [ht, h2]
structure DL (at_ : Nat) (W : List (List Nat × Nat)) (L : List (List Nat)) : Prop where
  all : ∀ q ∈ W, ∃ x ∈ L, q.1[at_]? = x[0]?
  srt : L.Pairwise fun x y => decide (y < x) = false
  nd : L.Nodup
  one : ∀ x ∈ L, ∃ c, x = [c]
theorem law_dealt (w : World) (A : Around) (h₀ : Heap) (hA : Fit 100 A (kt1 w) h₀) (R : Result → Shared → Prop) (B t0 : Nat) (g : Array GenState) (d : Drawn) (os : OsState) (wa ew at_ ta : Nat) (W : List (List Nat × Nat)) {mods : List Nat} (hat : at_ < 1000) (hW : W ≠ []) (hl : W.length ≤ 11) (hc : ∀ q ∈ W, ∃ c, q.1[at_]? = some c)
   (D : Rep (kt1 w) h₀ mods h₀ B [(wa, listO (txV W) ew)] [] 0)
   (hR : ∀ h1 t' to e' L, DL at_ W L → After h₀ h1 mods [(to, listO (txV (L.flatMap (byL at_ W))) e')] → R (.ok (.ret (.ref to))) ⟨h1, g, d, t', os⟩) :
   codeAny (PP w) A (.call (.ref 119) ⟨[.ref wa, .int (.ofNat at_) ta], []⟩) R ⟨h₀, g, d, t0, os⟩ := by
  obtain ⟨b1, b2, hw⟩ := parF_ex w
  refine code_ent (D.kt_ (a := 119) (o := obAt w 119) (by kernel_rfl)) (fd := fdAt w 119) (by kernel_rfl) (by have := hA.room; omega) ?_
  refine Means.add0 ?_
  (refine segLb (t0 := t0) (i := 0) 100000 [0, 2, 2, 2, 2, 2, 2, 2, 1, 1, 1, 1, 4] ((ldC w (B + 2) B) ) D (by assumption) (by assumption) (by kernel_rfl) ?_; intro o1; refine ⟨by kernel_rfl, by kernel_rfl, by kernel_rfl, by kernel_rfl, fun h1 D1 => ?_⟩)
  obtain ⟨B2, E2⟩ := D1.partX [1, 3, 0, 2] [] [(B, ldF w t0 (t0 + 1) (t0 + 2) wa ta at_ (B + 1) [] 3), (B + 2, iterO "list_iterator" (.ref wa) ([] : List (List Nat × Nat)).length), (wa, listO (txV ([] ++ W)) ew), (B + 1, dictO [] 0)] (linesL w []) (by kernel_rfl) rfl
  clear D1
  refine ld_all w _ h₀ _ (hA.ar _ (by kernel_rfl) (by kernel_rfl)) _ g d os B (B + 2) t0 (t0 + 1) (t0 + 2) wa ta at_ (B + 1) ew hat [] W [] [] _ _ _ _ _ [] [] hc (by rw [List.nil_append]; omega) (Dealt.nil at_) DP.nil (.inl ⟨rfl, rfl⟩) (fun e => absurd e hW) E2 fun h3 B3 t3 kk v ld nd T hT P E3 => ?_
  clear E2
  refine Means.add0 ?_
  (refine segWb (t0 := t3) (i := 0) 100000 [1, 1, 0, 0, 1, 3, 3] (Code.call (Value.builtin "dict.__iter__") { pos := [Value.ref (B + 1)] : Args }) E3 (by assumption) (by assumption) (by kernel_rfl) ?_; intro o2; refine ⟨by kernel_rfl, by kernel_rfl, by kernel_rfl, by kernel_rfl, by kernel_rfl, fun h2 D2 => ?_⟩)
  refine callW_of rfl ?_
  rw [mark_none]
  have hdl : ld.length = T.length := by have := P.prs.length; unfold linesK at this; rw [List.length_map] at this; exact this
  refine r_diter (so := obAt w sysModules) (by kernel_rfl) (B + 1) nd ld ld.length rfl (D2.give [0, 0, 1] (by kernel_rfl)) fun h4 it t4 a4 => ?_
  obtain ⟨B4, E4⟩ := D2.backP [0, 0, 1] [2, 1, 0, 4] [(B, ldH w (fun n => match n with | 0 => t0 | 1 => t0 + 1 | 2 => t0 + 2 | 3 => kk | _ => t3) wa ta at_ (B + 1) B3 v [] 5), (it, dkiO (B + 1) 0 ld.length nd), (B + 1, dictO ld nd), (B3, listO (txV []) 0)] (by kernel_rfl) a4 (by kernel_rfl)
  clear D2
  refine Means.add0 ?_
  have hLK : LK ld T := LK_of P
  have hTne : T ≠ [] := by
    intro e
    subst e
    obtain ⟨q, hq⟩ := List.exists_mem_of_ne_nil W hW
    obtain ⟨i, hi, _⟩ := hT.all q hq
    simp at hi
  (refine segL (t0 := t4) (i := 0) 100000 [2] ((compS w 119 (eLK w) (.ref it) (.ref B4) (B4 + 1) q_ld B) ) E4 (by assumption) (by assumption) ?_; intro o3; refine ⟨by kernel_rfl, by kernel_rfl, by kernel_rfl, by kernel_rfl, fun h3 D3 => ?_⟩)
  obtain ⟨B5, E5⟩ := D3.partX [4, 1, 2, 5] [0, 3] [(B4, listO [] 0), (it, dkiO (B + 1) 0 ld.length nd), (B + 1, dictO ld nd), (B4 + 1, dictO [] 0)] [(B, ldH w (fun n => match n with | 0 => t0 | 1 => t0 + 1 | 2 => t0 + 2 | 3 => kk | _ => t3) wa ta at_ (B + 1) B3 v [] 5), (B3, listO (txV []) 0)] (by kernel_rfl) (by kernel_rfl)
  clear D3
  refine lk_start w _ h₀ _ (hA.ar _ (by kernel_rfl) (by kernel_rfl)) _ g d os it B4 (B4 + 1) B (B + 1) nd ld T hTne _ (by have := hT.len; rw [List.nil_append] at this; omega) hLK _ _ _ E5 fun h6 B6 t6 ep6 K dl6 dn6 hd6 hK E6 => ?_
  obtain ⟨BB, E7⟩ := E6.unpartX.pickE [0, 1, 2, 3, 4] [(B4, listO (txV K) ep6), (B + 1, dictO ld nd), (B4 + 1, dictO dl6 dn6), (B, ldH w (fun n => match n with | 0 => t0 | 1 => t0 + 1 | 2 => t0 + 2 | 3 => kk | _ => t3) wa ta at_ (B + 1) B3 v [] 5), (B3, listO (txV []) 0)] (by kernel_rfl)
  clear E5 E6
  obtain ⟨k6, v6, rfl, rfl⟩ := hd6
  refine Means.add0 ?_
  have hKl : K.length = T.length := by have := congrArg List.length hK; rw [List.length_map, List.length_map] at this; exact this
  have hTl : T.length ≤ 11 := by have := hT.len; rw [List.nil_append] at this; omega
  (refine segW (t0 := t6) (i := 0) 100000 [3, 3, 3] (Code.call (Value.builtin "sorted") { pos := [Value.ref B4] : Args }) E7 (by assumption) (by assumption) ?_; intro o4; refine ⟨by kernel_rfl, by kernel_rfl, by kernel_rfl, by kernel_rfl, by kernel_rfl, fun h4 D4 => ?_⟩)
  obtain ⟨B8, E8⟩ := D4.partX [0] [3, 1, 4] [(B4, listO (txV K) ep6)] [(B, ldH w (fun n => match n with | 0 => t0 | 1 => t0 + 1 | 2 => t0 + 2 | 3 => kk | _ => t3) wa ta at_ (B + 1) B3 v [] 5), (B + 1, dictO ld nd), (B3, listO (txV []) 0)] (by kernel_rfl) (by kernel_rfl)
  clear D4 E7
  have hA8 := hA.ar (m := 5) (outκ o4) (by kernel_rfl) (by kernel_rfl)
  refine r_sorted B4 ep6 (txV K) (by rw [txV_len]; omega) [] (args_sorted1 _) E8 fun h9 B9 t9 b E9 => ?_
  refine r_sortstr K b 0 (by omega) (E9.give [1] (by kernel_rfl)) fun h10 t10 e10 K2 hp2 hs2 a10 => ⟨rfl, ?_⟩
  obtain ⟨B10, E10⟩ := E9.backP [1] [0] [(b, listO (txV K2) e10)] (by kernel_rfl) a10 (by kernel_rfl)
  have E11 := (Rep.unpartX (X' := (B4, listO (txV K) ep6) :: [(B, ldH w (fun n => match n with | 0 => t0 | 1 => t0 + 1 | 2 => t0 + 2 | 3 => kk | _ => t3) wa ta at_ (B + 1) B3 v [] 5), (B + 1, dictO ld nd), (B3, listO (txV []) 0)]) (X := linesL w T ++ []) E10)
  clear E10 E9 E8
  refine Means.add0 ?_
  (refine segLb (t0 := t10) (i := 0) 100000 [1, 1, 1, 1, 6] ((ltC w B10 B) ) E11 (by assumption) (by assumption) (by kernel_rfl) ?_; intro o5; refine ⟨by kernel_rfl, by kernel_rfl, by kernel_rfl, by kernel_rfl, fun h5 D5 => ?_⟩)
  obtain ⟨B12, E12⟩ := D5.partX [2, 5, 0, 3, 4] [] [(B, ldH w (fun n => match n with | 0 => t0 | 1 => t0 + 1 | 2 => t0 + 2 | 3 => kk | _ => t3) wa ta at_ (B + 1) B3 v [] 5), (B10, iterO "list_iterator" (.ref b) ([] : List (List Nat × Nat)).length), (b, listO (txV ([] ++ K2)) e10), (B + 1, dictO ld nd), (B3, listO (txV []) 0)] [] (by kernel_rfl) rfl
  clear D5 E11
  rw [List.nil_append] at hT
  have hK2 : (K2.map (·.1)).Perm (T.map fun i => [i.c]) := (hp2.map _).trans (by rw [hK])
  have hK2l : K2.length ≤ 11 := by rw [hp2.length_eq]; omega
  refine lt_all w _ h₀ _ (hA.ar _ (by kernel_rfl) (by kernel_rfl)) _ g d os B B10 b e10 wa ta at_ (B + 1) nd B3 (fun n => match n with | 0 => t0 | 1 => t0 + 1 | 2 => t0 + 2 | 3 => kk | _ => t3) ld T P W hT (fun q hq e => by obtain ⟨c, h⟩ := hc q hq; rw [e] at h; simp at h) hl [] K2 [] [] T _ _ _ _ _ v [] (.inl ⟨rfl, rfl⟩) hK2 (fun _ h => h) (by rw [List.length_nil]; omega) E12 fun h13 B13 t13 wv tl n13 e13 hs13 E13 => ?_
  clear E12
  refine Means.add0 ?_
  have hDL : DL at_ W (K2.map (·.1)) := by
    refine ⟨fun q hq => ?_, ?_, ?_, fun x hx => ?_⟩
    · obtain ⟨i, hi, e⟩ := hT.all q hq
      exact ⟨[i.c], hK2.mem_iff.mpr (List.mem_map.mpr ⟨i, hi, rfl⟩), e⟩
    · exact List.pairwise_map.mpr hs2
    · refine hK2.nodup_iff.mpr ?_
      have := hT.nd
      rw [show (fun i : LI => [i.c]) = (fun c : Nat => [c]) ∘ (fun i : LI => i.c) from rfl, ← List.map_map]
      exact List.pairwise_map.mpr (List.Pairwise.imp (fun {a b} (h : a ≠ b) (e : [a] = [b]) => h (by injection e)) this)
    · obtain ⟨i, _, e⟩ := List.mem_map.mp (hK2.mem_iff.mp hx)
      exact ⟨i.c, e.symm⟩
  rcases hs13 with ⟨rfl, rfl⟩ | ⟨x5, x6, v5, v6, rfl, rfl⟩ <;> (
    (refine segF (t0 := t13) (i := 0) 100000 [1] ((Fin.done (Flow.ret (.ref B3))) ) E13 (by assumption) (by assumption) ?_; intro o6; refine ⟨by kernel_rfl, by kernel_rfl, by kernel_rfl, fun h6 D6 => ?_⟩)
    exact hR _ _ B3 e13 _ hDL (D6.finP [1] (by kernel_rfl)))
end Mine
end
section
open PySem PySem.W PySem.Calls PyProof.Rows
set_option Elab.async false
set_option maxRecDepth 100000
namespace Mine
noncomputable def n_names := [110, 97, 109, 101, 115]
noncomputable def n_count := [99, 111, 117, 110, 116]
noncomputable def n_kk := [107]
noncomputable def q_nm := [95, 108, 97, 119, 95, 110, 97, 109, 101, 115, 46, 60, 108, 111, 99, 97, 108, 115, 62, 46]
noncomputable def nmF (w : World) (k : Nat → Nat) (ra na c tc : Nat) (dl : List DictEntry) (n : Nat) : Obj := fobj (ent w n_row (k 0) (.ref ra) :: ent w n_names (k 1) (.ref na) :: ent w n_count (k 2) (.int (.ofNat c) tc) :: dl) n
noncomputable def nmC (w : World) (it f : Nat) : Code := forOf (stmtAt w 126 2) (.ref it) (envOf w 126 f q_nm)
theorem intKind_is (prog : Program) (w : World) (k : Int) (t : Nat) : (PySem.intKind prog w).is k (.int k t) = true := by simp [PySem.intKind, PySem.Value.isInt]
theorem nm_turn (w : World) (A : Around) (h₀ : Heap) (mods : List Nat) (hA : Fit 40 A (kt1 w) h₀) (R : Result → Shared → Prop) (g : Array GenState) (d : Drawn) (os : OsState) (f it ra na er : Nat) (k : Nat → Nat)
   (W : List (List Nat × Nat)) (hWl : W.length ≤ 1000) (hW4 : ∀ q ∈ W, q.1.length = 4) (j left : Nat) (p q : List Nat × Nat) (hp : W[j]? = some p) (hq : W[j + 1]? = some q) (c : Nat) (x : Nat) (hx : q.1[3]? = some x) (X : Led) (h : Heap) (B t0 tc nd kk : Nat) (v : Value) (ld : List DictEntry) (kvs : List (Int × Value)) (hkl : kvs.length ≤ 1000)
   (P : DP (PySem.intKind (PP w).prog w) ld kvs)
   (D : Rep (kt1 w) h₀ mods h B [(f, nmF w k ra na c tc [ent w n_kk kk v] 4), (it, ritO (j + 1 : Nat) (left + 1 : Nat)), (ra, listO (txV W) er), (na, dictO ld nd)] X 0)
   (hR : ∀ h' B' t' tc' tk' kk' v' ld' nd', let c' := c + (if q.1.take 3 = p.1.take 3 then 0 else 1); DP (PySem.intKind (PP w).prog w) ld' (PySem.stored kvs ((x : Int) - 65) (.int (.ofNat c') tk')) → Rep (kt1 w) h₀ mods h' B' [(f, nmF w k ra na c' tc' [ent w n_kk kk' v'] 4), (it, ritO (j + 2 : Nat) (left : Nat)), (ra, listO (txV W) er), (na, dictO ld' nd')] X 0 → codeAny (PP w) A (nmC w it f) R ⟨h', g, d, t', os⟩) :
   codeAny (PP w) A (nmC w it f) R ⟨h, g, d, t0, os⟩ := by
  obtain ⟨b1, b2, hw⟩ := parF_ex w
  have hA' := hA.under (nmC w it f) (m := 39) (by kernel_rfl)
  refine code_start ?_
  refine Means.add0 ?_
  (refine segW (t0 := t0) (i := 0) 100000 [2] (Code.call (Value.builtin "range_iterator.__next__") { pos := [Value.ref it] : Args }) D (by assumption) (by assumption) ?_; intro o11; refine ⟨by kernel_rfl, by kernel_rfl, by kernel_rfl, by kernel_rfl, by kernel_rfl, fun h11 D11 => ?_⟩)
  refine callW_of rfl ?_
  rw [mark_none]
  refine r_rnext it (j + 1 : Nat) (left + 1 : Nat) (by omega) (D11.give [0, 1] (by kernel_rfl)) fun g1 t1 t' a1 => ?_
  rw [show ((j + 1 : Nat) : Int) + 1 = (j + 2 : Nat) by omega, show ((left + 1 : Nat) : Int) - 1 = (left : Nat) by omega] at a1
  obtain ⟨B2, E2⟩ := D11.backP [0, 1] [1, 0, 2, 3] [(f, nmF w k ra na c tc [ent w n_kk kk v] 4), (it, ritO (j + 2 : Nat) (left : Nat)), (ra, listO (txV W) er), (na, dictO ld nd)] (by kernel_rfl) a1 (by kernel_rfl)
  refine Means.add0 ?_
  (refine segWb (t0 := t') (i := 0) 100000 [1, 1, 1, 1, 1, 1, 3, 3, 3] (Code.call (Value.builtin "list.__getitem__") { pos := [Value.ref ra, Value.int (Int.ofNat (j + 1)) t1] : Args }) E2 (by assumption) (by assumption) (by kernel_rfl) ?_; intro o12; refine ⟨by kernel_rfl, by kernel_rfl, by kernel_rfl, by kernel_rfl, by kernel_rfl, fun h12 D12 => ?_⟩)
  have hgq : (txV W)[j + 1]? = some (.str ⟨⟨q.1⟩⟩ q.2) := by unfold txV; rw [List.getElem?_map, hq]; rfl
  have hgp : (txV W)[j]? = some (.str ⟨⟨p.1⟩⟩ p.2) := by unfold txV; rw [List.getElem?_map, hp]; rfl
  have hj : j + 1 < W.length := (List.getElem?_eq_some_iff.mp hq).1
  have hq4 := hW4 q (List.mem_of_getElem? hq)
  have hp4 := hW4 p (List.mem_of_getElem? hp)
  refine callW_of rfl ?_
  rw [mark_none]
  refine r_lget ra er (j + 1) _ (txV W) _ hgq (by omega) (D12.give [0, 0, 1] (by kernel_rfl)) ?_
  refine Means.add0 ?_
  (refine segW (t0 := t' + outI o12) (i := 0) 100000 [] (Code.call (Value.builtin "str.__getitem__") { pos := [Value.str { cps := { toList := q.fst : Array Nat } : Str } q.snd, Value.ref B2] : Args }) D12 (by assumption) (by assumption) ?_; intro o13; refine ⟨by kernel_rfl, by kernel_rfl, by kernel_rfl, by kernel_rfl, by kernel_rfl, fun h13 D13 => ?_⟩)
  refine callW_of rfl ?_
  rw [mark_none]
  refine r_sliceTo q.1 3 q.2 (t' + 2) B2 (by omega) (D13.give [0, 0, 0, 0, 1] (by kernel_rfl)) fun t2 t3 => ?_
  refine Means.add0 ?_
  (refine segW (t0 := t3) (i := 0) 100000 [1, 1, 1, 3, 3, 3] (Code.call (Value.builtin "list.__getitem__") { pos := [Value.ref ra, Value.int (↑(j + 1) - 1) (t3 + 1)] : Args }) D13 (by assumption) (by assumption) ?_; intro o14; refine ⟨by kernel_rfl, by kernel_rfl, by kernel_rfl, by kernel_rfl, by kernel_rfl, fun h14 D14 => ?_⟩)
  refine callW_of rfl ?_
  rw [mark_none]
  refine r_lget' ra er (t3 + 1) (((j + 1 : Nat) : Int) - 1) (txV W) _ (by omega) (by rw [show (((j + 1 : Nat) : Int) - 1).toNat = j by omega]; exact hgp) (by omega) (D14.give [0, 0, 1] (by kernel_rfl)) ?_
  refine Means.add0 ?_
  (refine segW (t0 := t3 + outI o14) (i := 0) 100000 [] (Code.call (Value.builtin "str.__getitem__") { pos := [Value.str { cps := { toList := p.fst : Array Nat } : Str } p.snd, Value.ref (B2 + 1)] : Args }) D14 (by assumption) (by assumption) ?_; intro o15; refine ⟨by kernel_rfl, by kernel_rfl, by kernel_rfl, by kernel_rfl, by kernel_rfl, fun h15 D15 => ?_⟩)
  refine callW_of rfl ?_
  rw [mark_none]
  refine r_sliceTo p.1 3 p.2 (t3 + 2) (B2 + 1) (by omega) (D15.give [0, 0, 0, 0, 0, 1] (by kernel_rfl)) fun t4 t5 => ?_
  refine Means.add0 ?_
  (refine segWb (t0 := t5) (i := 0) 100000 [] (Code.call (Value.builtin "str.__ne__") { pos := [Value.str { cps := { toList := List.take 3 q.fst : Array Nat } : Str } t2, Value.str { cps := { toList := List.take 3 p.fst : Array Nat } : Str } t4] : Args }) D15 (by assumption) (by assumption) (by kernel_rfl) ?_; intro o16; refine ⟨by kernel_rfl, by kernel_rfl, by kernel_rfl, by kernel_rfl, by kernel_rfl, fun h16 D16 => ?_⟩)
  refine callW_of rfl ?_
  rw [mark_none]
  refine r_sne (q.1.take 3) (p.1.take 3) _ _ (q.1.take 3 != p.1.take 3) rfl ?_
  refine Means.add0 ?_
  obtain ⟨B3, E3⟩ := D16.pickE [0, 1, 2, 3] [(f, nmF w k ra na c tc [ent w n_kk kk (.int (.ofNat (j + 1)) t1)] 4), (it, ritO (j + 2 : Nat) (left : Nat)), (ra, listO (txV W) er), (na, dictO ld nd)] (by kernel_rfl)
  clear D16 D15 D14 D13 D12 E2
  by_cases he : q.1.take 3 = p.1.take 3
  · rw [show (q.1.take 3 != p.1.take 3) = false by rw [he]; exact bne_self_eq_false _]
    (refine segW (t0 := t5 + outI o16) (i := 0) 100000 [1, 1, 0, 0, 1, 1, 3, 3, 3] (Code.call (Value.builtin "list.__getitem__") { pos := [Value.ref ra, Value.int (Int.ofNat (j + 1)) t1] : Args }) E3 (by assumption) (by assumption) ?_; intro o21; refine ⟨by kernel_rfl, by kernel_rfl, by kernel_rfl, by kernel_rfl, by kernel_rfl, fun h21 D21 => ?_⟩)
    refine callW_of rfl ?_
    rw [mark_none]
    refine r_lget ra er (j + 1) _ (txV W) _ hgq (by omega) (D21.give [0, 0, 1] (by kernel_rfl)) ?_
    refine Means.add0 ?_
    (refine segW (t0 := t5 + outI o16 + outI o21) (i := 0) 100000 [] (Code.call (Value.builtin "str.__getitem__") { pos := [Value.str { cps := { toList := q.fst : Array Nat } : Str } q.snd, Value.int 3 t5] : Args }) D21 (by assumption) (by assumption) ?_; intro o22; refine ⟨by kernel_rfl, by kernel_rfl, by kernel_rfl, by kernel_rfl, by kernel_rfl, fun h22 D22 => ?_⟩)
    refine callW_of rfl ?_
    rw [mark_none]
    refine r_sget q.1 3 q.2 _ x (by decide) hx fun t6 t7 => ?_
    refine Means.add0 ?_
    (refine segW (t0 := t7) (i := 0) 100000 [1, 1, 4, 4] (Code.call (Value.builtin "dict.__setitem__") { pos := [Value.ref na, Value.int (↑x - 65) (t7 + 2), Value.int (Int.ofNat c) tc] : Args }) D22 (by assumption) (by assumption) ?_; intro o23; refine ⟨by kernel_rfl, by kernel_rfl, by kernel_rfl, by kernel_rfl, by kernel_rfl, fun h23 D23 => ?_⟩)
    refine callW_of rfl ?_
    rw [mark_none]
    refine r_dset na nd ld _ ((x : Int) - 65) _ _ (intKind_is _ _ _ _) P (by omega) (D23.give [0, 0, 0, 1] (by kernel_rfl)) fun h5 t8 ld' nd' P' a5 => ?_
    obtain ⟨B5, E5⟩ := D23.backP [0, 0, 0, 1] [1, 2, 3, 0] [(f, nmF w k ra na c tc [ent w n_kk kk (.int (.ofNat (j + 1)) t1)] 4), (it, ritO (j + 2 : Nat) (left : Nat)), (ra, listO (txV W) er), (na, dictO ld' nd')] (by kernel_rfl) a5 (by kernel_rfl)
    clear D21 D22 D23
    refine Means.add0 ?_
    (refine segF (t0 := t8) (i := 0) 100000 [] ((Fin.again (nmC w it f)) ) E5 (by assumption) (by assumption) ?_; intro o24; refine ⟨by kernel_rfl, by kernel_rfl, by kernel_rfl, fun h24 D24 => ?_⟩)
    obtain ⟨B6, E6⟩ := D24.pickE [0, 1, 2, 3] [(f, nmF w k ra na c tc [ent w n_kk kk (.int (.ofNat (j + 1)) t1)] 4), (it, ritO (j + 2 : Nat) (left : Nat)), (ra, listO (txV W) er), (na, dictO ld' nd')] (by kernel_rfl)
    refine ⟨by kernel_rfl, hR _ B6 _ tc tc kk (.int (.ofNat (j + 1)) t1) ld' nd' ?_ ?_⟩
    · rw [if_pos he, Nat.add_zero]; exact P'
    · rw [if_pos he, Nat.add_zero]; exact E6
  · rw [show (q.1.take 3 != p.1.take 3) = true from bne_iff_ne.mpr he]
    (refine segW (t0 := t5 + outI o16) (i := 0) 100000 [1, 1, 1, 1, 1, 1, 0, 0, 1, 1, 3, 3, 3] (Code.call (Value.builtin "list.__getitem__") { pos := [Value.ref ra, Value.int (Int.ofNat (j + 1)) t1] : Args }) E3 (by assumption) (by assumption) ?_; intro o31; refine ⟨by kernel_rfl, by kernel_rfl, by kernel_rfl, by kernel_rfl, by kernel_rfl, fun h31 D31 => ?_⟩)
    refine callW_of rfl ?_
    rw [mark_none]
    refine r_lget ra er (j + 1) _ (txV W) _ hgq (by omega) (D31.give [0, 0, 1] (by kernel_rfl)) ?_
    refine Means.add0 ?_
    (refine segW (t0 := t5 + outI o16 + outI o31) (i := 0) 100000 [] (Code.call (Value.builtin "str.__getitem__") { pos := [Value.str { cps := { toList := q.fst : Array Nat } : Str } q.snd, Value.int 3 (t5 + 3)] : Args }) D31 (by assumption) (by assumption) ?_; intro o32; refine ⟨by kernel_rfl, by kernel_rfl, by kernel_rfl, by kernel_rfl, by kernel_rfl, fun h32 D32 => ?_⟩)
    refine callW_of rfl ?_
    rw [mark_none]
    refine r_sget q.1 3 q.2 _ x (by decide) hx fun t6 t7 => ?_
    refine Means.add0 ?_
    (refine segW (t0 := t7) (i := 0) 100000 [1, 1, 4, 4] (Code.call (Value.builtin "dict.__setitem__") { pos := [Value.ref na, Value.int (↑x - 65) (t7 + 2), Value.int (Int.ofNat (c + 1)) (t5 + 1)] : Args }) D32 (by assumption) (by assumption) ?_; intro o33; refine ⟨by kernel_rfl, by kernel_rfl, by kernel_rfl, by kernel_rfl, by kernel_rfl, fun h33 D33 => ?_⟩)
    refine callW_of rfl ?_
    rw [mark_none]
    refine r_dset na nd ld _ ((x : Int) - 65) _ _ (intKind_is _ _ _ _) P (by omega) (D33.give [0, 0, 0, 1] (by kernel_rfl)) fun h5 t8 ld' nd' P' a5 => ?_
    obtain ⟨B5, E5⟩ := D33.backP [0, 0, 0, 1] [1, 2, 3, 0] [(f, nmF w k ra na (c + 1) (t5 + 1) [ent w n_kk kk (.int (.ofNat (j + 1)) t1)] 4), (it, ritO (j + 2 : Nat) (left : Nat)), (ra, listO (txV W) er), (na, dictO ld' nd')] (by kernel_rfl) a5 (by kernel_rfl)
    clear D31 D32 D33
    refine Means.add0 ?_
    (refine segF (t0 := t8) (i := 0) 100000 [] ((Fin.again (nmC w it f)) ) E5 (by assumption) (by assumption) ?_; intro o34; refine ⟨by kernel_rfl, by kernel_rfl, by kernel_rfl, fun h34 D34 => ?_⟩)
    obtain ⟨B6, E6⟩ := D34.pickE [0, 1, 2, 3] [(f, nmF w k ra na (c + 1) (t5 + 1) [ent w n_kk kk (.int (.ofNat (j + 1)) t1)] 4), (it, ritO (j + 2 : Nat) (left : Nat)), (ra, listO (txV W) er), (na, dictO ld' nd')] (by kernel_rfl)
    refine ⟨by kernel_rfl, hR _ B6 _ (t5 + 1) (t5 + 1) kk (.int (.ofNat (j + 1)) t1) ld' nd' ?_ ?_⟩
    · rw [if_neg he]; exact P'
    · rw [if_neg he]; exact E6
theorem nm_first (w : World) (A : Around) (h₀ : Heap) (mods : List Nat) (hA : Fit 40 A (kt1 w) h₀) (R : Result → Shared → Prop) (g : Array GenState) (d : Drawn) (os : OsState) (f it ra na er : Nat) (k : Nat → Nat)
   (W : List (List Nat × Nat)) (hWl : W.length ≤ 1000) (left : Nat) (q : List Nat × Nat) (hq : W[0]? = some q) (x : Nat) (hx : q.1[3]? = some x) (X : Led) (h : Heap) (B t0 tc : Nat)
   (D : Rep (kt1 w) h₀ mods h B [(f, nmF w k ra na 0 tc [] 3), (it, ritO (0 : Nat) (left + 1 : Nat)), (ra, listO (txV W) er), (na, dictO [] 0)] X 0)
   (hR : ∀ h' B' t' tc' tk' kk' v' ld' nd', DP (PySem.intKind (PP w).prog w) ld' (PySem.stored [] ((x : Int) - 65) (.int (.ofNat 1) tk')) → Rep (kt1 w) h₀ mods h' B' [(f, nmF w k ra na 1 tc' [ent w n_kk kk' v'] 4), (it, ritO (0 + 1 : Nat) (left : Nat)), (ra, listO (txV W) er), (na, dictO ld' nd')] X 0 → codeAny (PP w) A (nmC w it f) R ⟨h', g, d, t', os⟩) :
   codeAny (PP w) A (nmC w it f) R ⟨h, g, d, t0, os⟩ := by
  obtain ⟨b1, b2, hw⟩ := parF_ex w
  have hA' := hA.under (nmC w it f) (m := 39) (by kernel_rfl)
  refine code_start ?_
  refine Means.add0 ?_
  (refine segW (t0 := t0) (i := 0) 100000 [2] (Code.call (Value.builtin "range_iterator.__next__") { pos := [Value.ref it] : Args }) D (by assumption) (by assumption) ?_; intro o41; refine ⟨by kernel_rfl, by kernel_rfl, by kernel_rfl, by kernel_rfl, by kernel_rfl, fun h41 D41 => ?_⟩)
  refine callW_of rfl ?_
  rw [mark_none]
  refine r_rnext it (0 : Nat) (left + 1 : Nat) (by omega) (D41.give [0, 1] (by kernel_rfl)) fun g1 t1 t' a1 => ?_
  rw [show ((0 : Nat) : Int) + 1 = (0 + 1 : Nat) by omega, show ((left + 1 : Nat) : Int) - 1 = (left : Nat) by omega] at a1
  obtain ⟨B2, E2⟩ := D41.backP [0, 1] [1, 0, 2, 3] [(f, nmF w k ra na 0 tc [] 3), (it, ritO (0 + 1 : Nat) (left : Nat)), (ra, listO (txV W) er), (na, dictO [] 0)] (by kernel_rfl) a1 (by kernel_rfl)
  refine Means.add0 ?_
  have hgq : (txV W)[0]? = some (.str ⟨⟨q.1⟩⟩ q.2) := by unfold txV; rw [List.getElem?_map, hq]; rfl
  (refine segWb (t0 := t') (i := 0) 100000 [1, 1, 1, 1, 1, 1, 1, 1, 1, 1, 0, 0, 1, 1, 3, 3, 3] (Code.call (Value.builtin "list.__getitem__") { pos := [Value.ref ra, Value.int 0 t1] : Args }) E2 (by assumption) (by assumption) (by kernel_rfl) ?_; intro o42; refine ⟨by kernel_rfl, by kernel_rfl, by kernel_rfl, by kernel_rfl, by kernel_rfl, fun h42 D42 => ?_⟩)
  refine callW_of rfl ?_
  rw [mark_none]
  refine r_lget ra er 0 _ (txV W) _ hgq (by omega) (D42.give [0, 0, 1] (by kernel_rfl)) ?_
  refine Means.add0 ?_
  (refine segW (t0 := t' + outI o42) (i := 0) 100000 [] (Code.call (Value.builtin "str.__getitem__") { pos := [Value.str { cps := { toList := q.fst : Array Nat } : Str } q.snd, Value.int 3 (t' + 5)] : Args }) D42 (by assumption) (by assumption) ?_; intro o43; refine ⟨by kernel_rfl, by kernel_rfl, by kernel_rfl, by kernel_rfl, by kernel_rfl, fun h43 D43 => ?_⟩)
  refine callW_of rfl ?_
  rw [mark_none]
  refine r_sget q.1 3 q.2 _ x (by decide) hx fun t6 t7 => ?_
  refine Means.add0 ?_
  (refine segW (t0 := t7) (i := 0) 100000 [1, 1, 4, 4] (Code.call (Value.builtin "dict.__setitem__") { pos := [Value.ref na, Value.int (↑x - 65) (t7 + 2), Value.int 1 (t' + 3)] : Args }) D43 (by assumption) (by assumption) ?_; intro o44; refine ⟨by kernel_rfl, by kernel_rfl, by kernel_rfl, by kernel_rfl, by kernel_rfl, fun h44 D44 => ?_⟩)
  refine callW_of rfl ?_
  rw [mark_none]
  refine r_dset na 0 [] _ ((x : Int) - 65) _ _ (intKind_is _ _ _ _) DP.nil (Nat.zero_le _) (D44.give [0, 0, 0, 1] (by kernel_rfl)) fun h5 t8 ld' nd' P' a5 => ?_
  obtain ⟨B5, E5⟩ := D44.backP [0, 0, 0, 1] [1, 2, 3, 0] [(f, nmF w k ra na 1 (t' + 3) [ent w n_kk t' (.int (.ofNat 0) t1)] 4), (it, ritO (0 + 1 : Nat) (left : Nat)), (ra, listO (txV W) er), (na, dictO ld' nd')] (by kernel_rfl) a5 (by kernel_rfl)
  clear D41 D42 D43 D44 E2
  refine Means.add0 ?_
  (refine segF (t0 := t8) (i := 0) 100000 [] ((Fin.again (nmC w it f)) ) E5 (by assumption) (by assumption) ?_; intro o45; refine ⟨by kernel_rfl, by kernel_rfl, by kernel_rfl, fun h45 D45 => ?_⟩)
  obtain ⟨B6, E6⟩ := D45.pickE [0, 1, 2, 3] [(f, nmF w k ra na 1 (t' + 3) [ent w n_kk t' (.int (.ofNat 0) t1)] 4), (it, ritO (0 + 1 : Nat) (left : Nat)), (ra, listO (txV W) er), (na, dictO ld' nd')] (by kernel_rfl)
  exact ⟨by kernel_rfl, hR _ B6 _ (t' + 3) (t' + 3) t' (.int (.ofNat 0) t1) ld' nd' P' E6⟩
end Mine
end
section
open PySem PySem.W PySem.Calls PyProof.Rows
set_option Elab.async false
set_option maxRecDepth 100000
namespace Mine
/-- the number of the name at a place of the row -/
noncomputable def rk (S : List (List Nat)) : Nat → Nat
  | 0 => 1
  | k + 1 => rk S k + (if (S.getD (k + 1) []).take 3 = (S.getD k []).take 3 then 0 else 1)
noncomputable def pl (s : List Nat) : Int := (s.getD 3 0 : Int) - 65
structure NM (kvs : List (Int × Value)) (S : List (List Nat)) (m : Nat) : Prop where
  len : kvs.length ≤ m
  at_ : ∀ i, i < m → ∃ t, PySem.valueAt kvs (pl (S.getD i [])) = some (.int (.ofNat (rk S i)) t)
  no : ∀ p, (∀ i, i < m → pl (S.getD i []) ≠ p) → PySem.valueAt kvs p = none
theorem valueAt_snoc {K : Type} [DecidableEq K] (l : List (K × Value)) (k p : K) (v : Value) : PySem.valueAt (l ++ [(k, v)]) p = (PySem.valueAt l p).or (if k = p then some v else none) := by
  unfold PySem.valueAt
  rw [List.find?_append]
  cases h : l.find? (fun kv => decide (kv.1 = p)) with
  | some x => simp
  | none =>
    by_cases e : k = p
    · simp [List.find?, e]
    · simp [List.find?, e]
theorem ne_of_valueAt {K : Type} [DecidableEq K] {k : K} {l : List (K × Value)} (h : PySem.valueAt l k = none) : ∀ p ∈ l, p.1 ≠ k := by
  unfold PySem.valueAt at h
  intro p hp e
  rw [Option.map_eq_none_iff, List.find?_eq_none] at h
  exact h p hp (by simpa using e)
theorem NM.step {kvs : List (Int × Value)} {S : List (List Nat)} {m : Nat} (h : NM kvs S m) (hd : ∀ i, i < m → pl (S.getD i []) ≠ pl (S.getD m [])) (t : Nat) : NM (PySem.stored kvs (pl (S.getD m [])) (.int (.ofNat (rk S m)) t)) S (m + 1) := by
  have hn := h.no _ hd
  rw [stored_none _ _ _ (ne_of_valueAt hn)]
  refine ⟨by rw [List.length_append, List.length_singleton]; exact Nat.succ_le_succ h.len, fun i hi => ?_, fun p hp => ?_⟩
  · rw [valueAt_snoc]
    by_cases e : i = m
    · subst e
      rw [hn, if_pos rfl]
      exact ⟨t, rfl⟩
    · obtain ⟨t', ht'⟩ := h.at_ i (by omega)
      rw [ht']
      exact ⟨t', rfl⟩
  · rw [valueAt_snoc, h.no p (fun i hi => hp i (by omega)), if_neg (hp m (by omega))]
    rfl
theorem NM.one {S : List (List Nat)} (t : Nat) : NM (PySem.stored [] (pl (S.getD 0 [])) (.int (.ofNat 1) t)) S 1 := by
  have h0 : NM [] S 0 := ⟨Nat.le_refl _, fun i hi => absurd hi (Nat.not_lt_zero _), fun p _ => rfl⟩
  exact h0.step (fun i hi => absurd hi (Nat.not_lt_zero _)) t
theorem strs_at {W : List (List Nat × Nat)} {i : Nat} {q : List Nat × Nat} (h : W[i]? = some q) : (W.map (·.1)).getD i [] = q.1 := by
  rw [List.getD_eq_getElem?_getD, List.getElem?_map, h]; rfl
theorem nm_all (w : World) (A : Around) (h₀ : Heap) (mods : List Nat) (hA : Fit 40 A (kt1 w) h₀) (R : Result → Shared → Prop) (g : Array GenState) (d : Drawn) (os : OsState) (f it ra na er : Nat) (k : Nat → Nat)
   (W : List (List Nat × Nat)) (hWl : W.length ≤ 1000) (hW4 : ∀ q ∈ W, q.1.length = 4) (hd : ∀ i j, i < j → j < W.length → pl ((W.map (·.1)).getD i []) ≠ pl ((W.map (·.1)).getD j [])) (X : Led) : ∀ (left j : Nat) (h : Heap) (B t0 tc nd kk : Nat) (v : Value) (ld : List DictEntry) (kvs : List (Int × Value)), j + 1 + left = W.length →
   DP (PySem.intKind (PP w).prog w) ld kvs → NM kvs (W.map (·.1)) (j + 1) →
   Rep (kt1 w) h₀ mods h B [(f, nmF w k ra na (rk (W.map (·.1)) j) tc [ent w n_kk kk v] 4), (it, ritO (j + 1 : Nat) (left : Nat)), (ra, listO (txV W) er), (na, dictO ld nd)] X 0 →
   (∀ h' B' t' tc' kk' v' ld' nd' kvs', DP (PySem.intKind (PP w).prog w) ld' kvs' → NM kvs' (W.map (·.1)) W.length → Rep (kt1 w) h₀ mods h' B' [(f, nmF w k ra na (rk (W.map (·.1)) (W.length - 1)) tc' [ent w n_kk kk' v'] 4), (ra, listO (txV W) er), (na, dictO ld' nd')] X 0 → R (.ok .next) ⟨h', g, d, t', os⟩) →
   codeAny (PP w) A (nmC w it f) R ⟨h, g, d, t0, os⟩ := by
  intro left
  induction left with
  | zero =>
    intro j h B t0 tc nd kk v ld kvs hj P N D hR
    obtain ⟨b1, b2, hw⟩ := parF_ex w
    have hA' := hA.under (nmC w it f) (m := 39) (by kernel_rfl)
    refine code_start ?_
    refine Means.add0 ?_
    (refine segW (t0 := t0) (i := 0) 100000 [2] (Code.call (Value.builtin "range_iterator.__next__") { pos := [Value.ref it] : Args }) D (by assumption) (by assumption) ?_; intro o11; refine ⟨by kernel_rfl, by kernel_rfl, by kernel_rfl, by kernel_rfl, by kernel_rfl, fun h11 D11 => ?_⟩)
    refine callW_of rfl ?_
    rw [mark_none]
    refine r_rend (Fit.inner hA' D11 _ (by kernel_rfl) (by kernel_rfl)) it (j + 1 : Nat) (D11.give [0, 1] (by kernel_rfl)) fun g1 t' a b a1 => ?_
    obtain ⟨B2, E2⟩ := D11.backP [0, 1] [2, 3, 4, 0, 1] [(f, nmF w k ra na (rk (W.map (·.1)) j) tc [ent w n_kk kk v] 4), (ra, listO (txV W) er), (na, dictO ld nd), (b, tupO []), (a, stopO b)] (by kernel_rfl) a1 (by kernel_rfl)
    refine Means.add0 ?_
    (refine segF (t0 := t') (i := 0) 100000 [5] ((Fin.again (Code.block [] (envOf w 126 f q_nm))) ) E2 (by assumption) (by assumption) ?_; intro o12; refine ⟨by kernel_rfl, by kernel_rfl, by kernel_rfl, fun h12 D12 => ?_⟩)
    obtain ⟨B3, E3⟩ := D12.pickE [0, 1, 2] [(f, nmF w k ra na (rk (W.map (·.1)) j) tc [ent w n_kk kk v] 4), (ra, listO (txV W) er), (na, dictO ld nd)] (by kernel_rfl)
    have hA2 := hA.under (Code.block [] (envOf w 126 f q_nm)) (m := 0) (by kernel_rfl)
    refine ⟨by kernel_rfl, code_start ?_⟩
    refine Means.add0 ?_
    (refine segF (t0 := t' + outI o12) (i := 0) 100000 [] (Fin.done Flow.next) E3 (by assumption) (by assumption) ?_; intro o13; refine ⟨by kernel_rfl, by kernel_rfl, by kernel_rfl, fun h13 D13 => ?_⟩)
    obtain rfl : j = W.length - 1 := by omega
    obtain ⟨B4, E4⟩ := D13.pickE [0, 1, 2] [(f, nmF w k ra na (rk (W.map (·.1)) (W.length - 1)) tc [ent w n_kk kk v] 4), (ra, listO (txV W) er), (na, dictO ld nd)] (by kernel_rfl)
    rw [hj] at N
    exact hR _ B4 _ tc kk v ld nd kvs P N E4
  | succ left ih =>
    intro j h B t0 tc nd kk v ld kvs hj P N D hR
    have hq : W[j + 1]? = some W[j + 1] := List.getElem?_eq_getElem (by omega)
    have hp : W[j]? = some W[j] := List.getElem?_eq_getElem (by omega)
    have hq4 : W[j + 1].1.length = 4 := hW4 _ (List.getElem_mem _)
    have hx : W[j + 1].1[3]? = some (W[j + 1].1.getD 3 0) := by
      rw [List.getD_eq_getElem?_getD, List.getElem?_eq_getElem (by omega)]; rfl
    refine nm_turn w A h₀ mods hA R g d os f it ra na er k W hWl hW4 j left W[j] W[j + 1] hp hq _ _ hx X h B t0 tc nd kk v ld kvs (by have := N.len; omega) P D fun h' B' t' tc' tk' kk' v' ld' nd' P' D' => ?_
    have hc : rk (W.map (·.1)) (j + 1) = rk (W.map (·.1)) j + (if W[j + 1].1.take 3 = W[j].1.take 3 then 0 else 1) := by
      show rk _ j + _ = _
      rw [strs_at hq, strs_at hp]
    have hpl : ((W[j + 1].1.getD 3 0 : Nat) : Int) - 65 = pl ((W.map (·.1)).getD (j + 1) []) := by rw [strs_at hq]; rfl
    rw [← hc] at P' D'
    rw [hpl] at P'
    exact ih (j + 1) h' B' t' tc' nd' kk' v' ld' _ (by omega) P' (N.step (fun i hi => hd i (j + 1) hi (by omega)) tk') D' hR
theorem law_names (w : World) (A : Around) (h₀ : Heap) (hA : Fit 60 A (kt1 w) h₀) (R : Result → Shared → Prop) (B t0 : Nat) (g : Array GenState) (d : Drawn) (os : OsState) (ra er : Nat) (W : List (List Nat × Nat)) {mods : List Nat} (hW : W ≠ []) (hWl : W.length ≤ 1000) (hW4 : ∀ q ∈ W, q.1.length = 4) (hd : ∀ i j, i < j → j < W.length → pl ((W.map (·.1)).getD i []) ≠ pl ((W.map (·.1)).getD j []))
   (D : Rep (kt1 w) h₀ mods h₀ B [(ra, listO (txV W) er)] [] 0)
   (hR : ∀ h1 t' tu na tc ld nd kvs, DP (PySem.intKind (PP w).prog w) ld kvs → NM kvs (W.map (·.1)) W.length → After h₀ h1 mods [(tu, tupO [.ref na, .int (.ofNat (rk (W.map (·.1)) (W.length - 1))) tc]), (na, dictO ld nd)] → R (.ok (.ret (.ref tu))) ⟨h1, g, d, t', os⟩) :
   codeAny (PP w) A (.call (.ref 126) ⟨[.ref ra], []⟩) R ⟨h₀, g, d, t0, os⟩ := by
  obtain ⟨b1, b2, hw⟩ := parF_ex w
  refine code_ent (D.kt_ (a := 126) (o := obAt w 126) (by kernel_rfl)) (fd := fdAt w 126) (by kernel_rfl) (by have := hA.room; omega) ?_
  refine Means.add0 ?_
  (refine segW (t0 := t0) (i := 0) 100000 [0, 2, 2, 2, 2, 2, 2, 0, 0, 0, 0, 2] (Code.call (Value.builtin "len") { pos := [Value.ref ra] : Args }) D (by assumption) (by assumption) ?_; intro o1; refine ⟨by kernel_rfl, by kernel_rfl, by kernel_rfl, by kernel_rfl, by kernel_rfl, fun h1 D1 => ?_⟩)
  refine r_clen ra er (txV W) (by rw [txV_len]; omega) (D1.give [1] (by kernel_rfl)) fun t1 t' => ?_
  rw [txV_len]
  refine Means.add0 ?_
  (refine segWb (t0 := t') (i := 0) 100000 [1, 1, 4, 4, 1, 4, 4, 4, 4] (Code.call (Value.builtin "range.__iter__") { pos := [Value.ref (B + 2)] : Args }) D1 (by assumption) (by assumption) (by kernel_rfl) ?_; intro o2; refine ⟨by kernel_rfl, by kernel_rfl, by kernel_rfl, by kernel_rfl, by kernel_rfl, fun h2 D2 => ?_⟩)
  refine callW_of rfl ?_
  rw [mark_none]
  refine r_riter (B + 2) 0 (W.length : Nat) t' t1 (t' + 1) W.length (by omega) (by omega) (by omega) (D2.give [0, 0, 0, 1] (by kernel_rfl)) fun g2 it t2 a2 => ?_
  obtain ⟨B3, E3⟩ := D2.backP [0, 0, 0, 1] [3, 1, 2, 4] [(B, nmF w (fun n => match n with | 0 => t0 | 1 => t0 + 1 | _ => t0 + 3) ra (B + 1) 0 (t0 + 2) [] 3), (it, ritO (0 : Nat) (W.length : Nat)), (ra, listO (txV W) er), (B + 1, dictO [] 0)] (by kernel_rfl) a2 (by kernel_rfl)
  clear D1 D2
  refine Means.add0 ?_
  (refine segL (t0 := t2) (i := 0) 100000 [2] ((nmC w it B) ) E3 (by assumption) (by assumption) ?_; intro o3; refine ⟨by kernel_rfl, by kernel_rfl, by kernel_rfl, by kernel_rfl, fun h3 D3 => ?_⟩)
  obtain ⟨l, hl⟩ : ∃ l, W.length = l + 1 := ⟨W.length - 1, by have := List.length_pos_iff.mpr hW; omega⟩
  obtain ⟨B4, E4⟩ := D3.pickE [0, 1, 2, 3] [(B, nmF w (fun n => match n with | 0 => t0 | 1 => t0 + 1 | _ => t0 + 3) ra (B + 1) 0 (t0 + 2) [] 3), (it, ritO (0 : Nat) (W.length : Nat)), (ra, listO (txV W) er), (B + 1, dictO [] 0)] (by kernel_rfl)
  clear D3 E3
  rw [hl] at E4
  have hq : W[0]? = some W[0] := List.getElem?_eq_getElem (by omega)
  have hq4 : W[0].1.length = 4 := hW4 _ (List.getElem_mem _)
  have hx : W[0].1[3]? = some (W[0].1.getD 3 0) := by
    rw [List.getD_eq_getElem?_getD, List.getElem?_eq_getElem (by omega)]; rfl
  have hA4 := (hA.ar (m := 45) (outκ o3) (by kernel_rfl) (by kernel_rfl))
  refine nm_first w _ h₀ _ (hA4.less (by kernel_rfl)) _ g d os B it ra (B + 1) er (fun n => match n with | 0 => t0 | 1 => t0 + 1 | _ => t0 + 3) W hWl l W[0] hq _ hx [] _ _ _ _ E4 fun h5 B5 t5 tc5 tk5 kk5 v5 ld5 nd5 P5 D5 => ?_
  clear E4
  have hpl : ((W[0].1.getD 3 0 : Nat) : Int) - 65 = pl ((W.map (·.1)).getD 0 []) := by rw [strs_at hq]; rfl
  rw [hpl] at P5
  refine nm_all w _ h₀ _ (hA4.less (by kernel_rfl)) _ g d os B it ra (B + 1) er (fun n => match n with | 0 => t0 | 1 => t0 + 1 | _ => t0 + 3) W hWl hW4 hd [] l 0 h5 B5 t5 tc5 nd5 kk5 v5 ld5 _ (by omega) P5 (NM.one tk5) D5 fun h6 B6 t6 tc6 kk6 v6 ld6 nd6 kvs6 P6 N6 D6 => ?_
  clear D5
  refine Means.add0 ?_
  (refine segF (t0 := t6) (i := 0) 100000 [1, 1] ((Fin.done (Flow.ret (.ref B6))) ) D6 (by assumption) (by assumption) ?_; intro o4; refine ⟨by kernel_rfl, by kernel_rfl, by kernel_rfl, fun h4 D4 => ?_⟩)
  exact hR _ _ B6 (B + 1) tc6 ld6 nd6 kvs6 P6 N6 (D4.finP [3, 2] (by kernel_rfl))
end Mine
end
section
open PySem PySem.W PySem.Calls PyProof.Rows
set_option Elab.async false
set_option maxRecDepth 100000
namespace Mine
noncomputable def eLC (w : World) : Expr := match stmtAt w 131 0 with
  | .Assign _ e _ => e
  | _ => default
noncomputable def n_x := [120]
noncomputable def q_law := [108, 97, 119, 46, 60, 108, 111, 99, 97, 108, 115, 62, 46]
theorem lc_loop (w : World) (A : Around) (h₀ : Heap) (mods : List Nat) (hA : Fit 5 A (kt1 w) h₀) (R : Result → Shared → Prop) (g : Array GenState) (d : Drawn) (os : OsState) (it acc di fr fa ef : Nat)  (X : Led) :
   ∀ (rest pre : List (Int × Nat)) (P : List (Nat × Nat)) (h : Heap) (B t0 ep : Nat) (dl : List DictEntry) (dn : Nat), (dl = [] ∧ dn = 0 ∨ ∃ k v, dl = [ent w n_x k v] ∧ dn = 1) → P.length + rest.length ≤ 16777000 →
   Rep (kt1 w) h₀ mods h B [(acc, listO (natV P) ep), (it, iterO "list_iterator" (.ref fa) pre.length), (fa, listO (intV (pre ++ rest)) ef), (di, dictO dl dn)] X 0 →
   (∀ h1 B' t' ep' Q dl' dn', (rest = [] ∧ dl' = dl ∧ dn' = dn ∨ rest ≠ [] ∧ ∃ k v, dl' = [ent w n_x k v] ∧ dn' = 1) → Q.map (·.1) = rest.map (fun c => (c.1.fmod 2304).toNat) → Rep (kt1 w) h₀ mods h1 B' [(acc, listO (natV (P ++ Q)) ep'), (fa, listO (intV (pre ++ rest)) ef), (di, dictO dl' dn')] X 0 → R (.ok .next) ⟨h1, g, d, t', os⟩) →
   codeAny (PP w) A (compL w 131 (eLC w) (.ref it) (.ref acc) di q_law fr) R ⟨h, g, d, t0, os⟩ := by
  obtain ⟨b1, b2, hw⟩ := parF_ex w
  have hA' := hA.under (compL w 131 (eLC w) (.ref it) (.ref acc) di q_law fr) (m := 4) (by kernel_rfl)
  intro rest
  induction rest with
  | nil =>
    intro pre P h B t0 ep dl dn hdl hsz  D hR
    refine code_start ?_
    refine Means.add0 ?_
    (refine segW (t0 := t0) (i := 0) 100000 [2] (Code.call (Value.builtin "list_iterator.__next__") { pos := [Value.ref it] : Args }) D (by assumption) (by assumption) ?_; intro o11; refine ⟨by kernel_rfl, by kernel_rfl, by kernel_rfl, by kernel_rfl, by kernel_rfl, fun h11 D11 => ?_⟩)
    refine callW_of rfl ?_
    rw [mark_none]
    refine r_lend (Fit.inner hA' D11 _ (by kernel_rfl) (by kernel_rfl)) it fa pre.length ef (intV (pre ++ [])) (by simp [intV]) (D11.give [0, 1, 1] (by kernel_rfl)) fun g1 t' x y a1 => ?_
    obtain ⟨B2, E1⟩ := D11.backP [0, 1, 1] [3, 0, 4, 1, 2] ([(acc, listO (natV P) ep), (fa, listO (intV (pre ++ [])) ef), (di, dictO dl dn)] ++ [(y, tupO []), (x, stopO y)]) (by kernel_rfl) a1 (by kernel_rfl)
    refine Means.add0 ?_
    (refine segF (t0 := t') (i := 0) 100000 [5] (Fin.done Flow.next) E1 (by assumption) (by assumption) ?_; intro o12; refine ⟨by kernel_rfl, by kernel_rfl, by kernel_rfl, fun h12 D12 => ?_⟩)
    obtain ⟨B3, E2⟩ := D12.pickE [0, 1, 2] [(acc, listO (natV (P ++ [])) ep), (fa, listO (intV (pre ++ [])) ef), (di, dictO dl dn)] (by rw [List.append_nil P]; kernel_rfl)
    exact hR _ _ _ _ [] _ _ (.inl ⟨rfl, rfl, rfl⟩) rfl E2
  | cons q rest ih =>
    intro pre P h B t0 ep dl dn hdl hsz  D hR
    refine code_start ?_
    refine Means.add0 ?_
    (refine segW (t0 := t0) (i := 0) 100000 [2] (Code.call (Value.builtin "list_iterator.__next__") { pos := [Value.ref it] : Args }) D (by assumption) (by assumption) ?_; intro o21; refine ⟨by kernel_rfl, by kernel_rfl, by kernel_rfl, by kernel_rfl, by kernel_rfl, fun h21 D21 => ?_⟩)
    refine callW_of rfl ?_
    rw [mark_none]
    refine r_lnext (Fit.inner hA' D21 _ (by kernel_rfl) (by kernel_rfl)) it fa pre.length ef (intV (pre ++ q :: rest)) (.int q.1 q.2) (by simp [intV]) (D21.give [0, 1, 1] (by kernel_rfl)) fun g1 t' a1 => ?_
    obtain ⟨B2, E1⟩ := D21.backP [0, 1, 1] [2, 0, 1, 3] [(acc, listO (natV P) ep), (it, iterO "list_iterator" (.ref fa) (pre.length + 1)), (fa, listO (intV (pre ++ q :: rest)) ef), (di, dictO dl dn)] (by kernel_rfl) a1 (by kernel_rfl)
    refine Means.add0 ?_
    have e1 : pre ++ q :: rest = (pre ++ [q]) ++ rest := by simp
    have e2 : pre.length + 1 = (pre ++ [q]).length := by simp
    have hSP : (natV P).length = P.length := by simp [natV]
    rw [List.length_cons] at hsz
    have hm : (q.1.fmod 2304) = .ofNat (q.1.fmod 2304).toNat := (Int.toNat_of_nonneg (Int.fmod_nonneg_of_pos _ (by decide))).symm
    rcases hdl with ⟨rfl, rfl⟩ | ⟨k, v, rfl, rfl⟩ <;> (
      (refine segW (t0 := t') (i := 0) 100000 [4, 4, 4] (Code.call (Value.builtin "int.__mod__") { pos := [Value.int q.fst q.snd, Value.int 2304 (t' + 1)] : Args }) E1 (by assumption) (by assumption) ?_; intro o31; refine ⟨by kernel_rfl, by kernel_rfl, by kernel_rfl, by kernel_rfl, by kernel_rfl, fun h31 D31 => ?_⟩)
      refine r_mod q.1 2304 _ _ (by decide) fun u1 u2 => ?_
      rw [hm]
      generalize hv : (q.1.fmod 2304).toNat = m
      refine Means.add0 ?_
      obtain ⟨kk, B3, E3⟩ : ∃ kk B', Rep (kt1 w) h₀ mods h31 B' [(acc, listO (natV P) ep), (it, iterO "list_iterator" (.ref fa) (pre.length + 1)), (fa, listO (intV (pre ++ q :: rest)) ef), (di, dictO [ent w n_x kk (.int q.1 q.2)] 1)] X 0 := by first | exact ⟨t', D31.pickE [0, 1, 2, 3] _ (by kernel_rfl!)⟩ | exact ⟨k, D31.pickE [0, 1, 2, 3] _ (by kernel_rfl!)⟩
      clear D31
      (refine segW (t0 := u2) (i := 0) 100000 [] ((.call (.builtin "list.append") ⟨[.ref acc, .int (.ofNat m) u1], []⟩) ) E3 (by assumption) (by assumption) ?_; intro o102; refine ⟨by kernel_rfl, by kernel_rfl, by kernel_rfl, by kernel_rfl, by kernel_rfl, fun h102 D102 => ?_⟩)
      refine callW_of rfl ?_
      rw [mark_none]
      refine r_append acc ep (natV P) _ (by omega) (D102.give [1] (by kernel_rfl)) fun g3 t3 a3 => ?_
      obtain ⟨B4, E4⟩ := D102.backP [1] [0, 1, 2, 3] [(acc, listO (natV P ++ [.int (.ofNat m) u1]) (ep + 1)), (it, iterO "list_iterator" (.ref fa) (pre.length + 1)), (fa, listO (intV (pre ++ q :: rest)) ef), (di, dictO [ent w n_x kk (.int q.1 q.2)] 1)] (by kernel_rfl) a3 (by kernel_rfl)
      refine Means.add0 ?_
      (refine segF (t0 := t3) (i := 0) 100000 [] ((Fin.again (compL w 131 (eLC w) (.ref it) (.ref acc) di q_law fr)) ) E4 (by assumption) (by assumption) ?_; intro o103; refine ⟨by kernel_rfl, by kernel_rfl, by kernel_rfl, fun h103 D103 => ?_⟩)
      obtain ⟨B5, E5⟩ := D103.pickE [0, 1, 2, 3] [(acc, listO (natV P ++ [.int (.ofNat m) u1]) (ep + 1)), (it, iterO "list_iterator" (.ref fa) (pre.length + 1)), (fa, listO (intV (pre ++ q :: rest)) ef), (di, dictO [ent w n_x kk (.int q.1 q.2)] 1)] (by kernel_rfl)
      have e3 : natV P ++ [.int (.ofNat m) u1] = natV (P ++ [(m, u1)]) := by simp [natV]
      rw [e1, e2, e3] at E5
      refine ⟨by kernel_rfl, ih (pre ++ [q]) (P ++ [(m, u1)]) _ _ _ _ _ _ (.inr ⟨_, _, rfl, rfl⟩) (by rw [List.length_append, List.length_singleton]; omega)  E5 fun h1 B' t9 ep' Q dl' dn' hd2 hQ E => ?_⟩
      refine hR h1 B' t9 ep' ((m, u1) :: Q) dl' dn' (.inr ⟨List.cons_ne_nil _ _, Or.elim hd2 (fun h => ⟨kk, _, h.2.1, h.2.2⟩) (fun h => h.2)⟩) (by rw [List.map_cons, List.map_cons, hQ]; rw [hv]) ?_
      rw [List.append_assoc, ← e1] at E
      exact E
)
theorem lc_start (w : World) (A : Around) (h₀ : Heap) (mods : List Nat) (hA : Fit 5 A (kt1 w) h₀) (R : Result → Shared → Prop) (g : Array GenState) (d : Drawn) (os : OsState) (it acc di fr fa ef : Nat)  (F : List (Int × Nat)) (X : Led) (hz : F.length ≤ 1000000)  (h : Heap) (B t0 : Nat)
   (D : Rep (kt1 w) h₀ mods h B [(acc, listO ([]) 0), (it, iterO "list_iterator" (.ref fa) 0), (fa, listO (intV F) ef), (di, dictO [] 0)] X 0)
   (hR : ∀ h1 B' t' ep' Q dl' dn', (F = [] ∧ dl' = [] ∧ dn' = 0 ∨ F ≠ [] ∧ ∃ k v, dl' = [ent w n_x k v] ∧ dn' = 1) → Q.map (·.1) = F.map (fun c => (c.1.fmod 2304).toNat) → Rep (kt1 w) h₀ mods h1 B' [(acc, listO (natV Q) ep'), (fa, listO (intV F) ef), (di, dictO dl' dn')] X 0 → R (.ok .next) ⟨h1, g, d, t', os⟩) :
   codeAny (PP w) A (compS w 131 (eLC w) (.ref it) (.ref acc) di q_law fr) R ⟨h, g, d, t0, os⟩ := by
  obtain ⟨b1, b2, hw⟩ := parF_ex w
  have hA' := hA.under (compS w 131 (eLC w) (.ref it) (.ref acc) di q_law fr) (m := 4) (by kernel_rfl)
  refine code_start ?_
  refine Means.add0 ?_
  cases b2 <;> cases b1 <;> (
    (first | (refine segF (t0 := t0) (i := 0) 100000 [2, 2, 1, 2, 2] ((Fin.again (compL w 131 (eLC w) (.ref it) (.ref acc) di q_law fr)) ) D (by assumption) (by assumption) ?_; intro o1; refine ⟨by kernel_rfl!, by kernel_rfl!, by kernel_rfl!, fun h1 D1 => ?_⟩) | (refine segF (t0 := t0) (i := 0) 100000 [] ((Fin.again (compL w 131 (eLC w) (.ref it) (.ref acc) di q_law fr)) ) D (by assumption) (by assumption) ?_; intro o1; refine ⟨by kernel_rfl!, by kernel_rfl!, by kernel_rfl!, fun h1 D1 => ?_⟩))
    obtain ⟨B2, E1⟩ := D1.pickE [0, 1, 2, 3] [(acc, listO (natV []) 0), (it, iterO "list_iterator" (.ref fa) ([] : List (Int × Nat)).length), (fa, listO (intV ([] ++ F)) ef), (di, dictO [] 0)] (by kernel_rfl)
    exact ⟨by kernel_rfl, lc_loop w A h₀ mods hA R g d os it acc di fr fa ef  X F [] [] _ _ _ _ _ _ (.inl ⟨rfl, rfl⟩) (by rw [List.length_nil]; omega)  E1 fun h1 B' t' ep' Q dl' dn' hd => hR h1 B' t' ep' Q dl' dn' hd⟩)
end Mine
end
section
open PySem PySem.W PySem.Calls PyProof.Rows
set_option Elab.async false
set_option maxRecDepth 100000
namespace Mine
noncomputable def eLS (w : World) : Expr := match stmtAt w 131 2 with
  | .Assign _ (.Call _ (e :: _) _ _) _ => e
  | _ => default
noncomputable def n_cell := [99, 101, 108, 108]
theorem ls_loop (w : World) (A : Around) (h₀ : Heap) (mods : List Nat) (hA : Fit 30 A (kt1 w) h₀) (R : Result → Shared → Prop) (g : Array GenState) (d : Drawn) (os : OsState) (it acc di fr fa ef : Nat)  (X : Led) :
   ∀ (rest pre : List (Nat × Nat)) (P : List (List Nat × Nat)) (h : Heap) (B t0 ep : Nat) (dl : List DictEntry) (dn : Nat), (dl = [] ∧ dn = 0 ∨ ∃ k v, dl = [ent w n_cell k v] ∧ dn = 1) → P.length + rest.length ≤ 16777000 → (∀ q ∈ rest, q.1 < 2304) →
   Rep (kt1 w) h₀ mods h B [(acc, listO (txV P) ep), (it, iterO "list_iterator" (.ref fa) pre.length), (fa, listO (natV (pre ++ rest)) ef), (di, dictO dl dn)] X 0 →
   (∀ h1 B' t' ep' Q dl' dn', (rest = [] ∧ dl' = dl ∧ dn' = dn ∨ ∃ k v, dl' = [ent w n_cell k v] ∧ dn' = 1) → Q.map (·.1) = rest.map (fun q => [signN q.1]) → Rep (kt1 w) h₀ mods h1 B' [(acc, listO (txV (P ++ Q)) ep'), (fa, listO (natV (pre ++ rest)) ef), (di, dictO dl' dn')] X 0 → R (.ok .next) ⟨h1, g, d, t', os⟩) →
   codeAny (PP w) A (compL w 131 (eLS w) (.ref it) (.ref acc) di q_law fr) R ⟨h, g, d, t0, os⟩ := by
  obtain ⟨b1, b2, hw⟩ := parF_ex w
  have hA' := hA.under (compL w 131 (eLS w) (.ref it) (.ref acc) di q_law fr) (m := 29) (by kernel_rfl)
  intro rest
  induction rest with
  | nil =>
    intro pre P h B t0 ep dl dn hdl hsz hrow D hR
    refine code_start ?_
    refine Means.add0 ?_
    (refine segW (t0 := t0) (i := 0) 100000 [2] (Code.call (Value.builtin "list_iterator.__next__") { pos := [Value.ref it] : Args }) D (by assumption) (by assumption) ?_; intro o11; refine ⟨by kernel_rfl, by kernel_rfl, by kernel_rfl, by kernel_rfl, by kernel_rfl, fun h11 D11 => ?_⟩)
    refine callW_of rfl ?_
    rw [mark_none]
    refine r_lend (Fit.inner hA' D11 _ (by kernel_rfl) (by kernel_rfl)) it fa pre.length ef (natV (pre ++ [])) (by simp [natV]) (D11.give [0, 1, 1] (by kernel_rfl)) fun g1 t' x y a1 => ?_
    obtain ⟨B2, E1⟩ := D11.backP [0, 1, 1] [3, 0, 4, 1, 2] ([(acc, listO (txV P) ep), (fa, listO (natV (pre ++ [])) ef), (di, dictO dl dn)] ++ [(y, tupO []), (x, stopO y)]) (by kernel_rfl) a1 (by kernel_rfl)
    refine Means.add0 ?_
    (refine segF (t0 := t') (i := 0) 100000 [5] (Fin.done Flow.next) E1 (by assumption) (by assumption) ?_; intro o12; refine ⟨by kernel_rfl, by kernel_rfl, by kernel_rfl, fun h12 D12 => ?_⟩)
    obtain ⟨B3, E2⟩ := D12.pickE [0, 1, 2] [(acc, listO (txV (P ++ [])) ep), (fa, listO (natV (pre ++ [])) ef), (di, dictO dl dn)] (by rw [List.append_nil P]; kernel_rfl)
    exact hR _ _ _ _ [] _ _ (.inl ⟨rfl, rfl, rfl⟩) rfl E2
  | cons q rest ih =>
    intro pre P h B t0 ep dl dn hdl hsz hrow D hR
    refine code_start ?_
    refine Means.add0 ?_
    (refine segW (t0 := t0) (i := 0) 100000 [2] (Code.call (Value.builtin "list_iterator.__next__") { pos := [Value.ref it] : Args }) D (by assumption) (by assumption) ?_; intro o21; refine ⟨by kernel_rfl, by kernel_rfl, by kernel_rfl, by kernel_rfl, by kernel_rfl, fun h21 D21 => ?_⟩)
    refine callW_of rfl ?_
    rw [mark_none]
    refine r_lnext (Fit.inner hA' D21 _ (by kernel_rfl) (by kernel_rfl)) it fa pre.length ef (natV (pre ++ q :: rest)) (.int (.ofNat q.1) q.2) (by simp [natV]) (D21.give [0, 1, 1] (by kernel_rfl)) fun g1 t' a1 => ?_
    obtain ⟨B2, E1⟩ := D21.backP [0, 1, 1] [2, 0, 1, 3] [(acc, listO (txV P) ep), (it, iterO "list_iterator" (.ref fa) (pre.length + 1)), (fa, listO (natV (pre ++ q :: rest)) ef), (di, dictO dl dn)] (by kernel_rfl) a1 (by kernel_rfl)
    refine Means.add0 ?_
    have e1 : pre ++ q :: rest = (pre ++ [q]) ++ rest := by simp
    have e2 : pre.length + 1 = (pre ++ [q]).length := by simp
    have hSP : (txV P).length = P.length := by simp [txV]
    rw [List.length_cons] at hsz
    have hb := hrow q List.mem_cons_self
    rcases hdl with ⟨rfl, rfl⟩ | ⟨k, v, rfl, rfl⟩ <;> (
      (refine segL (t0 := t') (i := 0) 100000 [4, 4, 0, 4, 0] ((.call (.ref 104) ⟨[.int (.ofNat q.1) q.2], []⟩) ) E1 (by assumption) (by assumption) ?_; intro o31; refine ⟨by kernel_rfl, by kernel_rfl, by kernel_rfl, by kernel_rfl, fun h31 D31 => ?_⟩)
      refine law_sign w _ _ (Fit.inner hA' D31 _ (by kernel_rfl) (by kernel_rfl)) _ _ _ g d os q.1 q.2 hb (D31.give [] (by kernel_rfl)) fun g5 t5 tk a5 => ?_
      obtain ⟨kk, B3, E3⟩ : ∃ kk B', Rep (kt1 w) h₀ mods g5 B' [(acc, listO (txV P) ep), (it, iterO "list_iterator" (.ref fa) (pre.length + 1)), (fa, listO (natV (pre ++ q :: rest)) ef), (di, dictO [ent w n_cell kk (.int (.ofNat q.1) q.2)] 1)] X 0 := by first | exact ⟨t', D31.backP [] [0, 1, 2, 3] _ (by kernel_rfl!) a5 (by kernel_rfl!)⟩ | exact ⟨k, D31.backP [] [0, 1, 2, 3] _ (by kernel_rfl!) a5 (by kernel_rfl!)⟩
      clear D31
      refine Means.add0 ?_
      (refine segW (t0 := t5) (i := 0) 100000 [] ((.call (.builtin "list.append") ⟨[.ref acc, .str ⟨⟨[signN q.1]⟩⟩ tk], []⟩) ) E3 (by assumption) (by assumption) ?_; intro o102; refine ⟨by kernel_rfl, by kernel_rfl, by kernel_rfl, by kernel_rfl, by kernel_rfl, fun h102 D102 => ?_⟩)
      refine callW_of rfl ?_
      rw [mark_none]
      refine r_append acc ep (txV P) _ (by omega) (D102.give [1] (by kernel_rfl)) fun g3 t3 a3 => ?_
      obtain ⟨B4, E4⟩ := D102.backP [1] [0, 1, 2, 3] [(acc, listO (txV P ++ [.str ⟨⟨[signN q.1]⟩⟩ tk]) (ep + 1)), (it, iterO "list_iterator" (.ref fa) (pre.length + 1)), (fa, listO (natV (pre ++ q :: rest)) ef), (di, dictO [ent w n_cell kk (.int (.ofNat q.1) q.2)] 1)] (by kernel_rfl) a3 (by kernel_rfl)
      refine Means.add0 ?_
      (refine segF (t0 := t3) (i := 0) 100000 [] ((Fin.again (compL w 131 (eLS w) (.ref it) (.ref acc) di q_law fr)) ) E4 (by assumption) (by assumption) ?_; intro o103; refine ⟨by kernel_rfl, by kernel_rfl, by kernel_rfl, fun h103 D103 => ?_⟩)
      obtain ⟨B5, E5⟩ := D103.pickE [0, 1, 2, 3] [(acc, listO (txV P ++ [.str ⟨⟨[signN q.1]⟩⟩ tk]) (ep + 1)), (it, iterO "list_iterator" (.ref fa) (pre.length + 1)), (fa, listO (natV (pre ++ q :: rest)) ef), (di, dictO [ent w n_cell kk (.int (.ofNat q.1) q.2)] 1)] (by kernel_rfl)
      have e3 : txV P ++ [.str ⟨⟨[signN q.1]⟩⟩ tk] = txV (P ++ [([signN q.1], tk)]) := by simp [txV]
      rw [e1, e2, e3] at E5
      refine ⟨by kernel_rfl, ih (pre ++ [q]) (P ++ [([signN q.1], tk)]) _ _ _ _ _ _ (.inr ⟨_, _, rfl, rfl⟩) (by rw [List.length_append, List.length_singleton]; omega) (fun x hx => hrow x (List.mem_cons_of_mem _ hx)) E5 fun h1 B' t9 ep' Q dl' dn' hd2 hQ E => ?_⟩
      refine hR h1 B' t9 ep' (([signN q.1], tk) :: Q) dl' dn' (.inr (hd2.elim (fun h => ⟨_, _, h.2.1, h.2.2⟩) id)) (by rw [List.map_cons, List.map_cons, hQ]) ?_
      rw [List.append_assoc, ← e1] at E
      exact E
)
theorem ls_start (w : World) (A : Around) (h₀ : Heap) (mods : List Nat) (hA : Fit 30 A (kt1 w) h₀) (R : Result → Shared → Prop) (g : Array GenState) (d : Drawn) (os : OsState) (it acc di fr fa ef : Nat)  (F : List (Nat × Nat)) (hne : F ≠ []) (X : Led) (hz : F.length ≤ 1000000) (hF : (∀ q ∈ F, q.1 < 2304)) (h : Heap) (B t0 : Nat)
   (D : Rep (kt1 w) h₀ mods h B [(acc, listO ([]) 0), (it, iterO "list_iterator" (.ref fa) 0), (fa, listO (natV F) ef), (di, dictO [] 0)] X 0)
   (hR : ∀ h1 B' t' ep' Q dl' dn', (∃ k v, dl' = [ent w n_cell k v] ∧ dn' = 1) → Q.map (·.1) = F.map (fun q => [signN q.1]) → Rep (kt1 w) h₀ mods h1 B' [(acc, listO (txV Q) ep'), (fa, listO (natV F) ef), (di, dictO dl' dn')] X 0 → R (.ok .next) ⟨h1, g, d, t', os⟩) :
   codeAny (PP w) A (compS w 131 (eLS w) (.ref it) (.ref acc) di q_law fr) R ⟨h, g, d, t0, os⟩ := by
  obtain ⟨b1, b2, hw⟩ := parF_ex w
  have hA' := hA.under (compS w 131 (eLS w) (.ref it) (.ref acc) di q_law fr) (m := 29) (by kernel_rfl)
  refine code_start ?_
  refine Means.add0 ?_
  cases b2 <;> cases b1 <;> (
    (first | (refine segF (t0 := t0) (i := 0) 100000 [2, 2, 1, 2, 2] ((Fin.again (compL w 131 (eLS w) (.ref it) (.ref acc) di q_law fr)) ) D (by assumption) (by assumption) ?_; intro o1; refine ⟨by kernel_rfl!, by kernel_rfl!, by kernel_rfl!, fun h1 D1 => ?_⟩) | (refine segF (t0 := t0) (i := 0) 100000 [] ((Fin.again (compL w 131 (eLS w) (.ref it) (.ref acc) di q_law fr)) ) D (by assumption) (by assumption) ?_; intro o1; refine ⟨by kernel_rfl!, by kernel_rfl!, by kernel_rfl!, fun h1 D1 => ?_⟩))
    obtain ⟨B2, E1⟩ := D1.pickE [0, 1, 2, 3] [(acc, listO (txV []) 0), (it, iterO "list_iterator" (.ref fa) ([] : List (Nat × Nat)).length), (fa, listO (natV ([] ++ F)) ef), (di, dictO [] 0)] (by kernel_rfl)
    exact ⟨by kernel_rfl, ls_loop w A h₀ mods hA R g d os it acc di fr fa ef  X F [] [] _ _ _ _ _ _ (.inl ⟨rfl, rfl⟩) (by rw [List.length_nil]; omega) hF E1 fun h1 B' t' ep' Q dl' dn' hd => hR h1 B' t' ep' Q dl' dn' (hd.elim (fun h => absurd h.1 hne) id)⟩)
end Mine
end
section
open PySem PySem.W PySem.Calls PyProof.Rows
set_option Elab.async false
set_option maxRecDepth 100000
namespace Mine
noncomputable def eLM (w : World) : Expr := match stmtAt w 131 6 with
  | .Assign _ (.BinOp (.Call _ (e :: _) _ _) _ _ _) _ => e
  | _ => default
theorem lm_loop (w : World) (A : Around) (h₀ : Heap) (mods : List Nat) (hA : Fit 5 A (kt1 w) h₀) (R : Result → Shared → Prop) (g : Array GenState) (d : Drawn) (os : OsState) (it acc di fr fa ef : Nat)  (X : Led) :
   ∀ (rest pre : List (Int × Nat)) (P : List (Nat × Nat)) (h : Heap) (B t0 ep : Nat) (dl : List DictEntry) (dn : Nat), (dl = [] ∧ dn = 0 ∨ ∃ k v, dl = [ent w n_x k v] ∧ dn = 1) → P.length + rest.length ≤ 16777000 →
   Rep (kt1 w) h₀ mods h B [(acc, listO (natV P) ep), (it, iterO "list_iterator" (.ref fa) pre.length), (fa, listO (intV (pre ++ rest)) ef), (di, dictO dl dn)] X 0 →
   (∀ h1 B' t' ep' Q dl' dn', (rest = [] ∧ dl' = dl ∧ dn' = dn ∨ rest ≠ [] ∧ ∃ k v, dl' = [ent w n_x k v] ∧ dn' = 1) → Q.map (·.1) = rest.map (fun c => (c.1.fmod 16).toNat) → Rep (kt1 w) h₀ mods h1 B' [(acc, listO (natV (P ++ Q)) ep'), (fa, listO (intV (pre ++ rest)) ef), (di, dictO dl' dn')] X 0 → R (.ok .next) ⟨h1, g, d, t', os⟩) →
   codeAny (PP w) A (compL w 131 (eLM w) (.ref it) (.ref acc) di q_law fr) R ⟨h, g, d, t0, os⟩ := by
  obtain ⟨b1, b2, hw⟩ := parF_ex w
  have hA' := hA.under (compL w 131 (eLM w) (.ref it) (.ref acc) di q_law fr) (m := 4) (by kernel_rfl)
  intro rest
  induction rest with
  | nil =>
    intro pre P h B t0 ep dl dn hdl hsz  D hR
    refine code_start ?_
    refine Means.add0 ?_
    (refine segW (t0 := t0) (i := 0) 100000 [2] (Code.call (Value.builtin "list_iterator.__next__") { pos := [Value.ref it] : Args }) D (by assumption) (by assumption) ?_; intro o11; refine ⟨by kernel_rfl, by kernel_rfl, by kernel_rfl, by kernel_rfl, by kernel_rfl, fun h11 D11 => ?_⟩)
    refine callW_of rfl ?_
    rw [mark_none]
    refine r_lend (Fit.inner hA' D11 _ (by kernel_rfl) (by kernel_rfl)) it fa pre.length ef (intV (pre ++ [])) (by simp [intV]) (D11.give [0, 1, 1] (by kernel_rfl)) fun g1 t' x y a1 => ?_
    obtain ⟨B2, E1⟩ := D11.backP [0, 1, 1] [3, 0, 4, 1, 2] ([(acc, listO (natV P) ep), (fa, listO (intV (pre ++ [])) ef), (di, dictO dl dn)] ++ [(y, tupO []), (x, stopO y)]) (by kernel_rfl) a1 (by kernel_rfl)
    refine Means.add0 ?_
    (refine segF (t0 := t') (i := 0) 100000 [5] (Fin.done Flow.next) E1 (by assumption) (by assumption) ?_; intro o12; refine ⟨by kernel_rfl, by kernel_rfl, by kernel_rfl, fun h12 D12 => ?_⟩)
    obtain ⟨B3, E2⟩ := D12.pickE [0, 1, 2] [(acc, listO (natV (P ++ [])) ep), (fa, listO (intV (pre ++ [])) ef), (di, dictO dl dn)] (by rw [List.append_nil P]; kernel_rfl)
    exact hR _ _ _ _ [] _ _ (.inl ⟨rfl, rfl, rfl⟩) rfl E2
  | cons q rest ih =>
    intro pre P h B t0 ep dl dn hdl hsz  D hR
    refine code_start ?_
    refine Means.add0 ?_
    (refine segW (t0 := t0) (i := 0) 100000 [2] (Code.call (Value.builtin "list_iterator.__next__") { pos := [Value.ref it] : Args }) D (by assumption) (by assumption) ?_; intro o21; refine ⟨by kernel_rfl, by kernel_rfl, by kernel_rfl, by kernel_rfl, by kernel_rfl, fun h21 D21 => ?_⟩)
    refine callW_of rfl ?_
    rw [mark_none]
    refine r_lnext (Fit.inner hA' D21 _ (by kernel_rfl) (by kernel_rfl)) it fa pre.length ef (intV (pre ++ q :: rest)) (.int q.1 q.2) (by simp [intV]) (D21.give [0, 1, 1] (by kernel_rfl)) fun g1 t' a1 => ?_
    obtain ⟨B2, E1⟩ := D21.backP [0, 1, 1] [2, 0, 1, 3] [(acc, listO (natV P) ep), (it, iterO "list_iterator" (.ref fa) (pre.length + 1)), (fa, listO (intV (pre ++ q :: rest)) ef), (di, dictO dl dn)] (by kernel_rfl) a1 (by kernel_rfl)
    refine Means.add0 ?_
    have e1 : pre ++ q :: rest = (pre ++ [q]) ++ rest := by simp
    have e2 : pre.length + 1 = (pre ++ [q]).length := by simp
    have hSP : (natV P).length = P.length := by simp [natV]
    rw [List.length_cons] at hsz
    have hm : (q.1.fmod 16) = .ofNat (q.1.fmod 16).toNat := (Int.toNat_of_nonneg (Int.fmod_nonneg_of_pos _ (by decide))).symm
    rcases hdl with ⟨rfl, rfl⟩ | ⟨k, v, rfl, rfl⟩ <;> (
      (refine segW (t0 := t') (i := 0) 100000 [4, 4, 4] (Code.call (Value.builtin "int.__mod__") { pos := [Value.int q.fst q.snd, Value.int 16 (t' + 1)] : Args }) E1 (by assumption) (by assumption) ?_; intro o31; refine ⟨by kernel_rfl, by kernel_rfl, by kernel_rfl, by kernel_rfl, by kernel_rfl, fun h31 D31 => ?_⟩)
      refine r_mod q.1 16 _ _ (by decide) fun u1 u2 => ?_
      rw [hm]
      generalize hv : (q.1.fmod 16).toNat = m
      refine Means.add0 ?_
      obtain ⟨kk, B3, E3⟩ : ∃ kk B', Rep (kt1 w) h₀ mods h31 B' [(acc, listO (natV P) ep), (it, iterO "list_iterator" (.ref fa) (pre.length + 1)), (fa, listO (intV (pre ++ q :: rest)) ef), (di, dictO [ent w n_x kk (.int q.1 q.2)] 1)] X 0 := by first | exact ⟨t', D31.pickE [0, 1, 2, 3] _ (by kernel_rfl!)⟩ | exact ⟨k, D31.pickE [0, 1, 2, 3] _ (by kernel_rfl!)⟩
      clear D31
      (refine segW (t0 := u2) (i := 0) 100000 [] ((.call (.builtin "list.append") ⟨[.ref acc, .int (.ofNat m) u1], []⟩) ) E3 (by assumption) (by assumption) ?_; intro o102; refine ⟨by kernel_rfl, by kernel_rfl, by kernel_rfl, by kernel_rfl, by kernel_rfl, fun h102 D102 => ?_⟩)
      refine callW_of rfl ?_
      rw [mark_none]
      refine r_append acc ep (natV P) _ (by omega) (D102.give [1] (by kernel_rfl)) fun g3 t3 a3 => ?_
      obtain ⟨B4, E4⟩ := D102.backP [1] [0, 1, 2, 3] [(acc, listO (natV P ++ [.int (.ofNat m) u1]) (ep + 1)), (it, iterO "list_iterator" (.ref fa) (pre.length + 1)), (fa, listO (intV (pre ++ q :: rest)) ef), (di, dictO [ent w n_x kk (.int q.1 q.2)] 1)] (by kernel_rfl) a3 (by kernel_rfl)
      refine Means.add0 ?_
      (refine segF (t0 := t3) (i := 0) 100000 [] ((Fin.again (compL w 131 (eLM w) (.ref it) (.ref acc) di q_law fr)) ) E4 (by assumption) (by assumption) ?_; intro o103; refine ⟨by kernel_rfl, by kernel_rfl, by kernel_rfl, fun h103 D103 => ?_⟩)
      obtain ⟨B5, E5⟩ := D103.pickE [0, 1, 2, 3] [(acc, listO (natV P ++ [.int (.ofNat m) u1]) (ep + 1)), (it, iterO "list_iterator" (.ref fa) (pre.length + 1)), (fa, listO (intV (pre ++ q :: rest)) ef), (di, dictO [ent w n_x kk (.int q.1 q.2)] 1)] (by kernel_rfl)
      have e3 : natV P ++ [.int (.ofNat m) u1] = natV (P ++ [(m, u1)]) := by simp [natV]
      rw [e1, e2, e3] at E5
      refine ⟨by kernel_rfl, ih (pre ++ [q]) (P ++ [(m, u1)]) _ _ _ _ _ _ (.inr ⟨_, _, rfl, rfl⟩) (by rw [List.length_append, List.length_singleton]; omega)  E5 fun h1 B' t9 ep' Q dl' dn' hd2 hQ E => ?_⟩
      refine hR h1 B' t9 ep' ((m, u1) :: Q) dl' dn' (.inr ⟨List.cons_ne_nil _ _, Or.elim hd2 (fun h => ⟨kk, _, h.2.1, h.2.2⟩) (fun h => h.2)⟩) (by rw [List.map_cons, List.map_cons, hQ]; rw [hv]) ?_
      rw [List.append_assoc, ← e1] at E
      exact E
)
theorem lm_start (w : World) (A : Around) (h₀ : Heap) (mods : List Nat) (hA : Fit 5 A (kt1 w) h₀) (R : Result → Shared → Prop) (g : Array GenState) (d : Drawn) (os : OsState) (it acc di fr fa ef : Nat)  (F : List (Int × Nat)) (X : Led) (hz : F.length ≤ 1000000)  (h : Heap) (B t0 : Nat)
   (D : Rep (kt1 w) h₀ mods h B [(acc, listO ([]) 0), (it, iterO "list_iterator" (.ref fa) 0), (fa, listO (intV F) ef), (di, dictO [] 0)] X 0)
   (hR : ∀ h1 B' t' ep' Q dl' dn', (F = [] ∧ dl' = [] ∧ dn' = 0 ∨ F ≠ [] ∧ ∃ k v, dl' = [ent w n_x k v] ∧ dn' = 1) → Q.map (·.1) = F.map (fun c => (c.1.fmod 16).toNat) → Rep (kt1 w) h₀ mods h1 B' [(acc, listO (natV Q) ep'), (fa, listO (intV F) ef), (di, dictO dl' dn')] X 0 → R (.ok .next) ⟨h1, g, d, t', os⟩) :
   codeAny (PP w) A (compS w 131 (eLM w) (.ref it) (.ref acc) di q_law fr) R ⟨h, g, d, t0, os⟩ := by
  obtain ⟨b1, b2, hw⟩ := parF_ex w
  have hA' := hA.under (compS w 131 (eLM w) (.ref it) (.ref acc) di q_law fr) (m := 4) (by kernel_rfl)
  refine code_start ?_
  refine Means.add0 ?_
  cases b2 <;> cases b1 <;> (
    (first | (refine segF (t0 := t0) (i := 0) 100000 [2, 2, 1, 2, 2] ((Fin.again (compL w 131 (eLM w) (.ref it) (.ref acc) di q_law fr)) ) D (by assumption) (by assumption) ?_; intro o1; refine ⟨by kernel_rfl!, by kernel_rfl!, by kernel_rfl!, fun h1 D1 => ?_⟩) | (refine segF (t0 := t0) (i := 0) 100000 [] ((Fin.again (compL w 131 (eLM w) (.ref it) (.ref acc) di q_law fr)) ) D (by assumption) (by assumption) ?_; intro o1; refine ⟨by kernel_rfl!, by kernel_rfl!, by kernel_rfl!, fun h1 D1 => ?_⟩))
    obtain ⟨B2, E1⟩ := D1.pickE [0, 1, 2, 3] [(acc, listO (natV []) 0), (it, iterO "list_iterator" (.ref fa) ([] : List (Int × Nat)).length), (fa, listO (intV ([] ++ F)) ef), (di, dictO [] 0)] (by kernel_rfl)
    exact ⟨by kernel_rfl, lm_loop w A h₀ mods hA R g d os it acc di fr fa ef  X F [] [] _ _ _ _ _ _ (.inl ⟨rfl, rfl⟩) (by rw [List.length_nil]; omega)  E1 fun h1 B' t' ep' Q dl' dn' hd => hR h1 B' t' ep' Q dl' dn' hd⟩)
end Mine
end
section
open PySem PySem.W PySem.Calls PyProof.Rows
set_option Elab.async false
set_option maxRecDepth 100000
namespace Mine
noncomputable def eLO (w : World) : Expr := match stmtAt w 131 8 with
  | .Assign _ e _ => e
  | _ => default
noncomputable def n_sgn := [115, 105, 103, 110]
theorem lo_loop (w : World) (A : Around) (h₀ : Heap) (mods : List Nat) (hA : Fit 5 A (kt1 w) h₀) (R : Result → Shared → Prop) (g : Array GenState) (d : Drawn) (os : OsState) (it acc di fr tb : Nat)  (X : Led) :
   ∀ (rest pre : List (Nat)) (P : List (Nat × Nat)) (h : Heap) (B t0 ep : Nat) (dl : List DictEntry) (dn : Nat), (dl = [] ∧ dn = 0 ∨ ∃ k v, dl = [ent w n_sgn k v] ∧ dn = 1) → P.length + rest.length ≤ 16777000 →
   Rep (kt1 w) h₀ mods h B [(acc, listO (natV P) ep), (it, iterO ("str_ascii_iterator") (.str ⟨⟨(pre ++ rest)⟩⟩ tb) pre.length), (di, dictO dl dn)] X 0 →
   (∀ h1 B' t' ep' Q dl' dn', (rest = [] ∧ dl' = dl ∧ dn' = dn ∨ ∃ k v, dl' = [ent w n_sgn k v] ∧ dn' = 1) → Q.map (·.1) = rest.map (fun c => c) → Rep (kt1 w) h₀ mods h1 B' [(acc, listO (natV (P ++ Q)) ep'), (di, dictO dl' dn')] X 0 → R (.ok .next) ⟨h1, g, d, t', os⟩) →
   codeAny (PP w) A (compL w 131 (eLO w) (.ref it) (.ref acc) di q_law fr) R ⟨h, g, d, t0, os⟩ := by
  obtain ⟨b1, b2, hw⟩ := parF_ex w
  have hA' := hA.under (compL w 131 (eLO w) (.ref it) (.ref acc) di q_law fr) (m := 4) (by kernel_rfl)
  intro rest
  induction rest with
  | nil =>
    intro pre P h B t0 ep dl dn hdl hsz  D hR
    refine code_start ?_
    refine Means.add0 ?_
    (
    (first | (refine segW (t0 := t0) (i := 0) 100000 [2] (Code.call (Value.builtin "str_ascii_iterator.__next__") { pos := [Value.ref it] : Args }) D (by assumption) (by assumption) ?_; intro o11; refine ⟨by kernel_rfl!, by kernel_rfl!, by kernel_rfl!, by kernel_rfl!, by kernel_rfl!, fun h11 D11 => ?_⟩) | (refine segW (t0 := t0) (i := 0) 100000 [2] (Code.call (Value.builtin "str_iterator.__next__") { pos := [Value.ref it] : Args }) D (by assumption) (by assumption) ?_; intro o11; refine ⟨by kernel_rfl!, by kernel_rfl!, by kernel_rfl!, by kernel_rfl!, by kernel_rfl!, fun h11 D11 => ?_⟩))
    refine callW_of rfl ?_
    rw [mark_none]
    refine r_send (Fit.inner hA' D11 _ (by kernel_rfl) (by kernel_rfl)) it tb pre.length (pre ++ []) (by simp) (D11.give [0, 1] (by kernel_rfl)) fun g1 t' x y a1 => ?_
    obtain ⟨B2, E1⟩ := D11.backP [0, 1] [2, 3, 0, 1] ([(acc, listO (natV P) ep), (di, dictO dl dn)] ++ [(y, tupO []), (x, stopO y)]) (by kernel_rfl) a1 (by kernel_rfl)
    refine Means.add0 ?_
    (refine segF (t0 := t') (i := 0) 100000 [4] (Fin.done Flow.next) E1 (by assumption) (by assumption) ?_; intro o12; refine ⟨by kernel_rfl, by kernel_rfl, by kernel_rfl, fun h12 D12 => ?_⟩)
    obtain ⟨B3, E2⟩ := D12.pickE [0, 1] [(acc, listO (natV (P ++ [])) ep), (di, dictO dl dn)] (by rw [List.append_nil P]; kernel_rfl)
    exact hR _ _ _ _ [] _ _ (.inl ⟨rfl, rfl, rfl⟩) rfl E2)
  | cons q rest ih =>
    intro pre P h B t0 ep dl dn hdl hsz  D hR
    have e1 : pre ++ q :: rest = (pre ++ [q]) ++ rest := by simp
    have e2 : pre.length + 1 = (pre ++ [q]).length := by simp
    have hSP : (natV P).length = P.length := by simp [natV]
    rw [List.length_cons] at hsz
    refine code_start ?_
    refine Means.add0 ?_
    (
    (first | (refine segW (t0 := t0) (i := 0) 100000 [2] (Code.call (Value.builtin "str_ascii_iterator.__next__") { pos := [Value.ref it] : Args }) D (by assumption) (by assumption) ?_; intro o21; refine ⟨by kernel_rfl!, by kernel_rfl!, by kernel_rfl!, by kernel_rfl!, by kernel_rfl!, fun h21 D21 => ?_⟩) | (refine segW (t0 := t0) (i := 0) 100000 [2] (Code.call (Value.builtin "str_iterator.__next__") { pos := [Value.ref it] : Args }) D (by assumption) (by assumption) ?_; intro o21; refine ⟨by kernel_rfl!, by kernel_rfl!, by kernel_rfl!, by kernel_rfl!, by kernel_rfl!, fun h21 D21 => ?_⟩))
    refine callW_of rfl ?_
    rw [mark_none]
    refine r_snext (Fit.inner hA' D21 _ (by kernel_rfl) (by kernel_rfl)) it tb pre.length (pre ++ q :: rest) q (by simp) (D21.give [0, 1] (by kernel_rfl)) fun g1 t1 t' a1 => ?_
    obtain ⟨B2, E1⟩ := D21.backP [0, 1] [1, 0, 2] [(acc, listO (natV P) ep), (it, iterO ("str_ascii_iterator") (.str ⟨⟨(pre ++ q :: rest)⟩⟩ tb) (pre.length + 1)), (di, dictO dl dn)] (by kernel_rfl) a1 (by kernel_rfl)
    refine Means.add0 ?_
    rcases hdl with ⟨rfl, rfl⟩ | ⟨k, v, rfl, rfl⟩ <;> (
      (refine segW (t0 := t') (i := 0) 100000 [3, 3, 0, 0, 3, 1] (Code.call (Value.builtin "list.append") { pos := [Value.ref acc, Value.int (Int.ofNat q) (t' + 1)] : Args }) E1 (by assumption) (by assumption) ?_; intro o31; refine ⟨by kernel_rfl, by kernel_rfl, by kernel_rfl, by kernel_rfl, by kernel_rfl, fun h31 D31 => ?_⟩)
      refine callW_of rfl ?_
      rw [mark_none]
      refine r_append acc ep (natV P) (.int (.ofNat q) (t' + 1)) (by omega) (D31.give [1] (by kernel_rfl)) fun g3 t3 a3 => ?_
      obtain ⟨kk, tk, B4, E4⟩ : ∃ kk tk B', Rep (kt1 w) h₀ mods g3 B' [(acc, listO (natV P ++ [.int (.ofNat q) tk]) (ep + 1)), (it, iterO ("str_ascii_iterator") (.str ⟨⟨(pre ++ q :: rest)⟩⟩ tb) (pre.length + 1)), (di, dictO [ent w n_sgn kk (.str ⟨⟨[q]⟩⟩ t1)] 1)] X 0 := by first | exact ⟨t', t' + 1, D31.backP [1] [0, 1, 2] _ (by kernel_rfl!) a3 (by kernel_rfl!)⟩ | exact ⟨k, t' + 1, D31.backP [1] [0, 1, 2] _ (by kernel_rfl!) a3 (by kernel_rfl!)⟩
      clear D31
      refine Means.add0 ?_
      (refine segF (t0 := t3) (i := 0) 100000 [] ((Fin.again (compL w 131 (eLO w) (.ref it) (.ref acc) di q_law fr)) ) E4 (by assumption) (by assumption) ?_; intro o32; refine ⟨by kernel_rfl, by kernel_rfl, by kernel_rfl, fun h32 D32 => ?_⟩)
      obtain ⟨B5, E5⟩ := D32.pickE [0, 1, 2] [(acc, listO (natV P ++ [.int (.ofNat q) tk]) (ep + 1)), (it, iterO ("str_ascii_iterator") (.str ⟨⟨(pre ++ q :: rest)⟩⟩ tb) (pre.length + 1)), (di, dictO [ent w n_sgn kk (.str ⟨⟨[q]⟩⟩ t1)] 1)] (by kernel_rfl)
      have e3 : natV P ++ [.int (.ofNat q) tk] = natV (P ++ [(q, tk)]) := by simp [natV]
      rw [e1, e2, e3] at E5
      refine ⟨by kernel_rfl, ih (pre ++ [q]) (P ++ [(q, tk)]) _ _ _ _ _ _ (.inr ⟨_, _, rfl, rfl⟩) (by rw [List.length_append, List.length_singleton]; omega) E5 fun h1 B' t9 ep' Q dl' dn' hd2 hQ E => ?_⟩
      refine hR h1 B' t9 ep' ((q, tk) :: Q) dl' dn' (.inr (hd2.elim (fun h => ⟨_, _, h.2.1, h.2.2⟩) id)) (by rw [List.map_cons, List.map_cons, hQ]) ?_
      rw [List.append_assoc] at E
      exact E))
theorem lo_start (w : World) (A : Around) (h₀ : Heap) (mods : List Nat) (hA : Fit 5 A (kt1 w) h₀) (R : Result → Shared → Prop) (g : Array GenState) (d : Drawn) (os : OsState) (it acc di fr tb : Nat)  (F : List (Nat)) (hne : F ≠ []) (X : Led) (hz : F.length ≤ 1000000)  (h : Heap) (B t0 : Nat)
   (D : Rep (kt1 w) h₀ mods h B [(acc, listO ([]) 0), (it, iterO ("str_ascii_iterator") (.str ⟨⟨F⟩⟩ tb) 0), (di, dictO [] 0)] X 0)
   (hR : ∀ h1 B' t' ep' Q dl' dn', (∃ k v, dl' = [ent w n_sgn k v] ∧ dn' = 1) → Q.map (·.1) = F.map (fun c => c) → Rep (kt1 w) h₀ mods h1 B' [(acc, listO (natV Q) ep'), (di, dictO dl' dn')] X 0 → R (.ok .next) ⟨h1, g, d, t', os⟩) :
   codeAny (PP w) A (compS w 131 (eLO w) (.ref it) (.ref acc) di q_law fr) R ⟨h, g, d, t0, os⟩ := by
  obtain ⟨b1, b2, hw⟩ := parF_ex w
  have hA' := hA.under (compS w 131 (eLO w) (.ref it) (.ref acc) di q_law fr) (m := 4) (by kernel_rfl)
  refine code_start ?_
  refine Means.add0 ?_
  cases b2 <;> cases b1 <;> (
    (first | (refine segF (t0 := t0) (i := 0) 100000 [2, 2, 1, 2, 2] ((Fin.again (compL w 131 (eLO w) (.ref it) (.ref acc) di q_law fr)) ) D (by assumption) (by assumption) ?_; intro o1; refine ⟨by kernel_rfl!, by kernel_rfl!, by kernel_rfl!, fun h1 D1 => ?_⟩) | (refine segF (t0 := t0) (i := 0) 100000 [] ((Fin.again (compL w 131 (eLO w) (.ref it) (.ref acc) di q_law fr)) ) D (by assumption) (by assumption) ?_; intro o1; refine ⟨by kernel_rfl!, by kernel_rfl!, by kernel_rfl!, fun h1 D1 => ?_⟩))
    obtain ⟨B2, E1⟩ := D1.pickE [0, 1, 2] [(acc, listO (natV []) 0), (it, iterO ("str_ascii_iterator") (.str ⟨⟨([] ++ F)⟩⟩ tb) ([] : List (Nat)).length), (di, dictO [] 0)] (by kernel_rfl)
    exact ⟨by kernel_rfl, lo_loop w A h₀ mods hA R g d os it acc di fr tb  X F [] [] _ _ _ _ _ _ (.inl ⟨rfl, rfl⟩) (by rw [List.length_nil]; omega)  E1 fun h1 B' t' ep' Q dl' dn' hd => hR h1 B' t' ep' Q dl' dn' (hd.elim (fun h => absurd h.1 hne) id)⟩)
theorem lp_loop (w : World) (A : Around) (h₀ : Heap) (mods : List Nat) (hA : Fit 5 A (kt1 w) h₀) (R : Result → Shared → Prop) (g : Array GenState) (d : Drawn) (os : OsState) (it acc di fr tb : Nat)  (X : Led) :
   ∀ (rest pre : List (Nat)) (P : List (Nat × Nat)) (h : Heap) (B t0 ep : Nat) (dl : List DictEntry) (dn : Nat), (dl = [] ∧ dn = 0 ∨ ∃ k v, dl = [ent w n_sgn k v] ∧ dn = 1) → P.length + rest.length ≤ 16777000 →
   Rep (kt1 w) h₀ mods h B [(acc, listO (natV P) ep), (it, iterO ("str_iterator") (.str ⟨⟨(pre ++ rest)⟩⟩ tb) pre.length), (di, dictO dl dn)] X 0 →
   (∀ h1 B' t' ep' Q dl' dn', (rest = [] ∧ dl' = dl ∧ dn' = dn ∨ ∃ k v, dl' = [ent w n_sgn k v] ∧ dn' = 1) → Q.map (·.1) = rest.map (fun c => c) → Rep (kt1 w) h₀ mods h1 B' [(acc, listO (natV (P ++ Q)) ep'), (di, dictO dl' dn')] X 0 → R (.ok .next) ⟨h1, g, d, t', os⟩) →
   codeAny (PP w) A (compL w 131 (eLO w) (.ref it) (.ref acc) di q_law fr) R ⟨h, g, d, t0, os⟩ := by
  obtain ⟨b1, b2, hw⟩ := parF_ex w
  have hA' := hA.under (compL w 131 (eLO w) (.ref it) (.ref acc) di q_law fr) (m := 4) (by kernel_rfl)
  intro rest
  induction rest with
  | nil =>
    intro pre P h B t0 ep dl dn hdl hsz  D hR
    refine code_start ?_
    refine Means.add0 ?_
    (
    (first | (refine segW (t0 := t0) (i := 0) 100000 [2] (Code.call (Value.builtin "str_ascii_iterator.__next__") { pos := [Value.ref it] : Args }) D (by assumption) (by assumption) ?_; intro o11; refine ⟨by kernel_rfl!, by kernel_rfl!, by kernel_rfl!, by kernel_rfl!, by kernel_rfl!, fun h11 D11 => ?_⟩) | (refine segW (t0 := t0) (i := 0) 100000 [2] (Code.call (Value.builtin "str_iterator.__next__") { pos := [Value.ref it] : Args }) D (by assumption) (by assumption) ?_; intro o11; refine ⟨by kernel_rfl!, by kernel_rfl!, by kernel_rfl!, by kernel_rfl!, by kernel_rfl!, fun h11 D11 => ?_⟩))
    refine callW_of rfl ?_
    rw [mark_none]
    refine r_wend (Fit.inner hA' D11 _ (by kernel_rfl) (by kernel_rfl)) it tb pre.length (pre ++ []) (by simp) (D11.give [0, 1] (by kernel_rfl)) fun g1 t' x y a1 => ?_
    obtain ⟨B2, E1⟩ := D11.backP [0, 1] [2, 3, 0, 1] ([(acc, listO (natV P) ep), (di, dictO dl dn)] ++ [(y, tupO []), (x, stopO y)]) (by kernel_rfl) a1 (by kernel_rfl)
    refine Means.add0 ?_
    (refine segF (t0 := t') (i := 0) 100000 [4] (Fin.done Flow.next) E1 (by assumption) (by assumption) ?_; intro o12; refine ⟨by kernel_rfl, by kernel_rfl, by kernel_rfl, fun h12 D12 => ?_⟩)
    obtain ⟨B3, E2⟩ := D12.pickE [0, 1] [(acc, listO (natV (P ++ [])) ep), (di, dictO dl dn)] (by rw [List.append_nil P]; kernel_rfl)
    exact hR _ _ _ _ [] _ _ (.inl ⟨rfl, rfl, rfl⟩) rfl E2)
  | cons q rest ih =>
    intro pre P h B t0 ep dl dn hdl hsz  D hR
    have e1 : pre ++ q :: rest = (pre ++ [q]) ++ rest := by simp
    have e2 : pre.length + 1 = (pre ++ [q]).length := by simp
    have hSP : (natV P).length = P.length := by simp [natV]
    rw [List.length_cons] at hsz
    refine code_start ?_
    refine Means.add0 ?_
    (
    (first | (refine segW (t0 := t0) (i := 0) 100000 [2] (Code.call (Value.builtin "str_ascii_iterator.__next__") { pos := [Value.ref it] : Args }) D (by assumption) (by assumption) ?_; intro o21; refine ⟨by kernel_rfl!, by kernel_rfl!, by kernel_rfl!, by kernel_rfl!, by kernel_rfl!, fun h21 D21 => ?_⟩) | (refine segW (t0 := t0) (i := 0) 100000 [2] (Code.call (Value.builtin "str_iterator.__next__") { pos := [Value.ref it] : Args }) D (by assumption) (by assumption) ?_; intro o21; refine ⟨by kernel_rfl!, by kernel_rfl!, by kernel_rfl!, by kernel_rfl!, by kernel_rfl!, fun h21 D21 => ?_⟩))
    refine callW_of rfl ?_
    rw [mark_none]
    refine r_wnext (Fit.inner hA' D21 _ (by kernel_rfl) (by kernel_rfl)) it tb pre.length (pre ++ q :: rest) q (by simp) (D21.give [0, 1] (by kernel_rfl)) fun g1 t1 t' a1 => ?_
    obtain ⟨B2, E1⟩ := D21.backP [0, 1] [1, 0, 2] [(acc, listO (natV P) ep), (it, iterO ("str_iterator") (.str ⟨⟨(pre ++ q :: rest)⟩⟩ tb) (pre.length + 1)), (di, dictO dl dn)] (by kernel_rfl) a1 (by kernel_rfl)
    refine Means.add0 ?_
    rcases hdl with ⟨rfl, rfl⟩ | ⟨k, v, rfl, rfl⟩ <;> (
      (refine segW (t0 := t') (i := 0) 100000 [3, 3, 0, 0, 3, 1] (Code.call (Value.builtin "list.append") { pos := [Value.ref acc, Value.int (Int.ofNat q) (t' + 1)] : Args }) E1 (by assumption) (by assumption) ?_; intro o31; refine ⟨by kernel_rfl, by kernel_rfl, by kernel_rfl, by kernel_rfl, by kernel_rfl, fun h31 D31 => ?_⟩)
      refine callW_of rfl ?_
      rw [mark_none]
      refine r_append acc ep (natV P) (.int (.ofNat q) (t' + 1)) (by omega) (D31.give [1] (by kernel_rfl)) fun g3 t3 a3 => ?_
      obtain ⟨kk, tk, B4, E4⟩ : ∃ kk tk B', Rep (kt1 w) h₀ mods g3 B' [(acc, listO (natV P ++ [.int (.ofNat q) tk]) (ep + 1)), (it, iterO ("str_iterator") (.str ⟨⟨(pre ++ q :: rest)⟩⟩ tb) (pre.length + 1)), (di, dictO [ent w n_sgn kk (.str ⟨⟨[q]⟩⟩ t1)] 1)] X 0 := by first | exact ⟨t', t' + 1, D31.backP [1] [0, 1, 2] _ (by kernel_rfl!) a3 (by kernel_rfl!)⟩ | exact ⟨k, t' + 1, D31.backP [1] [0, 1, 2] _ (by kernel_rfl!) a3 (by kernel_rfl!)⟩
      clear D31
      refine Means.add0 ?_
      (refine segF (t0 := t3) (i := 0) 100000 [] ((Fin.again (compL w 131 (eLO w) (.ref it) (.ref acc) di q_law fr)) ) E4 (by assumption) (by assumption) ?_; intro o32; refine ⟨by kernel_rfl, by kernel_rfl, by kernel_rfl, fun h32 D32 => ?_⟩)
      obtain ⟨B5, E5⟩ := D32.pickE [0, 1, 2] [(acc, listO (natV P ++ [.int (.ofNat q) tk]) (ep + 1)), (it, iterO ("str_iterator") (.str ⟨⟨(pre ++ q :: rest)⟩⟩ tb) (pre.length + 1)), (di, dictO [ent w n_sgn kk (.str ⟨⟨[q]⟩⟩ t1)] 1)] (by kernel_rfl)
      have e3 : natV P ++ [.int (.ofNat q) tk] = natV (P ++ [(q, tk)]) := by simp [natV]
      rw [e1, e2, e3] at E5
      refine ⟨by kernel_rfl, ih (pre ++ [q]) (P ++ [(q, tk)]) _ _ _ _ _ _ (.inr ⟨_, _, rfl, rfl⟩) (by rw [List.length_append, List.length_singleton]; omega) E5 fun h1 B' t9 ep' Q dl' dn' hd2 hQ E => ?_⟩
      refine hR h1 B' t9 ep' ((q, tk) :: Q) dl' dn' (.inr (hd2.elim (fun h => ⟨_, _, h.2.1, h.2.2⟩) id)) (by rw [List.map_cons, List.map_cons, hQ]) ?_
      rw [List.append_assoc] at E
      exact E))
theorem lp_start (w : World) (A : Around) (h₀ : Heap) (mods : List Nat) (hA : Fit 5 A (kt1 w) h₀) (R : Result → Shared → Prop) (g : Array GenState) (d : Drawn) (os : OsState) (it acc di fr tb : Nat)  (F : List (Nat)) (hne : F ≠ []) (X : Led) (hz : F.length ≤ 1000000)  (h : Heap) (B t0 : Nat)
   (D : Rep (kt1 w) h₀ mods h B [(acc, listO ([]) 0), (it, iterO ("str_iterator") (.str ⟨⟨F⟩⟩ tb) 0), (di, dictO [] 0)] X 0)
   (hR : ∀ h1 B' t' ep' Q dl' dn', (∃ k v, dl' = [ent w n_sgn k v] ∧ dn' = 1) → Q.map (·.1) = F.map (fun c => c) → Rep (kt1 w) h₀ mods h1 B' [(acc, listO (natV Q) ep'), (di, dictO dl' dn')] X 0 → R (.ok .next) ⟨h1, g, d, t', os⟩) :
   codeAny (PP w) A (compS w 131 (eLO w) (.ref it) (.ref acc) di q_law fr) R ⟨h, g, d, t0, os⟩ := by
  obtain ⟨b1, b2, hw⟩ := parF_ex w
  have hA' := hA.under (compS w 131 (eLO w) (.ref it) (.ref acc) di q_law fr) (m := 4) (by kernel_rfl)
  refine code_start ?_
  refine Means.add0 ?_
  cases b2 <;> cases b1 <;> (
    (first | (refine segF (t0 := t0) (i := 0) 100000 [2, 2, 1, 2, 2] ((Fin.again (compL w 131 (eLO w) (.ref it) (.ref acc) di q_law fr)) ) D (by assumption) (by assumption) ?_; intro o1; refine ⟨by kernel_rfl!, by kernel_rfl!, by kernel_rfl!, fun h1 D1 => ?_⟩) | (refine segF (t0 := t0) (i := 0) 100000 [] ((Fin.again (compL w 131 (eLO w) (.ref it) (.ref acc) di q_law fr)) ) D (by assumption) (by assumption) ?_; intro o1; refine ⟨by kernel_rfl!, by kernel_rfl!, by kernel_rfl!, fun h1 D1 => ?_⟩))
    obtain ⟨B2, E1⟩ := D1.pickE [0, 1, 2] [(acc, listO (natV []) 0), (it, iterO ("str_iterator") (.str ⟨⟨([] ++ F)⟩⟩ tb) ([] : List (Nat)).length), (di, dictO [] 0)] (by kernel_rfl)
    exact ⟨by kernel_rfl, lp_loop w A h₀ mods hA R g d os it acc di fr tb  X F [] [] _ _ _ _ _ _ (.inl ⟨rfl, rfl⟩) (by rw [List.length_nil]; omega)  E1 fun h1 B' t' ep' Q dl' dn' hd => hR h1 B' t' ep' Q dl' dn' (hd.elim (fun h => absurd h.1 hne) id)⟩)
end Mine
end
section
open PySem PySem.W PySem.Calls PyProof.Rows
set_option Elab.async false
set_option maxRecDepth 100000
namespace Mine
theorem slicePick_fromA (xs : List Value) (k : Nat) : slicePick ⟨xs⟩ (some (.ofNat k)) none none = (xs.drop k).toArray := by
  by_cases h : k ≤ xs.length
  · exact slicePick_from ⟨xs⟩ k h
  · have e : slicePick ⟨xs⟩ (some (.ofNat k)) none none = slicePick ⟨xs⟩ (some (.ofNat xs.length)) none none := by
      unfold slicePick sliceBounds
      have e2 : max 0 (min (if ((k : Nat) : Int) < 0 then ((k : Nat) : Int) + (xs.length : Int) else ((k : Nat) : Int)) (xs.length : Int)) = max 0 (min (if ((xs.length : Nat) : Int) < 0 then ((xs.length : Nat) : Int) + (xs.length : Int) else ((xs.length : Nat) : Int)) (xs.length : Int)) := by
        rw [if_neg (by omega), if_neg (by omega)]
        omega
      simp only [Option.getD_none]
      exact congrArg (fun z => (List.filterMap (fun x => (⟨xs⟩ : Array Value)[x]?) (sliceRange z _ 1)).toArray) e2
    rw [e]
    refine (slicePick_from ⟨xs⟩ xs.length (Nat.le_refl _)).trans ?_
    rw [List.drop_eq_nil_of_le (by omega : xs.length ≤ k)]
    exact congrArg List.toArray List.drop_length
theorem r_lsliceFromA {w : World} {A : Around} {h₀ : Heap} {R : Result → Shared → Prop} {B t0 : Nat} {g : Array GenState} {d : Drawn} {os : OsState} {mods : List Nat} {prog : Program} {kt : Nat → Option Obj} (la ep sl k t : Nat) (xs : List Value) (hz : xs.length ≤ 16777216)
   (D : Rep kt h₀ mods h₀ B [(la, listO xs ep), (sl, sliceO (.int (.ofNat k) t) .none .none)] [] 0)
   (hR : ∀ h1 na, After h₀ h1 mods [(la, listO xs ep), (na, listO (xs.drop k) 0)] → R (.ok (.ret (.ref na))) ⟨h1, g, d, t0, os⟩) :
   codeAny (model prog w) A (.call (.builtin "list.__getitem__") ⟨[.ref la, .ref sl], []⟩) R ⟨h₀, g, d, t0, os⟩ :=
  r_lslice la ep sl xs (xs.drop k) (.int (.ofNat k) t) .none (some (.ofNat k)) none (IsPart.int _ _) IsPart.none (slicePick_fromA xs k) hz D hR
end Mine
end
section
open PySem PySem.W PySem.Calls PyProof.Rows
set_option Elab.async false
set_option maxRecDepth 100000
namespace Mine
noncomputable def textOf (C : List (Nat × Nat)) : List Nat := C.map fun q => signN q.1
theorem textOf_eq (C : List (Nat × Nat)) : joinL [] (C.map fun q => [signN q.1]) = textOf C := by
  rw [joinL_nil]
  unfold textOf
  induction C with
  | nil => rfl
  | cons a r ih => rw [List.map_cons, List.flatten_cons, ih]; rfl
theorem textOf_sum (C : List (Nat × Nat)) (S : List (List Nat × Nat)) (h : C.length ≤ 5) : ((C.map fun q => [signN q.1]).map List.length).sum + S.length * ([] : List Nat).length ≤ 16777216 := by
  have : ((C.map fun q => [signN q.1]).map List.length).sum = C.length := by
    clear h
    induction C with
    | nil => rfl
    | cons a r ih => rw [List.map_cons, List.map_cons, List.sum_cons, ih]; show 1 + r.length = r.length + 1; omega
  rw [this, List.length_nil, Nat.mul_zero]
  omega
theorem textOf_len (C : List (Nat × Nat)) : (textOf C).length = C.length := List.length_map _
theorem signN_small (c : Nat) (h : c < 2304) : signN c < 256 := by
  unfold signN
  have h9 : c / 9 < 256 := by omega
  generalize c / 9 = m at h9
  have h2 : c % 9 < 9 := Nat.mod_lt _ (by decide)
  generalize c % 9 = j at h2
  match j, h2 with
  | 0, _ => exact (by decide : 10 < 256)
  | 1, _ => exact (by decide : 13 < 256)
  | 2, _ => exact (by decide : 46 < 256)
  | 3, _ => exact (by decide : 97 < 256)
  | 4, _ => exact (by decide : 92 < 256)
  | 5, _ => exact (by decide : 34 < 256)
  | 6, _ => exact (by decide : 32 < 256)
  | 7, _ => exact (by decide : 46 < 256)
  | 8, _ => exact h9
theorem textOf_small (C : List (Nat × Nat)) (h : ∀ q ∈ C, q.1 < 2304) : ∀ c ∈ textOf C, c < 256 := by
  intro c hc
  obtain ⟨q, hq, rfl⟩ := List.mem_map.mp hc
  exact signN_small _ (h q hq)
theorem both_bounds : ∀ (x : List Nat) (b cr : Bool), (dotsA b (crlfA cr x)).length ≤ 2 * x.length ∧ (crlfA cr x).length ≤ 2 * x.length ∧ x.length ≤ (dotsA b (crlfA cr x)).length + (if cr = true then 1 else 0) ∧ ((∀ c ∈ x, c < 256) → ∀ c ∈ dotsA b (crlfA cr x), c < 256) := by
  intro x
  induction x with
  | nil => intro b cr; exact ⟨Nat.le_refl _, Nat.le_refl _, Nat.zero_le _, fun _ c h => by cases h⟩
  | cons c r ih =>
    intro b cr
    have hsm : (∀ d ∈ c :: r, d < 256) → c < 256 ∧ ∀ d ∈ r, d < 256 := fun h => ⟨h c List.mem_cons_self, fun d hd => h d (List.mem_cons_of_mem _ hd)⟩
    have e : crlfA cr (c :: r) = if (cr && c == 10) = true then crlfA false r else if c = 13 then 13 :: 10 :: crlfA true r else if c = 10 then 13 :: 10 :: crlfA false r else c :: crlfA false r := by cases cr <;> rfl
    have d2 : ∀ b Y, dotsA b (13 :: 10 :: Y) = 13 :: 10 :: dotsA true Y := by intro b Y; cases b <;> rfl
    have d1 : ∀ b Y, dotsA b (c :: Y) = if (b && c == 46) = true then 46 :: 46 :: dotsA false Y else c :: dotsA (c == 10) Y := by intro b Y; cases b <;> rfl
    rw [e]
    by_cases h1 : (cr && c == 10) = true
    · rw [if_pos h1]
      have hcr : cr = true := by cases cr <;> simp_all
      subst hcr
      obtain ⟨i1, i2, i3, i4⟩ := ih b false
      simp only [List.length_cons, Bool.false_eq_true, if_false, if_true] at i1 i2 i3 ⊢
      exact ⟨by omega, by omega, by omega, fun h => i4 (hsm h).2⟩
    · rw [if_neg h1]
      by_cases h2 : c = 13
      · rw [if_pos h2, d2]
        obtain ⟨i1, i2, i3, i4⟩ := ih true true
        simp only [List.length_cons, if_true] at i1 i2 i3 ⊢
        refine ⟨by omega, by omega, by split <;> omega, fun h d hd => ?_⟩
        rcases List.mem_cons.mp hd with rfl | hd
        · decide
        · rcases List.mem_cons.mp hd with rfl | hd
          · decide
          · exact i4 (hsm h).2 d hd
      · rw [if_neg h2]
        by_cases h3 : c = 10
        · rw [if_pos h3, d2]
          obtain ⟨i1, i2, i3, i4⟩ := ih true false
          simp only [List.length_cons, Bool.false_eq_true, if_false] at i1 i2 i3 ⊢
          refine ⟨by omega, by omega, by split <;> omega, fun h d hd => ?_⟩
          rcases List.mem_cons.mp hd with rfl | hd
          · decide
          · rcases List.mem_cons.mp hd with rfl | hd
            · decide
            · exact i4 (hsm h).2 d hd
        · rw [if_neg h3, d1]
          by_cases h4 : (b && c == 46) = true
          · rw [if_pos h4]
            obtain ⟨i1, i2, i3, i4⟩ := ih false false
            simp only [List.length_cons, Bool.false_eq_true, if_false] at i1 i2 i3 ⊢
            refine ⟨by omega, by omega, by split <;> omega, fun h d hd => ?_⟩
            rcases List.mem_cons.mp hd with rfl | hd
            · decide
            · rcases List.mem_cons.mp hd with rfl | hd
              · decide
              · exact i4 (hsm h).2 d hd
          · rw [if_neg h4]
            obtain ⟨i1, i2, i3, i4⟩ := ih (c == 10) false
            simp only [List.length_cons, Bool.false_eq_true, if_false] at i1 i2 i3 ⊢
            refine ⟨by omega, by omega, by split <;> omega, fun h d hd => ?_⟩
            rcases List.mem_cons.mp hd with rfl | hd
            · exact (hsm h).1
            · exact i4 (hsm h).2 d hd
theorem sub2_crlf (x : List Nat) : sub2 x = crlfA false x := by
  unfold sub2
  rw [sub2_eq x x.length _ 0 (by omega) (by omega) (by omega), List.drop_zero]
theorem sent_facts (x : List Nat) (h3 : 3 ≤ x.length) (h5 : x.length ≤ 5) (hc : ∀ c ∈ x, c < 256) : (sub2 x).length ≤ 10 ∧ sub1 (sub2 x) = lawSent x ∧ 3 ≤ (lawSent x).length ∧ (lawSent x).length ≤ 10 ∧ ∀ c ∈ lawSent x, c < 256 := by
  obtain ⟨i1, i2, i3, i4⟩ := both_bounds x true false
  have e : lawSent x = dotsA true (crlfA false x) := (sent_law x).symm
  have e2 : sub1 (sub2 x) = lawSent x := (sub_both x).trans (sent_law x)
  rw [sub2_crlf]
  refine ⟨by omega, by rw [← sub2_crlf]; exact e2, ?_, ?_, ?_⟩
  · rw [e]; simp only [Bool.false_eq_true, if_false] at i3; omega
  · rw [e]; omega
  · rw [e]; exact i4 hc
end Mine
end
section
open PySem PySem.W PySem.Calls PyProof.Rows
set_option Elab.async false
set_option maxRecDepth 100000
namespace Mine
theorem r_slen {prog : Program} {w : World} {A : Around} {R : Result → Shared → Prop} {t0 : Nat} {g : Array GenState} {d : Drawn} {os : OsState} {h : Heap} (x : List Nat) (tx : Nat) (hx : x.length ≤ 16777216)
   (hR : ∀ t1 t', R (.ok (.ret (.int (.ofNat x.length) t1))) ⟨h, g, d, t', os⟩) :
   callW (model prog w) A none (.call (.builtin "len") ⟨[.str ⟨⟨x⟩⟩ tx], []⟩) R ⟨h, g, d, t0, os⟩ := by
  refine callW_call (Q := fun v s' => R (.ok (.ret v)) s') (E := fun e s' => R (.error e) s') ?_ (fun _ _ h => h) (fun _ _ h => h)
  exact call_len_gives (n := (x.length : Nat)) (typeIs_str _ _ _) F.slot_str_len F.entry_str_len (F.args_str_len_1 _) (gives_str_len ⟨⟨x⟩⟩ tx) (by omega) (by omega) (hR _ _)
end Mine
end
section
open PySem PySem.W PySem.Calls PyProof.Rows
set_option Elab.async false
set_option maxRecDepth 100000
namespace Mine
noncomputable def freeCell (sc : Scope) : Scope := { sc with names := sc.names.map fun p => (p.1, match p.2 with | .free => .cell | k => k) }
noncomputable def compXS (w : World) (a : Nat) (e : Expr) (it acc : Value) (di : Nat) (q : List Nat) (cs : List (Str × Addr)) (fr : Nat) : Code :=
  .compStart e 0 it acc { scope := freeCell (scopeOf e), locals := di, globals := 3, cells := cs, qual := ⟨⟨q⟩⟩, code := (fdAt w a).code, frame := some fr }
noncomputable def compXL (w : World) (a : Nat) (e : Expr) (it acc : Value) (di : Nat) (q : List Nat) (cs : List (Str × Addr)) (fr : Nat) : Code :=
  .compLoop e 0 it acc { scope := freeCell (scopeOf e), locals := di, globals := 3, cells := cs, qual := ⟨⟨q⟩⟩, code := (fdAt w a).code, frame := some fr }
noncomputable def n_turn := [116, 117, 114, 110]
noncomputable def n_size := [115, 105, 122, 101]
noncomputable def n_sent := [115, 101, 110, 116]
noncomputable def n_reach := [114, 101, 97, 99, 104]
noncomputable def eLP (w : World) : Expr := match stmtAt w 131 7 with
  | .Assign _ e _ => e
  | _ => default
noncomputable def lB (w : World) (i : Nat) : Stmt := match stmtAt w 131 9 with
  | .For _ _ b _ _ => b.getD i default
  | _ => default
theorem pc_loop (w : World) (A : Around) (h₀ : Heap) (mods : List Nat) (hA : Fit 5 A (kt1 w) h₀) (R : Result → Shared → Prop) (g : Array GenState) (d : Drawn) (os : OsState) (it acc di fr : Nat) (ct cz turn tt size tz : Nat) (hsz0 : 0 < size) (X : Led) :
   ∀ (n j : Nat) (P : List (Nat × Nat)) (h : Heap) (B t0 ep : Nat) (dl : List DictEntry) (dn : Nat), (dl = [] ∧ dn = 0 ∨ ∃ k v, dl = [ent w n_kk k v] ∧ dn = 1) → P.length + n ≤ 16777000 →
   Rep (kt1 w) h₀ mods h B [(acc, listO (natV P) ep), (it, ritO j n), (di, dictO dl dn), (ct, cellO (some (.int (.ofNat turn) tt))), (cz, cellO (some (.int (.ofNat size) tz)))] X 0 →
   (∀ h1 B' t' ep' Q dl' dn', (n = 0 ∧ dl' = dl ∧ dn' = dn ∨ ∃ k v, dl' = [ent w n_kk k v] ∧ dn' = 1) → Q.map (·.1) = (List.range' j n).map (fun j => (turn + j) % size) → Rep (kt1 w) h₀ mods h1 B' [(acc, listO (natV (P ++ Q)) ep'), (di, dictO dl' dn'), (ct, cellO (some (.int (.ofNat turn) tt))), (cz, cellO (some (.int (.ofNat size) tz)))] X 0 → R (.ok .next) ⟨h1, g, d, t', os⟩) →
   codeAny (PP w) A (compXL w 131 (eLP w) (.ref it) (.ref acc) di q_law [(⟨⟨n_turn⟩⟩, ct), (⟨⟨n_size⟩⟩, cz)] fr) R ⟨h, g, d, t0, os⟩ := by
  obtain ⟨b1, b2, hw⟩ := parF_ex w
  have hA' := hA.under (compXL w 131 (eLP w) (.ref it) (.ref acc) di q_law [(⟨⟨n_turn⟩⟩, ct), (⟨⟨n_size⟩⟩, cz)] fr) (m := 4) (by kernel_rfl)
  intro n
  induction n with
  | zero =>
    intro j P h B t0 ep dl dn hdl hsz  D hR
    refine code_start ?_
    refine Means.add0 ?_
    (refine segW (t0 := t0) (i := 0) 100000 [2] (Code.call (Value.builtin "range_iterator.__next__") { pos := [Value.ref it] : Args }) D (by assumption) (by assumption) ?_; intro o11; refine ⟨by kernel_rfl, by kernel_rfl, by kernel_rfl, by kernel_rfl, by kernel_rfl, fun h11 D11 => ?_⟩)
    refine callW_of rfl ?_
    rw [mark_none]
    refine r_rend (Fit.inner hA' D11 _ (by kernel_rfl) (by kernel_rfl)) it j (D11.give [0, 1] (by kernel_rfl)) fun g1 t' x y a1 => ?_
    obtain ⟨B2, E1⟩ := D11.backP [0, 1] [2, 3, 4, 5, 0, 1] ([(acc, listO (natV P) ep), (di, dictO dl dn), (ct, cellO (some (.int (.ofNat turn) tt))), (cz, cellO (some (.int (.ofNat size) tz)))] ++ [(y, tupO []), (x, stopO y)]) (by kernel_rfl) a1 (by kernel_rfl)
    refine Means.add0 ?_
    (refine segF (t0 := t') (i := 0) 100000 [6] (Fin.done Flow.next) E1 (by assumption) (by assumption) ?_; intro o12; refine ⟨by kernel_rfl, by kernel_rfl, by kernel_rfl, fun h12 D12 => ?_⟩)
    obtain ⟨B3, E2⟩ := D12.pickE [0, 1, 2, 3] [(acc, listO (natV (P ++ [])) ep), (di, dictO dl dn), (ct, cellO (some (.int (.ofNat turn) tt))), (cz, cellO (some (.int (.ofNat size) tz)))] (by rw [List.append_nil P]; kernel_rfl)
    exact hR _ _ _ _ [] _ _ (.inl ⟨rfl, rfl, rfl⟩) rfl E2
  | succ n ih =>
    intro j P h B t0 ep dl dn hdl hsz  D hR
    refine code_start ?_
    refine Means.add0 ?_
    (refine segW (t0 := t0) (i := 0) 100000 [2] (Code.call (Value.builtin "range_iterator.__next__") { pos := [Value.ref it] : Args }) D (by assumption) (by assumption) ?_; intro o21; refine ⟨by kernel_rfl, by kernel_rfl, by kernel_rfl, by kernel_rfl, by kernel_rfl, fun h21 D21 => ?_⟩)
    refine callW_of rfl ?_
    rw [mark_none]
    refine r_rnext it j (n + 1 : Nat) (by omega) (D21.give [0, 1] (by kernel_rfl)) fun g1 t1 t' a1 => ?_
    rw [show (((n + 1 : Nat) : Int) - 1) = ((n : Nat) : Int) by omega, show ((j : Nat) : Int) + 1 = ((j + 1 : Nat) : Int) by omega] at a1
    obtain ⟨B2, E1⟩ := D21.backP [0, 1] [1, 0, 2, 3, 4] [(acc, listO (natV P) ep), (it, ritO (j + 1 : Nat) (n : Nat)), (di, dictO dl dn), (ct, cellO (some (.int (.ofNat turn) tt))), (cz, cellO (some (.int (.ofNat size) tz)))] (by kernel_rfl) a1 (by kernel_rfl)
    refine Means.add0 ?_
    have hSP : (natV P).length = P.length := by simp [natV]
    rcases hdl with ⟨rfl, rfl⟩ | ⟨k, v, rfl, rfl⟩ <;> (
      (refine segW (t0 := t') (i := 0) 100000 [3, 3, 4, 3, 1, 5] (Code.call (Value.builtin "int.__mod__") { pos := [Value.int (Int.ofNat (turn + j)) (t' + 1), Value.int (Int.ofNat size) tz] : Args }) E1 (by assumption) (by assumption) ?_; intro o31; refine ⟨by kernel_rfl, by kernel_rfl, by kernel_rfl, by kernel_rfl, by kernel_rfl, fun h31 D31 => ?_⟩)
      refine r_modN (turn + j) size _ _ hsz0 fun u1 u2 => ?_
      generalize hv : (turn + j) % size = m
      refine Means.add0 ?_
      obtain ⟨kk, B3, E3⟩ : ∃ kk B', Rep (kt1 w) h₀ mods h31 B' [(acc, listO (natV P) ep), (it, ritO (j + 1 : Nat) (n : Nat)), (di, dictO [ent w n_kk kk (.int (.ofNat j) t1)] 1), (ct, cellO (some (.int (.ofNat turn) tt))), (cz, cellO (some (.int (.ofNat size) tz)))] X 0 := by first | exact ⟨t', D31.pickE [0, 1, 2, 3, 4] _ (by kernel_rfl!)⟩ | exact ⟨k, D31.pickE [0, 1, 2, 3, 4] _ (by kernel_rfl!)⟩
      clear D31
      (refine segW (t0 := u2) (i := 0) 100000 [] ((.call (.builtin "list.append") ⟨[.ref acc, .int (.ofNat m) u1], []⟩) ) E3 (by assumption) (by assumption) ?_; intro o102; refine ⟨by kernel_rfl, by kernel_rfl, by kernel_rfl, by kernel_rfl, by kernel_rfl, fun h102 D102 => ?_⟩)
      refine callW_of rfl ?_
      rw [mark_none]
      refine r_append acc ep (natV P) _ (by omega) (D102.give [1] (by kernel_rfl)) fun g3 t3 a3 => ?_
      obtain ⟨B4, E4⟩ := D102.backP [1] [0, 1, 2, 3, 4] [(acc, listO (natV P ++ [.int (.ofNat m) u1]) (ep + 1)), (it, ritO (j + 1 : Nat) (n : Nat)), (di, dictO [ent w n_kk kk (.int (.ofNat j) t1)] 1), (ct, cellO (some (.int (.ofNat turn) tt))), (cz, cellO (some (.int (.ofNat size) tz)))] (by kernel_rfl) a3 (by kernel_rfl)
      refine Means.add0 ?_
      (refine segF (t0 := t3) (i := 0) 100000 [] ((Fin.again (compXL w 131 (eLP w) (.ref it) (.ref acc) di q_law [(⟨⟨n_turn⟩⟩, ct), (⟨⟨n_size⟩⟩, cz)] fr)) ) E4 (by assumption) (by assumption) ?_; intro o103; refine ⟨by kernel_rfl, by kernel_rfl, by kernel_rfl, fun h103 D103 => ?_⟩)
      obtain ⟨B5, E5⟩ := D103.pickE [0, 1, 2, 3, 4] [(acc, listO (natV P ++ [.int (.ofNat m) u1]) (ep + 1)), (it, ritO (j + 1 : Nat) (n : Nat)), (di, dictO [ent w n_kk kk (.int (.ofNat j) t1)] 1), (ct, cellO (some (.int (.ofNat turn) tt))), (cz, cellO (some (.int (.ofNat size) tz)))] (by kernel_rfl)
      have e3 : natV P ++ [.int (.ofNat m) u1] = natV (P ++ [(m, u1)]) := by simp [natV]
      rw [e3] at E5
      refine ⟨by kernel_rfl, ih (j + 1) (P ++ [(m, u1)]) _ _ _ _ _ _ (.inr ⟨_, _, rfl, rfl⟩) (by rw [List.length_append, List.length_singleton]; omega)  E5 fun h1 B' t9 ep' Q dl' dn' hd2 hQ E => ?_⟩
      refine hR h1 B' t9 ep' ((m, u1) :: Q) dl' dn' (.inr (hd2.elim (fun h => ⟨_, _, h.2.1, h.2.2⟩) id)) (by rw [List.range'_succ, List.map_cons, List.map_cons, hQ]; rw [hv]) ?_
      rw [List.append_assoc] at E
      exact E
)
theorem pc_start (w : World) (A : Around) (h₀ : Heap) (mods : List Nat) (hA : Fit 5 A (kt1 w) h₀) (R : Result → Shared → Prop) (g : Array GenState) (d : Drawn) (os : OsState) (it acc di fr : Nat) (ct cz turn tt size tz : Nat) (hsz0 : 0 < size) (n : Nat) (hne : n ≠ 0) (X : Led) (hz : n ≤ 1000000)  (h : Heap) (B t0 : Nat)
   (D : Rep (kt1 w) h₀ mods h B [(acc, listO ([]) 0), (it, ritO (0 : Nat) (n : Nat)), (di, dictO [] 0), (ct, cellO (some (.int (.ofNat turn) tt))), (cz, cellO (some (.int (.ofNat size) tz)))] X 0)
   (hR : ∀ h1 B' t' ep' Q dl' dn', (∃ k v, dl' = [ent w n_kk k v] ∧ dn' = 1) → Q.map (·.1) = (List.range n).map (fun j => (turn + j) % size) → Rep (kt1 w) h₀ mods h1 B' [(acc, listO (natV Q) ep'), (di, dictO dl' dn'), (ct, cellO (some (.int (.ofNat turn) tt))), (cz, cellO (some (.int (.ofNat size) tz)))] X 0 → R (.ok .next) ⟨h1, g, d, t', os⟩) :
   codeAny (PP w) A (compXS w 131 (eLP w) (.ref it) (.ref acc) di q_law [(⟨⟨n_turn⟩⟩, ct), (⟨⟨n_size⟩⟩, cz)] fr) R ⟨h, g, d, t0, os⟩ := by
  obtain ⟨b1, b2, hw⟩ := parF_ex w
  have hA' := hA.under (compXS w 131 (eLP w) (.ref it) (.ref acc) di q_law [(⟨⟨n_turn⟩⟩, ct), (⟨⟨n_size⟩⟩, cz)] fr) (m := 4) (by kernel_rfl)
  rw [List.range_eq_range'] at hR
  refine code_start ?_
  refine Means.add0 ?_
  cases b2 <;> cases b1 <;> (
    (first | (refine segF (t0 := t0) (i := 0) 100000 [2, 2, 1, 2, 2] ((Fin.again (compXL w 131 (eLP w) (.ref it) (.ref acc) di q_law [(⟨⟨n_turn⟩⟩, ct), (⟨⟨n_size⟩⟩, cz)] fr)) ) D (by assumption) (by assumption) ?_; intro o1; refine ⟨by kernel_rfl!, by kernel_rfl!, by kernel_rfl!, fun h1 D1 => ?_⟩) | (refine segF (t0 := t0) (i := 0) 100000 [] ((Fin.again (compXL w 131 (eLP w) (.ref it) (.ref acc) di q_law [(⟨⟨n_turn⟩⟩, ct), (⟨⟨n_size⟩⟩, cz)] fr)) ) D (by assumption) (by assumption) ?_; intro o1; refine ⟨by kernel_rfl!, by kernel_rfl!, by kernel_rfl!, fun h1 D1 => ?_⟩))
    obtain ⟨B2, E1⟩ := D1.pickE [0, 1, 2, 3, 4] [(acc, listO (natV []) 0), (it, ritO (0 : Nat) (n : Nat)), (di, dictO [] 0), (ct, cellO (some (.int (.ofNat turn) tt))), (cz, cellO (some (.int (.ofNat size) tz)))] (by kernel_rfl)
    exact ⟨by kernel_rfl, pc_loop w A h₀ mods hA R g d os it acc di fr ct cz turn tt size tz hsz0 X n 0 [] _ _ _ _ _ _ (.inl ⟨rfl, rfl⟩) (by rw [List.length_nil]; omega)  E1 fun h1 B' t' ep' Q dl' dn' hd => hR h1 B' t' ep' Q dl' dn' (hd.elim (fun h => absurd h.1 hne) id)⟩)
end Mine
end
section
open PySem PySem.W PySem.Calls PyProof.Rows
set_option Elab.async false
set_option maxRecDepth 100000
namespace Mine
noncomputable def eLQ (w : World) : Expr := match lB w 1 with
  | .Assign _ e _ => e
  | _ => default
theorem pt_loop (w : World) (A : Around) (h₀ : Heap) (mods : List Nat) (hA : Fit 5 A (kt1 w) h₀) (R : Result → Shared → Prop) (g : Array GenState) (d : Drawn) (os : OsState) (it acc di fr : Nat) (cs cr ts reach tr : Nat) (s : List Nat) (hs : s.length ≤ 1000) (X : Led) :
   ∀ (n j : Nat) (P : List (List Nat × Nat)) (h : Heap) (B t0 ep : Nat) (dl : List DictEntry) (dn : Nat), (dl = [] ∧ dn = 0 ∨ ∃ k v, dl = [ent w n_kk k v] ∧ dn = 1) → P.length + n ≤ 16777000 →
   Rep (kt1 w) h₀ mods h B [(acc, listO (txV P) ep), (it, ritO j n), (di, dictO dl dn), (cs, cellO (some (.str ⟨⟨s⟩⟩ ts))), (cr, cellO (some (.int (.ofNat reach) tr)))] X 0 →
   (∀ h1 B' t' ep' Q dl' dn', (n = 0 ∧ dl' = dl ∧ dn' = dn ∨ ∃ k v, dl' = [ent w n_kk k v] ∧ dn' = 1) → Q.map (·.1) = (List.range' j n).map (fun j => (s.drop j).take reach) → Rep (kt1 w) h₀ mods h1 B' [(acc, listO (txV (P ++ Q)) ep'), (di, dictO dl' dn'), (cs, cellO (some (.str ⟨⟨s⟩⟩ ts))), (cr, cellO (some (.int (.ofNat reach) tr)))] X 0 → R (.ok .next) ⟨h1, g, d, t', os⟩) →
   codeAny (PP w) A (compXL w 131 (eLQ w) (.ref it) (.ref acc) di q_law [(⟨⟨n_sent⟩⟩, cs), (⟨⟨n_reach⟩⟩, cr)] fr) R ⟨h, g, d, t0, os⟩ := by
  obtain ⟨b1, b2, hw⟩ := parF_ex w
  have hA' := hA.under (compXL w 131 (eLQ w) (.ref it) (.ref acc) di q_law [(⟨⟨n_sent⟩⟩, cs), (⟨⟨n_reach⟩⟩, cr)] fr) (m := 4) (by kernel_rfl)
  intro n
  induction n with
  | zero =>
    intro j P h B t0 ep dl dn hdl hsz  D hR
    refine code_start ?_
    refine Means.add0 ?_
    (refine segW (t0 := t0) (i := 0) 100000 [2] (Code.call (Value.builtin "range_iterator.__next__") { pos := [Value.ref it] : Args }) D (by assumption) (by assumption) ?_; intro o11; refine ⟨by kernel_rfl, by kernel_rfl, by kernel_rfl, by kernel_rfl, by kernel_rfl, fun h11 D11 => ?_⟩)
    refine callW_of rfl ?_
    rw [mark_none]
    refine r_rend (Fit.inner hA' D11 _ (by kernel_rfl) (by kernel_rfl)) it j (D11.give [0, 1] (by kernel_rfl)) fun g1 t' x y a1 => ?_
    obtain ⟨B2, E1⟩ := D11.backP [0, 1] [2, 3, 4, 5, 0, 1] ([(acc, listO (txV P) ep), (di, dictO dl dn), (cs, cellO (some (.str ⟨⟨s⟩⟩ ts))), (cr, cellO (some (.int (.ofNat reach) tr)))] ++ [(y, tupO []), (x, stopO y)]) (by kernel_rfl) a1 (by kernel_rfl)
    refine Means.add0 ?_
    (refine segF (t0 := t') (i := 0) 100000 [6] (Fin.done Flow.next) E1 (by assumption) (by assumption) ?_; intro o12; refine ⟨by kernel_rfl, by kernel_rfl, by kernel_rfl, fun h12 D12 => ?_⟩)
    obtain ⟨B3, E2⟩ := D12.pickE [0, 1, 2, 3] [(acc, listO (txV (P ++ [])) ep), (di, dictO dl dn), (cs, cellO (some (.str ⟨⟨s⟩⟩ ts))), (cr, cellO (some (.int (.ofNat reach) tr)))] (by rw [List.append_nil P]; kernel_rfl)
    exact hR _ _ _ _ [] _ _ (.inl ⟨rfl, rfl, rfl⟩) rfl E2
  | succ n ih =>
    intro j P h B t0 ep dl dn hdl hsz  D hR
    refine code_start ?_
    refine Means.add0 ?_
    (refine segW (t0 := t0) (i := 0) 100000 [2] (Code.call (Value.builtin "range_iterator.__next__") { pos := [Value.ref it] : Args }) D (by assumption) (by assumption) ?_; intro o21; refine ⟨by kernel_rfl, by kernel_rfl, by kernel_rfl, by kernel_rfl, by kernel_rfl, fun h21 D21 => ?_⟩)
    refine callW_of rfl ?_
    rw [mark_none]
    refine r_rnext it j (n + 1 : Nat) (by omega) (D21.give [0, 1] (by kernel_rfl)) fun g1 t1 t' a1 => ?_
    rw [show (((n + 1 : Nat) : Int) - 1) = ((n : Nat) : Int) by omega, show ((j : Nat) : Int) + 1 = ((j + 1 : Nat) : Int) by omega] at a1
    obtain ⟨B2, E1⟩ := D21.backP [0, 1] [1, 0, 2, 3, 4] [(acc, listO (txV P) ep), (it, ritO (j + 1 : Nat) (n : Nat)), (di, dictO dl dn), (cs, cellO (some (.str ⟨⟨s⟩⟩ ts))), (cr, cellO (some (.int (.ofNat reach) tr)))] (by kernel_rfl) a1 (by kernel_rfl)
    refine Means.add0 ?_
    have hSP : (txV P).length = P.length := by simp [txV]
    rcases hdl with ⟨rfl, rfl⟩ | ⟨k, v, rfl, rfl⟩ <;> (
      (refine segW (t0 := t') (i := 0) 100000 [3, 3, 4, 3, 3, 5, 1] (Code.call (Value.builtin "str.__getitem__") { pos := [Value.str { cps := { toList := s : Array Nat } : Str } ts, Value.ref B2] : Args }) E1 (by assumption) (by assumption) ?_; intro o31; refine ⟨by kernel_rfl, by kernel_rfl, by kernel_rfl, by kernel_rfl, by kernel_rfl, fun h31 D31 => ?_⟩)
      obtain ⟨kk, B3, E3⟩ : ∃ kk B', Rep (kt1 w) h₀ mods h31 B' [(acc, listO (txV P) ep), (it, ritO (j + 1 : Nat) (n : Nat)), (di, dictO [ent w n_kk kk (.int (.ofNat j) t1)] 1), (cs, cellO (some (.str ⟨⟨s⟩⟩ ts))), (cr, cellO (some (.int (.ofNat reach) tr)))] X 0 := by first | exact ⟨t', D31.pickE [0, 1, 2, 3, 4] _ (by kernel_rfl!)⟩ | exact ⟨k, D31.pickE [0, 1, 2, 3, 4] _ (by kernel_rfl!)⟩
      refine callW_of rfl ?_
      rw [mark_none]
      refine r_sliceMid s j (j + reach) ts t1 (t' + 1) B2 (by omega) (D31.give [0, 0, 0, 0, 0, 1] (by kernel_rfl)) fun u1 u2 => ?_
      clear D31
      rw [show j + reach - j = reach by omega]
      generalize hv : (s.drop j).take reach = m
      refine Means.add0 ?_
      (refine segW (t0 := u2) (i := 0) 100000 [] ((.call (.builtin "list.append") ⟨[.ref acc, .str ⟨⟨m⟩⟩ u1], []⟩) ) E3 (by assumption) (by assumption) ?_; intro o102; refine ⟨by kernel_rfl, by kernel_rfl, by kernel_rfl, by kernel_rfl, by kernel_rfl, fun h102 D102 => ?_⟩)
      refine callW_of rfl ?_
      rw [mark_none]
      refine r_append acc ep (txV P) _ (by omega) (D102.give [1] (by kernel_rfl)) fun g3 t3 a3 => ?_
      obtain ⟨B4, E4⟩ := D102.backP [1] [0, 1, 2, 3, 4] [(acc, listO (txV P ++ [.str ⟨⟨m⟩⟩ u1]) (ep + 1)), (it, ritO (j + 1 : Nat) (n : Nat)), (di, dictO [ent w n_kk kk (.int (.ofNat j) t1)] 1), (cs, cellO (some (.str ⟨⟨s⟩⟩ ts))), (cr, cellO (some (.int (.ofNat reach) tr)))] (by kernel_rfl) a3 (by kernel_rfl)
      refine Means.add0 ?_
      (refine segF (t0 := t3) (i := 0) 100000 [] ((Fin.again (compXL w 131 (eLQ w) (.ref it) (.ref acc) di q_law [(⟨⟨n_sent⟩⟩, cs), (⟨⟨n_reach⟩⟩, cr)] fr)) ) E4 (by assumption) (by assumption) ?_; intro o103; refine ⟨by kernel_rfl, by kernel_rfl, by kernel_rfl, fun h103 D103 => ?_⟩)
      obtain ⟨B5, E5⟩ := D103.pickE [0, 1, 2, 3, 4] [(acc, listO (txV P ++ [.str ⟨⟨m⟩⟩ u1]) (ep + 1)), (it, ritO (j + 1 : Nat) (n : Nat)), (di, dictO [ent w n_kk kk (.int (.ofNat j) t1)] 1), (cs, cellO (some (.str ⟨⟨s⟩⟩ ts))), (cr, cellO (some (.int (.ofNat reach) tr)))] (by kernel_rfl)
      have e3 : txV P ++ [.str ⟨⟨m⟩⟩ u1] = txV (P ++ [(m, u1)]) := by simp [txV]
      rw [e3] at E5
      refine ⟨by kernel_rfl, ih (j + 1) (P ++ [(m, u1)]) _ _ _ _ _ _ (.inr ⟨_, _, rfl, rfl⟩) (by rw [List.length_append, List.length_singleton]; omega)  E5 fun h1 B' t9 ep' Q dl' dn' hd2 hQ E => ?_⟩
      refine hR h1 B' t9 ep' ((m, u1) :: Q) dl' dn' (.inr (hd2.elim (fun h => ⟨_, _, h.2.1, h.2.2⟩) id)) (by rw [List.range'_succ, List.map_cons, List.map_cons, hQ]; rw [hv]) ?_
      rw [List.append_assoc] at E
      exact E
)
theorem pt_start (w : World) (A : Around) (h₀ : Heap) (mods : List Nat) (hA : Fit 5 A (kt1 w) h₀) (R : Result → Shared → Prop) (g : Array GenState) (d : Drawn) (os : OsState) (it acc di fr : Nat) (cs cr ts reach tr : Nat) (s : List Nat) (hs : s.length ≤ 1000) (n : Nat) (hne : n ≠ 0) (X : Led) (hz : n ≤ 1000000)  (h : Heap) (B t0 : Nat)
   (D : Rep (kt1 w) h₀ mods h B [(acc, listO ([]) 0), (it, ritO (0 : Nat) (n : Nat)), (di, dictO [] 0), (cs, cellO (some (.str ⟨⟨s⟩⟩ ts))), (cr, cellO (some (.int (.ofNat reach) tr)))] X 0)
   (hR : ∀ h1 B' t' ep' Q dl' dn', (∃ k v, dl' = [ent w n_kk k v] ∧ dn' = 1) → Q.map (·.1) = (List.range n).map (fun j => (s.drop j).take reach) → Rep (kt1 w) h₀ mods h1 B' [(acc, listO (txV Q) ep'), (di, dictO dl' dn'), (cs, cellO (some (.str ⟨⟨s⟩⟩ ts))), (cr, cellO (some (.int (.ofNat reach) tr)))] X 0 → R (.ok .next) ⟨h1, g, d, t', os⟩) :
   codeAny (PP w) A (compXS w 131 (eLQ w) (.ref it) (.ref acc) di q_law [(⟨⟨n_sent⟩⟩, cs), (⟨⟨n_reach⟩⟩, cr)] fr) R ⟨h, g, d, t0, os⟩ := by
  obtain ⟨b1, b2, hw⟩ := parF_ex w
  have hA' := hA.under (compXS w 131 (eLQ w) (.ref it) (.ref acc) di q_law [(⟨⟨n_sent⟩⟩, cs), (⟨⟨n_reach⟩⟩, cr)] fr) (m := 4) (by kernel_rfl)
  rw [List.range_eq_range'] at hR
  refine code_start ?_
  refine Means.add0 ?_
  cases b2 <;> cases b1 <;> (
    (first | (refine segF (t0 := t0) (i := 0) 100000 [2, 2, 1, 2, 2] ((Fin.again (compXL w 131 (eLQ w) (.ref it) (.ref acc) di q_law [(⟨⟨n_sent⟩⟩, cs), (⟨⟨n_reach⟩⟩, cr)] fr)) ) D (by assumption) (by assumption) ?_; intro o1; refine ⟨by kernel_rfl!, by kernel_rfl!, by kernel_rfl!, fun h1 D1 => ?_⟩) | (refine segF (t0 := t0) (i := 0) 100000 [] ((Fin.again (compXL w 131 (eLQ w) (.ref it) (.ref acc) di q_law [(⟨⟨n_sent⟩⟩, cs), (⟨⟨n_reach⟩⟩, cr)] fr)) ) D (by assumption) (by assumption) ?_; intro o1; refine ⟨by kernel_rfl!, by kernel_rfl!, by kernel_rfl!, fun h1 D1 => ?_⟩))
    obtain ⟨B2, E1⟩ := D1.pickE [0, 1, 2, 3, 4] [(acc, listO (txV []) 0), (it, ritO (0 : Nat) (n : Nat)), (di, dictO [] 0), (cs, cellO (some (.str ⟨⟨s⟩⟩ ts))), (cr, cellO (some (.int (.ofNat reach) tr)))] (by kernel_rfl)
    exact ⟨by kernel_rfl, pt_loop w A h₀ mods hA R g d os it acc di fr cs cr ts reach tr s hs X n 0 [] _ _ _ _ _ _ (.inl ⟨rfl, rfl⟩) (by rw [List.length_nil]; omega)  E1 fun h1 B' t' ep' Q dl' dn' hd => hR h1 B' t' ep' Q dl' dn' (hd.elim (fun h => absurd h.1 hne) id)⟩)
end Mine
end
section
open PySem PySem.W PySem.Calls PyProof.Rows
set_option Elab.async false
set_option maxRecDepth 100000
namespace Mine
noncomputable def eLR (w : World) : Expr := match lB w 2 with
  | .If (.Compare e _ _ _) _ _ _ => e
  | _ => default
theorem lr_loop (w : World) (A : Around) (h₀ : Heap) (mods : List Nat) (hA : Fit 5 A (kt1 w) h₀) (R : Result → Shared → Prop) (g : Array GenState) (d : Drawn) (os : OsState) (it acc di fr fa ef : Nat)  (X : Led) :
   ∀ (rest pre : List (List Nat × Nat)) (P : List (Int × Nat)) (h : Heap) (B t0 ep : Nat) (dl : List DictEntry) (dn : Nat), (dl = [] ∧ dn = 0 ∨ ∃ k v, dl = [ent w n_word k v] ∧ dn = 1) → P.length + rest.length ≤ 16777000 → (∀ q ∈ rest, q.1.length = 4) →
   Rep (kt1 w) h₀ mods h B [(acc, listO (intV P) ep), (it, iterO "list_iterator" (.ref fa) pre.length), (fa, listO (txV (pre ++ rest)) ef), (di, dictO dl dn)] X 0 →
   (∀ h1 B' t' ep' Q dl' dn', (rest = [] ∧ dl' = dl ∧ dn' = dn ∨ ∃ k v, dl' = [ent w n_word k v] ∧ dn' = 1) → Q.map (·.1) = rest.map (fun q => ((q.1.getD 3 0 : Nat) : Int) - 65) → Rep (kt1 w) h₀ mods h1 B' [(acc, listO (intV (P ++ Q)) ep'), (fa, listO (txV (pre ++ rest)) ef), (di, dictO dl' dn')] X 0 → R (.ok .next) ⟨h1, g, d, t', os⟩) →
   codeAny (PP w) A (compL w 131 (eLR w) (.ref it) (.ref acc) di q_law fr) R ⟨h, g, d, t0, os⟩ := by
  obtain ⟨b1, b2, hw⟩ := parF_ex w
  have hA' := hA.under (compL w 131 (eLR w) (.ref it) (.ref acc) di q_law fr) (m := 4) (by kernel_rfl)
  intro rest
  induction rest with
  | nil =>
    intro pre P h B t0 ep dl dn hdl hsz hrow D hR
    refine code_start ?_
    refine Means.add0 ?_
    (refine segW (t0 := t0) (i := 0) 100000 [2] (Code.call (Value.builtin "list_iterator.__next__") { pos := [Value.ref it] : Args }) D (by assumption) (by assumption) ?_; intro o11; refine ⟨by kernel_rfl, by kernel_rfl, by kernel_rfl, by kernel_rfl, by kernel_rfl, fun h11 D11 => ?_⟩)
    refine callW_of rfl ?_
    rw [mark_none]
    refine r_lend (Fit.inner hA' D11 _ (by kernel_rfl) (by kernel_rfl)) it fa pre.length ef (txV (pre ++ [])) (by simp [txV]) (D11.give [0, 1, 1] (by kernel_rfl)) fun g1 t' x y a1 => ?_
    obtain ⟨B2, E1⟩ := D11.backP [0, 1, 1] [3, 0, 4, 1, 2] ([(acc, listO (intV P) ep), (fa, listO (txV (pre ++ [])) ef), (di, dictO dl dn)] ++ [(y, tupO []), (x, stopO y)]) (by kernel_rfl) a1 (by kernel_rfl)
    refine Means.add0 ?_
    (refine segF (t0 := t') (i := 0) 100000 [5] (Fin.done Flow.next) E1 (by assumption) (by assumption) ?_; intro o12; refine ⟨by kernel_rfl, by kernel_rfl, by kernel_rfl, fun h12 D12 => ?_⟩)
    obtain ⟨B3, E2⟩ := D12.pickE [0, 1, 2] [(acc, listO (intV (P ++ [])) ep), (fa, listO (txV (pre ++ [])) ef), (di, dictO dl dn)] (by rw [List.append_nil P]; kernel_rfl)
    exact hR _ _ _ _ [] _ _ (.inl ⟨rfl, rfl, rfl⟩) rfl E2
  | cons q rest ih =>
    intro pre P h B t0 ep dl dn hdl hsz hrow D hR
    refine code_start ?_
    refine Means.add0 ?_
    (refine segW (t0 := t0) (i := 0) 100000 [2] (Code.call (Value.builtin "list_iterator.__next__") { pos := [Value.ref it] : Args }) D (by assumption) (by assumption) ?_; intro o21; refine ⟨by kernel_rfl, by kernel_rfl, by kernel_rfl, by kernel_rfl, by kernel_rfl, fun h21 D21 => ?_⟩)
    refine callW_of rfl ?_
    rw [mark_none]
    refine r_lnext (Fit.inner hA' D21 _ (by kernel_rfl) (by kernel_rfl)) it fa pre.length ef (txV (pre ++ q :: rest)) (.str ⟨⟨q.1⟩⟩ q.2) (by simp [txV]) (D21.give [0, 1, 1] (by kernel_rfl)) fun g1 t' a1 => ?_
    obtain ⟨B2, E1⟩ := D21.backP [0, 1, 1] [2, 0, 1, 3] [(acc, listO (intV P) ep), (it, iterO "list_iterator" (.ref fa) (pre.length + 1)), (fa, listO (txV (pre ++ q :: rest)) ef), (di, dictO dl dn)] (by kernel_rfl) a1 (by kernel_rfl)
    refine Means.add0 ?_
    have e1 : pre ++ q :: rest = (pre ++ [q]) ++ rest := by simp
    have e2 : pre.length + 1 = (pre ++ [q]).length := by simp
    have hSP : (intV P).length = P.length := by simp [intV]
    rw [List.length_cons] at hsz
    have hb := hrow q List.mem_cons_self
    have hx : q.1[3]? = some (q.1.getD 3 0) := by rw [List.getD_eq_getElem?_getD, List.getElem?_eq_getElem (by omega)]; rfl
    rcases hdl with ⟨rfl, rfl⟩ | ⟨k, v, rfl, rfl⟩ <;> (
      (refine segW (t0 := t') (i := 0) 100000 [4, 4, 0, 0, 4] (Code.call (Value.builtin "str.__getitem__") { pos := [Value.str { cps := { toList := q.fst : Array Nat } : Str } q.snd, Value.int 3 (t' + 1)] : Args }) E1 (by assumption) (by assumption) ?_; intro o31; refine ⟨by kernel_rfl, by kernel_rfl, by kernel_rfl, by kernel_rfl, by kernel_rfl, fun h31 D31 => ?_⟩)
      obtain ⟨kk, B3, E3⟩ : ∃ kk B', Rep (kt1 w) h₀ mods h31 B' [(acc, listO (intV P) ep), (it, iterO "list_iterator" (.ref fa) (pre.length + 1)), (fa, listO (txV (pre ++ q :: rest)) ef), (di, dictO [ent w n_word kk (.str ⟨⟨q.1⟩⟩ q.2)] 1)] X 0 := by first | exact ⟨t', D31.pickE [0, 1, 2, 3] _ (by kernel_rfl!)⟩ | exact ⟨k, D31.pickE [0, 1, 2, 3] _ (by kernel_rfl!)⟩
      clear D31
      refine callW_of rfl ?_
      rw [mark_none]
      refine r_sget q.1 3 q.2 _ _ (by decide) hx fun u1 u2 => ?_
      generalize hv : q.1.getD 3 0 = m
      refine Means.add0 ?_
      (refine segW (t0 := u2) (i := 0) 100000 [1, 1] ((.call (.builtin "list.append") ⟨[.ref acc, .int ((m : Nat) - 65 : Int) (u2 + 2)], []⟩) ) E3 (by assumption) (by assumption) ?_; intro o102; refine ⟨by kernel_rfl, by kernel_rfl, by kernel_rfl, by kernel_rfl, by kernel_rfl, fun h102 D102 => ?_⟩)
      refine callW_of rfl ?_
      rw [mark_none]
      refine r_append acc ep (intV P) _ (by omega) (D102.give [1] (by kernel_rfl)) fun g3 t3 a3 => ?_
      obtain ⟨B4, E4⟩ := D102.backP [1] [0, 1, 2, 3] [(acc, listO (intV P ++ [.int ((m : Nat) - 65 : Int) (u2 + 2)]) (ep + 1)), (it, iterO "list_iterator" (.ref fa) (pre.length + 1)), (fa, listO (txV (pre ++ q :: rest)) ef), (di, dictO [ent w n_word kk (.str ⟨⟨q.1⟩⟩ q.2)] 1)] (by kernel_rfl) a3 (by kernel_rfl)
      refine Means.add0 ?_
      (refine segF (t0 := t3) (i := 0) 100000 [] ((Fin.again (compL w 131 (eLR w) (.ref it) (.ref acc) di q_law fr)) ) E4 (by assumption) (by assumption) ?_; intro o103; refine ⟨by kernel_rfl, by kernel_rfl, by kernel_rfl, fun h103 D103 => ?_⟩)
      obtain ⟨B5, E5⟩ := D103.pickE [0, 1, 2, 3] [(acc, listO (intV P ++ [.int ((m : Nat) - 65 : Int) (u2 + 2)]) (ep + 1)), (it, iterO "list_iterator" (.ref fa) (pre.length + 1)), (fa, listO (txV (pre ++ q :: rest)) ef), (di, dictO [ent w n_word kk (.str ⟨⟨q.1⟩⟩ q.2)] 1)] (by kernel_rfl)
      have e3 : intV P ++ [.int ((m : Nat) - 65 : Int) (u2 + 2)] = intV (P ++ [(((m : Nat) - 65 : Int), (u2 + 2))]) := by simp [intV]
      rw [e1, e2, e3] at E5
      refine ⟨by kernel_rfl, ih (pre ++ [q]) (P ++ [(((m : Nat) - 65 : Int), (u2 + 2))]) _ _ _ _ _ _ (.inr ⟨_, _, rfl, rfl⟩) (by rw [List.length_append, List.length_singleton]; omega) (fun x hx => hrow x (List.mem_cons_of_mem _ hx)) E5 fun h1 B' t9 ep' Q dl' dn' hd2 hQ E => ?_⟩
      refine hR h1 B' t9 ep' ((((m : Nat) - 65 : Int), (u2 + 2)) :: Q) dl' dn' (.inr (hd2.elim (fun h => ⟨_, _, h.2.1, h.2.2⟩) id)) (by rw [List.map_cons, List.map_cons, hQ]; rw [hv]) ?_
      rw [List.append_assoc, ← e1] at E
      exact E
)
theorem lr_start (w : World) (A : Around) (h₀ : Heap) (mods : List Nat) (hA : Fit 5 A (kt1 w) h₀) (R : Result → Shared → Prop) (g : Array GenState) (d : Drawn) (os : OsState) (it acc di fr fa ef : Nat)  (F : List (List Nat × Nat)) (hne : F ≠ []) (X : Led) (hz : F.length ≤ 1000000) (hF : (∀ q ∈ F, q.1.length = 4)) (h : Heap) (B t0 : Nat)
   (D : Rep (kt1 w) h₀ mods h B [(acc, listO ([]) 0), (it, iterO "list_iterator" (.ref fa) 0), (fa, listO (txV F) ef), (di, dictO [] 0)] X 0)
   (hR : ∀ h1 B' t' ep' Q dl' dn', (∃ k v, dl' = [ent w n_word k v] ∧ dn' = 1) → Q.map (·.1) = F.map (fun q => ((q.1.getD 3 0 : Nat) : Int) - 65) → Rep (kt1 w) h₀ mods h1 B' [(acc, listO (intV Q) ep'), (fa, listO (txV F) ef), (di, dictO dl' dn')] X 0 → R (.ok .next) ⟨h1, g, d, t', os⟩) :
   codeAny (PP w) A (compS w 131 (eLR w) (.ref it) (.ref acc) di q_law fr) R ⟨h, g, d, t0, os⟩ := by
  obtain ⟨b1, b2, hw⟩ := parF_ex w
  have hA' := hA.under (compS w 131 (eLR w) (.ref it) (.ref acc) di q_law fr) (m := 4) (by kernel_rfl)
  refine code_start ?_
  refine Means.add0 ?_
  cases b2 <;> cases b1 <;> (
    (first | (refine segF (t0 := t0) (i := 0) 100000 [2, 2, 1, 2, 2] ((Fin.again (compL w 131 (eLR w) (.ref it) (.ref acc) di q_law fr)) ) D (by assumption) (by assumption) ?_; intro o1; refine ⟨by kernel_rfl!, by kernel_rfl!, by kernel_rfl!, fun h1 D1 => ?_⟩) | (refine segF (t0 := t0) (i := 0) 100000 [] ((Fin.again (compL w 131 (eLR w) (.ref it) (.ref acc) di q_law fr)) ) D (by assumption) (by assumption) ?_; intro o1; refine ⟨by kernel_rfl!, by kernel_rfl!, by kernel_rfl!, fun h1 D1 => ?_⟩))
    obtain ⟨B2, E1⟩ := D1.pickE [0, 1, 2, 3] [(acc, listO (intV []) 0), (it, iterO "list_iterator" (.ref fa) ([] : List (List Nat × Nat)).length), (fa, listO (txV ([] ++ F)) ef), (di, dictO [] 0)] (by kernel_rfl)
    exact ⟨by kernel_rfl, lr_loop w A h₀ mods hA R g d os it acc di fr fa ef  X F [] [] _ _ _ _ _ _ (.inl ⟨rfl, rfl⟩) (by rw [List.length_nil]; omega) hF E1 fun h1 B' t' ep' Q dl' dn' hd => hR h1 B' t' ep' Q dl' dn' (hd.elim (fun h => absurd h.1 hne) id)⟩)
end Mine
end
section
open PySem PySem.W PySem.Calls PyProof.Rows
set_option Elab.async false
set_option maxRecDepth 100000
namespace Mine
noncomputable def eLN (w : World) : Expr := match lB w 6 with
  | .Assign _ e _ => e
  | _ => default
theorem hget {kvs : List (Int × Value)} {size : Nat} {nm : Nat → Nat} (hnm : ∀ j, j < size → ∃ t, PySem.valueAt kvs ((j : Nat) : Int) = some (.int (.ofNat (nm j)) t)) (hno : ∀ j, size ≤ j → PySem.valueAt kvs ((j : Nat) : Int) = none ∧ nm j = 0) (j u : Nat) : ∃ t, (PySem.valueAt kvs ((j : Nat) : Int)).getD (.int 0 u) = .int (.ofNat (nm j)) t := by
  by_cases h : j < size
  · obtain ⟨t, e⟩ := hnm j h
    exact ⟨t, by rw [e]; rfl⟩
  · obtain ⟨e, e2⟩ := hno j (by omega)
    exact ⟨u, by rw [e, e2]; rfl⟩
theorem np_loop (w : World) (A : Around) (h₀ : Heap) (mods : List Nat) (hA : Fit 5 A (kt1 w) h₀) (R : Result → Shared → Prop) (g : Array GenState) (d : Drawn) (os : OsState) (it acc di fr : Nat) (cr cn na nd reach tr : Nat) (ld : List DictEntry) (kvs : List (Int × Value)) (P0 : DP (PySem.intKind (PP w).prog w) ld kvs) (size : Nat) (nm : Nat → Nat) (hnm : ∀ j, j < size → ∃ t, PySem.valueAt kvs (Int.ofNat j) = some (.int (.ofNat (nm j)) t)) (hno : ∀ j, size ≤ j → PySem.valueAt kvs (Int.ofNat j) = none ∧ nm j = 0) (X : Led) :
   ∀ (n j : Nat) (P : List (Nat × Nat)) (h : Heap) (B t0 ep : Nat) (dl : List DictEntry) (dn : Nat), (dl = [] ∧ dn = 0 ∨ ∃ k v, dl = [ent w n_kk k v] ∧ dn = 1) → P.length + n ≤ 16777000 → (j + n ≤ size) →
   Rep (kt1 w) h₀ mods h B [(acc, listO (natV P) ep), (it, ritO j n), (di, dictO dl dn), (cr, cellO (some (.int (.ofNat reach) tr))), (cn, cellO (some (.ref na))), (na, dictO ld nd)] X 0 →
   (∀ h1 B' t' ep' Q dl' dn', (n = 0 ∧ dl' = dl ∧ dn' = dn ∨ ∃ k v, dl' = [ent w n_kk k v] ∧ dn' = 1) → Q.map (·.1) = (List.range' j n).map (fun j => 16 * nm j + nm (j + reach)) → Rep (kt1 w) h₀ mods h1 B' [(acc, listO (natV (P ++ Q)) ep'), (di, dictO dl' dn'), (cr, cellO (some (.int (.ofNat reach) tr))), (cn, cellO (some (.ref na))), (na, dictO ld nd)] X 0 → R (.ok .next) ⟨h1, g, d, t', os⟩) →
   codeAny (PP w) A (compXL w 131 (eLN w) (.ref it) (.ref acc) di q_law [(⟨⟨n_reach⟩⟩, cr), (⟨⟨n_names⟩⟩, cn)] fr) R ⟨h, g, d, t0, os⟩ := by
  obtain ⟨b1, b2, hw⟩ := parF_ex w
  have hA' := hA.under (compXL w 131 (eLN w) (.ref it) (.ref acc) di q_law [(⟨⟨n_reach⟩⟩, cr), (⟨⟨n_names⟩⟩, cn)] fr) (m := 4) (by kernel_rfl)
  intro n
  induction n with
  | zero =>
    intro j P h B t0 ep dl dn hdl hsz hj D hR
    refine code_start ?_
    refine Means.add0 ?_
    (refine segW (t0 := t0) (i := 0) 100000 [2] (Code.call (Value.builtin "range_iterator.__next__") { pos := [Value.ref it] : Args }) D (by assumption) (by assumption) ?_; intro o11; refine ⟨by kernel_rfl, by kernel_rfl, by kernel_rfl, by kernel_rfl, by kernel_rfl, fun h11 D11 => ?_⟩)
    refine callW_of rfl ?_
    rw [mark_none]
    refine r_rend (Fit.inner hA' D11 _ (by kernel_rfl) (by kernel_rfl)) it j (D11.give [0, 1] (by kernel_rfl)) fun g1 t' x y a1 => ?_
    obtain ⟨B2, E1⟩ := D11.backP [0, 1] [2, 3, 4, 5, 6, 0, 1] ([(acc, listO (natV P) ep), (di, dictO dl dn), (cr, cellO (some (.int (.ofNat reach) tr))), (cn, cellO (some (.ref na))), (na, dictO ld nd)] ++ [(y, tupO []), (x, stopO y)]) (by kernel_rfl) a1 (by kernel_rfl)
    refine Means.add0 ?_
    (refine segF (t0 := t') (i := 0) 100000 [7] (Fin.done Flow.next) E1 (by assumption) (by assumption) ?_; intro o12; refine ⟨by kernel_rfl, by kernel_rfl, by kernel_rfl, fun h12 D12 => ?_⟩)
    obtain ⟨B3, E2⟩ := D12.pickE [0, 1, 2, 3, 4] [(acc, listO (natV (P ++ [])) ep), (di, dictO dl dn), (cr, cellO (some (.int (.ofNat reach) tr))), (cn, cellO (some (.ref na))), (na, dictO ld nd)] (by rw [List.append_nil P]; kernel_rfl)
    exact hR _ _ _ _ [] _ _ (.inl ⟨rfl, rfl, rfl⟩) rfl E2
  | succ n ih =>
    intro j P h B t0 ep dl dn hdl hsz hj D hR
    refine code_start ?_
    refine Means.add0 ?_
    (refine segW (t0 := t0) (i := 0) 100000 [2] (Code.call (Value.builtin "range_iterator.__next__") { pos := [Value.ref it] : Args }) D (by assumption) (by assumption) ?_; intro o21; refine ⟨by kernel_rfl, by kernel_rfl, by kernel_rfl, by kernel_rfl, by kernel_rfl, fun h21 D21 => ?_⟩)
    refine callW_of rfl ?_
    rw [mark_none]
    refine r_rnext it j (n + 1 : Nat) (by omega) (D21.give [0, 1] (by kernel_rfl)) fun g1 t1 t' a1 => ?_
    rw [show (((n + 1 : Nat) : Int) - 1) = ((n : Nat) : Int) by omega, show ((j : Nat) : Int) + 1 = ((j + 1 : Nat) : Int) by omega] at a1
    obtain ⟨B2, E1⟩ := D21.backP [0, 1] [1, 0, 2, 3, 4, 5] [(acc, listO (natV P) ep), (it, ritO (j + 1 : Nat) (n : Nat)), (di, dictO dl dn), (cr, cellO (some (.int (.ofNat reach) tr))), (cn, cellO (some (.ref na))), (na, dictO ld nd)] (by kernel_rfl) a1 (by kernel_rfl)
    refine Means.add0 ?_
    have hSP : (natV P).length = P.length := by simp [natV]
    obtain ⟨w1, hw1⟩ := hnm j (by omega)
    rcases hdl with ⟨rfl, rfl⟩ | ⟨k, v, rfl, rfl⟩ <;> (
      (refine segW (t0 := t') (i := 0) 100000 [3, 3, 5, 3, 6, 6, 6] (Code.call (Value.builtin "dict.__getitem__") { pos := [Value.ref na, Value.int (Int.ofNat j) t1] : Args }) E1 (by assumption) (by assumption) ?_; intro o31; refine ⟨by kernel_rfl, by kernel_rfl, by kernel_rfl, by kernel_rfl, by kernel_rfl, fun h31 D31 => ?_⟩)
      obtain ⟨kk, B3, E3⟩ : ∃ kk B', Rep (kt1 w) h₀ mods h31 B' [(acc, listO (natV P) ep), (it, ritO (j + 1 : Nat) (n : Nat)), (di, dictO [ent w n_kk kk (.int (.ofNat j) t1)] 1), (cr, cellO (some (.int (.ofNat reach) tr))), (cn, cellO (some (.ref na))), (na, dictO ld nd)] X 0 := by first | exact ⟨t', D31.pickE [0, 1, 2, 3, 4, 5] _ (by kernel_rfl!)⟩ | exact ⟨k, D31.pickE [0, 1, 2, 3, 4, 5] _ (by kernel_rfl!)⟩
      refine callW_of rfl ?_
      rw [mark_none]
      refine r_dget na nd ld kvs ((j : Nat) : Int) _ (.int (.ofNat (nm j)) w1) (intKind_is _ _ _ _) P0 (D31.give [0, 0, 0, 0, 0, 1] (by kernel_rfl)) hw1 fun u1 => ?_
      clear D31
      refine Means.add0 ?_
      (refine segW (t0 := u1) (i := 0) 100000 [1, 5, 6, 6, 6, 6, 3, 4, 1] (Code.call (Value.builtin "dict.get") { pos := [Value.ref na, Value.int (Int.ofNat (j + reach)) (u1 + 1), Value.int 0 (u1 + 2)] : Args }) E3 (by assumption) (by assumption) ?_; intro o32; refine ⟨by kernel_rfl, by kernel_rfl, by kernel_rfl, by kernel_rfl, by kernel_rfl, fun h32 D32 => ?_⟩)
      refine callW_of rfl ?_
      rw [mark_none]
      obtain ⟨w2, hw2⟩ := hget hnm hno (j + reach) (u1 + 2)
      refine r_dgetd (so := obAt w sysModules) (by kernel_rfl) na nd ld kvs ((j + reach : Nat) : Int) _ _ (.int (.ofNat (nm (j + reach))) w2) (intKind_is _ _ _ _) P0 (D32.give [0, 0, 0, 0, 0, 1] (by kernel_rfl)) hw2 fun u2 => ?_
      generalize hv1 : nm j = m1
      generalize hv2 : nm (j + reach) = m2
      refine Means.add0 ?_
      (refine segW (t0 := u2) (i := 0) 100000 [1] ((.call (.builtin "list.append") ⟨[.ref acc, .int (.ofNat (16 * m1 + m2)) u2], []⟩) ) D32 (by assumption) (by assumption) ?_; intro o102; refine ⟨by kernel_rfl, by kernel_rfl, by kernel_rfl, by kernel_rfl, by kernel_rfl, fun h102 D102 => ?_⟩)
      refine callW_of rfl ?_
      rw [mark_none]
      refine r_append acc ep (natV P) _ (by omega) (D102.give [1] (by kernel_rfl)) fun g3 t3 a3 => ?_
      obtain ⟨B4, E4⟩ := D102.backP [1] [0, 1, 2, 3, 4, 5] [(acc, listO (natV P ++ [.int (.ofNat (16 * m1 + m2)) u2]) (ep + 1)), (it, ritO (j + 1 : Nat) (n : Nat)), (di, dictO [ent w n_kk kk (.int (.ofNat j) t1)] 1), (cr, cellO (some (.int (.ofNat reach) tr))), (cn, cellO (some (.ref na))), (na, dictO ld nd)] (by kernel_rfl) a3 (by kernel_rfl)
      refine Means.add0 ?_
      (refine segF (t0 := t3) (i := 0) 100000 [] ((Fin.again (compXL w 131 (eLN w) (.ref it) (.ref acc) di q_law [(⟨⟨n_reach⟩⟩, cr), (⟨⟨n_names⟩⟩, cn)] fr)) ) E4 (by assumption) (by assumption) ?_; intro o103; refine ⟨by kernel_rfl, by kernel_rfl, by kernel_rfl, fun h103 D103 => ?_⟩)
      obtain ⟨B5, E5⟩ := D103.pickE [0, 1, 2, 3, 4, 5] [(acc, listO (natV P ++ [.int (.ofNat (16 * m1 + m2)) u2]) (ep + 1)), (it, ritO (j + 1 : Nat) (n : Nat)), (di, dictO [ent w n_kk kk (.int (.ofNat j) t1)] 1), (cr, cellO (some (.int (.ofNat reach) tr))), (cn, cellO (some (.ref na))), (na, dictO ld nd)] (by kernel_rfl)
      have e3 : natV P ++ [.int (.ofNat (16 * m1 + m2)) u2] = natV (P ++ [((16 * m1 + m2), u2)]) := by simp [natV]
      rw [e3] at E5
      refine ⟨by kernel_rfl, ih (j + 1) (P ++ [((16 * m1 + m2), u2)]) _ _ _ _ _ _ (.inr ⟨_, _, rfl, rfl⟩) (by rw [List.length_append, List.length_singleton]; omega) (by omega) E5 fun h1 B' t9 ep' Q dl' dn' hd2 hQ E => ?_⟩
      refine hR h1 B' t9 ep' (((16 * m1 + m2), u2) :: Q) dl' dn' (.inr (hd2.elim (fun h => ⟨_, _, h.2.1, h.2.2⟩) id)) (by rw [List.range'_succ, List.map_cons, List.map_cons, hQ]; rw [hv1, hv2]) ?_
      rw [List.append_assoc] at E
      exact E
)
theorem np_start (w : World) (A : Around) (h₀ : Heap) (mods : List Nat) (hA : Fit 5 A (kt1 w) h₀) (R : Result → Shared → Prop) (g : Array GenState) (d : Drawn) (os : OsState) (it acc di fr : Nat) (cr cn na nd reach tr : Nat) (ld : List DictEntry) (kvs : List (Int × Value)) (P0 : DP (PySem.intKind (PP w).prog w) ld kvs) (size : Nat) (nm : Nat → Nat) (hnm : ∀ j, j < size → ∃ t, PySem.valueAt kvs (Int.ofNat j) = some (.int (.ofNat (nm j)) t)) (hno : ∀ j, size ≤ j → PySem.valueAt kvs (Int.ofNat j) = none ∧ nm j = 0) (n : Nat) (hne : n ≠ 0) (X : Led) (hz : n ≤ 1000000) (hF : (0 + n ≤ size)) (h : Heap) (B t0 : Nat)
   (D : Rep (kt1 w) h₀ mods h B [(acc, listO ([]) 0), (it, ritO (0 : Nat) (n : Nat)), (di, dictO [] 0), (cr, cellO (some (.int (.ofNat reach) tr))), (cn, cellO (some (.ref na))), (na, dictO ld nd)] X 0)
   (hR : ∀ h1 B' t' ep' Q dl' dn', (∃ k v, dl' = [ent w n_kk k v] ∧ dn' = 1) → Q.map (·.1) = (List.range n).map (fun j => 16 * nm j + nm (j + reach)) → Rep (kt1 w) h₀ mods h1 B' [(acc, listO (natV Q) ep'), (di, dictO dl' dn'), (cr, cellO (some (.int (.ofNat reach) tr))), (cn, cellO (some (.ref na))), (na, dictO ld nd)] X 0 → R (.ok .next) ⟨h1, g, d, t', os⟩) :
   codeAny (PP w) A (compXS w 131 (eLN w) (.ref it) (.ref acc) di q_law [(⟨⟨n_reach⟩⟩, cr), (⟨⟨n_names⟩⟩, cn)] fr) R ⟨h, g, d, t0, os⟩ := by
  obtain ⟨b1, b2, hw⟩ := parF_ex w
  have hA' := hA.under (compXS w 131 (eLN w) (.ref it) (.ref acc) di q_law [(⟨⟨n_reach⟩⟩, cr), (⟨⟨n_names⟩⟩, cn)] fr) (m := 4) (by kernel_rfl)
  rw [List.range_eq_range'] at hR
  refine code_start ?_
  refine Means.add0 ?_
  cases b2 <;> cases b1 <;> (
    (first | (refine segF (t0 := t0) (i := 0) 100000 [2, 2, 1, 2, 2] ((Fin.again (compXL w 131 (eLN w) (.ref it) (.ref acc) di q_law [(⟨⟨n_reach⟩⟩, cr), (⟨⟨n_names⟩⟩, cn)] fr)) ) D (by assumption) (by assumption) ?_; intro o1; refine ⟨by kernel_rfl!, by kernel_rfl!, by kernel_rfl!, fun h1 D1 => ?_⟩) | (refine segF (t0 := t0) (i := 0) 100000 [] ((Fin.again (compXL w 131 (eLN w) (.ref it) (.ref acc) di q_law [(⟨⟨n_reach⟩⟩, cr), (⟨⟨n_names⟩⟩, cn)] fr)) ) D (by assumption) (by assumption) ?_; intro o1; refine ⟨by kernel_rfl!, by kernel_rfl!, by kernel_rfl!, fun h1 D1 => ?_⟩))
    obtain ⟨B2, E1⟩ := D1.pickE [0, 1, 2, 3, 4, 5] [(acc, listO (natV []) 0), (it, ritO (0 : Nat) (n : Nat)), (di, dictO [] 0), (cr, cellO (some (.int (.ofNat reach) tr))), (cn, cellO (some (.ref na))), (na, dictO ld nd)] (by kernel_rfl)
    exact ⟨by kernel_rfl, np_loop w A h₀ mods hA R g d os it acc di fr cr cn na nd reach tr ld kvs P0 size nm hnm hno X n 0 [] _ _ _ _ _ _ (.inl ⟨rfl, rfl⟩) (by rw [List.length_nil]; omega) (by omega) E1 fun h1 B' t' ep' Q dl' dn' hd => hR h1 B' t' ep' Q dl' dn' (hd.elim (fun h => absurd h.1 hne) id)⟩)
end Mine
end
section
open PySem PySem.W PySem.Calls PyProof.Rows
set_option Elab.async false
set_option maxRecDepth 100000
namespace Mine
noncomputable def n_parts := [112, 97, 114, 116, 115]
noncomputable def n_script := [115, 99, 114, 105, 112, 116]
noncomputable def n_cells := [99, 101, 108, 108, 115]
noncomputable def n_text := [116, 101, 120, 116]
noncomputable def envL (w : World) (f cs cz ct cr cn cp : Nat) : Env := { scope := (fdAt w 131).scope, locals := f, globals := 3, cells := [(⟨⟨n_parts⟩⟩, cp), (⟨⟨n_names⟩⟩, cn), (⟨⟨n_reach⟩⟩, cr), (⟨⟨n_turn⟩⟩, ct), (⟨⟨n_size⟩⟩, cz), (⟨⟨n_sent⟩⟩, cs)], qual := ⟨⟨q_law⟩⟩, func := some 131, code := (fdAt w 131).code, frame := some f }
noncomputable def llC (w : World) (it f cs cz ct cr cn cp : Nat) : Code := forOf (stmtAt w 131 9) (.ref it) (envL w f cs cz ct cr cn cp)
noncomputable def lF (w : World) (k : Nat → Nat) (sl nc : Nat) (xv : Value) (pa qa : Nat) (tl : List DictEntry) (n : Nat) : Obj := fobj (ent w n_script (k 0) (.ref sl) :: ent w n_cells (k 1) (.ref nc) :: ent w n_text (k 2) xv :: ent w n_places (k 3) (.ref pa) :: ent w n_pairs (k 4) (.ref qa) :: tl) n
/-- the signs from a place on, at most r -/
noncomputable def stp (s : List Nat) (r k : Nat) : List Nat := (s.drop k).take r
/-- the pairs stand as the stretches of r signs -/
structure PR (s : List Nat) (r : Nat) (Q : List Nat) : Prop where
  len : Q.length = s.length
  small : ∀ x ∈ Q, x < 256
  lt : ∀ j k, j < s.length → k < s.length → (Q.getD j 0 < Q.getD k 0 ↔ stp s r j < stp s r k)
noncomputable def plN (u : List Nat) : Nat := u.getD 3 0 - 65
/-- the row of a round -/
structure RowOK (s : List Nat) (r : Nat) (P : List Nat) (U : List (List Nat)) : Prop where
  perm : (U.map plN).Perm P
  four : ∀ u ∈ U, u.length = 4 ∧ 65 ≤ u.getD 3 0
  srt : U.Pairwise fun u v => stp s r (plN u) < stp s r (plN v) ∨ (stp s r (plN u) = stp s r (plN v) ∧ P.idxOf (plN u) < P.idxOf (plN v))
  pre : ∀ u ∈ U, ∀ v ∈ U, (u.take 3 = v.take 3 ↔ stp s r (plN u) = stp s r (plN v))
theorem words_facts {Q P : List Nat} {W : List (List Nat × Nat)} (h : W.map (·.1) = wordsL Q P) : W.length = P.length ∧ ∀ q ∈ W, q.1.length = 4 := by
  constructor
  · have := congrArg List.length h
    unfold wordsL at this
    rwa [List.length_map, List.length_map] at this
  · intro q hq
    have : q.1 ∈ W.map (·.1) := List.mem_map_of_mem hq
    rw [h] at this
    obtain ⟨p, _, e⟩ := List.mem_map.mp this
    rw [← e]
    rfl
theorem vp_all {n : Nat} {p : Array Nat} (V : VP n p n) : ∀ i ∈ p.toList, i < n := by
  intro i hi
  obtain ⟨k, hk, e⟩ := List.getElem_of_mem hi
  have hs := V.size
  have hk' : k < n := by rw [Array.length_toList] at hk; omega
  have := V.all hk'
  rw [Array.getD_eq_getD_getElem?, ← Array.getElem?_toList, List.getElem?_eq_getElem hk, e] at this
  exact this
end Mine
end
section
open PySem PySem.W PySem.Calls PyProof.Rows
set_option Elab.async false
set_option maxRecDepth 100000
namespace Mine
-- deal_perm
theorem perm_byL {α : Type} (f : α → Option Nat) : ∀ (L : List (List Nat)) (W : List α), L.Pairwise (fun x y => x[0]? ≠ y[0]?) → (∀ q ∈ W, ∃ x ∈ L, f q = x[0]?) → (L.flatMap fun x => W.filter fun q => f q == x[0]?).Perm W
  | [], W, _, h => by
    cases W with
    | nil => exact List.Perm.refl _
    | cons q r => obtain ⟨x, hx, _⟩ := h q List.mem_cons_self; cases hx
  | x :: L, W, hp, h => by
    obtain ⟨h1, h2⟩ := List.pairwise_cons.mp hp
    have ih := perm_byL f L (W.filter fun q => !(f q == x[0]?)) h2 (fun q hq => by
      obtain ⟨hq1, hq2⟩ := List.mem_filter.mp hq
      obtain ⟨y, hy, e⟩ := h q hq1
      rcases List.mem_cons.mp hy with rfl | hy
      · rw [e] at hq2; simp at hq2
      · exact ⟨y, hy, e⟩)
    have e : (L.flatMap fun y => (W.filter fun q => !(f q == x[0]?)).filter fun q => f q == y[0]?) = L.flatMap fun y => W.filter fun q => f q == y[0]? := by
      rw [List.flatMap_def, List.flatMap_def]
      congr 1
      refine List.map_congr_left fun y hy => ?_
      rw [List.filter_filter]
      refine List.filter_congr fun q _ => ?_
      have := h1 y hy
      by_cases e1 : f q = y[0]?
      · rw [e1]
        have e2 : (y[0]? == x[0]?) = false := beq_eq_false_iff_ne.mpr fun e => this e.symm
        simp [e2]
      · have e2 : (f q == y[0]?) = false := beq_eq_false_iff_ne.mpr e1
        simp [e2]
    rw [e] at ih
    rw [List.flatMap_cons]
    exact (List.Perm.append_left _ ih).trans (List.filter_append_perm _ W)
theorem DL.heads {at_ : Nat} {W : List (List Nat × Nat)} {L : List (List Nat)} (h : DL at_ W L) : L.Pairwise fun x y => x[0]? ≠ y[0]? := by
  have hn : L.Pairwise (· ≠ ·) := h.nd
  refine List.Pairwise.imp_of_mem ?_ hn
  intro x y hx hy hne e
  obtain ⟨c, rfl⟩ := h.one x hx
  obtain ⟨c', rfl⟩ := h.one y hy
  exact hne (by simpa using e)
theorem deal_perm {at_ : Nat} {W : List (List Nat × Nat)} {L : List (List Nat)} (h : DL at_ W L) : (L.flatMap (byL at_ W)).Perm W :=
  perm_byL (fun q : List Nat × Nat => q.1[at_]?) L W h.heads h.all
-- dealing keeps an order: the letter comes first
theorem deal_pw {at_ : Nat} {W : List (List Nat × Nat)} {L : List (List Nat)} (h : DL at_ W L) {S : List Nat × Nat → List Nat × Nat → Prop} (hS : W.Pairwise S) :
   (L.flatMap (byL at_ W)).Pairwise fun p q => (p.1.getD at_ 0 < q.1.getD at_ 0) ∨ (p.1.getD at_ 0 = q.1.getD at_ 0 ∧ S p q) := by
  rw [List.pairwise_flatMap]
  have hg : ∀ x ∈ L, ∀ p ∈ byL at_ W x, [p.1.getD at_ 0] = x := by
    intro x hx p hp
    obtain ⟨c, rfl⟩ := h.one x hx
    have e := (List.mem_filter.mp hp).2
    have e' : p.1[at_]? = some c := by simpa using e
    rw [List.getD_eq_getElem?_getD, e']
    rfl
  refine ⟨fun x hx => ?_, ?_⟩
  · refine List.Pairwise.imp_of_mem ?_ (List.Pairwise.filter _ hS)
    intro p q hp hq hs
    refine .inr ⟨?_, hs⟩
    have := (hg x hx p hp).trans (hg x hx q hq).symm
    injection this
  · have hn : L.Pairwise (· ≠ ·) := h.nd
    refine List.Pairwise.imp_of_mem ?_ (h.srt.and hn)
    intro x y hx hy hs p hp q hq
    left
    have e1 := hg x hx p hp
    have e2 := hg y hy q hq
    obtain ⟨hs1, hs2⟩ := hs
    rw [← e1, ← e2] at hs1 hs2
    have h1 : ¬ ([q.1.getD at_ 0] < [p.1.getD at_ 0]) := of_decide_eq_false hs1
    have h2 : p.1.getD at_ 0 ≠ q.1.getD at_ 0 := fun e => hs2 (by rw [e])
    have h3 : ¬ (q.1.getD at_ 0 < p.1.getD at_ 0) := fun e => h1 (List.cons_lt_cons_iff.mpr (.inl e))
    omega
-- the words of the places
theorem wordsL_at {Q P : List Nat} {W : List (List Nat × Nat)} (hW : W.map (·.1) = wordsL Q P) : ∀ q ∈ W, ∃ p ∈ P, q.1 = wordOf (Q.getD p 0) p := by
  intro q hq
  have : q.1 ∈ W.map (·.1) := List.mem_map_of_mem hq
  rw [hW] at this
  obtain ⟨p, hp, e⟩ := List.mem_map.mp this
  exact ⟨p, hp, e.symm⟩
theorem wordOf_pl (x p : Nat) : plN (wordOf x p) = p := by show 65 + p - 65 = p; omega
theorem wordsL_pl {Q P : List Nat} {W : List (List Nat × Nat)} (hW : W.map (·.1) = wordsL Q P) : W.map (fun q => plN q.1) = P := by
  have e : W.map (fun q => plN q.1) = (W.map (·.1)).map plN := by rw [List.map_map]; rfl
  rw [e, hW]
  unfold wordsL
  rw [List.map_map]
  conv => rhs; rw [← List.map_id P]
  exact List.map_congr_left fun p _ => wordOf_pl _ p
theorem idx_ne {a b : Nat} (r : List Nat) (h : a ≠ b) : (a :: r).idxOf b = r.idxOf b + 1 := by
  rw [List.idxOf_cons, show (a == b) = false from beq_eq_false_iff_ne.mpr h]
  rfl
theorem idx_pw : ∀ (P : List Nat), P.Nodup → P.Pairwise fun a b => P.idxOf a < P.idxOf b
  | [], _ => .nil
  | a :: r, h => by
    obtain ⟨h1, h2⟩ := List.nodup_cons.mp h
    refine .cons (fun b hb => ?_) ?_
    · rw [List.idxOf_cons_self, idx_ne r (show a ≠ b from fun e => h1 (by rw [e]; exact hb))]
      exact Nat.succ_pos _
    · refine List.Pairwise.imp_of_mem ?_ (idx_pw r h2)
      intro b c hb hc hlt
      rw [idx_ne r (show a ≠ b from fun e => h1 (by rw [e]; exact hb)), idx_ne r (show a ≠ c from fun e => h1 (by rw [e]; exact hc))]
      exact Nat.succ_lt_succ hlt
theorem lt_tri (a b : List Nat) : a < b ∨ a = b ∨ b < a := by
  by_cases h1 : a < b
  · exact .inl h1
  · by_cases h2 : b < a
    · exact .inr (.inr h2)
    · exact .inr (.inl (List.le_antisymm (List.not_lt.mp h2) (List.not_lt.mp h1)))
theorem PR.eqv {s : List Nat} {r : Nat} {Q : List Nat} (h : PR s r Q) {j k : Nat} (hj : j < s.length) (hk : k < s.length) : Q.getD j 0 = Q.getD k 0 ↔ stp s r j = stp s r k := by
  have h1 := h.lt j k hj hk
  have h2 := h.lt k j hk hj
  constructor
  · intro e
    rcases lt_tri (stp s r j) (stp s r k) with q | q | q
    · have := h1.mpr q; omega
    · exact q
    · have := h2.mpr q; omega
  · intro e
    have n1 : ¬ (stp s r j < stp s r k) := by rw [e]; exact List.lt_irrefl _
    have n2 : ¬ (stp s r k < stp s r j) := by rw [e]; exact List.lt_irrefl _
    have m1 : ¬ (Q.getD j 0 < Q.getD k 0) := fun q => n1 (h1.mp q)
    have m2 : ¬ (Q.getD k 0 < Q.getD j 0) := fun q => n2 (h2.mp q)
    omega
theorem row_ok {s : List Nat} {r : Nat} {Q P : List Nat} {W : List (List Nat × Nat)} {L L2 : List (List Nat)} (hPR : PR s r Q) (hP : P.Perm (List.range s.length)) (hW : W.map (·.1) = wordsL Q P) (h1 : DL 2 W L) (h2 : DL 1 (L.flatMap (byL 2 W)) L2) :
   RowOK s r P ((L2.flatMap (byL 1 (L.flatMap (byL 2 W)))).map (·.1)) := by
  have p1 := deal_perm h1
  have p2 := deal_perm h2
  have hPn : P.Nodup := hP.nodup_iff.mpr List.nodup_range
  have hPb : ∀ p ∈ P, p < s.length := fun p hp => List.mem_range.mp (hP.mem_iff.mp hp)
  have hS : W.Pairwise fun a b => P.idxOf (plN a.1) < P.idxOf (plN b.1) := by
    have e := idx_pw P hPn
    conv at e => arg 2; rw [← wordsL_pl hW]
    rw [List.pairwise_map] at e
    exact e
  have q1 := deal_pw h1 hS
  have q2 := deal_pw h2 q1
  have hw : ∀ q ∈ L2.flatMap (byL 1 (L.flatMap (byL 2 W))), ∃ p, p < s.length ∧ p ∈ P ∧ q.1 = wordOf (Q.getD p 0) p := by
    intro q hq
    obtain ⟨p, hp, e⟩ := wordsL_at hW q (p1.mem_iff.mp (p2.mem_iff.mp hq))
    exact ⟨p, hPb p hp, hp, e⟩
  have hsm : ∀ p, Q.getD p 0 < 256 := by
    intro p
    rw [List.getD_eq_getElem?_getD]
    by_cases h : p < Q.length
    · rw [List.getElem?_eq_getElem h]; exact hPR.small _ (List.getElem_mem h)
    · rw [List.getElem?_eq_none (by omega)]; decide
  refine ⟨?_, ?_, ?_, ?_⟩
  · have e := (p2.trans p1).map fun q : List Nat × Nat => plN q.1
    rw [wordsL_pl hW] at e
    rw [List.map_map]
    exact e
  · intro u hu
    obtain ⟨q, hq, rfl⟩ := List.mem_map.mp hu
    obtain ⟨p, _, _, e⟩ := hw q hq
    rw [e]
    exact ⟨rfl, Nat.le_add_right 65 p⟩
  · rw [List.pairwise_map]
    refine List.Pairwise.imp_of_mem ?_ q2
    intro a b ha hb hab
    obtain ⟨p, hp, hpP, e⟩ := hw a ha
    obtain ⟨p', hp', hpP', e'⟩ := hw b hb
    rw [e, e'] at hab ⊢
    rw [wordOf_pl, wordOf_pl] at hab ⊢
    have v1 : ∀ x y, (wordOf x y).getD 1 0 = 65 + x / 16 := fun _ _ => rfl
    have v2 : ∀ x y, (wordOf x y).getD 2 0 = 65 + x % 16 := fun _ _ => rfl
    rw [v1, v1, v2, v2] at hab
    rw [← hPR.lt p p' hp hp', ← hPR.eqv hp hp']
    have s1 := hsm p
    have s2 := hsm p'
    generalize Q.getD p 0 = x at hab s1 ⊢
    generalize Q.getD p' 0 = y at hab s2 ⊢
    rcases hab with h | ⟨h, h' | ⟨h', h''⟩⟩
    · left; omega
    · left; omega
    · right; exact ⟨by omega, h''⟩
  · intro u hu v hv
    obtain ⟨a, ha, rfl⟩ := List.mem_map.mp hu
    obtain ⟨b, hb, rfl⟩ := List.mem_map.mp hv
    obtain ⟨p, hp, _, e⟩ := hw a ha
    obtain ⟨p', hp', _, e'⟩ := hw b hb
    rw [e, e', wordOf_pl, wordOf_pl, ← hPR.eqv hp hp']
    have t : ∀ x y, (wordOf x y).take 3 = [66, 65 + x / 16, 65 + x % 16] := fun _ _ => rfl
    rw [t, t]
    generalize Q.getD p 0 = x
    generalize Q.getD p' 0 = y
    constructor
    · intro h
      have h1 := List.cons.inj (List.cons.inj h).2
      have h2 := List.cons.inj h1.2
      have := h1.1
      have := h2.1
      omega
    · intro h; rw [h]
end Mine
end
section
open PySem PySem.W PySem.Calls PyProof.Rows
set_option Elab.async false
set_option maxRecDepth 100000
namespace Mine
theorem pw_unique {α : Type} {R : α → α → Prop} (hR : ∀ a b, R a b → R b a → False) : ∀ (l1 l2 : List α), l1.Perm l2 → l1.Pairwise R → l2.Pairwise R → l1 = l2
  | [], l2, hp, _, _ => by have := hp.length_eq; cases l2 with | nil => rfl | cons _ _ => simp at this
  | a :: t1, [], hp, _, _ => by have := hp.length_eq; simp at this
  | a :: t1, b :: t2, hp, h1, h2 => by
    obtain ⟨a1, a2⟩ := List.pairwise_cons.mp h1
    obtain ⟨b1, b2⟩ := List.pairwise_cons.mp h2
    by_cases e : a = b
    · subst e
      rw [pw_unique hR t1 t2 hp.cons_inv a2 b2]
    · exfalso
      have ha : a ∈ b :: t2 := hp.mem_iff.mp List.mem_cons_self
      have hb : b ∈ a :: t1 := hp.mem_iff.mpr List.mem_cons_self
      rcases List.mem_cons.mp ha with e' | ha
      · exact e e'
      · rcases List.mem_cons.mp hb with e' | hb
        · exact e e'.symm
        · exact hR a b (a1 b hb) (b1 a ha)
noncomputable def TT (s : List Nat) (r : Nat) (P : List Nat) (a b : Nat) : Prop := stp s r a < stp s r b ∨ (stp s r a = stp s r b ∧ P.idxOf a < P.idxOf b)
theorem TT_asymm (s : List Nat) (r : Nat) (P : List Nat) (a b : Nat) (h1 : TT s r P a b) (h2 : TT s r P b a) : False := by
  rcases h1 with h1 | ⟨h1, h1'⟩ <;> rcases h2 with h2 | ⟨h2, h2'⟩
  · exact List.lt_irrefl _ (List.lt_trans h1 h2)
  · rw [h2] at h1; exact List.lt_irrefl _ h1
  · rw [h1] at h2; exact List.lt_irrefl _ h2
  · omega
theorem row_sorted {s : List Nat} {r : Nat} {PL : List (Nat × Nat)} {V2 : List (List Nat × Nat)} {LT : List (Int × Nat)} {pr : Array Nat} (hP : (PL.map (·.1)).Perm (List.range s.length)) (hRow : RowOK s r (PL.map (·.1)) (V2.map (·.1))) (hLT : LT.map (·.1) = V2.map (fun q => ((q.1.getD 3 0 : Nat) : Int) - 65))
   (hVP : VP PL.length pr PL.length) (hST : ST (fun i j => decide (stp s r ((PL.map (·.1)).getD i 0) < stp s r ((PL.map (·.1)).getD j 0))) pr PL.length) :
   LT.map (·.1) = (pr.toList.map fun i => PL.getD i (0, 0)).map fun p => ((p.1 : Nat) : Int) := by
  have hgP : ∀ i, (PL.getD i (0, 0)).1 = (PL.map (·.1)).getD i 0 := by
    intro i
    rw [List.getD_eq_getElem?_getD, List.getD_eq_getElem?_getD, List.getElem?_map]
    cases PL[i]? <;> rfl
  have hPlen : (PL.map (·.1)).length = PL.length := List.length_map _
  generalize hPP : PL.map (·.1) = P at *
  have hPn : P.Nodup := hP.nodup_iff.mpr List.nodup_range
  have hidx := List.pairwise_iff_getElem.mp (idx_pw P hPn)
  have hpl : pr.toList.length = P.length := by rw [Array.length_toList, hVP.size, hPlen]
  have key : (V2.map (·.1)).map plN = pr.toList.map fun i => P.getD i 0 := by
    refine pw_unique (TT_asymm s r P) _ _ ?_ (List.pairwise_map.mpr hRow.srt) (List.pairwise_map.mpr (List.pairwise_iff_getElem.mpr fun i j hi hj hij => ?_))
    · refine hRow.perm.trans (List.Perm.symm ?_)
      have e1 : pr.toList.Perm (List.range P.length) := by
        have := Array.perm_iff_toList_perm.mp hVP.perm
        rw [hPlen]
        simpa using this
      have e2 := e1.map fun i => P.getD i 0
      have e3 : (List.range P.length).map (fun i => P.getD i 0) = P := by
        refine List.ext_getElem (by rw [List.length_map, List.length_range]) fun i h1 h2 => ?_
        rw [List.getElem_map, List.getElem_range, List.getD_eq_getElem?_getD, List.getElem?_eq_getElem h2]
        rfl
      rw [e3] at e2
      exact e2
    · have hr := hST i j hij (by omega)
      have g1 : pr.getD i 0 = pr.toList[i] := by rw [Array.getD_eq_getD_getElem?, ← Array.getElem?_toList, List.getElem?_eq_getElem hi]; rfl
      have g2 : pr.getD j 0 = pr.toList[j] := by rw [Array.getD_eq_getD_getElem?, ← Array.getElem?_toList, List.getElem?_eq_getElem hj]; rfl
      rw [g1, g2] at hr
      have b1 := vp_all hVP _ (List.getElem_mem hi)
      have b2 := vp_all hVP _ (List.getElem_mem hj)
      generalize pr.toList[i] = x at hr b1
      generalize pr.toList[j] = y at hr b2
      rcases hr with h | ⟨h, h'⟩
      · exact .inl (of_decide_eq_true h)
      · rcases lt_tri (stp s r (P.getD x 0)) (stp s r (P.getD y 0)) with q | q | q
        · exact .inl q
        · refine .inr ⟨q, ?_⟩
          have := hidx x y (by omega) (by omega) h'
          rw [List.getD_eq_getElem?_getD, List.getD_eq_getElem?_getD, List.getElem?_eq_getElem (show x < P.length by omega), List.getElem?_eq_getElem (show y < P.length by omega)]
          exact this
        · exact absurd q (of_decide_eq_false h)
  have e1 : V2.map (fun q => ((q.1.getD 3 0 : Nat) : Int) - 65) = ((V2.map (·.1)).map plN).map fun p => ((p : Nat) : Int) := by
    rw [List.map_map, List.map_map]
    refine List.map_congr_left fun q hq => ?_
    have := (hRow.four q.1 (List.mem_map_of_mem hq)).2
    show ((q.1.getD 3 0 : Nat) : Int) - 65 = (((q.1.getD 3 0 - 65 : Nat)) : Int)
    omega
  rw [hLT, e1, key, List.map_map, List.map_map]
  refine List.map_congr_left fun i _ => ?_
  show ((P.getD i 0 : Nat) : Int) = (((PL.getD i (0, 0)).1 : Nat) : Int)
  rw [hgP]
theorem row_plN {s : List Nat} {r : Nat} {P : List Nat} {U : List (List Nat)} (hRow : RowOK s r P U) {i : Nat} (hi : i < U.length) : pl (U.getD i []) = ((plN (U.getD i []) : Nat) : Int) := by
  have hm : U.getD i [] ∈ U := by rw [List.getD_eq_getElem?_getD, List.getElem?_eq_getElem hi]; exact List.getElem_mem hi
  have := (hRow.four _ hm).2
  unfold pl plN
  omega
theorem row_nodup {s : List Nat} {r : Nat} {P : List Nat} {U : List (List Nat)} (hP : P.Perm (List.range s.length)) (hRow : RowOK s r P U) : ∀ i j, i < j → j < U.length → pl (U.getD i []) ≠ pl (U.getD j []) := by
  intro i j hij hj
  rw [row_plN hRow (by omega), row_plN hRow hj]
  have hn : (U.map plN).Nodup := hRow.perm.nodup_iff.mpr (hP.nodup_iff.mpr List.nodup_range)
  have := List.pairwise_iff_getElem.mp hn i j (by rw [List.length_map]; omega) (by rw [List.length_map]; omega) hij
  rw [List.getElem_map, List.getElem_map] at this
  rw [List.getD_eq_getElem?_getD, List.getD_eq_getElem?_getD, List.getElem?_eq_getElem (show i < U.length by omega), List.getElem?_eq_getElem hj]
  intro e
  exact this (Int.ofNat.inj e)
end Mine
end
section
open PySem PySem.W PySem.Calls PyProof.Rows
set_option Elab.async false
set_option maxRecDepth 100000
namespace Mine
/-- the stretch of the place of a row's word -/
noncomputable def su (s : List Nat) (r : Nat) (U : List (List Nat)) (i : Nat) : List Nat := stp s r (plN (U.getD i []))
theorem row_le {s : List Nat} {r : Nat} {P : List Nat} {U : List (List Nat)} (hRow : RowOK s r P U) {i j : Nat} (hij : i ≤ j) (hj : j < U.length) : su s r U i < su s r U j ∨ su s r U i = su s r U j := by
  by_cases e : i = j
  · subst e; exact .inr rfl
  · have := List.pairwise_iff_getElem.mp hRow.srt i j (by omega) hj (by omega)
    unfold su
    rw [List.getD_eq_getElem?_getD, List.getD_eq_getElem?_getD, List.getElem?_eq_getElem (show i < U.length by omega), List.getElem?_eq_getElem hj]
    rcases this with h | h
    · exact .inl h
    · exact .inr h.1
theorem getD_mem {U : List (List Nat)} {i : Nat} (hi : i < U.length) : U.getD i [] ∈ U := by
  rw [List.getD_eq_getElem?_getD, List.getElem?_eq_getElem hi]; exact List.getElem_mem hi
theorem rk_mono {s : List Nat} {r : Nat} {P : List Nat} {U : List (List Nat)} (hRow : RowOK s r P U) (i : Nat) : ∀ j, i ≤ j → j < U.length → rk U i ≤ rk U j ∧ (rk U i = rk U j ↔ su s r U i = su s r U j) := by
  intro j
  induction j with
  | zero => intro h _; obtain rfl : i = 0 := by omega
            exact ⟨Nat.le_refl _, by simp⟩
  | succ j ih =>
    intro hij hj
    by_cases e : i = j + 1
    · subst e; exact ⟨Nat.le_refl _, by simp⟩
    · obtain ⟨i1, i2⟩ := ih (by omega) (by omega)
      have hp := hRow.pre _ (getD_mem hj) _ (getD_mem (show j < U.length by omega))
      have hs : rk U (j + 1) = rk U j + (if (U.getD (j + 1) []).take 3 = (U.getD j []).take 3 then 0 else 1) := rfl
      by_cases e3 : (U.getD (j + 1) []).take 3 = (U.getD j []).take 3
      · rw [hs, if_pos e3]
        have e4 : su s r U (j + 1) = su s r U j := hp.mp e3
        rw [e4]
        exact ⟨i1, i2⟩
      · rw [hs, if_neg e3]
        have e4 : su s r U (j + 1) ≠ su s r U j := fun q => e3 (hp.mpr q)
        have l1 : su s r U j < su s r U (j + 1) := (row_le hRow (Nat.le_succ j) hj).resolve_right (fun q => e4 q.symm)
        have l2 := row_le hRow (show i ≤ j by omega) (show j < U.length by omega)
        have l3 : su s r U i < su s r U (j + 1) := by
          rcases l2 with q | q
          · exact List.lt_trans q l1
          · rw [q]; exact l1
        refine ⟨by omega, ⟨fun q => by omega, fun q => ?_⟩⟩
        rw [q] at l3
        exact absurd l3 (List.lt_irrefl _)
theorem rk_pos (U : List (List Nat)) : ∀ i, 1 ≤ rk U i ∧ rk U i ≤ i + 1
  | 0 => ⟨Nat.le_refl _, Nat.le_refl _⟩
  | i + 1 => by
    obtain ⟨h1, h2⟩ := rk_pos U i
    have hs : rk U (i + 1) = rk U i + (if (U.getD (i + 1) []).take 3 = (U.getD i []).take 3 then 0 else 1) := rfl
    rw [hs]
    split <;> omega
theorem rk_onto (U : List (List Nat)) : ∀ j v, 1 ≤ v → v ≤ rk U j → ∃ i, i ≤ j ∧ rk U i = v
  | 0, v, h1, h2 => ⟨0, Nat.le_refl _, by have : rk U 0 = 1 := rfl; omega⟩
  | j + 1, v, h1, h2 => by
    have hs : rk U (j + 1) = rk U j + (if (U.getD (j + 1) []).take 3 = (U.getD j []).take 3 then 0 else 1) := rfl
    by_cases h : v ≤ rk U j
    · obtain ⟨i, hi, e⟩ := rk_onto U j v h1 h
      exact ⟨i, by omega, e⟩
    · refine ⟨j + 1, Nat.le_refl _, ?_⟩
      rw [hs] at h2 ⊢
      split at h2 <;> split <;> first | omega | contradiction
theorem row_len {s : List Nat} {r : Nat} {P : List Nat} {U : List (List Nat)} (hP : P.Perm (List.range s.length)) (hRow : RowOK s r P U) : U.length = s.length := by
  have h1 := hRow.perm.length_eq
  have h2 := hP.length_eq
  rw [List.length_map] at h1
  rw [List.length_range] at h2
  omega
/-- where a place stands in the row -/
theorem row_at {s : List Nat} {r : Nat} {P : List Nat} {U : List (List Nat)} (hP : P.Perm (List.range s.length)) (hRow : RowOK s r P U) {p : Nat} (hp : p < s.length) : ∃ i, i < U.length ∧ plN (U.getD i []) = p := by
  have h : p ∈ U.map plN := (hRow.perm.trans hP).mem_iff.mpr (List.mem_range.mpr hp)
  obtain ⟨u, hu, e⟩ := List.mem_map.mp h
  obtain ⟨i, hi, e'⟩ := List.getElem_of_mem hu
  refine ⟨i, hi, ?_⟩
  rw [List.getD_eq_getElem?_getD, List.getElem?_eq_getElem hi, ← e, ← e']
  rfl
theorem row_pl {s : List Nat} {r : Nat} {P : List Nat} {U : List (List Nat)} (hP : P.Perm (List.range s.length)) (hRow : RowOK s r P U) {i : Nat} (hi : i < U.length) : plN (U.getD i []) < s.length := by
  have h : plN (U.getD i []) ∈ U.map plN := List.mem_map_of_mem (getD_mem hi)
  exact List.mem_range.mp ((hRow.perm.trans hP).mem_iff.mp h)
theorem uniqL_nodup : ∀ (l acc : List (List Nat)), acc.Nodup → (uniqL acc l).Nodup
  | [], acc, h => h
  | x :: r, acc, h => by
    show (uniqL (if x ∈ acc then acc else acc ++ [x]) r).Nodup
    refine uniqL_nodup r _ ?_
    split
    · exact h
    · rename_i hx
      rw [List.nodup_append]
      refine ⟨h, by simp, fun a ha b hb => ?_⟩
      rw [List.mem_singleton.mp hb]
      exact fun e => hx (e ▸ ha)
theorem uniqL_mem : ∀ (l acc : List (List Nat)) (x : List Nat), x ∈ uniqL acc l ↔ x ∈ acc ∨ x ∈ l
  | [], acc, x => by simp [uniqL]
  | y :: r, acc, x => by
    show x ∈ uniqL (if y ∈ acc then acc else acc ++ [y]) r ↔ _
    rw [uniqL_mem r]
    split
    · rename_i hy
      constructor
      · rintro (h | h)
        · exact .inl h
        · exact .inr (List.mem_cons_of_mem _ h)
      · rintro (h | h)
        · exact .inl h
        · rcases List.mem_cons.mp h with rfl | h
          · exact .inl hy
          · exact .inr h
    · simp [or_assoc]
theorem row_count {s : List Nat} {r : Nat} {P : List Nat} {U : List (List Nat)} (hP : P.Perm (List.range s.length)) (hRow : RowOK s r P U) (hs : 1 ≤ s.length) : rk U (U.length - 1) = (uniqL [] ((List.range s.length).map fun j => (s.drop j).take r)).length := by
  have hl := row_len hP hRow
  have hon := rk_onto U (U.length - 1)
  have key : ∀ v, v < rk U (U.length - 1) → ∃ i, i < U.length ∧ rk U i = v + 1 := by
    intro v hv
    obtain ⟨i, hi, e⟩ := hon (v + 1) (by omega) (by omega)
    exact ⟨i, by omega, e⟩
  have hall : ∀ i, i < U.length → rk U i ≤ rk U (U.length - 1) := fun i hi => (rk_mono hRow i (U.length - 1) (by omega) (by omega)).1
  have heq : ∀ i j, i < U.length → j < U.length → (rk U i = rk U j ↔ su s r U i = su s r U j) := by
    intro i j hi hj
    by_cases h : i ≤ j
    · exact (rk_mono hRow i j h hj).2
    · have := (rk_mono hRow j i (by omega) hi).2
      constructor
      · intro e; exact (this.mp e.symm).symm
      · intro e; exact (this.mpr e.symm).symm
  let f : Nat → List Nat := fun v => if h : v < rk U (U.length - 1) then su s r U (Classical.choose (key v h)) else []
  have hf : ∀ v, v < rk U (U.length - 1) → ∃ i, i < U.length ∧ rk U i = v + 1 ∧ f v = su s r U i := by
    intro v hv
    refine ⟨Classical.choose (key v hv), (Classical.choose_spec (key v hv)).1, (Classical.choose_spec (key v hv)).2, ?_⟩
    show (if h : v < rk U (U.length - 1) then _ else _) = _
    rw [dif_pos hv]
  have hnd : ((List.range (rk U (U.length - 1))).map f).Nodup := by
    refine List.pairwise_map.mpr (List.Pairwise.imp_of_mem ?_ List.nodup_range)
    intro v v' hv hv' hne e
    obtain ⟨i, hi, e1, e2⟩ := hf v (List.mem_range.mp hv)
    obtain ⟨j, hj, e3, e4⟩ := hf v' (List.mem_range.mp hv')
    rw [e2, e4] at e
    have := (heq i j hi hj).mpr e
    omega
  have hp := (List.perm_ext_iff_of_nodup hnd (uniqL_nodup ((List.range s.length).map fun j => (s.drop j).take r) [] List.nodup_nil)).mpr (by
    intro x
    rw [uniqL_mem]
    constructor
    · intro h
      obtain ⟨v, hv, rfl⟩ := List.mem_map.mp h
      obtain ⟨i, hi, e1, e2⟩ := hf v (List.mem_range.mp hv)
      rw [e2]
      exact .inr (List.mem_map.mpr ⟨_, List.mem_range.mpr (row_pl hP hRow hi), rfl⟩)
    · rintro (h | h)
      · cases h
      · obtain ⟨p, hp, rfl⟩ := List.mem_map.mp h
        obtain ⟨i, hi, e⟩ := row_at hP hRow (List.mem_range.mp hp)
        have hr1 := (rk_pos U i).1
        have hr2 := hall i hi
        obtain ⟨j, hj, e1, e2⟩ := hf (rk U i - 1) (by omega)
        refine List.mem_map.mpr ⟨rk U i - 1, List.mem_range.mpr (by omega), ?_⟩
        rw [e2]
        have := (heq j i hj hi).mp (by omega)
        rw [this]
        show stp s r (plN (U.getD i [])) = _
        rw [e]
        rfl)
  have := hp.length_eq
  rw [List.length_map, List.length_range] at this
  exact this
end Mine
end
section
open PySem PySem.W PySem.Calls PyProof.Rows
set_option Elab.async false
set_option maxRecDepth 100000
namespace Mine
theorem lexapp : ∀ (r : Nat) (a b a' b' : List Nat), a.length ≤ r → b.length ≤ r → (a.length < r → a' = []) → (b.length < r → b' = []) → (a ++ a' < b ++ b' ↔ a < b ∨ (a = b ∧ a' < b'))
  | r, [], [], a', b', _, _, _, _ => by simp
  | 0, [], y :: b, a', b', _, h, _, _ => by simp at h
  | r + 1, [], y :: b, a', b', _, _, ha, _ => by
    have : a' = [] := ha (Nat.succ_pos r)
    subst this
    simp
  | 0, x :: a, [], a', b', h, _, _, _ => by simp at h
  | r + 1, x :: a, [], a', b', _, _, _, hb => by
    have : b' = [] := hb (Nat.succ_pos r)
    subst this
    simp
  | 0, x :: a, y :: b, a', b', h, _, _, _ => by simp at h
  | r + 1, x :: a, y :: b, a', b', h1, h2, h3, h4 => by
    have ih := lexapp r a b a' b' (by simpa using h1) (by simpa using h2) (fun h => h3 (by simpa using h)) (fun h => h4 (by simpa using h))
    rw [List.cons_append, List.cons_append, List.cons_lt_cons_iff, List.cons_lt_cons_iff, ih]
    constructor
    · rintro (h | ⟨h, h' | ⟨h', h''⟩⟩)
      · exact .inl (.inl h)
      · exact .inl (.inr ⟨h, h'⟩)
      · exact .inr ⟨by rw [h, h'], h''⟩
    · rintro ((h | ⟨h, h'⟩) | ⟨h, h''⟩)
      · exact .inl h
      · exact .inr ⟨h, .inl h'⟩
      · obtain ⟨e1, e2⟩ := List.cons.inj h
        exact .inr ⟨e1, .inr ⟨e2, h''⟩⟩
theorem stp_two (s : List Nat) (r k : Nat) : stp s (2 * r) k = stp s r k ++ stp s r (k + r) := by
  unfold stp
  rw [show 2 * r = r + r by omega, List.take_add, List.drop_drop]
theorem stp_len (s : List Nat) (r k : Nat) : (stp s r k).length = min r (s.length - k) := by
  unfold stp; rw [List.length_take, List.length_drop]
theorem stp_nil (s : List Nat) (r k : Nat) (h : s.length ≤ k) : stp s r k = [] := by
  unfold stp; rw [List.drop_eq_nil_of_le h, List.take_nil]
theorem stp_end (s : List Nat) (r k : Nat) (h : (stp s r k).length < r) : stp s r (k + r) = [] := by
  rw [stp_len] at h
  exact stp_nil s r _ (by omega)
theorem row_next {s : List Nat} {r : Nat} {P : List Nat} {U : List (List Nat)} {kvs : List (Int × Value)} (hP : P.Perm (List.range s.length)) (hRow : RowOK s r P U) (hr : 1 ≤ r) (hs : s.length ≤ 10) (hN : NM kvs U U.length) :
   ∃ nm : Nat → Nat, (∀ j, j < s.length → ∃ t, PySem.valueAt kvs (Int.ofNat j) = some (.int (.ofNat (nm j)) t)) ∧ (∀ j, s.length ≤ j → PySem.valueAt kvs (Int.ofNat j) = none ∧ nm j = 0) ∧ PR s (2 * r) ((List.range s.length).map fun j => 16 * nm j + nm (j + r)) := by
  have hl := row_len hP hRow
  let ix : Nat → Nat := fun p => if h : p < s.length then Classical.choose (row_at hP hRow h) else 0
  have hix : ∀ p, p < s.length → ix p < U.length ∧ plN (U.getD (ix p) []) = p := by
    intro p hp
    have e : ix p = Classical.choose (row_at hP hRow hp) := dif_pos hp
    rw [e]
    exact Classical.choose_spec (row_at hP hRow hp)
  let nm : Nat → Nat := fun p => if p < s.length then rk U (ix p) else 0
  have nmA : ∀ p, p < s.length → nm p = rk U (ix p) := fun p hp => if_pos hp
  have nmB : ∀ p, s.length ≤ p → nm p = 0 := fun p hp => if_neg (by omega)
  have nm10 : ∀ p, nm p ≤ 10 := by
    intro p
    by_cases hp : p < s.length
    · rw [nmA p hp]
      have := (rk_pos U (ix p)).2
      have := (hix p hp).1
      omega
    · rw [nmB p (by omega)]; omega
  have hsu : ∀ p, p < s.length → su s r U (ix p) = stp s r p := fun p hp => by unfold su; rw [(hix p hp).2]
  have hlt0 : ∀ p q, p < s.length → q < s.length → (nm p < nm q ↔ stp s r p < stp s r q) := by
    intro p q hp hq
    rw [nmA p hp, nmA q hq, ← hsu p hp, ← hsu q hq]
    have i1 := (hix p hp).1
    have i2 := (hix q hq).1
    generalize ix p = i at i1
    generalize ix q = j at i2
    by_cases h : i ≤ j
    · obtain ⟨m1, m2⟩ := rk_mono hRow i j h i2
      constructor
      · intro hlt
        rcases row_le hRow h i2 with e | e
        · exact e
        · have := m2.mpr e; omega
      · intro hlt
        have : rk U i ≠ rk U j := fun e => by rw [m2.mp e] at hlt; exact List.lt_irrefl _ hlt
        omega
    · obtain ⟨m1, m2⟩ := rk_mono hRow j i (by omega) i1
      constructor
      · intro hlt; omega
      · intro hlt
        rcases row_le hRow (show j ≤ i by omega) i1 with e | e
        · exact absurd (List.lt_trans hlt e) (List.lt_irrefl _)
        · rw [e] at hlt; exact absurd hlt (List.lt_irrefl _)
  have hlt : ∀ p q, (nm p < nm q ↔ stp s r p < stp s r q) := by
    intro p q
    by_cases hp : p < s.length
    · by_cases hq : q < s.length
      · exact hlt0 p q hp hq
      · rw [nmB q (by omega), stp_nil s r q (by omega)]
        simp
    · rw [nmB p (by omega), stp_nil s r p (by omega)]
      by_cases hq : q < s.length
      · have h1 : 0 < nm q := by rw [nmA q hq]; exact (rk_pos U _).1
        have h2 : (stp s r q).length ≠ 0 := by rw [stp_len]; omega
        refine ⟨fun _ => ?_, fun _ => h1⟩
        cases e : stp s r q with
        | nil => rw [e] at h2; exact absurd rfl h2
        | cons a t => exact List.nil_lt_cons a t
      · rw [nmB q (by omega), stp_nil s r q (by omega)]
        simp
  have heq : ∀ p q, (nm p = nm q ↔ stp s r p = stp s r q) := by
    intro p q
    have h1 := hlt p q
    have h2 := hlt q p
    constructor
    · intro e
      rcases lt_tri (stp s r p) (stp s r q) with z | z | z
      · have := h1.mpr z; omega
      · exact z
      · have := h2.mpr z; omega
    · intro e
      have n1 : ¬ (nm p < nm q) := fun z => by have := h1.mp z; rw [e] at this; exact List.lt_irrefl _ this
      have n2 : ¬ (nm q < nm p) := fun z => by have := h2.mp z; rw [e] at this; exact List.lt_irrefl _ this
      omega
  refine ⟨nm, fun j hj => ?_, fun j hj => ⟨hN.no _ fun i hi e => ?_, nmB j hj⟩, ⟨by rw [List.length_map, List.length_range], fun x hx => ?_, fun j k hj hk => ?_⟩⟩
  · obtain ⟨t, ht⟩ := hN.at_ (ix j) (hix j hj).1
    rw [row_plN hRow (hix j hj).1, (hix j hj).2] at ht
    rw [nmA j hj]
    exact ⟨t, ht⟩
  · rw [row_plN hRow hi] at e
    have := row_pl hP hRow hi
    have : plN (U.getD i []) = j := Int.ofNat.inj e
    omega
  · obtain ⟨j, _, rfl⟩ := List.mem_map.mp hx
    have := nm10 j
    have := nm10 (j + r)
    show 16 * nm j + nm (j + r) < 256
    omega
  · have g : ∀ j, j < s.length → ((List.range s.length).map fun j => 16 * nm j + nm (j + r)).getD j 0 = 16 * nm j + nm (j + r) := by
      intro j hj
      rw [List.getD_eq_getElem?_getD, List.getElem?_map, List.getElem?_range hj]
      rfl
    rw [g j hj, g k hk, stp_two, stp_two, lexapp r _ _ _ _ (by rw [stp_len]; omega) (by rw [stp_len]; omega) (stp_end s r j) (stp_end s r k), ← hlt, ← heq, ← hlt]
    have := nm10 j
    have := nm10 (j + r)
    have := nm10 k
    have := nm10 (k + r)
    omega
theorem uniqL_same : ∀ (l acc : List (List Nat)), (acc ++ l).Nodup → uniqL acc l = acc ++ l
  | [], acc, _ => (List.append_nil acc).symm
  | x :: r, acc, h => by
    have hx : x ∉ acc := by
      rw [List.nodup_append] at h
      exact fun hm => h.2.2 x hm x List.mem_cons_self rfl
    show uniqL (if x ∈ acc then acc else acc ++ [x]) r = _
    rw [if_neg hx, uniqL_same r (acc ++ [x]) (by rw [List.append_assoc]; exact h), List.append_assoc]
    rfl
theorem all_unlike (s : List Nat) (hs : s.length ≤ 10) : (uniqL [] ((List.range s.length).map fun j => (s.drop j).take 16)).length = s.length := by
  rw [uniqL_same _ [] ?_, List.nil_append, List.length_map, List.length_range]
  rw [List.nil_append]
  refine List.pairwise_map.mpr (List.Pairwise.imp_of_mem ?_ List.nodup_range)
  intro j k hj hk hne e
  have h1 := List.mem_range.mp hj
  have h2 := List.mem_range.mp hk
  have := congrArg List.length e
  rw [List.length_take, List.length_take, List.length_drop, List.length_drop] at this
  omega
theorem pr_one (s : List Nat) (hs : ∀ c ∈ s, c < 256) : PR s 1 s := by
  refine ⟨rfl, hs, fun j k hj hk => ?_⟩
  have e : ∀ j, j < s.length → stp s 1 j = [s.getD j 0] := by
    intro j hj
    unfold stp
    rw [List.drop_eq_getElem_cons hj, List.getD_eq_getElem?_getD, List.getElem?_eq_getElem hj]
    rfl
  rw [e j hj, e k hk, List.cons_lt_cons_iff]
  simp
theorem places_perm (turn n : Nat) (hn : 0 < n) : ((List.range n).map fun j => (turn + j) % n).Perm (List.range n) := by
  refine (List.perm_ext_iff_of_nodup ?_ List.nodup_range).mpr fun x => ?_
  · refine List.pairwise_map.mpr (List.Pairwise.imp_of_mem ?_ List.nodup_range)
    intro j k hj hk hne e
    have h1 := List.mem_range.mp hj
    have h2 := List.mem_range.mp hk
    have d1 := Nat.div_add_mod (turn + j) n
    have d2 := Nat.div_add_mod (turn + k) n
    rw [e] at d1
    generalize (turn + j) / n = u at d1
    generalize (turn + k) / n = v at d2
    rcases Nat.lt_trichotomy u v with h | h | h
    · have : n * (u + 1) ≤ n * v := Nat.mul_le_mul_left n h
      rw [Nat.mul_succ] at this
      omega
    · subst h; omega
    · have : n * (v + 1) ≤ n * u := Nat.mul_le_mul_left n h
      rw [Nat.mul_succ] at this
      omega
  · rw [List.mem_range, List.mem_map]
    constructor
    · rintro ⟨j, _, rfl⟩
      exact Nat.mod_lt _ hn
    · intro hx
      have hm := Nat.mod_lt turn hn
      have d := Nat.div_add_mod turn n
      by_cases h : turn % n ≤ x
      · refine ⟨x - turn % n, List.mem_range.mpr (by omega), ?_⟩
        rw [show turn + (x - turn % n) = x + n * (turn / n) by omega, Nat.add_mul_mod_self_left, Nat.mod_eq_of_lt hx]
      · refine ⟨x + n - turn % n, List.mem_range.mpr (by omega), ?_⟩
        rw [show turn + (x + n - turn % n) = x + n * (turn / n + 1) by rw [Nat.mul_succ]; omega, Nat.add_mul_mod_self_left, Nat.mod_eq_of_lt hx]
end Mine
end
section
open PySem PySem.W PySem.Calls PyProof.Rows
set_option Elab.async false
set_option maxRecDepth 100000
namespace Mine
noncomputable def lamE2 (w : World) : Expr := match lB w 2 with
  | .If (.Compare _ _ (.Call _ _ (kw :: _) _ :: _) _) _ _ _ => kw.value
  | _ => default
noncomputable def lamArgs2 (w : World) : Arguments := match lamE2 w with
  | .Lambda a _ _ _ => a
  | _ => default
noncomputable def lamBody2 (w : World) : Expr := match lamE2 w with
  | .Lambda _ b _ _ => b
  | _ => default
noncomputable def lamScope2 (w : World) : Scope := match lamE2 w with
  | .Lambda _ _ s _ => s
  | _ => default
noncomputable def lamQ2 : Str := ⟨⟨[108, 97, 119, 46, 60, 108, 111, 99, 97, 108, 115, 62, 46, 60, 108, 97, 109, 98, 100, 97, 62]⟩⟩
noncomputable def lamFd2 (w : World) (cp co tu : Nat) : FuncData := { name := ⟨⟨[60, 108, 97, 109, 98, 100, 97, 62]⟩⟩, qualname := lamQ2, params := lamArgs2 w, body := .expr (lamBody2 w), scope := lamScope2 w, globals := 3, closure := [(⟨⟨n_parts⟩⟩, cp)], defaults := .none, kwdefaults := .none, pyModule := .str ⟨⟨[108, 97, 119, 95, 114, 119, 48, 48, 49, 50, 95, 48, 50]⟩⟩ 423, code := .ref co, closureTuple := .ref tu }
noncomputable def lamO2 (w : World) (cp co tu : Nat) : Obj := { cls := .type "function", data := .func (lamFd2 w cp co tu) }
noncomputable def tabO2 (co : Nat) : Obj := { cls := .none, data := .fields ⟨[.int 112 0, .int 69 0, .ref co]⟩ }
noncomputable def lamCodeO2 (t a5 a6 a7 a8 a9 : Nat) : Obj := { cls := .type "code", data := .fields ⟨[.str ⟨⟨[60, 108, 97, 109, 98, 100, 97, 62]⟩⟩ t, .str lamQ2 (t + 1), .str ⟨⟨[47, 99, 108, 97, 105, 109, 47, 99, 117, 116, 46, 112, 121]⟩⟩ (t + 2), .int 112 0, .int 1 0, .int 0 0, .int 0 0, .int 19 0, .ref a5, .bool true, .int 276 0, .ref a6, .none, .ref a7, .ref a8, .ref a9, .int (.ofNat (t + 5)) 0, .int 112 0, .str ⟨⟨[47, 99, 108, 97, 105, 109, 47, 99, 117, 116, 46, 112, 121]⟩⟩ (t + 6)]⟩ }
theorem lam_call (w : World) (A : Around) (h₀ : Heap) (hA : Fit 20 A (kt1 w) h₀) (R : Result → Shared → Prop) (B t0 : Nat) (g : Array GenState) (d : Drawn) (os : OsState) (pt cp lam co tu tc c5 c6 c7 c8 c9 ep i ti : Nat) (PT : List (List Nat × Nat)) (hl : PT.length ≤ 1000) (x : List Nat × Nat) (hx : PT[i]? = some x) {mods : List Nat}
   (D : Rep (kt1 w) h₀ mods h₀ B [(co, lamCodeO2 tc c5 c6 c7 c8 c9), (cp, cellO (some (.ref pt))), (lam, lamO2 w cp co tu), (pt, listO (txV PT) ep)] [] 0)
   (hR : ∀ h1 t', After h₀ h1 mods [(co, lamCodeO2 tc c5 c6 c7 c8 c9), (cp, cellO (some (.ref pt))), (lam, lamO2 w cp co tu), (pt, listO (txV PT) ep)] → R (.ok (.ret (.str ⟨⟨x.1⟩⟩ x.2))) ⟨h1, g, d, t', os⟩) :
   codeAny (PP w) A (.call (.ref lam) ⟨[.int (.ofNat i) ti], []⟩) R ⟨h₀, g, d, t0, os⟩ := by
  obtain ⟨b1, b2, hw⟩ := parF_ex w
  refine code_ent (D.get (j := 2) rfl) (fd := lamFd2 w cp co tu) (by kernel_rfl) (by have := hA.room; omega) ?_
  refine Means.add0 ?_
  have hg : (txV PT)[i]? = some (.str ⟨⟨x.1⟩⟩ x.2) := by unfold txV; rw [List.getElem?_map, hx]; rfl
  have hi : i < PT.length := (List.getElem?_eq_some_iff.mp hx).1
  (refine segW (t0 := t0) (i := 0) 100000 [1, 5, 5, 2, 5, 4, 4, 4] (Code.call (Value.builtin "list.__getitem__") { pos := [Value.ref pt, Value.int (Int.ofNat i) ti] : Args }) D (by assumption) (by assumption) ?_; intro o11; refine ⟨by kernel_rfl, by kernel_rfl, by kernel_rfl, by kernel_rfl, by kernel_rfl, fun h11 D11 => ?_⟩)
  refine callW_of rfl ?_
  rw [mark_none]
  refine r_lget pt ep i ti (txV PT) _ hg (by omega) (D11.give [0, 0, 0, 1] (by kernel_rfl)) ?_
  refine Means.add0 ?_
  (refine segF (t0 := t0 + outI o11) (i := 0) 100000 [] (Fin.done (Flow.ret (Value.str { cps := { toList := x.fst : Array Nat } : Str } x.snd))) D11 (by assumption) (by assumption) ?_; intro o12; refine ⟨by kernel_rfl, by kernel_rfl, by kernel_rfl, fun h12 D12 => ?_⟩)
  exact hR _ _ (D12.finP [0, 1, 2, 3] (by kernel_rfl))
theorem lam_key (w : World) (A : Around) (h₀ h : Heap) (hA : Fit 30 A (kt1 w) h₀) (Q : Value → Shared → Prop) (B t0 : Nat) (g : Array GenState) (d : Drawn) (os : OsState) (pt cp lam co tu tc c5 c6 c7 c8 c9 ep i ti : Nat) (PT : List (List Nat × Nat)) (hl : PT.length ≤ 1000) (x : List Nat × Nat) (hx : PT[i]? = some x) {mods : List Nat} (L Y : Led)
   (D : Rep (kt1 w) h₀ mods h B L ([(co, lamCodeO2 tc c5 c6 c7 c8 c9), (cp, cellO (some (.ref pt))), (lam, lamO2 w cp co tu), (pt, listO (txV PT) ep)] ++ Y) 0)
   (hR : ∀ h' B' t', Rep (kt1 w) h₀ mods h' B' L ([(co, lamCodeO2 tc c5 c6 c7 c8 c9), (cp, cellO (some (.ref pt))), (lam, lamO2 w cp co tu), (pt, listO (txV PT) ep)] ++ Y) 0 → Q (.str ⟨⟨x.1⟩⟩ x.2) ⟨h', g, d, t', os⟩) :
   wpAny (PP w) A (call (.ref lam) [.int (.ofNat i) ti]) Q (fun _ _ => False) ⟨h, g, d, t0, os⟩ := by
  have hp : ∀ L4 : Led, (L ++ (L4 ++ Y)).Perm (L4 ++ (L ++ Y)) := fun L4 => by
    rw [← List.append_assoc, ← List.append_assoc]
    exact List.Perm.append_right Y List.perm_append_comm
  have D2 := D.perm (hp _)
  refine wpAny_call ?_
  refine lam_call w A h (Fit.move (hA.less (by kernel_rfl)) D) _ h.objs.size _ g d os pt cp lam co tu tc c5 c6 c7 c8 c9 ep i ti PT hl x hx (D2.give [1, 1, 1, 1] rfl) fun h1 t1 a1 => ?_
  have D3 := D2.back [1, 1, 1, 1] rfl a1
  exact hR h1 _ t1 (D3.perm (hp _).symm)
theorem args_sorted_key (a v : Value) : argsOk "sorted" ⟨[a], [(⟨⟨[107, 101, 121]⟩⟩, v)]⟩ := by
  rw [← key_name]; unfold argsOk; kernel_rfl
theorem parts_at {PT : List (List Nat × Nat)} {s : List Nat} {r n : Nat} (h : PT.map (·.1) = (List.range n).map (fun j => (s.drop j).take r)) {i : Nat} (hi : i < n) : ∃ x, PT[i]? = some x ∧ x.1 = stp s r i := by
  have hl : PT.length = n := by have := congrArg List.length h; rwa [List.length_map, List.length_map, List.length_range] at this
  refine ⟨PT[i], List.getElem?_eq_getElem (by omega), ?_⟩
  have e := congrArg (fun l => l[i]?) h
  simp only [List.getElem?_map, List.getElem?_eq_getElem (show i < PT.length by omega), Option.map_some, List.getElem?_range hi] at e
  exact Option.some.inj e
theorem natV_pick (PL : List (Nat × Nat)) (l : List Nat) (h : ∀ i ∈ l, i < PL.length) : (l.map fun i => (natV PL).getD i .none) = natV (l.map fun i => PL.getD i (0, 0)) := by
  unfold natV
  rw [List.map_map]
  refine List.map_congr_left fun i hi => ?_
  have := h i hi
  rw [List.getD_eq_getElem?_getD, List.getElem?_map, List.getElem?_eq_getElem this]
  show _ = (fun p : Nat × Nat => Value.int (.ofNat p.1) p.2) (PL.getD i (0, 0))
  rw [List.getD_eq_getElem?_getD, List.getElem?_eq_getElem this]
  rfl
theorem r_ieq {prog : Program} {w : World} {A : Around} {R : Result → Shared → Prop} (a b : Int) (t u : Nat) (v : Bool) (hv : (a == b) = v) {s : Shared} (hR : R (.ok (.ret (.bool v))) s) :
   codeAny (model prog w) A (.call (.builtin "int.__eq__") ⟨[.int a t, .int b u], []⟩) R s := by
  refine code_meets F.slot_int_eq (typeIs_int _ _ _) F.entry_int_eq (F.args_int_eq_2 _ _) (gives_int_eq a b t u).meets ?_
  show R (.ok (.ret (.bool (a == b)))) s
  rw [hv]
  exact hR
end Mine
end
section
open PySem PySem.W PySem.Calls PyProof.Rows
set_option Elab.async false
set_option maxRecDepth 100000
namespace Mine
noncomputable def bindT {α β : Type} (m : Sem α) (f : α → Sem β) : Sem β := @bind Sem (@Monad.toBind Sem Fast.tw12456147031677567982) α β m f
noncomputable def pureT {α : Type} (a : α) : Sem α := @pure Sem (@Applicative.toPure Sem (@Monad.toApplicative Sem Fast.tw12456147031677567982)) α a
noncomputable def skipN : Sem PySem.Fin → Sem PySem.Fin
  | .point _ k => k ()
  | .at _ k => k ()
  | t => t
noncomputable def cmpN (a b : Value) : Sem Value := Fast.tw8004119333741010377 [a, b] (Fast.tw12886488535604756494 .NotEq a b)
noncomputable def xg : Value → Sem Bool := fun c => Fast.tw17359229931016689406 [c] (Fast.tw15245631507167962100 c)
noncomputable def xf1 (thenB : List Stmt) (env : Env) : Bool → Sem Flow := fun b => if b = true then Fast.tw12563942051412417395 thenB env else Fast.tw12563942051412417395 [] env
noncomputable def xf2 (rest : List Stmt) (env : Env) : Flow → Sem Flow := fun fl => match fl with
  | .next => Fast.tw12563942051412417395 rest env
  | f => pureT f
noncomputable def xf3 (c : Code) : Flow → Sem PySem.Fin := fun fl => match fl with
  | .next | .cont => Fast.tw12377390311714414960 c
  | .brk => pureT (.done .next)
  | .ret v => pureT (.done (.ret v))
noncomputable def xh (env : Env) : Value → Sem Unit := fun x => bindT (Fast.tw17872113653443481271 x env) (fun _ => Fast.tw1623429502029203251 x)
/-- the tree of an if's test in a for's body, at the comparison -/
noncomputable def XF (m : Sem Bool) (thenB rest : List Stmt) (c : Code) (env : Env) : Sem PySem.Fin := R.onRaiseR (bindT (bindT (bindT m (xf1 thenB env)) (xf2 rest env)) (xf3 c)) (xh env)
noncomputable def lThen (w : World) : List Stmt := match lB w 2 with
  | .If _ b _ _ => b
  | _ => []
noncomputable def lRest (w : World) (k : Nat) : List Stmt := match stmtAt w 131 9 with
  | .For _ _ b _ _ => b.drop k
  | _ => []
section
variable {prog : Program} {w : World} {A₀ : Around} {Q₀ : PySem.Fin → Shared → Prop} {E₀ : Value → Shared → Prop} {s : Shared} {κ : Ko} {t : Sem PySem.Fin}
theorem skip_ok (H : MeansD (model prog w) A₀ Q₀ E₀ κ (skipN t) s) : MeansD (model prog w) A₀ Q₀ E₀ κ t s := by
  unfold skipN at H
  split at H
  · exact fun Γ p hΓ => H Γ p hΓ
  · exact fun Γ p hΓ => H Γ _ hΓ
  · exact H
theorem bindT_eq {α β : Type} (m : Sem α) (f : α → Sem β) : bindT m f = m >>= f := by
  unfold bindT; rw [← Fast.te12456147031677567982]
theorem beh {M : Model} {A : Around} {α β γ δ ε : Type} {Q : ε → Shared → Prop} {E : Value → Shared → Prop} (cmp : Sem α) (v : α) (g : α → Sem β) (f1 : β → Sem γ) (f2 : γ → Sem δ) (f3 : δ → Sem ε) (h : Value → Sem Unit)
   (hc : ∀ (Q : α → Shared → Prop) (E : Value → Shared → Prop), Q v s → wpAny M A cmp Q E s) (H : wpAny M A (((((g v) >>= f1) >>= f2) >>= f3).onRaise h) Q E s) :
   wpAny M A ((((cmp >>= g) >>= f1) >>= f2 >>= f3).onRaise h) Q E s := by
  intro Γ p hΓ
  have H' := fun p' => H Γ p' hΓ
  simp only [Sem.wp_onRaise, Sem.wp_bind'] at H' ⊢
  exact Sem.wp_mono M Γ cmp (fun c p' s' h' => h' p') (fun e p' s' h' => h' p') p s (hc (fun c s' => ∀ p', Sem.wp M Γ (g c) _ _ p' s') (fun e s' => ∀ p', _) H' Γ p hΓ)
theorem xn_false {a b : Value} {thenB rest : List Stmt} {c : Code} {env : Env} (e : skipN (skipN t) = XF (bindT (cmpN a b) xg) thenB rest c env) (hrc : ∀ (Q : Value → Shared → Prop) (E : Value → Shared → Prop), Q (.bool false) s → wpAny (model prog w) (around A₀ κ) (richCompare .NotEq a b) Q E s)
    (H : Means (model prog w) A₀ Q₀ E₀ κ (XF (xg (.bool false)) thenB rest c env) s) : Means (model prog w) A₀ Q₀ E₀ κ t s := by
  refine ⟨skip_ok (skip_ok ?_)⟩
  rw [e]
  have H2 := H.out
  unfold MeansD XF at H2 ⊢
  simp only [bindT_eq, ← R.onRaiseR_eq] at H2 ⊢
  refine beh (cmpN a b) (Value.bool false) _ _ _ _ _ (fun Q E hq => ?_) H2
  unfold cmpN
  rw [← Fast.te8004119333741010377, ← Fast.te12886488535604756494]
  refine wpAny_operate' ?_
  exact hrc Q E hq
end
theorem rc_ne {A : Around} {h₀ h : Heap} {B t0 : Nat} {g : Array GenState} {d : Drawn} {os : OsState} {mods : List Nat} {kt : Nat → Option Obj} {L X : Led}
   (l1 l2 e1 e2 : Nat) (V1 : List (Int × Nat)) (V2 : List (Nat × Nat)) (hk : V1.map (·.1) = V2.map fun p => ((p.1 : Nat) : Int)) (hu : A.units + 5 < cLine)
   (D : Rep kt h₀ mods h B ((l1, listO (intV V1) e1) :: (l2, listO (natV V2) e2) :: L) X 0) :
   PySem.SeqAt.RcNeAt A ⟨h, g, d, t0, os⟩ (.ref l1) (.ref l2) false := by
  have hl1 : h.get? l1 = some (listO (intV V1) e1) := D.get (j := 0) rfl
  have hl2 : h.get? l2 = some (listO (natV V2) e2) := D.get (j := 1) rfl
  have hlen : V1.length = V2.length := by
    have := congrArg List.length hk
    rwa [List.length_map, List.length_map] at this
  have z := PySem.SeqAt.RcNeAt.lists (A := A) (s := ⟨h, g, d, t0, os⟩) (l := l1) (b := l2) (items := ⟨intV V1⟩) (items2 := ⟨natV V2⟩) (e := fun _ => true) ⟨_, hl1, rfl, e1, rfl⟩ ⟨_, hl2, rfl, e2, rfl⟩ (by show (intV V1).length = (natV V2).length; simp [intV, natV, hlen]) (by omega) (by
    intro j h1 h2
    have h1' : j < V1.length := by have e : (intV V1).length = V1.length := by simp [intV]
                                   have h1'' : j < (intV V1).length := h1
                                   omega
    have h2' : j < V2.length := by omega
    have ev1 : (⟨intV V1⟩ : Array Value)[j] = .int (V1[j]).1 (V1[j]).2 := by simp [intV]
    have ev2 : (⟨natV V2⟩ : Array Value)[j] = .int (.ofNat (V2[j]).1) (V2[j]).2 := by simp [natV]
    have hkn : V1[j].1 = .ofNat V2[j].1 := by
      have e := congrArg (fun l => l[j]?) hk
      simp only [List.getElem?_map, List.getElem?_eq_getElem h1', List.getElem?_eq_getElem h2', Option.map_some] at e
      exact Option.some.inj e
    rw [ev1, ev2, hkn]
    have z := PySem.SeqAt.EqAt.int_int (A := A.in1) (s := ⟨h, g, d, t0, os⟩) (.ofNat V2[j].1) V1[j].2 (.ofNat V2[j].1) V2[j].2
    rw [beq_self_eq_true] at z
    exact z)
  have e : (!(List.range (⟨intV V1⟩ : Array Value).size).all (fun _ => true)) = false := by simp
  rwa [e] at z
noncomputable def koLen : Ko → Nat
  | .base => 0
  | .ret _ _ _ κ => koLen κ + 1
  | .ent _ _ _ κ => koLen κ + 1
theorem cUnits_le (c : Code) : c.cUnits ≤ 10 := by
  have h := any_frames c
  unfold Code.cUnits
  split <;> omega
theorem around_units (A₀ : Around) : ∀ κ, (around A₀ κ).units ≤ A₀.units + 10 * koLen κ
  | .base => Nat.le_refl _
  | .ret c hd k κ => by
    show (around A₀ κ).units + c.cUnits ≤ A₀.units + 10 * (koLen κ + 1)
    have := around_units A₀ κ
    have := cUnits_le c
    omega
  | .ent c hd k κ => by
    show (around A₀ κ).units + c.cUnits ≤ A₀.units + 10 * (koLen κ + 1)
    have := around_units A₀ κ
    have := cUnits_le c
    omega
theorem units_in {A : Around} (hU : A.units + 1000 < cLine) (κ : Ko) (hk : Nat.ble (koLen κ) 90 = true) : (around A κ).units + 5 < cLine := by
  have := around_units A κ
  have := Nat.le_of_ble_eq_true hk
  omega
end Mine
end
section
open PySem PySem.W PySem.Calls PyProof.Rows
set_option Elab.async false
set_option maxRecDepth 100000
namespace Mine
theorem ll_first (w : World) (A : Around) (h₀ : Heap) (mods : List Nat) (hA : Fit 200 A (kt1 w) h₀) (R : Result → Shared → Prop) (g : Array GenState) (d : Drawn) (os : OsState) (f it ra er cs cz ct cr cn cp sl nc pa ep ts tz : Nat) (xv : Value) (s : List Nat) (hs10 : s.length ≤ 10) (hs3 : 3 ≤ s.length) (PL : List (Nat × Nat)) (hP : (PL.map (·.1)).Perm (List.range s.length))
   (pre rest : List (Nat × Nat)) (r tr : Nat) (k : Nat → Nat) (qa eq : Nat) (QL : List (Nat × Nat)) (hr : 1 ≤ r) (hPR : PR s r (QL.map (·.1))) (hU : A.units + 1000 < cLine) (v0 : Option Value) (X : Led) (h : Heap) (B t0 : Nat)
   (D : Rep (kt1 w) h₀ mods h B [(f, lF w k sl nc xv pa qa [] 5), (it, iterO "list_iterator" (.ref ra) pre.length), (ra, listO (natV (pre ++ (r, tr) :: rest)) er), (cs, cellO (some (.str ⟨⟨s⟩⟩ ts))), (cz, cellO (some (.int (.ofNat s.length) tz))), (cr, cellO v0), (cn, cellO none), (cp, cellO none), (pa, listO (natV PL) ep), (qa, listO (natV QL) eq), (128, obAt w 128)] X 0)
   (hRet : ∀ h' B' t' co tc c5 c6 c7 c8 c9, Rep (kt1 w) h₀ mods h' B' [(128, tabO2 co), (co, lamCodeO2 tc c5 c6 c7 c8 c9)] X 0 → R (.ok (.ret (.bool true))) ⟨h', g, d, t', os⟩)
   (hNext : (uniqL [] ((List.range s.length).map fun j => (s.drop j).take r)).length ≠ s.length → ∀ h' B' t' k' qa' eq' QL' kr kc v1 v2 v3 v4 co tc c5 c6 c7 c8 c9, PR s (2 * r) (QL'.map (·.1)) → Rep (kt1 w) h₀ mods h' B' [(f, lF w k' sl nc xv pa qa' [ent w n_row kr v1, ent w n_count kc v2] 7), (it, iterO "list_iterator" (.ref ra) (pre.length + 1)), (ra, listO (natV (pre ++ (r, tr) :: rest)) er), (cs, cellO (some (.str ⟨⟨s⟩⟩ ts))), (cz, cellO (some (.int (.ofNat s.length) tz))), (cr, cellO (some (.int (.ofNat r) tr))), (cn, cellO (some v3)), (cp, cellO (some v4)), (pa, listO (natV PL) ep), (qa', listO (natV QL') eq'), (128, tabO2 co), (co, lamCodeO2 tc c5 c6 c7 c8 c9)] X 0 → codeAny (PP w) A (llC w it f cs cz ct cr cn cp) R ⟨h', g, d, t', os⟩) :
   codeAny (PP w) A (llC w it f cs cz ct cr cn cp) R ⟨h, g, d, t0, os⟩ := by
  obtain ⟨b1, b2, hw⟩ := parF_ex w
  have hA' := hA.under (llC w it f cs cz ct cr cn cp) (m := 199) (by kernel_rfl)
  have hQl : QL.length = s.length := by have := hPR.len; rwa [List.length_map] at this
  have hQb : ∀ q ∈ QL, q.1 < 256 := fun q hq => hPR.small _ (List.mem_map_of_mem hq)
  have hPl : PL.length = s.length := by have := hP.length_eq; rwa [List.length_map, List.length_range] at this
  have hPb : ∀ q ∈ PL, q.1 < QL.length := fun q hq => by rw [hQl]; exact List.mem_range.mp (hP.mem_iff.mp (List.mem_map_of_mem hq))
  refine code_start ?_
  refine Means.add0 ?_
  (refine segW (t0 := t0) (i := 0) 100000 [2] (Code.call (Value.builtin "list_iterator.__next__") { pos := [Value.ref it] : Args }) D (by assumption) (by assumption) ?_; intro o11; refine ⟨by kernel_rfl, by kernel_rfl, by kernel_rfl, by kernel_rfl, by kernel_rfl, fun h11 D11 => ?_⟩)
  refine callW_of rfl ?_
  rw [mark_none]
  refine r_lnext (Fit.inner (hA'.less (m := 100) (by kernel_rfl)) D11 _ (by kernel_rfl) (by kernel_rfl)) it ra pre.length er (natV (pre ++ (r, tr) :: rest)) (.int (.ofNat r) tr) (by simp [natV]) (D11.give [0, 1, 1] (by kernel_rfl)) fun g1 t' a1 => ?_
  obtain ⟨B2, E2⟩ := D11.backP [0, 1, 1] [2, 0, 1, 3, 4, 5, 6, 7, 8, 9, 10] [(f, lF w k sl nc xv pa qa [] 5), (it, iterO "list_iterator" (.ref ra) (pre.length + 1)), (ra, listO (natV (pre ++ (r, tr) :: rest)) er), (cs, cellO (some (.str ⟨⟨s⟩⟩ ts))), (cz, cellO (some (.int (.ofNat s.length) tz))), (cr, cellO v0), (cn, cellO none), (cp, cellO none), (pa, listO (natV PL) ep), (qa, listO (natV QL) eq), (128, obAt w 128)] (by kernel_rfl) a1 (by kernel_rfl)
  refine Means.add0 ?_
  (refine segL (t0 := t') (i := 0) 100000 [6, 6, 0, 0, 0, 1, 1, 0] ((.call (.ref 114) ⟨[.ref pa, .ref qa], []⟩) ) E2 (by assumption) (by assumption) ?_; intro o12; refine ⟨by kernel_rfl, by kernel_rfl, by kernel_rfl, by kernel_rfl, fun h12 D12 => ?_⟩)
  refine law_words w _ _ (Fit.inner (hA'.less (m := 100) (by kernel_rfl)) D12 _ (by kernel_rfl) (by kernel_rfl)) _ _ _ g d os pa qa ep eq PL QL (by omega) hQb hPb (by omega) (D12.give [0, 0, 0, 0, 0, 0, 0, 0, 1, 1] (by kernel_rfl)) fun h3 t3 wa ew W hW a3 => ?_
  obtain ⟨B3, E3⟩ := D12.backP [0, 0, 0, 0, 0, 0, 0, 0, 1, 1] [0, 3, 4, 5, 6, 7, 8, 9, 10, 1, 2, 11] [(wa, listO (txV W) ew), (f, lF w k sl nc xv pa qa [] 5), (it, iterO "list_iterator" (.ref ra) (pre.length + 1)), (ra, listO (natV (pre ++ (r, tr) :: rest)) er), (cs, cellO (some (.str ⟨⟨s⟩⟩ ts))), (cz, cellO (some (.int (.ofNat s.length) tz))), (cr, cellO (some (.int (.ofNat r) tr))), (cn, cellO none), (cp, cellO none), (pa, listO (natV PL) ep), (qa, listO (natV QL) eq), (128, obAt w 128)] (by kernel_rfl) a3 (by kernel_rfl)
  clear D11 D12 E2
  obtain ⟨hWl, hW4⟩ := words_facts hW
  rw [List.length_map] at hWl
  have hWne : W ≠ [] := by intro e; rw [e] at hWl; simp at hWl; omega
  refine Means.add0 ?_
  (refine segL (t0 := t3) (i := 0) 100000 [0] (Code.call (Value.ref 119) { pos := [Value.ref wa, Value.int 2 t3] : Args }) E3 (by assumption) (by assumption) ?_; intro o13; refine ⟨by kernel_rfl, by kernel_rfl, by kernel_rfl, by kernel_rfl, fun h13 D13 => ?_⟩)
  refine law_dealt w _ _ (Fit.inner (hA'.less (m := 150) (by kernel_rfl)) D13 _ (by kernel_rfl) (by kernel_rfl)) _ _ _ g d os wa ew 2 _ W (by decide) hWne (by omega) (fun q hq => ⟨q.1.getD 2 0, by rw [List.getD_eq_getElem?_getD, List.getElem?_eq_getElem (by have := hW4 q hq; omega)]; rfl⟩) (D13.give [1] (by kernel_rfl)) fun h4 t4 to1 e4 L1 hL1 a4 => ?_
  have hp1 := deal_perm hL1
  generalize hV1 : L1.flatMap (byL 2 W) = V1 at a4 hp1
  obtain ⟨B4, E4⟩ := D13.backP [1] [0, 1, 2, 3, 4, 5, 6, 7, 8, 9, 10, 11] [(to1, listO (txV V1) e4), (f, lF w k sl nc xv pa qa [] 5), (it, iterO "list_iterator" (.ref ra) (pre.length + 1)), (ra, listO (natV (pre ++ (r, tr) :: rest)) er), (cs, cellO (some (.str ⟨⟨s⟩⟩ ts))), (cz, cellO (some (.int (.ofNat s.length) tz))), (cr, cellO (some (.int (.ofNat r) tr))), (cn, cellO none), (cp, cellO none), (pa, listO (natV PL) ep), (qa, listO (natV QL) eq), (128, obAt w 128)] (by kernel_rfl) a4 (by kernel_rfl)
  clear D13 E3
  refine Means.add0 ?_
  (refine segL (t0 := t4) (i := 0) 100000 [0] (Code.call (Value.ref 119) { pos := [Value.ref to1, Value.int 1 t4] : Args }) E4 (by assumption) (by assumption) ?_; intro o14; refine ⟨by kernel_rfl, by kernel_rfl, by kernel_rfl, by kernel_rfl, fun h14 D14 => ?_⟩)
  refine law_dealt w _ _ (Fit.inner (hA'.less (m := 150) (by kernel_rfl)) D14 _ (by kernel_rfl) (by kernel_rfl)) _ _ _ g d os to1 e4 1 _ V1 (by decide) (fun e => hWne (by have := hp1.length_eq; rw [e] at this; exact List.length_eq_zero_iff.mp this.symm)) (by rw [hp1.length_eq]; omega) (fun q hq => ⟨q.1.getD 1 0, by rw [List.getD_eq_getElem?_getD, List.getElem?_eq_getElem (by have := hW4 q (hp1.mem_iff.mp hq); omega)]; rfl⟩) (D14.give [1] (by kernel_rfl)) fun h5 t5 rw_ e5 L2 hL2 a5 => ?_
  have hp2 := deal_perm hL2
  have hRow : RowOK s r (PL.map (·.1)) ((L2.flatMap (byL 1 V1)).map (·.1)) := by subst hV1; exact row_ok hPR hP hW hL1 hL2
  generalize hV2 : L2.flatMap (byL 1 V1) = V2 at a5 hp2 hRow
  have hU4 : ∀ q ∈ V2, q.1.length = 4 := fun q hq => hW4 q (hp1.mem_iff.mp (hp2.mem_iff.mp hq))
  have hVl : V2.length = s.length := by rw [hp2.length_eq, hp1.length_eq, hWl]; exact hPl
  have hVne : V2 ≠ [] := by intro e; rw [e] at hVl; simp at hVl; omega
  obtain ⟨B5, E5⟩ := D14.backP [1] [0, 1, 2, 3, 4, 5, 6, 7, 8, 9, 10, 11] [(rw_, listO (txV V2) e5), (f, lF w k sl nc xv pa qa [] 5), (it, iterO "list_iterator" (.ref ra) (pre.length + 1)), (ra, listO (natV (pre ++ (r, tr) :: rest)) er), (cs, cellO (some (.str ⟨⟨s⟩⟩ ts))), (cz, cellO (some (.int (.ofNat s.length) tz))), (cr, cellO (some (.int (.ofNat r) tr))), (cn, cellO none), (cp, cellO none), (pa, listO (natV PL) ep), (qa, listO (natV QL) eq), (128, obAt w 128)] (by kernel_rfl) a5 (by kernel_rfl)
  clear D14 E4
  refine Means.add0 ?_
  (refine segWb (t0 := t5) (i := 0) 100000 [2, 2, 0, 0, 6, 1, 1, 13, 13, 1, 13, 13, 13, 13] (Code.call (Value.builtin "range.__iter__") { pos := [Value.ref B5] : Args }) E5 (by assumption) (by assumption) (by kernel_rfl) ?_; intro o15; refine ⟨by kernel_rfl, by kernel_rfl, by kernel_rfl, by kernel_rfl, by kernel_rfl, fun h15 D15 => ?_⟩)
  refine callW_of rfl ?_
  rw [mark_none]
  refine r_riter B5 0 (s.length : Nat) (t5 + 1) tz (t5 + 2) s.length (by omega) (by omega) (by omega) (D15.give [0, 0, 0, 0, 0, 0, 0, 0, 0, 0, 0, 0, 1] (by kernel_rfl)) fun h6 it2 t6 a6 => ?_
  obtain ⟨B6, E6⟩ := D15.backP [0, 0, 0, 0, 0, 0, 0, 0, 0, 0, 0, 0, 1] [1, 2, 3, 4, 5, 6, 7, 8, 9, 10, 11, 12, 13] [(it2, ritO (0 : Nat) (s.length : Nat)), (rw_, listO (txV V2) e5), (f, lF w k sl nc xv pa qa [ent w n_row t5 (.ref rw_)] 6), (it, iterO "list_iterator" (.ref ra) (pre.length + 1)), (ra, listO (natV (pre ++ (r, tr) :: rest)) er), (cs, cellO (some (.str ⟨⟨s⟩⟩ ts))), (cz, cellO (some (.int (.ofNat s.length) tz))), (cr, cellO (some (.int (.ofNat r) tr))), (cn, cellO none), (cp, cellO none), (pa, listO (natV PL) ep), (qa, listO (natV QL) eq), (128, obAt w 128)] (by kernel_rfl) a6 (by kernel_rfl)
  clear D15 E5
  refine Means.add0 ?_
  (refine segL (t0 := t6) (i := 0) 100000 [1] ((compXS w 131 (eLQ w) (.ref it2) (.ref B6) (B6 + 1) q_law [(⟨⟨n_sent⟩⟩, cs), (⟨⟨n_reach⟩⟩, cr)] f) ) E6 (by assumption) (by assumption) ?_; intro o16; refine ⟨by kernel_rfl, by kernel_rfl, by kernel_rfl, by kernel_rfl, fun h16 D16 => ?_⟩)
  obtain ⟨B7, E7⟩ := D16.partX [13, 0, 14, 5, 7] [1, 2, 3, 4, 6, 8, 9, 10, 11, 12] [(B6, listO [] 0), (it2, ritO (0 : Nat) (s.length : Nat)), (B6 + 1, dictO [] 0), (cs, cellO (some (.str ⟨⟨s⟩⟩ ts))), (cr, cellO (some (.int (.ofNat r) tr)))] [(rw_, listO (txV V2) e5), (f, lF w k sl nc xv pa qa [ent w n_row t5 (.ref rw_)] 6), (it, iterO "list_iterator" (.ref ra) (pre.length + 1)), (ra, listO (natV (pre ++ (r, tr) :: rest)) er), (cz, cellO (some (.int (.ofNat s.length) tz))), (cn, cellO none), (cp, cellO none), (pa, listO (natV PL) ep), (qa, listO (natV QL) eq), (128, obAt w 128)] (by kernel_rfl) (by kernel_rfl)
  clear D16 E6
  refine pt_start w _ h₀ mods (hA'.ar (m := 5) _ (by kernel_rfl) (by kernel_rfl)) _ g d os it2 B6 (B6 + 1) f cs cr ts r tr s (by omega) s.length (by omega) _ (by omega) _ _ _ E7 fun h7 B7 t7 ep7 PT dl7 dn7 hd7 hPT E7 => ?_
  obtain ⟨k7, v7, rfl, rfl⟩ := hd7
  obtain ⟨B8, E8⟩ := E7.unpartX.pickE [0, 1, 4, 5, 6, 7, 2, 8, 3, 9, 10, 11, 12, 13] [(B6, listO (txV PT) ep7), (B6 + 1, dictO [ent w n_kk k7 v7] 1), (rw_, listO (txV V2) e5), (f, lF w k sl nc xv pa qa [ent w n_row t5 (.ref rw_)] 6), (it, iterO "list_iterator" (.ref ra) (pre.length + 1)), (ra, listO (natV (pre ++ (r, tr) :: rest)) er), (cs, cellO (some (.str ⟨⟨s⟩⟩ ts))), (cz, cellO (some (.int (.ofNat s.length) tz))), (cr, cellO (some (.int (.ofNat r) tr))), (cn, cellO none), (cp, cellO none), (pa, listO (natV PL) ep), (qa, listO (natV QL) eq), (128, obAt w 128)] rfl
  clear E7
  refine Means.add0 ?_
  (refine segLb (t0 := t7) (i := 0) 100000 [2, 2, 2, 11, 11, 4, 3, 3, 1, 3, 15] ((compS w 131 (eLR w) (.ref B8) (.ref (B8 + 1)) (B8 + 2) q_law f) ) E8 (by assumption) (by assumption) (by kernel_rfl) ?_; intro o17; refine ⟨by kernel_rfl, by kernel_rfl, by kernel_rfl, by kernel_rfl, fun h17 D17 => ?_⟩)
  obtain ⟨B9, E9⟩ := D17.partX [15, 14, 2, 16] [0, 3, 4, 5, 6, 7, 8, 9, 10, 11, 12, 13] [(B8 + 1, listO [] 0), (B8, iterO "list_iterator" (.ref rw_) 0), (rw_, listO (txV V2) e5), (B8 + 2, dictO [] 0)] [(B6, listO (txV PT) ep7), (f, lF w k sl nc xv pa qa [ent w n_row t5 (.ref rw_)] 6), (it, iterO "list_iterator" (.ref ra) (pre.length + 1)), (ra, listO (natV (pre ++ (r, tr) :: rest)) er), (cs, cellO (some (.str ⟨⟨s⟩⟩ ts))), (cz, cellO (some (.int (.ofNat s.length) tz))), (cr, cellO (some (.int (.ofNat r) tr))), (cn, cellO none), (cp, cellO (some (.ref B6))), (pa, listO (natV PL) ep), (qa, listO (natV QL) eq), (128, obAt w 128)] (by kernel_rfl) (by kernel_rfl)
  clear D17 E8
  refine lr_start w _ h₀ mods (hA'.ar (m := 5) _ (by kernel_rfl) (by kernel_rfl)) _ g d os B8 (B8 + 1) (B8 + 2) f rw_ e5 V2 hVne _ (by omega) hU4 _ _ _ E9 fun h9 B9 t9 ep9 LT dl9 dn9 hd9 hLT E9 => ?_
  obtain ⟨k9, v9, rfl, rfl⟩ := hd9
  obtain ⟨B10, E10⟩ := E9.unpartX.pickE [0, 2, 1, 3, 4, 5, 6, 7, 8, 9, 10, 11, 12, 13, 14] [(B8 + 1, listO (intV LT) ep9), (B8 + 2, dictO [ent w n_word k9 v9] 1), (rw_, listO (txV V2) e5), (B6, listO (txV PT) ep7), (f, lF w k sl nc xv pa qa [ent w n_row t5 (.ref rw_)] 6), (it, iterO "list_iterator" (.ref ra) (pre.length + 1)), (ra, listO (natV (pre ++ (r, tr) :: rest)) er), (cs, cellO (some (.str ⟨⟨s⟩⟩ ts))), (cz, cellO (some (.int (.ofNat s.length) tz))), (cr, cellO (some (.int (.ofNat r) tr))), (cn, cellO none), (cp, cellO (some (.ref B6))), (pa, listO (natV PL) ep), (qa, listO (natV QL) eq), (128, obAt w 128)] rfl
  clear E9
  refine Means.add0 ?_
  (refine segW (t0 := t9) (i := 0) 100000 [2, 2, 2, 0, 0, 5, 0, 15, 15, 15, 15, 0, 0, 0] (Code.call (Value.builtin "sorted") { pos := [Value.ref pa], kw := [({ cps := { toList := [107, 101, 121] : Array Nat } : Str }, Value.ref (B10 + 7))] : Args }) E10 (by assumption) (by assumption) ?_; intro o18; refine ⟨by kernel_rfl, by kernel_rfl, by kernel_rfl, by kernel_rfl, by kernel_rfl, fun h18 D18 => ?_⟩)
  obtain ⟨co, tc, c5, c6, c7, c8, c9, lam, tu, hkw, B18, E18⟩ : ∃ co tc c5 c6 c7 c8 c9 lam tu : Nat, lam = B10 + 7 ∧ ∃ B', Rep (kt1 w) h₀ mods h18 B' [(pa, listO (natV PL) ep)] (([(co, lamCodeO2 tc c5 c6 c7 c8 c9), (cp, cellO (some (.ref B6))), (lam, lamO2 w cp co tu), (B6, listO (txV PT) ep7)] ++ [(B8 + 1, listO (intV LT) ep9), (rw_, listO (txV V2) e5), (f, lF w k sl nc xv pa qa [ent w n_row t5 (.ref rw_)] 6), (it, iterO "list_iterator" (.ref ra) (pre.length + 1)), (ra, listO (natV (pre ++ (r, tr) :: rest)) er), (cs, cellO (some (.str ⟨⟨s⟩⟩ ts))), (cz, cellO (some (.int (.ofNat s.length) tz))), (cr, cellO (some (.int (.ofNat r) tr))), (cn, cellO none), (qa, listO (natV QL) eq), (128, tabO2 co)]) ++ X) 0 := ⟨B10 + 6, t9, B10 + 1, B10 + 2, B10 + 3, B10 + 4, B10 + 5, B10 + 7, B10, rfl, D18.partX [12] [21, 11, 22, 3, 0, 2, 4, 5, 6, 7, 8, 9, 10, 13, 14] _ _ (by kernel_rfl!) (by kernel_rfl!)⟩
  rw [← hkw]
  clear D18 E10
  have hA18 := hA'.ar (m := 100) (outκ o18) (by kernel_rfl) (by kernel_rfl)
  have hPTl : PT.length = s.length := by have := congrArg List.length hPT; rwa [List.length_map, List.length_map, List.length_range] at this
  refine r_sorted pa ep (natV PL) (by rw [natV_len]; omega) _ (args_sorted_key _ _) E18 fun h19 B19 t19 sb E19 => ?_
  refine r_sortkey (natV PL) (fun i => stp s r ((PL.map (·.1)).getD i 0)) lam sb 0 (by rw [natV_len]; omega) (by rw [natV_len]; omega) (fun i hi L h B t Q D hq => ?_) E19 fun h20 B20 t20 e20 pr hVP hST E20 => ⟨rfl, ?_⟩
  · rw [natV_len] at hi
    obtain ⟨x, hx, hxe⟩ := parts_at hPT (show PL[i].1 < s.length by have := hPb _ (List.getElem_mem hi); omega)
    have hvi : (natV PL)[i] = .int (.ofNat PL[i].1) PL[i].2 := by simp [natV]
    rw [hvi]
    have D5 := D.perm (L' := L) (X' := [(co, lamCodeO2 tc c5 c6 c7 c8 c9), (cp, cellO (some (.ref B6))), (lam, lamO2 w cp co tu), (B6, listO (txV PT) ep7)] ++ ((pa, listO (natV PL) ep) :: [(B8 + 1, listO (intV LT) ep9), (rw_, listO (txV V2) e5), (f, lF w k sl nc xv pa qa [ent w n_row t5 (.ref rw_)] 6), (it, iterO "list_iterator" (.ref ra) (pre.length + 1)), (ra, listO (natV (pre ++ (r, tr) :: rest)) er), (cs, cellO (some (.str ⟨⟨s⟩⟩ ts))), (cz, cellO (some (.int (.ofNat s.length) tz))), (cr, cellO (some (.int (.ofNat r) tr))), (cn, cellO none), (qa, listO (natV QL) eq), (128, tabO2 co)] ++ X)) (List.Perm.append_left L ?_)
    · refine lam_key w _ h₀ h ((hA18.less (m := 30) (by kernel_rfl)).in1.in1) Q B t g d os B6 cp lam co tu tc c5 c6 c7 c8 c9 ep7 PL[i].1 PL[i].2 PT (by rw [hPTl]; omega) x hx L _ D5 fun h' B' t' D' => ?_
      rw [hxe]
      have e9 : stp s r PL[i].1 = stp s r ((PL.map (·.1)).getD i 0) := by rw [List.getD_eq_getElem?_getD, List.getElem?_map, List.getElem?_eq_getElem hi]; rfl
      rw [e9]
      exact hq _ _ _ _ (D'.perm (List.Perm.append_left L (by rw [List.append_assoc]; exact List.perm_middle)))
    · rw [List.append_assoc]
      exact List.perm_middle.symm
  have hpr : ∀ i ∈ pr.toList, i < PL.length := vp_all (by rw [natV_len] at hVP; exact hVP)
  rw [natV_pick PL pr.toList hpr] at E20
  have E21 := (Rep.unpartX (X' := (pa, listO (natV PL) ep) :: ([(co, lamCodeO2 tc c5 c6 c7 c8 c9), (cp, cellO (some (.ref B6))), (lam, lamO2 w cp co tu), (B6, listO (txV PT) ep7)] ++ [(B8 + 1, listO (intV LT) ep9), (rw_, listO (txV V2) e5), (f, lF w k sl nc xv pa qa [ent w n_row t5 (.ref rw_)] 6), (it, iterO "list_iterator" (.ref ra) (pre.length + 1)), (ra, listO (natV (pre ++ (r, tr) :: rest)) er), (cs, cellO (some (.str ⟨⟨s⟩⟩ ts))), (cz, cellO (some (.int (.ofNat s.length) tz))), (cr, cellO (some (.int (.ofNat r) tr))), (cn, cellO none), (qa, listO (natV QL) eq), (128, tabO2 co)])) (X := X) E20)
  obtain ⟨B21, E22⟩ := E21.pickE [6, 0, 1, 3, 5, 7, 8, 9, 10, 11, 12, 13, 14, 15, 16, 2] [(B8 + 1, listO (intV LT) ep9), (sb, listO (natV (pr.toList.map fun i => PL.getD i (0, 0))) e20), (pa, listO (natV PL) ep), (cp, cellO (some (.ref B6))), (B6, listO (txV PT) ep7), (rw_, listO (txV V2) e5), (f, lF w k sl nc xv pa qa [ent w n_row t5 (.ref rw_)] 6), (it, iterO "list_iterator" (.ref ra) (pre.length + 1)), (ra, listO (natV (pre ++ (r, tr) :: rest)) er), (cs, cellO (some (.str ⟨⟨s⟩⟩ ts))), (cz, cellO (some (.int (.ofNat s.length) tz))), (cr, cellO (some (.int (.ofNat r) tr))), (cn, cellO none), (qa, listO (natV QL) eq), (128, tabO2 co), (co, lamCodeO2 tc c5 c6 c7 c8 c9)] rfl
  clear E20 E21
  have hcmp := row_sorted hP hRow hLT (by rw [natV_len] at hVP; exact hVP) (by rw [natV_len] at hST; exact hST)
  refine Means.add0 ?_
  refine xn_false (thenB := lThen w) (rest := lRest w 3) (c := llC w it f cs cz ct cr cn cp) (env := envL w f cs cz ct cr cn cp) (by kernel_rfl) (fun Q E hq => rc_ne (B8 + 1) sb ep9 e20 LT _ hcmp (units_in hU _ (by kernel_rfl)) E22 _ _ E Q hq) ?_
  refine Means.add0 ?_
  (refine segL (t0 := t20 + 0) (i := 0) 100000 [0, 7, 0] ((.call (.ref 126) ⟨[.ref rw_], []⟩) ) E22 (by assumption) (by assumption) ?_; intro o21; refine ⟨by kernel_rfl, by kernel_rfl, by kernel_rfl, by kernel_rfl, fun h21 D21 => ?_⟩)
  have hUl : (V2.map (·.1)).length = V2.length := List.length_map _
  refine law_names w _ _ (Fit.inner (hA'.less (m := 100) (by kernel_rfl)) D21 _ (by kernel_rfl) (by kernel_rfl)) _ _ _ g d os rw_ e5 V2 hVne (by omega) hU4 (by have := row_nodup hP hRow; rwa [hUl] at this) (D21.give [0, 0, 0, 0, 0, 1] (by kernel_rfl)) fun h22 t22 tu na tcn ld nd kvs P22 N22 a22 => ?_
  rw [← hUl] at N22
  have hcnt := row_count hP hRow (by omega)
  rw [hUl] at hcnt
  obtain ⟨B22, E23⟩ := D21.backP [0, 0, 0, 0, 0, 1] [0, 1, 4, 5, 6, 7, 8, 9, 10, 11, 12, 13, 14, 15, 16] [(tu, tupO [.ref na, .int (.ofNat (rk (V2.map (·.1)) (V2.length - 1))) tcn]), (na, dictO ld nd), (pa, listO (natV PL) ep), (cp, cellO (some (.ref B6))), (B6, listO (txV PT) ep7), (f, lF w k sl nc xv pa qa [ent w n_row t5 (.ref rw_)] 6), (it, iterO "list_iterator" (.ref ra) (pre.length + 1)), (ra, listO (natV (pre ++ (r, tr) :: rest)) er), (cs, cellO (some (.str ⟨⟨s⟩⟩ ts))), (cz, cellO (some (.int (.ofNat s.length) tz))), (cr, cellO (some (.int (.ofNat r) tr))), (cn, cellO none), (qa, listO (natV QL) eq), (128, tabO2 co), (co, lamCodeO2 tc c5 c6 c7 c8 c9)] (by kernel_rfl) a22 (by kernel_rfl)
  clear D21 E22
  generalize hcv : rk (V2.map (·.1)) (V2.length - 1) = cnt at hcnt E23
  refine Means.add0 ?_
  (refine segWb (t0 := t22) (i := 0) 100000 [1, 1, 1, 1, 1, 16, 16, 1, 16, 16, 16, 1, 16, 16, 16, 1, 16, 16, 16, 1, 16, 16, 16, 1, 16, 16, 16, 1, 16, 16, 18, 12, 12, 6, 6, 6, 0, 0, 0, 0, 4] (Code.call (Value.type "set") { pos := [Value.ref B6] : Args }) E23 (by assumption) (by assumption) (by kernel_rfl) ?_; intro o23; refine ⟨by kernel_rfl, by kernel_rfl, by kernel_rfl, by kernel_rfl, by kernel_rfl, fun h23 D23 => ?_⟩)
  refine callW_of rfl ?_
  rw [mark_none]
  refine r_set (Fit.inner (hA'.less (m := 100) (by kernel_rfl)) D23 _ (by kernel_rfl) (by kernel_rfl)) B6 ep7 PT (by omega) (D23.give [0, 0, 0, 0, 1] (by kernel_rfl)) fun h24 t24 st so hso a24 => ?_
  obtain ⟨B24, E24⟩ := D23.backP [0, 0, 0, 0, 1] [0, 3, 4, 1, 5, 6, 7, 8, 9, 10, 11, 12, 13, 14, 15] [(st, so), (na, dictO ld nd), (pa, listO (natV PL) ep), (B6, listO (txV PT) ep7), (cp, cellO (some (.ref B6))), (f, lF w k sl nc xv pa qa [ent w n_row t5 (.ref rw_), ent w n_count t22 (.int (.ofNat cnt) tcn)] 7), (it, iterO "list_iterator" (.ref ra) (pre.length + 1)), (ra, listO (natV (pre ++ (r, tr) :: rest)) er), (cs, cellO (some (.str ⟨⟨s⟩⟩ ts))), (cz, cellO (some (.int (.ofNat s.length) tz))), (cr, cellO (some (.int (.ofNat r) tr))), (cn, cellO (some (.ref na))), (qa, listO (natV QL) eq), (128, tabO2 co), (co, lamCodeO2 tc c5 c6 c7 c8 c9)] (by kernel_rfl) a24 (by kernel_rfl)
  clear D23 E23
  rw [hPT] at hso
  have hul : (uniqL [] ((List.range s.length).map fun j => (s.drop j).take r)).length = cnt := hcnt.symm
  refine Means.add0 ?_
  (refine segW (t0 := t24) (i := 0) 100000 [] (Code.call (Value.builtin "len") { pos := [Value.ref st] : Args }) E24 (by assumption) (by assumption) ?_; intro o25; refine ⟨by kernel_rfl, by kernel_rfl, by kernel_rfl, by kernel_rfl, by kernel_rfl, fun h25 D25 => ?_⟩)
  refine r_setlen st so _ hso (by rw [hul]; rw [hcnt]; exact Nat.le_trans (uniqL_le _ _) (by rw [List.length_nil, List.length_map, List.length_range]; omega)) (D25.give [1] (by kernel_rfl)) fun u1 u2 => ?_
  rw [hul]
  refine Means.add0 ?_
  (refine segWb (t0 := u2) (i := 0) 100000 [] (Code.call (Value.builtin "int.__ne__") { pos := [Value.int (Int.ofNat cnt) tcn, Value.int (Int.ofNat cnt) u1] : Args }) D25 (by assumption) (by assumption) (by kernel_rfl) ?_; intro o26; refine ⟨by kernel_rfl, by kernel_rfl, by kernel_rfl, by kernel_rfl, by kernel_rfl, fun h26 D26 => ?_⟩)
  refine callW_of rfl ?_
  rw [mark_none]
  refine r_ine (.ofNat cnt) (.ofNat cnt) _ _ false (bne_self_eq_false _) ?_
  refine Means.add0 ?_
  (refine segWb (t0 := u2 + outI o26) (i := 0) 100000 [6, 10] (Code.call (Value.builtin "int.__eq__") { pos := [Value.int (Int.ofNat cnt) tcn, Value.int (Int.ofNat (List.length s)) tz] : Args }) D26 (by assumption) (by assumption) (by kernel_rfl) ?_; intro o27; refine ⟨by kernel_rfl, by kernel_rfl, by kernel_rfl, by kernel_rfl, by kernel_rfl, fun h27 D27 => ?_⟩)
  refine callW_of rfl ?_
  rw [mark_none]
  by_cases hend : cnt = s.length
  · refine r_ieq (.ofNat cnt) (.ofNat s.length) _ _ true (by rw [hend]; exact beq_self_eq_true _) ?_
    refine Means.add0 ?_
    (refine segF (t0 := u2 + outI o26 + outI o27) (i := 0) 100000 [] ((Fin.done (Flow.ret (.bool true))) ) D27 (by assumption) (by assumption) ?_; intro o28; refine ⟨by kernel_rfl, by kernel_rfl, by kernel_rfl, fun h28 D28 => ?_⟩)
    obtain ⟨B28, E28⟩ := D28.pickE [13, 14] [(128, tabO2 co), (co, lamCodeO2 tc c5 c6 c7 c8 c9)] (by kernel_rfl)
    exact hRet _ _ _ _ _ _ _ _ _ _ E28
  · refine r_ieq (.ofNat cnt) (.ofNat s.length) _ _ false (beq_eq_false_iff_ne.mpr (fun e => hend (Int.ofNat.inj e))) ?_
    refine Means.add0 ?_
    (refine segWb (t0 := u2 + outI o26 + outI o27) (i := 0) 100000 [0, 0, 10, 1, 1, 16, 16, 1, 16, 16, 16, 16] (Code.call (Value.builtin "range.__iter__") { pos := [Value.ref B24] : Args }) D27 (by assumption) (by assumption) (by kernel_rfl) ?_; intro o31; refine ⟨by kernel_rfl, by kernel_rfl, by kernel_rfl, by kernel_rfl, by kernel_rfl, fun h31 D31 => ?_⟩)
    refine callW_of rfl ?_
    rw [mark_none]
    refine r_riter B24 0 (s.length : Nat) u2 tz (u2 + 1) s.length (by omega) (by omega) (by omega) (D31.give [0, 0, 0, 0, 0, 0, 0, 0, 0, 0, 0, 0, 0, 0, 0, 1] (by kernel_rfl)) fun h32 it3 t32 a32 => ?_
    obtain ⟨B32, E32⟩ := D31.backP [0, 0, 0, 0, 0, 0, 0, 0, 0, 0, 0, 0, 0, 0, 0, 1] [1, 3, 4, 6, 7, 8, 9, 10, 11, 12, 13, 14, 15, 16] [(it3, ritO (0 : Nat) (s.length : Nat)), (na, dictO ld nd), (pa, listO (natV PL) ep), (cp, cellO (some (.ref B6))), (f, lF w k sl nc xv pa qa [ent w n_row t5 (.ref rw_), ent w n_count t22 (.int (.ofNat cnt) tcn)] 7), (it, iterO "list_iterator" (.ref ra) (pre.length + 1)), (ra, listO (natV (pre ++ (r, tr) :: rest)) er), (cs, cellO (some (.str ⟨⟨s⟩⟩ ts))), (cz, cellO (some (.int (.ofNat s.length) tz))), (cr, cellO (some (.int (.ofNat r) tr))), (cn, cellO (some (.ref na))), (qa, listO (natV QL) eq), (128, tabO2 co), (co, lamCodeO2 tc c5 c6 c7 c8 c9)] (by kernel_rfl) a32 (by kernel_rfl)
    clear D31 D27 D26 D25 E24
    obtain ⟨nm, hnm, hno, hPR2⟩ := row_next hP hRow hr hs10 N22
    refine Means.add0 ?_
    (refine segL (t0 := t32) (i := 0) 100000 [1] ((compXS w 131 (eLN w) (.ref it3) (.ref B32) (B32 + 1) q_law [(⟨⟨n_reach⟩⟩, cr), (⟨⟨n_names⟩⟩, cn)] f) ) E32 (by assumption) (by assumption) ?_; intro o33; refine ⟨by kernel_rfl, by kernel_rfl, by kernel_rfl, by kernel_rfl, fun h33 D33 => ?_⟩)
    obtain ⟨B33, E33⟩ := D33.partX [14, 0, 15, 9, 10, 1] [2, 3, 4, 5, 6, 7, 8, 11, 12, 13] [(B32, listO [] 0), (it3, ritO (0 : Nat) (s.length : Nat)), (B32 + 1, dictO [] 0), (cr, cellO (some (.int (.ofNat r) tr))), (cn, cellO (some (.ref na))), (na, dictO ld nd)] [(pa, listO (natV PL) ep), (cp, cellO (some (.ref B6))), (f, lF w k sl nc xv pa qa [ent w n_row t5 (.ref rw_), ent w n_count t22 (.int (.ofNat cnt) tcn)] 7), (it, iterO "list_iterator" (.ref ra) (pre.length + 1)), (ra, listO (natV (pre ++ (r, tr) :: rest)) er), (cs, cellO (some (.str ⟨⟨s⟩⟩ ts))), (cz, cellO (some (.int (.ofNat s.length) tz))), (qa, listO (natV QL) eq), (128, tabO2 co), (co, lamCodeO2 tc c5 c6 c7 c8 c9)] (by kernel_rfl) (by kernel_rfl)
    clear D33 E32
    refine np_start w _ h₀ mods (hA'.ar (m := 5) _ (by kernel_rfl) (by kernel_rfl)) _ g d os it3 B32 (B32 + 1) f cr cn na nd r tr ld kvs P22 s.length nm hnm hno s.length (by omega) _ (by omega) (by omega) _ _ _ E33 fun h34 B34 t34 ep34 NQ dl34 dn34 hd34 hNQ E34 => ?_
    obtain ⟨k34, v34, rfl, rfl⟩ := hd34
    obtain ⟨B35, E35⟩ := E34.unpartX.pickE [0, 1, 5, 6, 7, 8, 9, 10, 11, 2, 3, 13, 14] [(B32, listO (natV NQ) ep34), (B32 + 1, dictO [ent w n_kk k34 v34] 1), (pa, listO (natV PL) ep), (cp, cellO (some (.ref B6))), (f, lF w k sl nc xv pa qa [ent w n_row t5 (.ref rw_), ent w n_count t22 (.int (.ofNat cnt) tcn)] 7), (it, iterO "list_iterator" (.ref ra) (pre.length + 1)), (ra, listO (natV (pre ++ (r, tr) :: rest)) er), (cs, cellO (some (.str ⟨⟨s⟩⟩ ts))), (cz, cellO (some (.int (.ofNat s.length) tz))), (cr, cellO (some (.int (.ofNat r) tr))), (cn, cellO (some (.ref na))), (128, tabO2 co), (co, lamCodeO2 tc c5 c6 c7 c8 c9)] rfl
    clear E33 E34
    refine Means.add0 ?_
    (refine segF (t0 := t34) (i := 0) 100000 [5, 5, 2, 2, 2] ((Fin.again (llC w it f cs cz ct cr cn cp)) ) E35 (by assumption) (by assumption) ?_; intro o36; refine ⟨by kernel_rfl, by kernel_rfl, by kernel_rfl, fun h36 D36 => ?_⟩)
    obtain ⟨B36, E36⟩ := D36.pickE [4, 5, 6, 7, 8, 9, 10, 3, 2, 0, 11, 12] [(f, lF w k sl nc xv pa B32 [ent w n_row t5 (.ref rw_), ent w n_count t22 (.int (.ofNat cnt) tcn)] 7), (it, iterO "list_iterator" (.ref ra) (pre.length + 1)), (ra, listO (natV (pre ++ (r, tr) :: rest)) er), (cs, cellO (some (.str ⟨⟨s⟩⟩ ts))), (cz, cellO (some (.int (.ofNat s.length) tz))), (cr, cellO (some (.int (.ofNat r) tr))), (cn, cellO (some (.ref na))), (cp, cellO (some (.ref B6))), (pa, listO (natV PL) ep), (B32, listO (natV NQ) ep34), (128, tabO2 co), (co, lamCodeO2 tc c5 c6 c7 c8 c9)] (by kernel_rfl)
    refine ⟨by kernel_rfl, hNext (by rw [hul]; exact hend) _ B36 _ k B32 ep34 NQ t5 t22 _ _ _ _ _ _ _ _ _ _ _ (by rw [hNQ]; exact hPR2) E36⟩
end Mine
end
section
open PySem PySem.W PySem.Calls PyProof.Rows
set_option Elab.async false
set_option maxRecDepth 100000
namespace Mine
theorem ll_later (w : World) (A : Around) (h₀ : Heap) (mods : List Nat) (hA : Fit 200 A (kt1 w) h₀) (R : Result → Shared → Prop) (g : Array GenState) (d : Drawn) (os : OsState) (f it ra er cs cz ct cr cn cp sl nc pa ep ts tz : Nat) (xv : Value) (s : List Nat) (hs10 : s.length ≤ 10) (hs3 : 3 ≤ s.length) (PL : List (Nat × Nat)) (hP : (PL.map (·.1)).Perm (List.range s.length))
   (pre rest : List (Nat × Nat)) (r tr : Nat) (k : Nat → Nat) (qa eq : Nat) (QL : List (Nat × Nat)) (hr : 1 ≤ r) (hPR : PR s r (QL.map (·.1))) (hU : A.units + 1000 < cLine) (X : Led) (h : Heap) (B t0 : Nat) {v0 : Option Value} (kr kc co tc c5 c6 c7 c8 c9 : Nat) (v1 v2 : Value) (v3 v4 : Value)
   (D : Rep (kt1 w) h₀ mods h B [(f, lF w k sl nc xv pa qa [ent w n_row kr v1, ent w n_count kc v2] 7), (it, iterO "list_iterator" (.ref ra) pre.length), (ra, listO (natV (pre ++ (r, tr) :: rest)) er), (cs, cellO (some (.str ⟨⟨s⟩⟩ ts))), (cz, cellO (some (.int (.ofNat s.length) tz))), (cr, cellO v0), (cn, cellO (some v3)), (cp, cellO (some v4)), (pa, listO (natV PL) ep), (qa, listO (natV QL) eq), (128, tabO2 co), (co, lamCodeO2 tc c5 c6 c7 c8 c9)] X 0)
   (hRet : ∀ h' B' t' co tc c5 c6 c7 c8 c9, Rep (kt1 w) h₀ mods h' B' [(128, tabO2 co), (co, lamCodeO2 tc c5 c6 c7 c8 c9)] X 0 → R (.ok (.ret (.bool true))) ⟨h', g, d, t', os⟩)
   (hNext : (uniqL [] ((List.range s.length).map fun j => (s.drop j).take r)).length ≠ s.length → ∀ h' B' t' k' qa' eq' QL' kr kc v1 v2 v3 v4 co tc c5 c6 c7 c8 c9, PR s (2 * r) (QL'.map (·.1)) → Rep (kt1 w) h₀ mods h' B' [(f, lF w k' sl nc xv pa qa' [ent w n_row kr v1, ent w n_count kc v2] 7), (it, iterO "list_iterator" (.ref ra) (pre.length + 1)), (ra, listO (natV (pre ++ (r, tr) :: rest)) er), (cs, cellO (some (.str ⟨⟨s⟩⟩ ts))), (cz, cellO (some (.int (.ofNat s.length) tz))), (cr, cellO (some (.int (.ofNat r) tr))), (cn, cellO (some v3)), (cp, cellO (some v4)), (pa, listO (natV PL) ep), (qa', listO (natV QL') eq'), (128, tabO2 co), (co, lamCodeO2 tc c5 c6 c7 c8 c9)] X 0 → codeAny (PP w) A (llC w it f cs cz ct cr cn cp) R ⟨h', g, d, t', os⟩) :
   codeAny (PP w) A (llC w it f cs cz ct cr cn cp) R ⟨h, g, d, t0, os⟩ := by
  obtain ⟨b1, b2, hw⟩ := parF_ex w
  have hA' := hA.under (llC w it f cs cz ct cr cn cp) (m := 199) (by kernel_rfl)
  have hQl : QL.length = s.length := by have := hPR.len; rwa [List.length_map] at this
  have hQb : ∀ q ∈ QL, q.1 < 256 := fun q hq => hPR.small _ (List.mem_map_of_mem hq)
  have hPl : PL.length = s.length := by have := hP.length_eq; rwa [List.length_map, List.length_range] at this
  have hPb : ∀ q ∈ PL, q.1 < QL.length := fun q hq => by rw [hQl]; exact List.mem_range.mp (hP.mem_iff.mp (List.mem_map_of_mem hq))
  refine code_start ?_
  refine Means.add0 ?_
  (refine segW (t0 := t0) (i := 0) 100000 [2] (Code.call (Value.builtin "list_iterator.__next__") { pos := [Value.ref it] : Args }) D (by assumption) (by assumption) ?_; intro o11; refine ⟨by kernel_rfl, by kernel_rfl, by kernel_rfl, by kernel_rfl, by kernel_rfl, fun h11 D11 => ?_⟩)
  refine callW_of rfl ?_
  rw [mark_none]
  refine r_lnext (Fit.inner (hA'.less (m := 100) (by kernel_rfl)) D11 _ (by kernel_rfl) (by kernel_rfl)) it ra pre.length er (natV (pre ++ (r, tr) :: rest)) (.int (.ofNat r) tr) (by simp [natV]) (D11.give [0, 1, 1] (by kernel_rfl)) fun g1 t' a1 => ?_
  obtain ⟨B2, E2⟩ := D11.backP [0, 1, 1] [2, 0, 1, 3, 4, 5, 6, 7, 8, 9, 10, 11] [(f, lF w k sl nc xv pa qa [ent w n_row kr v1, ent w n_count kc v2] 7), (it, iterO "list_iterator" (.ref ra) (pre.length + 1)), (ra, listO (natV (pre ++ (r, tr) :: rest)) er), (cs, cellO (some (.str ⟨⟨s⟩⟩ ts))), (cz, cellO (some (.int (.ofNat s.length) tz))), (cr, cellO v0), (cn, cellO (some v3)), (cp, cellO (some v4)), (pa, listO (natV PL) ep), (qa, listO (natV QL) eq), (128, tabO2 co), (co, lamCodeO2 tc c5 c6 c7 c8 c9)] (by kernel_rfl) a1 (by kernel_rfl)
  refine Means.add0 ?_
  (refine segL (t0 := t') (i := 0) 100000 [6, 6, 0, 0, 0, 1, 1, 0] ((.call (.ref 114) ⟨[.ref pa, .ref qa], []⟩) ) E2 (by assumption) (by assumption) ?_; intro o12; refine ⟨by kernel_rfl, by kernel_rfl, by kernel_rfl, by kernel_rfl, fun h12 D12 => ?_⟩)
  refine law_words w _ _ (Fit.inner (hA'.less (m := 100) (by kernel_rfl)) D12 _ (by kernel_rfl) (by kernel_rfl)) _ _ _ g d os pa qa ep eq PL QL (by omega) hQb hPb (by omega) (D12.give [0, 0, 0, 0, 0, 0, 0, 0, 1, 1] (by kernel_rfl)) fun h3 t3 wa ew W hW a3 => ?_
  obtain ⟨B3, E3⟩ := D12.backP [0, 0, 0, 0, 0, 0, 0, 0, 1, 1] [0, 3, 4, 5, 6, 7, 8, 9, 10, 1, 2, 11, 12] [(wa, listO (txV W) ew), (f, lF w k sl nc xv pa qa [ent w n_row kr v1, ent w n_count kc v2] 7), (it, iterO "list_iterator" (.ref ra) (pre.length + 1)), (ra, listO (natV (pre ++ (r, tr) :: rest)) er), (cs, cellO (some (.str ⟨⟨s⟩⟩ ts))), (cz, cellO (some (.int (.ofNat s.length) tz))), (cr, cellO (some (.int (.ofNat r) tr))), (cn, cellO (some v3)), (cp, cellO (some v4)), (pa, listO (natV PL) ep), (qa, listO (natV QL) eq), (128, tabO2 co), (co, lamCodeO2 tc c5 c6 c7 c8 c9)] (by kernel_rfl) a3 (by kernel_rfl)
  clear D11 D12 E2
  obtain ⟨hWl, hW4⟩ := words_facts hW
  rw [List.length_map] at hWl
  have hWne : W ≠ [] := by intro e; rw [e] at hWl; simp at hWl; omega
  refine Means.add0 ?_
  (refine segL (t0 := t3) (i := 0) 100000 [0] (Code.call (Value.ref 119) { pos := [Value.ref wa, Value.int 2 t3] : Args }) E3 (by assumption) (by assumption) ?_; intro o13; refine ⟨by kernel_rfl, by kernel_rfl, by kernel_rfl, by kernel_rfl, fun h13 D13 => ?_⟩)
  refine law_dealt w _ _ (Fit.inner (hA'.less (m := 150) (by kernel_rfl)) D13 _ (by kernel_rfl) (by kernel_rfl)) _ _ _ g d os wa ew 2 _ W (by decide) hWne (by omega) (fun q hq => ⟨q.1.getD 2 0, by rw [List.getD_eq_getElem?_getD, List.getElem?_eq_getElem (by have := hW4 q hq; omega)]; rfl⟩) (D13.give [1] (by kernel_rfl)) fun h4 t4 to1 e4 L1 hL1 a4 => ?_
  have hp1 := deal_perm hL1
  generalize hV1 : L1.flatMap (byL 2 W) = V1 at a4 hp1
  obtain ⟨B4, E4⟩ := D13.backP [1] [0, 1, 2, 3, 4, 5, 6, 7, 8, 9, 10, 11, 12] [(to1, listO (txV V1) e4), (f, lF w k sl nc xv pa qa [ent w n_row kr v1, ent w n_count kc v2] 7), (it, iterO "list_iterator" (.ref ra) (pre.length + 1)), (ra, listO (natV (pre ++ (r, tr) :: rest)) er), (cs, cellO (some (.str ⟨⟨s⟩⟩ ts))), (cz, cellO (some (.int (.ofNat s.length) tz))), (cr, cellO (some (.int (.ofNat r) tr))), (cn, cellO (some v3)), (cp, cellO (some v4)), (pa, listO (natV PL) ep), (qa, listO (natV QL) eq), (128, tabO2 co), (co, lamCodeO2 tc c5 c6 c7 c8 c9)] (by kernel_rfl) a4 (by kernel_rfl)
  clear D13 E3
  refine Means.add0 ?_
  (refine segL (t0 := t4) (i := 0) 100000 [0] (Code.call (Value.ref 119) { pos := [Value.ref to1, Value.int 1 t4] : Args }) E4 (by assumption) (by assumption) ?_; intro o14; refine ⟨by kernel_rfl, by kernel_rfl, by kernel_rfl, by kernel_rfl, fun h14 D14 => ?_⟩)
  refine law_dealt w _ _ (Fit.inner (hA'.less (m := 150) (by kernel_rfl)) D14 _ (by kernel_rfl) (by kernel_rfl)) _ _ _ g d os to1 e4 1 _ V1 (by decide) (fun e => hWne (by have := hp1.length_eq; rw [e] at this; exact List.length_eq_zero_iff.mp this.symm)) (by rw [hp1.length_eq]; omega) (fun q hq => ⟨q.1.getD 1 0, by rw [List.getD_eq_getElem?_getD, List.getElem?_eq_getElem (by have := hW4 q (hp1.mem_iff.mp hq); omega)]; rfl⟩) (D14.give [1] (by kernel_rfl)) fun h5 t5 rw_ e5 L2 hL2 a5 => ?_
  have hp2 := deal_perm hL2
  have hRow : RowOK s r (PL.map (·.1)) ((L2.flatMap (byL 1 V1)).map (·.1)) := by subst hV1; exact row_ok hPR hP hW hL1 hL2
  generalize hV2 : L2.flatMap (byL 1 V1) = V2 at a5 hp2 hRow
  have hU4 : ∀ q ∈ V2, q.1.length = 4 := fun q hq => hW4 q (hp1.mem_iff.mp (hp2.mem_iff.mp hq))
  have hVl : V2.length = s.length := by rw [hp2.length_eq, hp1.length_eq, hWl]; exact hPl
  have hVne : V2 ≠ [] := by intro e; rw [e] at hVl; simp at hVl; omega
  obtain ⟨B5, E5⟩ := D14.backP [1] [0, 1, 2, 3, 4, 5, 6, 7, 8, 9, 10, 11, 12] [(rw_, listO (txV V2) e5), (f, lF w k sl nc xv pa qa [ent w n_row kr v1, ent w n_count kc v2] 7), (it, iterO "list_iterator" (.ref ra) (pre.length + 1)), (ra, listO (natV (pre ++ (r, tr) :: rest)) er), (cs, cellO (some (.str ⟨⟨s⟩⟩ ts))), (cz, cellO (some (.int (.ofNat s.length) tz))), (cr, cellO (some (.int (.ofNat r) tr))), (cn, cellO (some v3)), (cp, cellO (some v4)), (pa, listO (natV PL) ep), (qa, listO (natV QL) eq), (128, tabO2 co), (co, lamCodeO2 tc c5 c6 c7 c8 c9)] (by kernel_rfl) a5 (by kernel_rfl)
  clear D14 E4
  refine Means.add0 ?_
  (refine segWb (t0 := t5) (i := 0) 100000 [2, 2, 0, 0, 6, 1, 1, 14, 14, 1, 14, 14, 14, 14] (Code.call (Value.builtin "range.__iter__") { pos := [Value.ref B5] : Args }) E5 (by assumption) (by assumption) (by kernel_rfl) ?_; intro o15; refine ⟨by kernel_rfl, by kernel_rfl, by kernel_rfl, by kernel_rfl, by kernel_rfl, fun h15 D15 => ?_⟩)
  refine callW_of rfl ?_
  rw [mark_none]
  refine r_riter B5 0 (s.length : Nat) (t5 + 1) tz (t5 + 2) s.length (by omega) (by omega) (by omega) (D15.give [0, 0, 0, 0, 0, 0, 0, 0, 0, 0, 0, 0, 0, 1] (by kernel_rfl)) fun h6 it2 t6 a6 => ?_
  obtain ⟨B6, E6⟩ := D15.backP [0, 0, 0, 0, 0, 0, 0, 0, 0, 0, 0, 0, 0, 1] [1, 2, 3, 4, 5, 6, 7, 8, 9, 10, 11, 12, 13, 14] [(it2, ritO (0 : Nat) (s.length : Nat)), (rw_, listO (txV V2) e5), (f, lF w k sl nc xv pa qa [ent w n_row kr (.ref rw_), ent w n_count kc v2] 7), (it, iterO "list_iterator" (.ref ra) (pre.length + 1)), (ra, listO (natV (pre ++ (r, tr) :: rest)) er), (cs, cellO (some (.str ⟨⟨s⟩⟩ ts))), (cz, cellO (some (.int (.ofNat s.length) tz))), (cr, cellO (some (.int (.ofNat r) tr))), (cn, cellO (some v3)), (cp, cellO (some v4)), (pa, listO (natV PL) ep), (qa, listO (natV QL) eq), (128, tabO2 co), (co, lamCodeO2 tc c5 c6 c7 c8 c9)] (by kernel_rfl) a6 (by kernel_rfl)
  clear D15 E5
  refine Means.add0 ?_
  (refine segL (t0 := t6) (i := 0) 100000 [1] ((compXS w 131 (eLQ w) (.ref it2) (.ref B6) (B6 + 1) q_law [(⟨⟨n_sent⟩⟩, cs), (⟨⟨n_reach⟩⟩, cr)] f) ) E6 (by assumption) (by assumption) ?_; intro o16; refine ⟨by kernel_rfl, by kernel_rfl, by kernel_rfl, by kernel_rfl, fun h16 D16 => ?_⟩)
  obtain ⟨B7, E7⟩ := D16.partX [14, 0, 15, 5, 7] [1, 2, 3, 4, 6, 8, 9, 10, 11, 12, 13] [(B6, listO [] 0), (it2, ritO (0 : Nat) (s.length : Nat)), (B6 + 1, dictO [] 0), (cs, cellO (some (.str ⟨⟨s⟩⟩ ts))), (cr, cellO (some (.int (.ofNat r) tr)))] [(rw_, listO (txV V2) e5), (f, lF w k sl nc xv pa qa [ent w n_row kr (.ref rw_), ent w n_count kc v2] 7), (it, iterO "list_iterator" (.ref ra) (pre.length + 1)), (ra, listO (natV (pre ++ (r, tr) :: rest)) er), (cz, cellO (some (.int (.ofNat s.length) tz))), (cn, cellO (some v3)), (cp, cellO (some v4)), (pa, listO (natV PL) ep), (qa, listO (natV QL) eq), (128, tabO2 co), (co, lamCodeO2 tc c5 c6 c7 c8 c9)] (by kernel_rfl) (by kernel_rfl)
  clear D16 E6
  refine pt_start w _ h₀ mods (hA'.ar (m := 5) _ (by kernel_rfl) (by kernel_rfl)) _ g d os it2 B6 (B6 + 1) f cs cr ts r tr s (by omega) s.length (by omega) _ (by omega) _ _ _ E7 fun h7 B7 t7 ep7 PT dl7 dn7 hd7 hPT E7 => ?_
  obtain ⟨k7, v7, rfl, rfl⟩ := hd7
  obtain ⟨B8, E8⟩ := E7.unpartX.pickE [0, 1, 4, 5, 6, 7, 2, 8, 3, 9, 10, 11, 12, 13, 14] [(B6, listO (txV PT) ep7), (B6 + 1, dictO [ent w n_kk k7 v7] 1), (rw_, listO (txV V2) e5), (f, lF w k sl nc xv pa qa [ent w n_row kr (.ref rw_), ent w n_count kc v2] 7), (it, iterO "list_iterator" (.ref ra) (pre.length + 1)), (ra, listO (natV (pre ++ (r, tr) :: rest)) er), (cs, cellO (some (.str ⟨⟨s⟩⟩ ts))), (cz, cellO (some (.int (.ofNat s.length) tz))), (cr, cellO (some (.int (.ofNat r) tr))), (cn, cellO (some v3)), (cp, cellO (some v4)), (pa, listO (natV PL) ep), (qa, listO (natV QL) eq), (128, tabO2 co), (co, lamCodeO2 tc c5 c6 c7 c8 c9)] rfl
  clear E7
  refine Means.add0 ?_
  (refine segLb (t0 := t7) (i := 0) 100000 [2, 2, 2, 11, 11, 4, 3, 3, 1, 3, 16] ((compS w 131 (eLR w) (.ref B8) (.ref (B8 + 1)) (B8 + 2) q_law f) ) E8 (by assumption) (by assumption) (by kernel_rfl) ?_; intro o17; refine ⟨by kernel_rfl, by kernel_rfl, by kernel_rfl, by kernel_rfl, fun h17 D17 => ?_⟩)
  obtain ⟨B9, E9⟩ := D17.partX [16, 15, 2, 17] [0, 3, 4, 5, 6, 7, 8, 9, 10, 11, 12, 13, 14] [(B8 + 1, listO [] 0), (B8, iterO "list_iterator" (.ref rw_) 0), (rw_, listO (txV V2) e5), (B8 + 2, dictO [] 0)] [(B6, listO (txV PT) ep7), (f, lF w k sl nc xv pa qa [ent w n_row kr (.ref rw_), ent w n_count kc v2] 7), (it, iterO "list_iterator" (.ref ra) (pre.length + 1)), (ra, listO (natV (pre ++ (r, tr) :: rest)) er), (cs, cellO (some (.str ⟨⟨s⟩⟩ ts))), (cz, cellO (some (.int (.ofNat s.length) tz))), (cr, cellO (some (.int (.ofNat r) tr))), (cn, cellO (some v3)), (cp, cellO (some (.ref B6))), (pa, listO (natV PL) ep), (qa, listO (natV QL) eq), (128, tabO2 co), (co, lamCodeO2 tc c5 c6 c7 c8 c9)] (by kernel_rfl) (by kernel_rfl)
  clear D17 E8
  refine lr_start w _ h₀ mods (hA'.ar (m := 5) _ (by kernel_rfl) (by kernel_rfl)) _ g d os B8 (B8 + 1) (B8 + 2) f rw_ e5 V2 hVne _ (by omega) hU4 _ _ _ E9 fun h9 B9 t9 ep9 LT dl9 dn9 hd9 hLT E9 => ?_
  obtain ⟨k9, v9, rfl, rfl⟩ := hd9
  obtain ⟨B10, E10⟩ := E9.unpartX.pickE [0, 2, 1, 3, 4, 5, 6, 7, 8, 9, 10, 11, 12, 13, 14, 15] [(B8 + 1, listO (intV LT) ep9), (B8 + 2, dictO [ent w n_word k9 v9] 1), (rw_, listO (txV V2) e5), (B6, listO (txV PT) ep7), (f, lF w k sl nc xv pa qa [ent w n_row kr (.ref rw_), ent w n_count kc v2] 7), (it, iterO "list_iterator" (.ref ra) (pre.length + 1)), (ra, listO (natV (pre ++ (r, tr) :: rest)) er), (cs, cellO (some (.str ⟨⟨s⟩⟩ ts))), (cz, cellO (some (.int (.ofNat s.length) tz))), (cr, cellO (some (.int (.ofNat r) tr))), (cn, cellO (some v3)), (cp, cellO (some (.ref B6))), (pa, listO (natV PL) ep), (qa, listO (natV QL) eq), (128, tabO2 co), (co, lamCodeO2 tc c5 c6 c7 c8 c9)] rfl
  clear E9
  refine Means.add0 ?_
  (refine segW (t0 := t9) (i := 0) 100000 [2, 2, 2, 0, 0, 5, 0, 15, 0, 0, 0] (Code.call (Value.builtin "sorted") { pos := [Value.ref pa], kw := [({ cps := { toList := [107, 101, 121] : Array Nat } : Str }, Value.ref (B10 + 1))] : Args }) E10 (by assumption) (by assumption) ?_; intro o18; refine ⟨by kernel_rfl, by kernel_rfl, by kernel_rfl, by kernel_rfl, by kernel_rfl, fun h18 D18 => ?_⟩)
  obtain ⟨lam, tu, hkw, B18, E18⟩ : ∃ lam tu : Nat, lam = B10 + 1 ∧ ∃ B', Rep (kt1 w) h₀ mods h18 B' [(pa, listO (natV PL) ep)] (([(co, lamCodeO2 tc c5 c6 c7 c8 c9), (cp, cellO (some (.ref B6))), (lam, lamO2 w cp co tu), (B6, listO (txV PT) ep7)] ++ [(B8 + 1, listO (intV LT) ep9), (rw_, listO (txV V2) e5), (f, lF w k sl nc xv pa qa [ent w n_row kr (.ref rw_), ent w n_count kc v2] 7), (it, iterO "list_iterator" (.ref ra) (pre.length + 1)), (ra, listO (natV (pre ++ (r, tr) :: rest)) er), (cs, cellO (some (.str ⟨⟨s⟩⟩ ts))), (cz, cellO (some (.int (.ofNat s.length) tz))), (cr, cellO (some (.int (.ofNat r) tr))), (cn, cellO (some v3)), (qa, listO (natV QL) eq), (128, tabO2 co)]) ++ X) 0 := ⟨B10 + 1, B10, rfl, D18.partX [12] [15, 11, 17, 3, 0, 2, 4, 5, 6, 7, 8, 9, 10, 13, 14] _ _ (by kernel_rfl!) (by kernel_rfl!)⟩
  rw [← hkw]
  clear D18 E10
  have hA18 := hA'.ar (m := 100) (outκ o18) (by kernel_rfl) (by kernel_rfl)
  have hPTl : PT.length = s.length := by have := congrArg List.length hPT; rwa [List.length_map, List.length_map, List.length_range] at this
  refine r_sorted pa ep (natV PL) (by rw [natV_len]; omega) _ (args_sorted_key _ _) E18 fun h19 B19 t19 sb E19 => ?_
  refine r_sortkey (natV PL) (fun i => stp s r ((PL.map (·.1)).getD i 0)) lam sb 0 (by rw [natV_len]; omega) (by rw [natV_len]; omega) (fun i hi L h B t Q D hq => ?_) E19 fun h20 B20 t20 e20 pr hVP hST E20 => ⟨rfl, ?_⟩
  · rw [natV_len] at hi
    obtain ⟨x, hx, hxe⟩ := parts_at hPT (show PL[i].1 < s.length by have := hPb _ (List.getElem_mem hi); omega)
    have hvi : (natV PL)[i] = .int (.ofNat PL[i].1) PL[i].2 := by simp [natV]
    rw [hvi]
    have D5 := D.perm (L' := L) (X' := [(co, lamCodeO2 tc c5 c6 c7 c8 c9), (cp, cellO (some (.ref B6))), (lam, lamO2 w cp co tu), (B6, listO (txV PT) ep7)] ++ ((pa, listO (natV PL) ep) :: [(B8 + 1, listO (intV LT) ep9), (rw_, listO (txV V2) e5), (f, lF w k sl nc xv pa qa [ent w n_row kr (.ref rw_), ent w n_count kc v2] 7), (it, iterO "list_iterator" (.ref ra) (pre.length + 1)), (ra, listO (natV (pre ++ (r, tr) :: rest)) er), (cs, cellO (some (.str ⟨⟨s⟩⟩ ts))), (cz, cellO (some (.int (.ofNat s.length) tz))), (cr, cellO (some (.int (.ofNat r) tr))), (cn, cellO (some v3)), (qa, listO (natV QL) eq), (128, tabO2 co)] ++ X)) (List.Perm.append_left L ?_)
    · refine lam_key w _ h₀ h ((hA18.less (m := 30) (by kernel_rfl)).in1.in1) Q B t g d os B6 cp lam co tu tc c5 c6 c7 c8 c9 ep7 PL[i].1 PL[i].2 PT (by rw [hPTl]; omega) x hx L _ D5 fun h' B' t' D' => ?_
      rw [hxe]
      have e9 : stp s r PL[i].1 = stp s r ((PL.map (·.1)).getD i 0) := by rw [List.getD_eq_getElem?_getD, List.getElem?_map, List.getElem?_eq_getElem hi]; rfl
      rw [e9]
      exact hq _ _ _ _ (D'.perm (List.Perm.append_left L (by rw [List.append_assoc]; exact List.perm_middle)))
    · rw [List.append_assoc]
      exact List.perm_middle.symm
  have hpr : ∀ i ∈ pr.toList, i < PL.length := vp_all (by rw [natV_len] at hVP; exact hVP)
  rw [natV_pick PL pr.toList hpr] at E20
  have E21 := (Rep.unpartX (X' := (pa, listO (natV PL) ep) :: ([(co, lamCodeO2 tc c5 c6 c7 c8 c9), (cp, cellO (some (.ref B6))), (lam, lamO2 w cp co tu), (B6, listO (txV PT) ep7)] ++ [(B8 + 1, listO (intV LT) ep9), (rw_, listO (txV V2) e5), (f, lF w k sl nc xv pa qa [ent w n_row kr (.ref rw_), ent w n_count kc v2] 7), (it, iterO "list_iterator" (.ref ra) (pre.length + 1)), (ra, listO (natV (pre ++ (r, tr) :: rest)) er), (cs, cellO (some (.str ⟨⟨s⟩⟩ ts))), (cz, cellO (some (.int (.ofNat s.length) tz))), (cr, cellO (some (.int (.ofNat r) tr))), (cn, cellO (some v3)), (qa, listO (natV QL) eq), (128, tabO2 co)])) (X := X) E20)
  obtain ⟨B21, E22⟩ := E21.pickE [6, 0, 1, 3, 5, 7, 8, 9, 10, 11, 12, 13, 14, 15, 16, 2] [(B8 + 1, listO (intV LT) ep9), (sb, listO (natV (pr.toList.map fun i => PL.getD i (0, 0))) e20), (pa, listO (natV PL) ep), (cp, cellO (some (.ref B6))), (B6, listO (txV PT) ep7), (rw_, listO (txV V2) e5), (f, lF w k sl nc xv pa qa [ent w n_row kr (.ref rw_), ent w n_count kc v2] 7), (it, iterO "list_iterator" (.ref ra) (pre.length + 1)), (ra, listO (natV (pre ++ (r, tr) :: rest)) er), (cs, cellO (some (.str ⟨⟨s⟩⟩ ts))), (cz, cellO (some (.int (.ofNat s.length) tz))), (cr, cellO (some (.int (.ofNat r) tr))), (cn, cellO (some v3)), (qa, listO (natV QL) eq), (128, tabO2 co), (co, lamCodeO2 tc c5 c6 c7 c8 c9)] rfl
  clear E20 E21
  have hcmp := row_sorted hP hRow hLT (by rw [natV_len] at hVP; exact hVP) (by rw [natV_len] at hST; exact hST)
  refine Means.add0 ?_
  refine xn_false (thenB := lThen w) (rest := lRest w 3) (c := llC w it f cs cz ct cr cn cp) (env := envL w f cs cz ct cr cn cp) (by kernel_rfl) (fun Q E hq => rc_ne (B8 + 1) sb ep9 e20 LT _ hcmp (units_in hU _ (by kernel_rfl)) E22 _ _ E Q hq) ?_
  refine Means.add0 ?_
  (refine segL (t0 := t20 + 0) (i := 0) 100000 [0, 7, 0] ((.call (.ref 126) ⟨[.ref rw_], []⟩) ) E22 (by assumption) (by assumption) ?_; intro o21; refine ⟨by kernel_rfl, by kernel_rfl, by kernel_rfl, by kernel_rfl, fun h21 D21 => ?_⟩)
  have hUl : (V2.map (·.1)).length = V2.length := List.length_map _
  refine law_names w _ _ (Fit.inner (hA'.less (m := 100) (by kernel_rfl)) D21 _ (by kernel_rfl) (by kernel_rfl)) _ _ _ g d os rw_ e5 V2 hVne (by omega) hU4 (by have := row_nodup hP hRow; rwa [hUl] at this) (D21.give [0, 0, 0, 0, 0, 1] (by kernel_rfl)) fun h22 t22 tu na tcn ld nd kvs P22 N22 a22 => ?_
  rw [← hUl] at N22
  have hcnt := row_count hP hRow (by omega)
  rw [hUl] at hcnt
  obtain ⟨B22, E23⟩ := D21.backP [0, 0, 0, 0, 0, 1] [0, 1, 4, 5, 6, 7, 8, 9, 10, 11, 12, 13, 14, 15, 16] [(tu, tupO [.ref na, .int (.ofNat (rk (V2.map (·.1)) (V2.length - 1))) tcn]), (na, dictO ld nd), (pa, listO (natV PL) ep), (cp, cellO (some (.ref B6))), (B6, listO (txV PT) ep7), (f, lF w k sl nc xv pa qa [ent w n_row kr (.ref rw_), ent w n_count kc v2] 7), (it, iterO "list_iterator" (.ref ra) (pre.length + 1)), (ra, listO (natV (pre ++ (r, tr) :: rest)) er), (cs, cellO (some (.str ⟨⟨s⟩⟩ ts))), (cz, cellO (some (.int (.ofNat s.length) tz))), (cr, cellO (some (.int (.ofNat r) tr))), (cn, cellO (some v3)), (qa, listO (natV QL) eq), (128, tabO2 co), (co, lamCodeO2 tc c5 c6 c7 c8 c9)] (by kernel_rfl) a22 (by kernel_rfl)
  clear D21 E22
  generalize hcv : rk (V2.map (·.1)) (V2.length - 1) = cnt at hcnt E23
  refine Means.add0 ?_
  (refine segWb (t0 := t22) (i := 0) 100000 [1, 1, 1, 1, 1, 16, 16, 1, 16, 16, 16, 1, 16, 16, 16, 1, 16, 16, 16, 1, 16, 16, 16, 1, 16, 16, 16, 1, 16, 16, 18, 12, 12, 6, 6, 6, 0, 0, 0, 0, 4] (Code.call (Value.type "set") { pos := [Value.ref B6] : Args }) E23 (by assumption) (by assumption) (by kernel_rfl) ?_; intro o23; refine ⟨by kernel_rfl, by kernel_rfl, by kernel_rfl, by kernel_rfl, by kernel_rfl, fun h23 D23 => ?_⟩)
  refine callW_of rfl ?_
  rw [mark_none]
  refine r_set (Fit.inner (hA'.less (m := 100) (by kernel_rfl)) D23 _ (by kernel_rfl) (by kernel_rfl)) B6 ep7 PT (by omega) (D23.give [0, 0, 0, 0, 1] (by kernel_rfl)) fun h24 t24 st so hso a24 => ?_
  obtain ⟨B24, E24⟩ := D23.backP [0, 0, 0, 0, 1] [0, 3, 4, 1, 5, 6, 7, 8, 9, 10, 11, 12, 13, 14, 15] [(st, so), (na, dictO ld nd), (pa, listO (natV PL) ep), (B6, listO (txV PT) ep7), (cp, cellO (some (.ref B6))), (f, lF w k sl nc xv pa qa [ent w n_row kr (.ref rw_), ent w n_count kc (.int (.ofNat cnt) tcn)] 7), (it, iterO "list_iterator" (.ref ra) (pre.length + 1)), (ra, listO (natV (pre ++ (r, tr) :: rest)) er), (cs, cellO (some (.str ⟨⟨s⟩⟩ ts))), (cz, cellO (some (.int (.ofNat s.length) tz))), (cr, cellO (some (.int (.ofNat r) tr))), (cn, cellO (some (.ref na))), (qa, listO (natV QL) eq), (128, tabO2 co), (co, lamCodeO2 tc c5 c6 c7 c8 c9)] (by kernel_rfl) a24 (by kernel_rfl)
  clear D23 E23
  rw [hPT] at hso
  have hul : (uniqL [] ((List.range s.length).map fun j => (s.drop j).take r)).length = cnt := hcnt.symm
  refine Means.add0 ?_
  (refine segW (t0 := t24) (i := 0) 100000 [] (Code.call (Value.builtin "len") { pos := [Value.ref st] : Args }) E24 (by assumption) (by assumption) ?_; intro o25; refine ⟨by kernel_rfl, by kernel_rfl, by kernel_rfl, by kernel_rfl, by kernel_rfl, fun h25 D25 => ?_⟩)
  refine r_setlen st so _ hso (by rw [hul]; rw [hcnt]; exact Nat.le_trans (uniqL_le _ _) (by rw [List.length_nil, List.length_map, List.length_range]; omega)) (D25.give [1] (by kernel_rfl)) fun u1 u2 => ?_
  rw [hul]
  refine Means.add0 ?_
  (refine segWb (t0 := u2) (i := 0) 100000 [] (Code.call (Value.builtin "int.__ne__") { pos := [Value.int (Int.ofNat cnt) tcn, Value.int (Int.ofNat cnt) u1] : Args }) D25 (by assumption) (by assumption) (by kernel_rfl) ?_; intro o26; refine ⟨by kernel_rfl, by kernel_rfl, by kernel_rfl, by kernel_rfl, by kernel_rfl, fun h26 D26 => ?_⟩)
  refine callW_of rfl ?_
  rw [mark_none]
  refine r_ine (.ofNat cnt) (.ofNat cnt) _ _ false (bne_self_eq_false _) ?_
  refine Means.add0 ?_
  (refine segWb (t0 := u2 + outI o26) (i := 0) 100000 [6, 10] (Code.call (Value.builtin "int.__eq__") { pos := [Value.int (Int.ofNat cnt) tcn, Value.int (Int.ofNat (List.length s)) tz] : Args }) D26 (by assumption) (by assumption) (by kernel_rfl) ?_; intro o27; refine ⟨by kernel_rfl, by kernel_rfl, by kernel_rfl, by kernel_rfl, by kernel_rfl, fun h27 D27 => ?_⟩)
  refine callW_of rfl ?_
  rw [mark_none]
  by_cases hend : cnt = s.length
  · refine r_ieq (.ofNat cnt) (.ofNat s.length) _ _ true (by rw [hend]; exact beq_self_eq_true _) ?_
    refine Means.add0 ?_
    (refine segF (t0 := u2 + outI o26 + outI o27) (i := 0) 100000 [] ((Fin.done (Flow.ret (.bool true))) ) D27 (by assumption) (by assumption) ?_; intro o28; refine ⟨by kernel_rfl, by kernel_rfl, by kernel_rfl, fun h28 D28 => ?_⟩)
    obtain ⟨B28, E28⟩ := D28.pickE [13, 14] [(128, tabO2 co), (co, lamCodeO2 tc c5 c6 c7 c8 c9)] (by kernel_rfl)
    exact hRet _ _ _ _ _ _ _ _ _ _ E28
  · refine r_ieq (.ofNat cnt) (.ofNat s.length) _ _ false (beq_eq_false_iff_ne.mpr (fun e => hend (Int.ofNat.inj e))) ?_
    refine Means.add0 ?_
    (refine segWb (t0 := u2 + outI o26 + outI o27) (i := 0) 100000 [0, 0, 10, 1, 1, 16, 16, 1, 16, 16, 16, 16] (Code.call (Value.builtin "range.__iter__") { pos := [Value.ref B24] : Args }) D27 (by assumption) (by assumption) (by kernel_rfl) ?_; intro o31; refine ⟨by kernel_rfl, by kernel_rfl, by kernel_rfl, by kernel_rfl, by kernel_rfl, fun h31 D31 => ?_⟩)
    refine callW_of rfl ?_
    rw [mark_none]
    refine r_riter B24 0 (s.length : Nat) u2 tz (u2 + 1) s.length (by omega) (by omega) (by omega) (D31.give [0, 0, 0, 0, 0, 0, 0, 0, 0, 0, 0, 0, 0, 0, 0, 1] (by kernel_rfl)) fun h32 it3 t32 a32 => ?_
    obtain ⟨B32, E32⟩ := D31.backP [0, 0, 0, 0, 0, 0, 0, 0, 0, 0, 0, 0, 0, 0, 0, 1] [1, 3, 4, 6, 7, 8, 9, 10, 11, 12, 13, 14, 15, 16] [(it3, ritO (0 : Nat) (s.length : Nat)), (na, dictO ld nd), (pa, listO (natV PL) ep), (cp, cellO (some (.ref B6))), (f, lF w k sl nc xv pa qa [ent w n_row kr (.ref rw_), ent w n_count kc (.int (.ofNat cnt) tcn)] 7), (it, iterO "list_iterator" (.ref ra) (pre.length + 1)), (ra, listO (natV (pre ++ (r, tr) :: rest)) er), (cs, cellO (some (.str ⟨⟨s⟩⟩ ts))), (cz, cellO (some (.int (.ofNat s.length) tz))), (cr, cellO (some (.int (.ofNat r) tr))), (cn, cellO (some (.ref na))), (qa, listO (natV QL) eq), (128, tabO2 co), (co, lamCodeO2 tc c5 c6 c7 c8 c9)] (by kernel_rfl) a32 (by kernel_rfl)
    clear D31 D27 D26 D25 E24
    obtain ⟨nm, hnm, hno, hPR2⟩ := row_next hP hRow hr hs10 N22
    refine Means.add0 ?_
    (refine segL (t0 := t32) (i := 0) 100000 [1] ((compXS w 131 (eLN w) (.ref it3) (.ref B32) (B32 + 1) q_law [(⟨⟨n_reach⟩⟩, cr), (⟨⟨n_names⟩⟩, cn)] f) ) E32 (by assumption) (by assumption) ?_; intro o33; refine ⟨by kernel_rfl, by kernel_rfl, by kernel_rfl, by kernel_rfl, fun h33 D33 => ?_⟩)
    obtain ⟨B33, E33⟩ := D33.partX [14, 0, 15, 9, 10, 1] [2, 3, 4, 5, 6, 7, 8, 11, 12, 13] [(B32, listO [] 0), (it3, ritO (0 : Nat) (s.length : Nat)), (B32 + 1, dictO [] 0), (cr, cellO (some (.int (.ofNat r) tr))), (cn, cellO (some (.ref na))), (na, dictO ld nd)] [(pa, listO (natV PL) ep), (cp, cellO (some (.ref B6))), (f, lF w k sl nc xv pa qa [ent w n_row kr (.ref rw_), ent w n_count kc (.int (.ofNat cnt) tcn)] 7), (it, iterO "list_iterator" (.ref ra) (pre.length + 1)), (ra, listO (natV (pre ++ (r, tr) :: rest)) er), (cs, cellO (some (.str ⟨⟨s⟩⟩ ts))), (cz, cellO (some (.int (.ofNat s.length) tz))), (qa, listO (natV QL) eq), (128, tabO2 co), (co, lamCodeO2 tc c5 c6 c7 c8 c9)] (by kernel_rfl) (by kernel_rfl)
    clear D33 E32
    refine np_start w _ h₀ mods (hA'.ar (m := 5) _ (by kernel_rfl) (by kernel_rfl)) _ g d os it3 B32 (B32 + 1) f cr cn na nd r tr ld kvs P22 s.length nm hnm hno s.length (by omega) _ (by omega) (by omega) _ _ _ E33 fun h34 B34 t34 ep34 NQ dl34 dn34 hd34 hNQ E34 => ?_
    obtain ⟨k34, v34, rfl, rfl⟩ := hd34
    obtain ⟨B35, E35⟩ := E34.unpartX.pickE [0, 1, 5, 6, 7, 8, 9, 10, 11, 2, 3, 13, 14] [(B32, listO (natV NQ) ep34), (B32 + 1, dictO [ent w n_kk k34 v34] 1), (pa, listO (natV PL) ep), (cp, cellO (some (.ref B6))), (f, lF w k sl nc xv pa qa [ent w n_row kr (.ref rw_), ent w n_count kc (.int (.ofNat cnt) tcn)] 7), (it, iterO "list_iterator" (.ref ra) (pre.length + 1)), (ra, listO (natV (pre ++ (r, tr) :: rest)) er), (cs, cellO (some (.str ⟨⟨s⟩⟩ ts))), (cz, cellO (some (.int (.ofNat s.length) tz))), (cr, cellO (some (.int (.ofNat r) tr))), (cn, cellO (some (.ref na))), (128, tabO2 co), (co, lamCodeO2 tc c5 c6 c7 c8 c9)] rfl
    clear E33 E34
    refine Means.add0 ?_
    (refine segF (t0 := t34) (i := 0) 100000 [5, 5, 2, 2, 2] ((Fin.again (llC w it f cs cz ct cr cn cp)) ) E35 (by assumption) (by assumption) ?_; intro o36; refine ⟨by kernel_rfl, by kernel_rfl, by kernel_rfl, fun h36 D36 => ?_⟩)
    obtain ⟨B36, E36⟩ := D36.pickE [4, 5, 6, 7, 8, 9, 10, 3, 2, 0, 11, 12] [(f, lF w k sl nc xv pa B32 [ent w n_row kr (.ref rw_), ent w n_count kc (.int (.ofNat cnt) tcn)] 7), (it, iterO "list_iterator" (.ref ra) (pre.length + 1)), (ra, listO (natV (pre ++ (r, tr) :: rest)) er), (cs, cellO (some (.str ⟨⟨s⟩⟩ ts))), (cz, cellO (some (.int (.ofNat s.length) tz))), (cr, cellO (some (.int (.ofNat r) tr))), (cn, cellO (some (.ref na))), (cp, cellO (some (.ref B6))), (pa, listO (natV PL) ep), (B32, listO (natV NQ) ep34), (128, tabO2 co), (co, lamCodeO2 tc c5 c6 c7 c8 c9)] (by kernel_rfl)
    refine ⟨by kernel_rfl, hNext (by rw [hul]; exact hend) _ B36 _ k B32 ep34 NQ kr kc _ _ _ _ _ _ _ _ _ _ _ (by rw [hNQ]; exact hPR2) E36⟩
end Mine
end
section
open PySem PySem.W PySem.Calls PyProof.Rows
set_option Elab.async false
set_option maxRecDepth 100000
namespace Mine
noncomputable def reachL (t : Nat) : List (Nat × Nat) := [(1, t + 1), (2, t + 2), (4, t + 3), (8, t + 4), (16, t + 5)]
theorem ll_all (w : World) (A : Around) (h₀ : Heap) (mods : List Nat) (hA : Fit 200 A (kt1 w) h₀) (R : Result → Shared → Prop) (g : Array GenState) (d : Drawn) (os : OsState) (f it ra er cs cz ct cr cn cp sl nc pa ep ts tz t9 : Nat) (xv : Value) (s : List Nat) (hs10 : s.length ≤ 10) (hs3 : 3 ≤ s.length) (hsm : ∀ c ∈ s, c < 256) (PL : List (Nat × Nat)) (hP : (PL.map (·.1)).Perm (List.range s.length))
   (k : Nat → Nat) (qa eq : Nat) (QL : List (Nat × Nat)) (hQ : QL.map (·.1) = s) (hU : A.units + 1000 < cLine) (X : Led) (h : Heap) (B t0 : Nat)
   (D : Rep (kt1 w) h₀ mods h B [(f, lF w k sl nc xv pa qa [] 5), (it, iterO "list_iterator" (.ref ra) 0), (ra, listO (natV (reachL t9)) er), (cs, cellO (some (.str ⟨⟨s⟩⟩ ts))), (cz, cellO (some (.int (.ofNat s.length) tz))), (cr, cellO none), (cn, cellO none), (cp, cellO none), (pa, listO (natV PL) ep), (qa, listO (natV QL) eq), (128, obAt w 128)] X 0)
   (hRet : ∀ h' B' t' co tc c5 c6 c7 c8 c9, Rep (kt1 w) h₀ mods h' B' [(128, tabO2 co), (co, lamCodeO2 tc c5 c6 c7 c8 c9)] X 0 → R (.ok (.ret (.bool true))) ⟨h', g, d, t', os⟩) :
   codeAny (PP w) A (llC w it f cs cz ct cr cn cp) R ⟨h, g, d, t0, os⟩ := by
  refine ll_first w A h₀ mods hA R g d os f it ra er cs cz ct cr cn cp sl nc pa ep ts tz xv s hs10 hs3 PL hP [] [(2, t9 + 2), (4, t9 + 3), (8, t9 + 4), (16, t9 + 5)] 1 (t9 + 1) k qa eq QL (by decide) (by rw [hQ]; exact pr_one s hsm) hU none X h B t0 D hRet fun _ h1 B1 t1 k1 qa1 eq1 QL1 kr1 kc1 x1 y1 z1 u1 co1 tc1 c5 c6 c7 c8 c9 hPR1 D1 => ?_
  refine ll_later w A h₀ mods hA R g d os f it ra er cs cz ct cr cn cp sl nc pa ep ts tz xv s hs10 hs3 PL hP [(1, t9 + 1)] [(4, t9 + 3), (8, t9 + 4), (16, t9 + 5)] 2 (t9 + 2) k1 qa1 eq1 QL1 (by decide) hPR1 hU X h1 B1 t1 kr1 kc1 co1 tc1 c5 c6 c7 c8 c9 x1 y1 z1 u1 D1 hRet fun _ h2 B2 t2 k2 qa2 eq2 QL2 kr2 kc2 x2 y2 z2 u2 co2 tc2 c5 c6 c7 c8 c9 hPR2 D2 => ?_
  refine ll_later w A h₀ mods hA R g d os f it ra er cs cz ct cr cn cp sl nc pa ep ts tz xv s hs10 hs3 PL hP [(1, t9 + 1), (2, t9 + 2)] [(8, t9 + 4), (16, t9 + 5)] 4 (t9 + 3) k2 qa2 eq2 QL2 (by decide) hPR2 hU X h2 B2 t2 kr2 kc2 co2 tc2 c5 c6 c7 c8 c9 x2 y2 z2 u2 D2 hRet fun _ h3 B3 t3 k3 qa3 eq3 QL3 kr3 kc3 x3 y3 z3 u3 co3 tc3 c5 c6 c7 c8 c9 hPR3 D3 => ?_
  refine ll_later w A h₀ mods hA R g d os f it ra er cs cz ct cr cn cp sl nc pa ep ts tz xv s hs10 hs3 PL hP [(1, t9 + 1), (2, t9 + 2), (4, t9 + 3)] [(16, t9 + 5)] 8 (t9 + 4) k3 qa3 eq3 QL3 (by decide) hPR3 hU X h3 B3 t3 kr3 kc3 co3 tc3 c5 c6 c7 c8 c9 x3 y3 z3 u3 D3 hRet fun _ h4 B4 t4 k4 qa4 eq4 QL4 kr4 kc4 x4 y4 z4 u4 co4 tc4 c5 c6 c7 c8 c9 hPR4 D4 => ?_
  refine ll_later w A h₀ mods hA R g d os f it ra er cs cz ct cr cn cp sl nc pa ep ts tz xv s hs10 hs3 PL hP [(1, t9 + 1), (2, t9 + 2), (4, t9 + 3), (8, t9 + 4)] [] 16 (t9 + 5) k4 qa4 eq4 QL4 (by decide) hPR4 hU X h4 B4 t4 kr4 kc4 co4 tc4 c5 c6 c7 c8 c9 x4 y4 z4 u4 D4 hRet fun hne => absurd (all_unlike s hs10) hne
end Mine
end
section
open PySem PySem.W PySem.Calls PyProof.Rows
set_option Elab.async false
set_option maxRecDepth 100000
namespace Mine
noncomputable def cst (t : Nat) : List (Nat × Nat) := [(2, t + 1), (0, t + 2), (2, t + 3)]
noncomputable def cE5 (B : Nat) : Led := [(B + 2, cellO none), (B + 3, cellO none), (B + 4, cellO none), (B + 5, cellO none), (B + 6, cellO none)]
noncomputable def cE6 (B : Nat) : Led := [(B + 1, cellO none), (B + 2, cellO none), (B + 3, cellO none), (B + 4, cellO none), (B + 5, cellO none), (B + 6, cellO none)]
theorem mods_facts (F : List (Int × Nat)) (M : List (Nat × Nat)) (h : M.map (·.1) = (F.take 63).map fun c => (c.1.fmod 16).toNat) : M.length ≤ 63 ∧ ∀ q ∈ M, q.1 ≤ 1000000 := by
  constructor
  · have e := congrArg List.length h
    rw [List.length_map, List.length_map, List.length_take] at e
    omega
  · intro q hq
    have : q.1 ∈ M.map (·.1) := List.mem_map_of_mem hq
    rw [h] at this
    obtain ⟨c, _, e⟩ := List.mem_map.mp this
    have h1 : c.1.fmod 16 < 16 := Int.fmod_lt_of_pos _ (by decide)
    have h2 : 0 ≤ c.1.fmod 16 := Int.fmod_nonneg_of_pos _ (by decide)
    omega
theorem take_nil5 {F : List (Int × Nat)} (h : F.take 5 = []) : F.take 63 = [] := by
  cases F with
  | nil => rfl
  | cons a r => cases h
theorem take_ne5 {F : List (Int × Nat)} (h : F.take 5 ≠ []) : F.take 63 ≠ [] := by
  cases F with
  | nil => exact absurd rfl h
  | cons a r => intro e; cases e
theorem units_top {A : Around} (hU : A.units + 2000 < cLine) (κ : Ko) (hk : Nat.ble (koLen κ) 90 = true) : (around A κ).units + 1000 < cLine := by
  have := around_units A κ
  have := Nat.le_of_ble_eq_true hk
  omega
theorem law_top (w : World) (A : Around) (h₀ : Heap) (hA : Fit 300 A (kt1 w) h₀) (R : Result → Shared → Prop) (B t0 : Nat) (g : Array GenState) (d : Drawn) (os : OsState) (sl es : Nat) (F : List (Int × Nat)) (hS : F.length ≤ 10000) {mods : List Nat} (hU : A.units + 2000 < cLine)
   (D : Rep (kt1 w) h₀ mods h₀ B [(sl, listO (intV F) es), (128, obAt w 128)] [] 0)
   (hR : ∀ h1 t' co tc c5 c6 c7 c8 c9, After h₀ h1 mods [(sl, listO (intV F) es), (128, tabO2 co), (co, lamCodeO2 tc c5 c6 c7 c8 c9)] → R (.ok (.ret (.bool true))) ⟨h1, g, d, t', os⟩) :
   codeAny (PP w) A (.call (.ref 131) ⟨[.ref sl], []⟩) R ⟨h₀, g, d, t0, os⟩ := by
  obtain ⟨b1, b2, hw⟩ := parF_ex w
  have hFl : (intV F).length = F.length := by simp [intV]
  have hF5 : (intV F).take 5 = intV (F.take 5) := by unfold intV; rw [List.map_take]
  have hF63 : (intV F).take 63 = intV (F.take 63) := by unfold intV; rw [List.map_take]
  refine code_ent (D.kt_ (a := 131) (o := obAt w 131) (by kernel_rfl)) (fd := fdAt w 131) (by kernel_rfl) (by have := hA.room; omega) ?_
  refine Means.add0 ?_
  (refine segW (t0 := t0) (i := 0) 100000 [0, 3, 3, 3, 1, 1, 1] (Code.call (Value.builtin "list.__getitem__") { pos := [Value.ref sl, Value.ref (B + 7)] : Args }) D (by assumption) (by assumption) ?_; intro o11; refine ⟨by kernel_rfl, by kernel_rfl, by kernel_rfl, by kernel_rfl, by kernel_rfl, fun h11 D11 => ?_⟩)
  refine callW_of rfl ?_
  rw [mark_none]
  refine r_lsliceTo sl es (B + 7) 5 (t0 + 1) (intV F) (by omega) (D11.give [1, 0, 0, 0, 0, 0, 0, 0, 0, 1] (by kernel_rfl)) fun g1 na a1 => ?_
  rw [hF5] at a1
  obtain ⟨B2, E2⟩ := D11.backP [1, 0, 0, 0, 0, 0, 0, 0, 0, 1] [1, 3, 2, 4, 5, 6, 7, 8, 9, 0] ([(na, listO (intV (F.take 5)) 0), (B, fobj [ent w n_script t0 (.ref sl)] 1), (128, obAt w 128)] ++ cE6 B ++ [(sl, listO (intV F) es)]) (by kernel_rfl) a1 (by kernel_rfl)
  clear D11
  refine Means.add0 ?_
  (refine segLb (t0 := t0 + outI o11) (i := 0) 100000 [1, 1, 1, 1, 11] ((compS w 131 (eLC w) (.ref B2) (.ref (B2 + 1)) (B2 + 2) q_law B) ) E2 (by assumption) (by assumption) (by kernel_rfl) ?_; intro o12; refine ⟨by kernel_rfl, by kernel_rfl, by kernel_rfl, by kernel_rfl, fun h12 D12 => ?_⟩)
  obtain ⟨B3, E3⟩ := D12.partX [11, 10, 0, 12] [1, 2, 3, 4, 5, 6, 7, 8, 9] [(B2 + 1, listO [] 0), (B2, iterO "list_iterator" (.ref na) 0), (na, listO (intV (F.take 5)) 0), (B2 + 2, dictO [] 0)] ([(B, fobj [ent w n_script t0 (.ref sl)] 1), (128, obAt w 128)] ++ cE6 B ++ [(sl, listO (intV F) es)]) (by kernel_rfl) (by kernel_rfl)
  clear D12
  refine lc_start w _ h₀ mods (hA.ar _ (by kernel_rfl) (by kernel_rfl)) _ g d os B2 (B2 + 1) (B2 + 2) B na 0 (F.take 5) _ (by rw [List.length_take]; omega) _ _ _ E3 fun h4 B4 t4 ep4 Q dl4 dn4 hdl4 hQ E4 => ?_
  obtain ⟨B5, E5⟩ := E4.unpartX.pickE [0, 2, 3, 4, 5, 6, 7, 8, 9, 10, 11] ([(B2 + 1, listO (natV Q) ep4), (B2 + 2, dictO dl4 dn4)] ++ ([(B, fobj [ent w n_script t0 (.ref sl)] 1), (128, obAt w 128)] ++ cE6 B ++ [(sl, listO (intV F) es)])) rfl
  clear E4 E3
  have hQl : Q.length ≤ 5 := by have e := congrArg List.length hQ; rw [List.length_map, List.length_map, List.length_take] at e; omega
  have hQ23 : ∀ q ∈ Q, q.1 < 2304 := by
    intro q hq
    have : q.1 ∈ Q.map (·.1) := List.mem_map_of_mem hq
    rw [hQ] at this
    obtain ⟨c, _, e⟩ := List.mem_map.mp this
    have h1 : c.1.fmod 2304 < 2304 := Int.fmod_lt_of_pos _ (by decide)
    have h2 : 0 ≤ c.1.fmod 2304 := Int.fmod_nonneg_of_pos _ (by decide)
    omega
  refine Means.add0 ?_
  rcases hdl4 with ⟨hF0, rfl, rfl⟩ | ⟨hF0, kk, vv, rfl, rfl⟩ <;> (
  (first | (refine segW (t0 := t4) (i := 0) 100000 [3, 3, 2, 3, 0, 0, 3] (Code.call (Value.builtin "len") { pos := [Value.ref (B2 + 1)] : Args }) E5 (by assumption) (by assumption) ?_; intro o13; refine ⟨by kernel_rfl!, by kernel_rfl!, by kernel_rfl!, by kernel_rfl!, by kernel_rfl!, fun h13 D13 => ?_⟩) | (refine segW (t0 := t4) (i := 0) 100000 [3, 3, 2, 2, 2, 3, 0, 0, 3] (Code.call (Value.builtin "len") { pos := [Value.ref (B2 + 1)] : Args }) E5 (by assumption) (by assumption) ?_; intro o13; refine ⟨by kernel_rfl!, by kernel_rfl!, by kernel_rfl!, by kernel_rfl!, by kernel_rfl!, fun h13 D13 => ?_⟩))
  refine r_clen (B2 + 1) ep4 (natV Q) (by rw [natV_len]; omega) (D13.give [1] (by kernel_rfl)) fun x1 x2 => ?_
  rw [natV_len]
  obtain ⟨B6, E6⟩ := D13.pickE [0, 2, 3, 4, 5, 6, 7, 8, 9, 10, 11] ([(B2 + 1, listO (natV Q) ep4), (B, fobj [ent w n_script t0 (.ref sl), ent w n_cells t4 (.ref (B2 + 1))] 2)] ++ [(128, obAt w 128)] ++ cE6 B ++ [(sl, listO (intV F) es)] ++ [(B5, listO (natV (cst t4)) 0)]) (by kernel_rfl)
  clear D13 E5
  refine Means.add0 ?_
  (refine segW (t0 := x2) (i := 0) 100000 [11, 11, 11] (Code.call (Value.builtin "list.__getitem__") { pos := [Value.ref B5, Value.ref B6] : Args }) E6 (by assumption) (by assumption) ?_; intro o14; refine ⟨by kernel_rfl, by kernel_rfl, by kernel_rfl, by kernel_rfl, by kernel_rfl, fun h14 D14 => ?_⟩)
  refine callW_of rfl ?_
  rw [mark_none]
  refine r_lsliceFromA B5 0 B6 Q.length x1 (natV (cst t4)) (by show 3 ≤ 16777216; decide) (D14.give [0, 0, 0, 0, 0, 0, 0, 0, 0, 0, 1, 1] (by kernel_rfl)) fun g6 na2 a6 => ?_
  obtain ⟨B7, E7⟩ := D14.backP [0, 0, 0, 0, 0, 0, 0, 0, 0, 0, 1, 1] [2, 1, 3, 4, 5, 6, 7, 8, 9, 10, 11] ([(B2 + 1, listO (natV Q) ep4), (na2, listO ((natV (cst t4)).drop Q.length) 0), (B, fobj [ent w n_script t0 (.ref sl), ent w n_cells t4 (.ref (B2 + 1))] 2)] ++ [(128, obAt w 128)] ++ cE6 B ++ [(sl, listO (intV F) es)]) (by kernel_rfl) a6 (by kernel_rfl)
  clear D14 E6
  refine Means.add0 ?_
  (refine segW (t0 := x2 + outI o14) (i := 0) 100000 [1, 1, 2, 1] (Code.call (Value.builtin "list.__add__") { pos := [Value.ref (B2 + 1), Value.ref na2] : Args }) E7 (by assumption) (by assumption) ?_; intro o15; refine ⟨by kernel_rfl, by kernel_rfl, by kernel_rfl, by kernel_rfl, by kernel_rfl, fun h15 D15 => ?_⟩)
  refine callW_of rfl ?_
  rw [mark_none]
  refine r_ladd (B2 + 1) ep4 na2 0 (natV Q) ((natV (cst t4)).drop Q.length) (by rw [natV_len, List.length_drop, natV_len]; show _ + (3 - _) ≤ _; omega) (D15.give [1, 1] (by kernel_rfl)) fun g7 nc a7 => ?_
  have hC : natV Q ++ (natV (cst t4)).drop Q.length = natV (Q ++ (cst t4).drop Q.length) := by unfold natV; rw [List.map_append, List.map_drop]
  have hC3 : 3 ≤ (Q ++ (cst t4).drop Q.length).length ∧ (Q ++ (cst t4).drop Q.length).length ≤ 5 := by rw [List.length_append, List.length_drop]; show 3 ≤ _ + (3 - _) ∧ _ + (3 - _) ≤ 5; omega
  have hC23 : ∀ q ∈ Q ++ (cst t4).drop Q.length, q.1 < 2304 := by
    intro q hq
    rcases List.mem_append.mp hq with hq | hq
    · exact hQ23 q hq
    · have := List.mem_of_mem_drop hq
      simp only [cst, List.mem_cons, List.not_mem_nil, or_false] at this
      rcases this with rfl | rfl | rfl
      · show 2 < 2304; decide
      · show 0 < 2304; decide
      · show 2 < 2304; decide
  rw [hC] at a7
  generalize Q ++ (cst t4).drop Q.length = C at a7 hC3 hC23
  obtain ⟨B8, E8⟩ := D15.backP [1, 1] [2, 3, 4, 5, 6, 7, 8, 9, 10, 11] ([(nc, listO (natV C) 0), (B, fobj [ent w n_script t0 (.ref sl), ent w n_cells t4 (.ref (B2 + 1))] 2)] ++ [(128, obAt w 128)] ++ cE6 B ++ [(sl, listO (intV F) es)]) (by kernel_rfl) a7 (by kernel_rfl)
  clear D15 E7
  refine Means.add0 ?_
  (refine segLb (t0 := x2 + outI o14 + outI o15) (i := 0) 100000 [2, 2, 2, 1, 1, 1, 1, 11] ((compS w 131 (eLS w) (.ref B8) (.ref (B8 + 1)) (B8 + 2) q_law B) ) E8 (by assumption) (by assumption) (by kernel_rfl) ?_; intro o16; refine ⟨by kernel_rfl, by kernel_rfl, by kernel_rfl, by kernel_rfl, fun h16 D16 => ?_⟩)
  obtain ⟨B9, E9⟩ := D16.partX [11, 10, 0, 12] [1, 2, 3, 4, 5, 6, 7, 8, 9] [(B8 + 1, listO [] 0), (B8, iterO "list_iterator" (.ref nc) 0), (nc, listO (natV C) 0), (B8 + 2, dictO [] 0)] ([(B, fobj [ent w n_script t0 (.ref sl), ent w n_cells t4 (.ref nc)] 2), (128, obAt w 128)] ++ cE6 B ++ [(sl, listO (intV F) es)]) (by kernel_rfl) (by kernel_rfl)
  clear D16 E8
  refine ls_start w _ h₀ mods (hA.ar _ (by kernel_rfl) (by kernel_rfl)) _ g d os B8 (B8 + 1) (B8 + 2) B nc 0 C (by intro e; rw [e] at hC3; exact absurd hC3.1 (by decide)) _ (by omega) hC23 _ _ _ E9 fun h10 B10 t10 ep10 S dl10 dn10 hd10 hSm E10 => ?_
  obtain ⟨k10, v10, rfl, rfl⟩ := hd10
  obtain ⟨B11, E11⟩ := E10.unpartX.pickE [0, 2, 3, 4, 5, 6, 7, 8, 9, 10, 11] ([(B8 + 1, listO (txV S) ep10), (B8 + 2, dictO [ent w n_cell k10 v10] 1)] ++ ([(B, fobj [ent w n_script t0 (.ref sl), ent w n_cells t4 (.ref nc)] 2), (128, obAt w 128)] ++ cE6 B ++ [(sl, listO (intV F) es)])) rfl
  clear E10 E9
  refine Means.add0 ?_
  (refine segW (t0 := t10) (i := 0) 100000 [2, 2, 2] (Code.call (Value.builtin "str.join") { pos := [Value.str { cps := { toList := [] : Array Nat } : Str } (x2 + 1), Value.ref (B8 + 1)] : Args }) E11 (by assumption) (by assumption) ?_; intro o17; refine ⟨by kernel_rfl, by kernel_rfl, by kernel_rfl, by kernel_rfl, by kernel_rfl, fun h17 D17 => ?_⟩)
  refine callW_of rfl ?_
  rw [mark_none]
  have hSl : S.length ≤ 5 ∧ 3 ≤ S.length := by have e := congrArg List.length hSm; rw [List.length_map, List.length_map] at e; omega
  have hxt : joinL [] (S.map (·.1)) = textOf C := by rw [hSm]; exact textOf_eq C
  refine r_joinS [] (B8 + 1) _ ep10 S (by rw [hSm]; exact textOf_sum C S (by omega)) (D17.give [1] (by kernel_rfl)) fun y1 y2 => ?_
  rw [hxt]
  have hx35 := textOf_len C
  have hx256 := textOf_small C hC23
  obtain ⟨hX3, hX5⟩ : 3 ≤ (textOf C).length ∧ (textOf C).length ≤ 5 := by rw [hx35]; exact hC3
  generalize textOf C = x at hX3 hX5 hx256
  refine Means.add0 ?_
  (refine segL (t0 := y2) (i := 0) 100000 [3, 3, 0, 3, 0] ((.call (.ref 97) ⟨[.str ⟨⟨x⟩⟩ y1], []⟩) ) D17 (by assumption) (by assumption) ?_; intro o18; refine ⟨by kernel_rfl, by kernel_rfl, by kernel_rfl, by kernel_rfl, fun h18 D18 => ?_⟩)
  obtain ⟨f1, f2, f3, f4, f5⟩ := sent_facts x hX3 hX5 hx256
  have ht1 : 1 ≤ y2 + outI o18 := Nat.le_of_ble_eq_true (by kernel_rfl)
  refine codeAny_toks ?_
  refine quotedata w _ _ (Fit.inner hA D18 _ (by kernel_rfl) (by kernel_rfl)) _ _ _ g d os x y1 (by omega) (by omega) (by rw [f2]; omega) (D18.give [] (by kernel_rfl)) fun h19 ts t19 a19 ht19 => ?_
  have ht19 : 1 ≤ t19 := Nat.le_trans ht1 ht19
  rw [f2]
  obtain ⟨B19, E19⟩ := D18.backP [] [2, 3, 4, 5, 6, 7, 8, 9, 10] ([(B, fobj [ent w n_script t0 (.ref sl), ent w n_cells t4 (.ref nc), ent w n_text y2 (.str ⟨⟨x⟩⟩ y1)] 3), (128, obAt w 128)] ++ cE6 B ++ [(sl, listO (intV F) es)]) (by kernel_rfl) a19 (by kernel_rfl)
  clear D18 E11 D17
  refine Means.add0 ?_
  (refine segL (t0 := t19) (i := 0) 100000 [3, 3, 3, 0, 1, 0] ((.call (.ref 109) ⟨[.str ⟨⟨x⟩⟩ y1], []⟩) ) E19 (by assumption) (by assumption) ?_; intro o19; refine ⟨by kernel_rfl, by kernel_rfl, by kernel_rfl, by kernel_rfl, fun h19 D19 => ?_⟩)
  refine law_sent w _ _ (Fit.inner hA D19 _ (by kernel_rfl) (by kernel_rfl)) _ _ _ g d os x y1 (Nat.le_trans ht19 (Nat.le_add_right _ _)) (by omega) (D19.give [] (by kernel_rfl)) fun h20 t20 tk20 a20 => ?_
  obtain ⟨B20, E20⟩ := D19.backP [] [0, 1, 2, 3, 4, 5, 6, 7, 8] ([(B, fobj [ent w n_script t0 (.ref sl), ent w n_cells t4 (.ref nc), ent w n_text y2 (.str ⟨⟨x⟩⟩ y1)] 3), (128, obAt w 128), (B + 1, cellO (some (.str ⟨⟨lawSent x⟩⟩ ts)))] ++ cE5 B ++ [(sl, listO (intV F) es)]) (by kernel_rfl) a20 (by kernel_rfl)
  clear D19 E19
  refine Means.add0 ?_
  (refine segWb (t0 := t20) (i := 0) 100000 [] (Code.call (Value.builtin "str.__ne__") { pos := [Value.str { cps := { toList := lawSent x : Array Nat } : Str } ts, Value.str { cps := { toList := lawSent x : Array Nat } : Str } tk20] : Args }) E20 (by assumption) (by assumption) (by kernel_rfl) ?_; intro o20; refine ⟨by kernel_rfl, by kernel_rfl, by kernel_rfl, by kernel_rfl, by kernel_rfl, fun h20 D20 => ?_⟩)
  refine callW_of rfl ?_
  rw [mark_none]
  refine r_sne (lawSent x) (lawSent x) _ _ false (bne_self_eq_false _) ?_
  refine Means.add0 ?_
  (refine segW (t0 := t20 + outI o20) (i := 0) 100000 [0, 0, 3] (Code.call (Value.builtin "len") { pos := [Value.str { cps := { toList := lawSent x : Array Nat } : Str } ts] : Args }) D20 (by assumption) (by assumption) ?_; intro o21; refine ⟨by kernel_rfl, by kernel_rfl, by kernel_rfl, by kernel_rfl, by kernel_rfl, fun h21 D21 => ?_⟩)
  refine r_slen (lawSent x) ts (by omega) fun z1 z2 => ?_
  refine Means.add0 ?_
  (refine segW (t0 := z2) (i := 0) 100000 [4, 4, 0, 0, 1, 9, 9, 9] (Code.call (Value.builtin "list.__getitem__") { pos := [Value.ref sl, Value.ref B20] : Args }) D21 (by assumption) (by assumption) ?_; intro o22; refine ⟨by kernel_rfl, by kernel_rfl, by kernel_rfl, by kernel_rfl, by kernel_rfl, fun h22 D22 => ?_⟩)
  refine callW_of rfl ?_
  rw [mark_none]
  refine r_lsliceTo sl es B20 63 z2 (intV F) (by omega) (D22.give [0, 0, 0, 0, 0, 0, 0, 0, 1, 1] (by kernel_rfl)) fun g23 na3 a23 => ?_
  rw [hF63] at a23
  obtain ⟨B23, E23⟩ := D22.backP [0, 0, 0, 0, 0, 0, 0, 0, 1, 1] [1, 2, 3, 4, 5, 6, 7, 8, 9, 0] ([(na3, listO (intV (F.take 63)) 0)] ++ [(B, fobj [ent w n_script t0 (.ref sl), ent w n_cells t4 (.ref nc), ent w n_text y2 (.str ⟨⟨x⟩⟩ y1)] 3), (128, obAt w 128), (B + 1, cellO (some (.str ⟨⟨lawSent x⟩⟩ ts))), (B + 2, cellO (some (.int (.ofNat (lawSent x).length) z1))), (B + 3, cellO none), (B + 4, cellO none), (B + 5, cellO none), (B + 6, cellO none), (sl, listO (intV F) es)]) (by kernel_rfl) a23 (by kernel_rfl)
  clear D22 D21 D20 E20
  refine Means.add0 ?_
  (refine segLb (t0 := z2 + outI o22) (i := 0) 100000 [1, 1, 1, 1, 11] ((compS w 131 (eLM w) (.ref B23) (.ref (B23 + 1)) (B23 + 2) q_law B) ) E23 (by assumption) (by assumption) (by kernel_rfl) ?_; intro o24; refine ⟨by kernel_rfl, by kernel_rfl, by kernel_rfl, by kernel_rfl, fun h24 D24 => ?_⟩)
  obtain ⟨B24, E24⟩ := D24.partX [11, 10, 0, 12] [1, 2, 3, 4, 5, 6, 7, 8, 9] [(B23 + 1, listO [] 0), (B23, iterO "list_iterator" (.ref na3) 0), (na3, listO (intV (F.take 63)) 0), (B23 + 2, dictO [] 0)] [(B, fobj [ent w n_script t0 (.ref sl), ent w n_cells t4 (.ref nc), ent w n_text y2 (.str ⟨⟨x⟩⟩ y1)] 3), (128, obAt w 128), (B + 1, cellO (some (.str ⟨⟨lawSent x⟩⟩ ts))), (B + 2, cellO (some (.int (.ofNat (lawSent x).length) z1))), (B + 3, cellO none), (B + 4, cellO none), (B + 5, cellO none), (B + 6, cellO none), (sl, listO (intV F) es)] (by kernel_rfl) (by kernel_rfl)
  clear D24 E23
  refine lm_start w _ h₀ mods (hA.ar _ (by kernel_rfl) (by kernel_rfl)) _ g d os B23 (B23 + 1) (B23 + 2) B na3 0 (F.take 63) _ (by rw [List.length_take]; omega) _ _ _ E24 fun h25 B25 t25 ep25 M dl25 dn25 hdl25 hM E25 => ?_
  obtain ⟨B26, E26⟩ := E25.unpartX.pickE [0, 2, 3, 4, 5, 6, 7, 8, 9, 10, 11] ([(B23 + 1, listO (natV M) ep25), (B23 + 2, dictO dl25 dn25)] ++ [(B, fobj [ent w n_script t0 (.ref sl), ent w n_cells t4 (.ref nc), ent w n_text y2 (.str ⟨⟨x⟩⟩ y1)] 3), (128, obAt w 128), (B + 1, cellO (some (.str ⟨⟨lawSent x⟩⟩ ts))), (B + 2, cellO (some (.int (.ofNat (lawSent x).length) z1))), (B + 3, cellO none), (B + 4, cellO none), (B + 5, cellO none), (B + 6, cellO none), (sl, listO (intV F) es)]) rfl
  clear E25 E24
  refine Means.add0 ?_
  obtain ⟨hMl, hMb⟩ := mods_facts F M hM
  rcases hdl25 with ⟨hF1, rfl, rfl⟩ | ⟨hF1, k25, v25, rfl, rfl⟩ <;> first | exact absurd (take_nil5 hF0) hF1 | exact absurd hF1 (take_ne5 hF0) | (
  (first | (refine segW (t0 := t25) (i := 0) 100000 [2] (Code.call (Value.builtin "sum") { pos := [Value.ref (B23 + 1)] : Args }) E26 (by assumption) (by assumption) ?_; intro o26; refine ⟨by kernel_rfl!, by kernel_rfl!, by kernel_rfl!, by kernel_rfl!, by kernel_rfl!, fun h26 D26 => ?_⟩) | (refine segW (t0 := t25) (i := 0) 100000 [2, 2, 2] (Code.call (Value.builtin "sum") { pos := [Value.ref (B23 + 1)] : Args }) E26 (by assumption) (by assumption) ?_; intro o26; refine ⟨by kernel_rfl!, by kernel_rfl!, by kernel_rfl!, by kernel_rfl!, by kernel_rfl!, fun h26 D26 => ?_⟩))
  refine callW_of rfl ?_
  rw [mark_none]
  refine r_sum (Fit.inner (hA.less (m := 100) (by kernel_rfl)) D26 _ (by kernel_rfl) (by kernel_rfl)) (B23 + 1) ep25 M hMb (by omega) (D26.give [1] (by kernel_rfl)) fun h27 t27 tk27 a27 => ?_
  obtain ⟨B27, E27⟩ := D26.backP [1] [2, 3, 4, 5, 6, 7, 8, 9, 10] [(B, fobj [ent w n_script t0 (.ref sl), ent w n_cells t4 (.ref nc), ent w n_text y2 (.str ⟨⟨x⟩⟩ y1)] 3), (128, obAt w 128), (B + 1, cellO (some (.str ⟨⟨lawSent x⟩⟩ ts))), (B + 2, cellO (some (.int (.ofNat (lawSent x).length) z1))), (B + 3, cellO none), (B + 4, cellO none), (B + 5, cellO none), (B + 6, cellO none), (sl, listO (intV F) es)] (by kernel_rfl) a27 (by kernel_rfl)
  clear D26 E26
  refine Means.add0 ?_
  (refine segW (t0 := t27) (i := 0) 100000 [4] (Code.call (Value.builtin "int.__mod__") { pos := [Value.int (Int.ofNat (List.sum (List.map (fun x => x.fst) M))) tk27, Value.int (Int.ofNat (List.length (lawSent x))) z1] : Args }) E27 (by assumption) (by assumption) ?_; intro o28; refine ⟨by kernel_rfl, by kernel_rfl, by kernel_rfl, by kernel_rfl, by kernel_rfl, fun h28 D28 => ?_⟩)
  refine r_modN ((M.map (·.1)).sum) (lawSent x).length _ _ (by omega) fun m1 m2 => ?_
  generalize hturn : (M.map (·.1)).sum % (lawSent x).length = turn
  refine Means.add0 ?_
  (refine segWb (t0 := m2) (i := 0) 100000 [5, 5, 0, 0, 4, 1, 1, 10, 10, 1, 10, 10, 10, 10] (Code.call (Value.builtin "range.__iter__") { pos := [Value.ref B27] : Args }) D28 (by assumption) (by assumption) (by kernel_rfl) ?_; intro o29; refine ⟨by kernel_rfl, by kernel_rfl, by kernel_rfl, by kernel_rfl, by kernel_rfl, fun h29 D29 => ?_⟩)
  refine callW_of rfl ?_
  rw [mark_none]
  refine r_riter B27 0 ((lawSent x).length : Nat) m2 z1 (m2 + 1) (lawSent x).length (by omega) (by omega) (by omega) (D29.give [0, 0, 0, 0, 0, 0, 0, 0, 0, 1] (by kernel_rfl)) fun g30 it t30 a30 => ?_
  obtain ⟨B30, E30⟩ := D29.backP [0, 0, 0, 0, 0, 0, 0, 0, 0, 1] [1, 2, 3, 4, 5, 6, 7, 8, 9, 10] ([(it, ritO (0 : Nat) ((lawSent x).length : Nat))] ++ [(B, fobj [ent w n_script t0 (.ref sl), ent w n_cells t4 (.ref nc), ent w n_text y2 (.str ⟨⟨x⟩⟩ y1)] 3), (128, obAt w 128), (B + 1, cellO (some (.str ⟨⟨lawSent x⟩⟩ ts))), (B + 2, cellO (some (.int (.ofNat (lawSent x).length) z1))), (B + 3, cellO (some (.int (.ofNat turn) m1))), (B + 4, cellO none), (B + 5, cellO none), (B + 6, cellO none), (sl, listO (intV F) es)]) (by kernel_rfl) a30 (by kernel_rfl)
  clear D29 D28 E27
  refine Means.add0 ?_
  (refine segL (t0 := t30) (i := 0) 100000 [1] ((compXS w 131 (eLP w) (.ref it) (.ref B30) (B30 + 1) q_law [(⟨⟨n_turn⟩⟩, B + 3), (⟨⟨n_size⟩⟩, B + 2)] B) ) E30 (by assumption) (by assumption) ?_; intro o31; refine ⟨by kernel_rfl, by kernel_rfl, by kernel_rfl, by kernel_rfl, fun h31 D31 => ?_⟩)
  obtain ⟨B31, E31⟩ := D31.partX [10, 0, 11, 5, 4] [1, 2, 3, 6, 7, 8, 9] [(B30, listO [] 0), (it, ritO (0 : Nat) ((lawSent x).length : Nat)), (B30 + 1, dictO [] 0), (B + 3, cellO (some (.int (.ofNat turn) m1))), (B + 2, cellO (some (.int (.ofNat (lawSent x).length) z1)))] [(B, fobj [ent w n_script t0 (.ref sl), ent w n_cells t4 (.ref nc), ent w n_text y2 (.str ⟨⟨x⟩⟩ y1)] 3), (128, obAt w 128), (B + 1, cellO (some (.str ⟨⟨lawSent x⟩⟩ ts))), (B + 4, cellO none), (B + 5, cellO none), (B + 6, cellO none), (sl, listO (intV F) es)] (by kernel_rfl) (by kernel_rfl)
  clear D31 E30
  refine pc_start w _ h₀ mods (hA.ar _ (by kernel_rfl) (by kernel_rfl)) _ g d os it B30 (B30 + 1) B (B + 3) (B + 2) turn m1 (lawSent x).length z1 (by omega) (lawSent x).length (by omega) _ (by omega) _ _ _ E31 fun h33 B33 t33 ep33 PL dl33 dn33 hd33 hPL E33 => ?_
  obtain ⟨k33, v33, rfl, rfl⟩ := hd33
  obtain ⟨B34, E34⟩ := E33.unpartX.pickE [0, 1, 4, 5, 6, 3, 2, 7, 8, 9, 10] ([(B30, listO (natV PL) ep33), (B30 + 1, dictO [ent w n_kk k33 v33] 1), (B, fobj [ent w n_script t0 (.ref sl), ent w n_cells t4 (.ref nc), ent w n_text y2 (.str ⟨⟨x⟩⟩ y1)] 3), (128, obAt w 128), (B + 1, cellO (some (.str ⟨⟨lawSent x⟩⟩ ts))), (B + 2, cellO (some (.int (.ofNat (lawSent x).length) z1))), (B + 3, cellO (some (.int (.ofNat turn) m1))), (B + 4, cellO none), (B + 5, cellO none), (B + 6, cellO none), (sl, listO (intV F) es)]) rfl
  clear E33 E31
  refine Means.add0 ?_
  cases hasc : ascOf (lawSent x)
  · (refine segWb (t0 := t33) (i := 0) 100000 [3, 3, 2, 2, 2, 5] (Code.call (Value.builtin "str.__iter__") { pos := [Value.str { cps := { toList := lawSent x : Array Nat } : Str } ts] : Args }) E34 (by assumption) (by assumption) (by kernel_rfl) ?_; intro o35; refine ⟨by kernel_rfl, by kernel_rfl, by kernel_rfl, by kernel_rfl, by kernel_rfl, fun h35 D35 => ?_⟩)
    refine callW_of rfl ?_
    rw [mark_none]
    refine r_siterA (Fit.inner (hA.less (m := 100) (by kernel_rfl)) D35 _ (by kernel_rfl) (by kernel_rfl)) (lawSent x) ts false hasc (D35.give [] (by kernel_rfl)) fun h36 it2 t36 a36 => ?_
    obtain ⟨B36, E36⟩ := D35.backP [] [0, 3, 4, 5, 6, 7, 8, 9, 10, 11, 1] ([(it2, iterO "str_iterator" (.str ⟨⟨lawSent x⟩⟩ ts) 0)] ++ [(B, fobj [ent w n_script t0 (.ref sl), ent w n_cells t4 (.ref nc), ent w n_text y2 (.str ⟨⟨x⟩⟩ y1), ent w n_places t33 (.ref B30)] 4), (128, obAt w 128), (B + 1, cellO (some (.str ⟨⟨lawSent x⟩⟩ ts))), (B + 2, cellO (some (.int (.ofNat (lawSent x).length) z1))), (B + 3, cellO (some (.int (.ofNat turn) m1))), (B + 4, cellO none), (B + 5, cellO none), (B + 6, cellO none), (sl, listO (intV F) es), (B30, listO (natV PL) ep33)]) (by kernel_rfl) a36 (by kernel_rfl)
    clear D35 E34
    refine Means.add0 ?_
    (refine segL (t0 := t36) (i := 0) 100000 [1] ((compS w 131 (eLO w) (.ref it2) (.ref B36) (B36 + 1) q_law B) ) E36 (by assumption) (by assumption) ?_; intro o37; refine ⟨by kernel_rfl, by kernel_rfl, by kernel_rfl, by kernel_rfl, fun h37 D37 => ?_⟩)
    obtain ⟨B37, E37⟩ := D37.partX [11, 0, 12] [1, 2, 3, 4, 5, 6, 7, 8, 9, 10] [(B36, listO [] 0), (it2, iterO "str_iterator" (.str ⟨⟨lawSent x⟩⟩ ts) 0), (B36 + 1, dictO [] 0)] [(B, fobj [ent w n_script t0 (.ref sl), ent w n_cells t4 (.ref nc), ent w n_text y2 (.str ⟨⟨x⟩⟩ y1), ent w n_places t33 (.ref B30)] 4), (128, obAt w 128), (B + 1, cellO (some (.str ⟨⟨lawSent x⟩⟩ ts))), (B + 2, cellO (some (.int (.ofNat (lawSent x).length) z1))), (B + 3, cellO (some (.int (.ofNat turn) m1))), (B + 4, cellO none), (B + 5, cellO none), (B + 6, cellO none), (sl, listO (intV F) es), (B30, listO (natV PL) ep33)] (by kernel_rfl) (by kernel_rfl)
    clear D37 E36
    refine lp_start w _ h₀ mods (hA.ar _ (by kernel_rfl) (by kernel_rfl)) _ g d os it2 B36 (B36 + 1) B ts (lawSent x) (by intro e; rw [e] at f3; exact absurd f3 (by decide)) _ (by omega) _ _ _ E37 fun h38 B38 t38 ep38 QL dl38 dn38 hd38 hQL E38 => ?_
    obtain ⟨k38, v38, rfl, rfl⟩ := hd38
    obtain ⟨B39, E39⟩ := E38.unpartX.pickE [0, 1, 2, 3, 4, 5, 6, 7, 8, 9, 10, 11] ([(B36, listO (natV QL) ep38), (B36 + 1, dictO [ent w n_sgn k38 v38] 1)] ++ [(B, fobj [ent w n_script t0 (.ref sl), ent w n_cells t4 (.ref nc), ent w n_text y2 (.str ⟨⟨x⟩⟩ y1), ent w n_places t33 (.ref B30)] 4), (128, obAt w 128), (B + 1, cellO (some (.str ⟨⟨lawSent x⟩⟩ ts))), (B + 2, cellO (some (.int (.ofNat (lawSent x).length) z1))), (B + 3, cellO (some (.int (.ofNat turn) m1))), (B + 4, cellO none), (B + 5, cellO none), (B + 6, cellO none), (sl, listO (intV F) es), (B30, listO (natV PL) ep33)]) rfl
    clear E37 E38
    refine Means.add0 ?_
    (refine segLb (t0 := t38) (i := 0) 100000 [3, 3, 2, 2, 2, 13, 13, 1, 13, 14] ((llC w (B39 + 1) B (B + 1) (B + 2) (B + 3) (B + 4) (B + 5) (B + 6)) ) E39 (by assumption) (by assumption) (by kernel_rfl) ?_; intro o40; refine ⟨by kernel_rfl, by kernel_rfl, by kernel_rfl, by kernel_rfl, fun h40 D40 => ?_⟩)
    obtain ⟨B40, E40⟩ := D40.partX [2, 13, 12, 4, 5, 7, 8, 9, 11, 0, 3] [10] [(B, lF w (fun n => match n with | 0 => t0 | 1 => t4 | 2 => y2 | 3 => t33 | _ => t38) sl nc (.str ⟨⟨x⟩⟩ y1) B30 B36 [] 5), (B39 + 1, iterO "list_iterator" (.ref B39) 0), (B39, listO (natV (reachL t38)) 0), (B + 1, cellO (some (.str ⟨⟨lawSent x⟩⟩ ts))), (B + 2, cellO (some (.int (.ofNat (lawSent x).length) z1))), (B + 4, cellO none), (B + 5, cellO none), (B + 6, cellO none), (B30, listO (natV PL) ep33), (B36, listO (natV QL) ep38), (128, obAt w 128)] [(sl, listO (intV F) es)] (by kernel_rfl) (by kernel_rfl)
    clear D40 E39
    refine ll_all w _ h₀ mods (hA.ar _ (by kernel_rfl) (by kernel_rfl)) _ g d os B (B39 + 1) B39 0 (B + 1) (B + 2) (B + 3) (B + 4) (B + 5) (B + 6) sl nc B30 ep33 ts z1 t38 (.str ⟨⟨x⟩⟩ y1) (lawSent x) f4 f3 f5 PL (by rw [hPL]; exact places_perm _ _ (by omega)) (fun n => match n with | 0 => t0 | 1 => t4 | 2 => y2 | 3 => t33 | _ => t38) B36 ep38 QL (by rw [hQL, List.map_id']) (units_top hU _ (by kernel_rfl)) _ _ _ _ E40 fun h41 B41 t41 co tc c5 c6 c7 c8 c9 E41 => ?_
    obtain ⟨B42, E42⟩ := E41.unpartX.pickE [2, 0, 1] [(sl, listO (intV F) es), (128, tabO2 co), (co, lamCodeO2 tc c5 c6 c7 c8 c9)] rfl
    clear E40 E41
    refine Means.add0 ?_
    (refine segF (t0 := t41) (i := 0) 100000 [] ((Fin.done (Flow.ret (.bool true))) ) E42 (by assumption) (by assumption) ?_; intro o42; refine ⟨by kernel_rfl, by kernel_rfl, by kernel_rfl, fun h42 D42 => ?_⟩)
    exact hR _ _ co tc c5 c6 c7 c8 c9 (D42.finP [0, 1, 2] (by kernel_rfl))
  · (refine segWb (t0 := t33) (i := 0) 100000 [3, 3, 2, 2, 2, 5] (Code.call (Value.builtin "str.__iter__") { pos := [Value.str { cps := { toList := lawSent x : Array Nat } : Str } ts] : Args }) E34 (by assumption) (by assumption) (by kernel_rfl) ?_; intro o35; refine ⟨by kernel_rfl, by kernel_rfl, by kernel_rfl, by kernel_rfl, by kernel_rfl, fun h35 D35 => ?_⟩)
    refine callW_of rfl ?_
    rw [mark_none]
    refine r_siterA (Fit.inner (hA.less (m := 100) (by kernel_rfl)) D35 _ (by kernel_rfl) (by kernel_rfl)) (lawSent x) ts true hasc (D35.give [] (by kernel_rfl)) fun h36 it2 t36 a36 => ?_
    obtain ⟨B36, E36⟩ := D35.backP [] [0, 3, 4, 5, 6, 7, 8, 9, 10, 11, 1] ([(it2, iterO "str_ascii_iterator" (.str ⟨⟨lawSent x⟩⟩ ts) 0)] ++ [(B, fobj [ent w n_script t0 (.ref sl), ent w n_cells t4 (.ref nc), ent w n_text y2 (.str ⟨⟨x⟩⟩ y1), ent w n_places t33 (.ref B30)] 4), (128, obAt w 128), (B + 1, cellO (some (.str ⟨⟨lawSent x⟩⟩ ts))), (B + 2, cellO (some (.int (.ofNat (lawSent x).length) z1))), (B + 3, cellO (some (.int (.ofNat turn) m1))), (B + 4, cellO none), (B + 5, cellO none), (B + 6, cellO none), (sl, listO (intV F) es), (B30, listO (natV PL) ep33)]) (by kernel_rfl) a36 (by kernel_rfl)
    clear D35 E34
    refine Means.add0 ?_
    (refine segL (t0 := t36) (i := 0) 100000 [1] ((compS w 131 (eLO w) (.ref it2) (.ref B36) (B36 + 1) q_law B) ) E36 (by assumption) (by assumption) ?_; intro o37; refine ⟨by kernel_rfl, by kernel_rfl, by kernel_rfl, by kernel_rfl, fun h37 D37 => ?_⟩)
    obtain ⟨B37, E37⟩ := D37.partX [11, 0, 12] [1, 2, 3, 4, 5, 6, 7, 8, 9, 10] [(B36, listO [] 0), (it2, iterO "str_ascii_iterator" (.str ⟨⟨lawSent x⟩⟩ ts) 0), (B36 + 1, dictO [] 0)] [(B, fobj [ent w n_script t0 (.ref sl), ent w n_cells t4 (.ref nc), ent w n_text y2 (.str ⟨⟨x⟩⟩ y1), ent w n_places t33 (.ref B30)] 4), (128, obAt w 128), (B + 1, cellO (some (.str ⟨⟨lawSent x⟩⟩ ts))), (B + 2, cellO (some (.int (.ofNat (lawSent x).length) z1))), (B + 3, cellO (some (.int (.ofNat turn) m1))), (B + 4, cellO none), (B + 5, cellO none), (B + 6, cellO none), (sl, listO (intV F) es), (B30, listO (natV PL) ep33)] (by kernel_rfl) (by kernel_rfl)
    clear D37 E36
    refine lo_start w _ h₀ mods (hA.ar _ (by kernel_rfl) (by kernel_rfl)) _ g d os it2 B36 (B36 + 1) B ts (lawSent x) (by intro e; rw [e] at f3; exact absurd f3 (by decide)) _ (by omega) _ _ _ E37 fun h38 B38 t38 ep38 QL dl38 dn38 hd38 hQL E38 => ?_
    obtain ⟨k38, v38, rfl, rfl⟩ := hd38
    obtain ⟨B39, E39⟩ := E38.unpartX.pickE [0, 1, 2, 3, 4, 5, 6, 7, 8, 9, 10, 11] ([(B36, listO (natV QL) ep38), (B36 + 1, dictO [ent w n_sgn k38 v38] 1)] ++ [(B, fobj [ent w n_script t0 (.ref sl), ent w n_cells t4 (.ref nc), ent w n_text y2 (.str ⟨⟨x⟩⟩ y1), ent w n_places t33 (.ref B30)] 4), (128, obAt w 128), (B + 1, cellO (some (.str ⟨⟨lawSent x⟩⟩ ts))), (B + 2, cellO (some (.int (.ofNat (lawSent x).length) z1))), (B + 3, cellO (some (.int (.ofNat turn) m1))), (B + 4, cellO none), (B + 5, cellO none), (B + 6, cellO none), (sl, listO (intV F) es), (B30, listO (natV PL) ep33)]) rfl
    clear E37 E38
    refine Means.add0 ?_
    (refine segLb (t0 := t38) (i := 0) 100000 [3, 3, 2, 2, 2, 13, 13, 1, 13, 14] ((llC w (B39 + 1) B (B + 1) (B + 2) (B + 3) (B + 4) (B + 5) (B + 6)) ) E39 (by assumption) (by assumption) (by kernel_rfl) ?_; intro o40; refine ⟨by kernel_rfl, by kernel_rfl, by kernel_rfl, by kernel_rfl, fun h40 D40 => ?_⟩)
    obtain ⟨B40, E40⟩ := D40.partX [2, 13, 12, 4, 5, 7, 8, 9, 11, 0, 3] [10] [(B, lF w (fun n => match n with | 0 => t0 | 1 => t4 | 2 => y2 | 3 => t33 | _ => t38) sl nc (.str ⟨⟨x⟩⟩ y1) B30 B36 [] 5), (B39 + 1, iterO "list_iterator" (.ref B39) 0), (B39, listO (natV (reachL t38)) 0), (B + 1, cellO (some (.str ⟨⟨lawSent x⟩⟩ ts))), (B + 2, cellO (some (.int (.ofNat (lawSent x).length) z1))), (B + 4, cellO none), (B + 5, cellO none), (B + 6, cellO none), (B30, listO (natV PL) ep33), (B36, listO (natV QL) ep38), (128, obAt w 128)] [(sl, listO (intV F) es)] (by kernel_rfl) (by kernel_rfl)
    clear D40 E39
    refine ll_all w _ h₀ mods (hA.ar _ (by kernel_rfl) (by kernel_rfl)) _ g d os B (B39 + 1) B39 0 (B + 1) (B + 2) (B + 3) (B + 4) (B + 5) (B + 6) sl nc B30 ep33 ts z1 t38 (.str ⟨⟨x⟩⟩ y1) (lawSent x) f4 f3 f5 PL (by rw [hPL]; exact places_perm _ _ (by omega)) (fun n => match n with | 0 => t0 | 1 => t4 | 2 => y2 | 3 => t33 | _ => t38) B36 ep38 QL (by rw [hQL, List.map_id']) (units_top hU _ (by kernel_rfl)) _ _ _ _ E40 fun h41 B41 t41 co tc c5 c6 c7 c8 c9 E41 => ?_
    obtain ⟨B42, E42⟩ := E41.unpartX.pickE [2, 0, 1] [(sl, listO (intV F) es), (128, tabO2 co), (co, lamCodeO2 tc c5 c6 c7 c8 c9)] rfl
    clear E40 E41
    refine Means.add0 ?_
    (refine segF (t0 := t41) (i := 0) 100000 [] ((Fin.done (Flow.ret (.bool true))) ) E42 (by assumption) (by assumption) ?_; intro o42; refine ⟨by kernel_rfl, by kernel_rfl, by kernel_rfl, fun h42 D42 => ?_⟩)
    exact hR _ _ co tc c5 c6 c7 c8 c9 (D42.finP [0, 1, 2] (by kernel_rfl))))
end Mine
end
section
open PySem PySem.W PySem.Calls PyProof.Rows
set_option Elab.async false
set_option maxRecDepth 100000
namespace Mine
theorem ints_list {vs : List Value} {ns : List Int} (h : IntsAre vs ns) : ∃ F : List (Int × Nat), vs = intV F ∧ F.length = ns.length := by
  induction h with
  | nil => exact ⟨[], rfl, rfl⟩
  | cons n t _ ih =>
    obtain ⟨F, e, l⟩ := ih
    exact ⟨(n, t) :: F, by rw [e]; rfl, by rw [List.length_cons, List.length_cons, l]⟩
theorem kt1_top {w : World} {h : Heap} (H : PySem.W.X.KT.Holds h 1 0 (zaux.ktop_262 w.params)) {a : Nat} {o : Obj} (e : kt1 w a = some o) : h.get? a = some o ∧ a ∉ [132, 128] := by
  unfold kt1 at e
  split at e
  · cases e
  · rename_i q
    refine ⟨PySem.W.X.kt_at H e, fun hm => ?_⟩
    rcases List.mem_cons.mp hm with rfl | hm
    · have z : (zaux.ktop_262 w.params).get 132 = none := by kernel_rfl
      rw [z] at e; cases e
    · rcases List.mem_cons.mp hm with rfl | hm
      · exact absurd q (by decide)
      · cases hm
noncomputable def fldOf (o : Obj) : Array Value := match o.data with
  | .fields vs => vs
  | _ => #[]
theorem law_end (w : World) (s : Shared) (K : PySem.W.X.KT) (eK : K = zaux.ktop_262 w.params) (H : PySem.W.X.KT.Holds s.heap 1 0 K) {vs : List Value} {ns : List Int} (hi : IntsAre vs ns) (hn : ns.length ≤ 10000)
    (ho : s.heap.get? 132 = some { cls := .type "list", data := .seq vs.toArray }) (hl : s.heap.NoLimit) (hg : s.gens = #[])
    {c : ClaimW} {cl : Str → Option Addr} {mean : ExcName → Option Value} {args : List WData} (hr : ∀ x, c.raises args x = false) (hp : c.post args (.bool true) args = true) :
    wpAny (PP w) callerA (PySem.call (.ref 131) [.ref 132]) (fun v s' => GoodWG c cl mean args s (.ok (.ret v)) s') (fun e s' => GoodWG c cl mean args s (.error e) s') s := by
  subst eK
  obtain ⟨h, g, d, t, os⟩ := s
  obtain ⟨F, rfl, hF⟩ := ints_list hi
  replace ho : h.get? 132 = some (listO (intV F) 0) := ho
  have h128 : h.get? 128 = some (obAt w 128) := PySem.W.X.kt_at H (by kernel_rfl)
  have hA : Fit 300 callerA (kt1 w) h := ⟨rfl, by decide, hl, ⟨_, show kt1 w cStatics = some (obAt w cStatics) by kernel_rfl⟩⟩
  have D : Rep (kt1 w) h ([(132, listO (intV F) 0), (128, obAt w 128)].map (·.1)) h h.objs.size [(132, listO (intV F) 0), (128, obAt w 128)] [] 0 :=
    Rep.start [(132, listO (intV F) 0), (128, obAt w 128)] [] (fun p hq => by
      rcases List.mem_cons.mp hq with rfl | hq
      · exact ho
      · rcases List.mem_cons.mp hq with rfl | hq
        · exact h128
        · cases hq) (show [132, 128].Nodup by decide) (fun a o e => kt1_top H e)
  refine enter_call (law_top w callerA h hA _ _ t g d os 132 0 F (by omega) (by decide) D fun h1 t' co tc c5 c6 c7 c8 c9 a => ?_)
  refine ⟨.inl ⟨_, _, [], rfl, hr, ReadsW.bool true, hp, fun _ => ⟨List.nodup_nil, fun _ hm => (nomatch hm)⟩⟩, ⟨fun b o e => ?_, fun b o e => ?_⟩, rfl, by rw [show g = #[] from hg]; exact AllBare.empty⟩
  · by_cases h1' : b = 132
    · subst h1'
      have e' : h.get? 132 = some o := e
      rw [ho] at e'; cases e'
      exact .inl (a.out (132, listO (intV F) 0) (by simp))
    · by_cases h2 : b = 128
      · subst h2
        have e' : h.get? 128 = some o := e
        rw [h128] at e'; cases e'
        have hc : h.get? 130 = some (obAt w 130) := PySem.W.X.kt_at H (by kernel_rfl)
        have e1 : (obAt w 128).cls = .none := by kernel_rfl
        have e2 : (obAt w 128).data = .fields ⟨[]⟩ := by kernel_rfl
        have e3 : some (tabO2 co) = some { obAt w 128 with data := .fields (⟨[]⟩ ++ ⟨[.int 112 0, .int 69 0, .ref co]⟩) } := by kernel_rfl
        have e4 : (obAt w 130).cls = .type "code" := by kernel_rfl
        have e5 : (obAt w 130).data = .fields (fldOf (obAt w 130)) := by kernel_rfl
        have e6 : (fldOf (obAt w 130))[11]? = some (.ref 128) := by kernel_rfl
        exact .inr (.inl ⟨⟨130, _, _, hc, e4, e5, e6⟩, e1, _, _, e2, (a.out (128, tabO2 co) (by simp)).trans e3⟩)
      · exact .inl (a.keep b o e (by simp [h1', h2]))
  · by_cases h1' : b = 132
    · subst h1'
      exact ⟨_, a.out (132, listO (intV F) 0) (by simp)⟩
    · by_cases h2 : b = 128
      · subst h2
        exact ⟨_, a.out (128, tabO2 co) (by simp)⟩
      · exact ⟨o, a.keep b o e (by simp [h1', h2])⟩
end Mine
end
section
open PySem PySem.W PySem.Calls PyProof.Rows
set_option Elab.async false
set_option maxRecDepth 100000 in
set_option maxHeartbeats 0 in
theorem PySem.Challenge.cw_rw0012_02_holds : PySem.Challenge.rw_rw0012_02.Holds := by
  w_on; o_law; z_head; (case hw => w_witness2)
  k_fill
  intro w s₀ s₁ mg mb G y fa o pm cd doc dV kV ho hd hcd hD hmg hg args vals as L hpre hlay hrd hwl hlo
  z_open y L KX ZH ZN ZT
  refine Ground.open G ?_
  intro T B D TE TW
  wrow_args hpre hlay hrd hwl hlo
  obtain ⟨hat, hsz⟩ := PySem.W.X.script_at L
  rw [ZN] at hat hsz
  subst hat
  x_fa T KX hmg
  all_lens
  rename_i hi hb
  exact Mine.law_end w s₁ _ (by kernel_rfl) ZH hi (by omega) (PySem.W.X.script_obj L (by assumption)) T.nolimit hg (fun _ => rfl) (by wrow_post)
end
