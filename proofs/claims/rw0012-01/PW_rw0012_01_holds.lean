import PyProof.Rows.All
import Wide.All
import OpenK.AllK
import Wide.FinOn
import Lean
import PySem.Challenge.RW_rw0012_01
section
open PySem PySem.W PySem.Calls PyProof.Rows
set_option Elab.async false
set_option maxRecDepth 100000
namespace Mine
/-- the world's params, two rows of the text told -/
def parF (w : World) (b1 b2 : Bool) : Params := { w.params with followText := fun r => match Nat.beq (PySem.code r) 10139888712337904147300001983332972444938612 with
  | true => b1
  | false => match Nat.beq (PySem.code r) 2510650655181157320538776789020469319833841985448949215332 with
    | true => b2
    | false => w.params.followText r }
theorem parF_ex (w : World) : ∃ b1 b2, w.params = parF w b1 b2 := by
  refine ⟨w.params.followText "special-get-raises", w.params.followText "comprehension-iter-twice", ?_⟩
  have key : (fun r => match Nat.beq (PySem.code r) 10139888712337904147300001983332972444938612 with
    | true => w.params.followText "special-get-raises"
    | false => match Nat.beq (PySem.code r) 2510650655181157320538776789020469319833841985448949215332 with
      | true => w.params.followText "comprehension-iter-twice"
      | false => w.params.followText r) = w.params.followText := by
    funext r
    split
    · rename_i e
      rw [PySem.code_inj r "special-get-raises" ((Nat.eq_of_beq_eq_true e).trans (by decide +kernel))]
    · split
      · rename_i e
        rw [PySem.code_inj r "comprehension-iter-twice" ((Nat.eq_of_beq_eq_true e).trans (by decide +kernel))]
      · rfl
  unfold parF
  rw [key]
noncomputable def denF : Code → Sem PySem.Fin := PySem.W.Fast.tw11892475500146522536 PySem.W.Fast.tw14364793385576792824
theorem denF_eq (c : Code) : denF c = denote table c := by
  unfold denF
  rw [← PySem.W.Fast.te11892475500146522536, ← PySem.W.Fast.te14364793385576792824, ← PySem.table_eq_tree]
def compiledOf (fd : FuncData) : Sem Str := match fd.code with
  | .none => pure fd.qualname
  | c => field c 1 >>= fun v => match v with
    | .str q _ => pure q
    | _ => pure fd.qualname
def envPre (self : Addr) (fd : FuncData) (args : Args) : Sem Env :=
  compiledOf fd >>= fun compiled => bindArgs fd args >>= fun b => newFunctionEnv fd.scope fd.globals fd.closure b (compiled ++ ".<locals>.") (some self) fd.code none fd.builtins
def bodyCode (fd : FuncData) (env : Env) : Code := match fd.body with
  | .stmts b => .func b env
  | .expr e => .expr e env
def callPre (self : Addr) (fd : FuncData) (args : Args) : Sem PySem.Fin := envPre self fd args >>= fun env => pure (.again (bodyCode fd env))
noncomputable def callPreF (self : Addr) (fd : FuncData) (args : Args) : Sem PySem.Fin := PySem.W.R.bindR (PySem.W.R.bindR (match fd.code with
    | .none => Sem.pure fd.qualname
    | c => PySem.W.R.bindR (PySem.W.Fast.tw6609576154772507232 c 1) fun v => match v with
      | .str q _ => Sem.pure q
      | _ => Sem.pure fd.qualname) fun compiled => PySem.W.R.bindR (PySem.W.Fast.tw9782568553167038054 fd args) fun b =>
      PySem.W.Fast.tw11113344188204177931 fd.scope fd.globals fd.closure b (compiled ++ ⟨#[46, 60, 108, 111, 99, 97, 108, 115, 62, 46]⟩) (some self) fd.code none fd.builtins) fun env => Sem.pure (.again (bodyCode fd env))
theorem callPreF_eq (self : Addr) (fd : FuncData) (args : Args) : callPre self fd args = callPreF self fd args := by
  unfold callPreF
  rw [← PySem.W.Fast.te6609576154772507232, ← PySem.W.Fast.te9782568553167038054, ← PySem.W.Fast.te11113344188204177931, ← PySem.W.R.bindR_eq]
  unfold callPre envPre compiledOf
  have e : (".<locals>." : Str) = ⟨#[46, 60, 108, 111, 99, 97, 108, 115, 62, 46]⟩ := by decide +kernel
  rw [e]
  cases fd.code <;> rfl
section
variable {prog : Program} {w : World} {A : Around} {s : Shared} {R : Result → Shared → Prop}
theorem wpAny_unmap {α β : Type} {M : Model} {m : Sem α} {f : α → β} {Q : β → Shared → Prop} {E : Value → Shared → Prop} (h : wpAny M A (m >>= fun a => pure (f a)) Q E s) : wpAny M A m (fun a s' => Q (f a) s') E s := fun Γ p hΓ => by
  have z := h Γ p hΓ
  rw [Sem.wp_bind'] at z
  exact z
theorem under_call (f : Value) (args : Args) : A.under (.call f args) = A.in1 := Around.under_plain rfl rfl
theorem enter {a : Addr} {args : Args} {fd : FuncData} {o : Obj} (ho : s.heap.get? a = some o) (hd : o.data = .func fd) (hco : fd.scope.isCoroutine = false) (hgen : fd.scope.isGenerator = false) (hroom : A.depth < recursionLimit)
    (h : wpAny (model prog w) A.in1 (callPreF a fd args) (fun fin s' => s'.heap.NoLimit ∧ ∃ c, fin = .again c ∧ codeAny (model prog w) A c R s') (fun e s' => R (.error e) s') s) : codeAny (model prog w) A (.call (.ref a) args) R s := by
  rw [← callPreF_eq] at h
  refine codeAny_of_tree ?_
  rw [under_call]
  show wpAny _ A.in1 (callAny (.ref a) args) _ _ s
  simp only [callAny]
  refine wpAny_bind (wpAny_load ho ?_)
  have h' := wpAny_unmap h
  simp only [hd, callFunction, hco, hgen]
  have e : ∀ {β : Type} (k : Env → Sem β), (envPre a fd args >>= k) = (match fd.code with
      | .none => (pure fd.qualname >>= fun compiled => bindArgs fd args >>= fun b => newFunctionEnv fd.scope fd.globals fd.closure b (compiled ++ ".<locals>.") (some a) fd.code none fd.builtins >>= k)
      | c => field c 1 >>= fun v => match v with
        | .str q _ => (pure q >>= fun compiled => bindArgs fd args >>= fun b => newFunctionEnv fd.scope fd.globals fd.closure b (compiled ++ ".<locals>.") (some a) fd.code none fd.builtins >>= k)
        | _ => (pure fd.qualname >>= fun compiled => bindArgs fd args >>= fun b => newFunctionEnv fd.scope fd.globals fd.closure b (compiled ++ ".<locals>.") (some a) fd.code none fd.builtins >>= k)) := by
    intro β k
    unfold envPre compiledOf
    simp only [bind_assoc]
    cases fd.code <;> first | rfl | (simp only [bind_assoc]; exact congrArg (fun f => field _ 1 >>= f) (funext fun v => by cases v <;> rfl))
  refine Eq.mp (congrArg (fun t => wpAny _ _ t _ _ _) (e _)) (wpAny_bind (wpAny_mono h' (fun env s' hq => ?_) fun _ _ x => x))
  obtain ⟨hl, c, hc, hq⟩ := hq
  refine wpAny_bind (wpAny_enterFrame hl hroom ?_)
  have hc' : bodyCode fd env = c := by injection hc
  subst hc'
  unfold bodyCode at hq
  cases hb : fd.body with
  | stmts b =>
    rw [hb] at hq
    exact wpAny_pure ⟨rfl, hq⟩
  | expr b =>
    rw [hb] at hq
    exact wpAny_pure ⟨rfl, hq⟩
theorem nolimit_of {h h' : Heap} {o : Obj} (hl : h.NoLimit) (e : h.get? cStatics = some o) (e' : h'.get? cStatics = some o) : h'.NoLimit := by
  obtain ⟨mc, ⟨o', es, ep, ho, r⟩, q⟩ := hl
  rw [e] at ho
  cases ho
  exact ⟨mc, ⟨o, es, ep, e', r⟩, q⟩
end
abbrev Led := List (Nat × Obj)
inductive Ko where
  | base
  | ret (c : Code) (hd : Option Value) (k : Result → Sem PySem.Fin) (κ : Ko)
  | ent (c : Code) (hd : Option Value) (k : Result → Sem PySem.Fin) (κ : Ko)
def heavyCodes : List Nat := [34499367154392582205858141376228982027121, 34164448288149642993773345803874539172721,   41713647484787628016756169579347595088799214957185973757273994097,   12369428779728249227399558650715630352068172622795137766105109525361,   13135363763299149819713508091208256009915499152888943479603615862885305602306929,   134773370390801707486122961109026632561, 7635746451779523968930960996981,   584958510856511464163813338410413926551395137123, 584958510856511464163809768301352877099613582947,   35714603318786955769505017188, 156123978601183140355106303843654202225,   37564162793919708992381476189232641419592844622984049, 9881949375840847474946302621387311203773037,   1954752953420486509667839219168885, 7635753724298775428390248016485, 658817450924308401064253573046708910614593500789,   2573505667673079691657240519713706682339322469,   43592447540305469358370481499844552983096817498256421391241517478836374958180,   1021693785636180792737260203462157464436348982798866235732916349039868711966808030306567044558948,   154871484668836492056588310830118406032176422784262015565000804,   665167961735618123754410473233558780167118329806981834906542116191697525,   604966736987642547096074689277415338072900099183282143523655,   154871484668836492056590666180893923152961128035820300714079847,   154871337164622183513601241057978931394509986674757276630218343,   36058833123807575479230170713117671936755512554912355, 2261905352834615600296328879592681485515455075,   32795239814362956761459727732316633922147, 8395581392478422324905090493686286438988387,   37948474676066309310571488023553429297651664247157856, 2417225208155624053365260280651445300763128928]
theorem heavyCodes_eq : heavyCodes = (heavyIds ++ guardIds).map PySem.code := by decide +kernel
def heavyF (id : String) : Bool := heavyCodes.any (Nat.beq (PySem.code id))
theorem heavy_not {id : String} (h : heavyF id = false) : heavyIds.contains id = false ∧ guardIds.contains id = false := by
  have key : ∀ x ∈ heavyIds ++ guardIds, x ≠ id := fun x hx e => by
    have : heavyCodes.any (Nat.beq (PySem.code id)) = true := by
      rw [heavyCodes_eq, List.any_map]
      exact List.any_eq_true.mpr ⟨x, hx, by rw [e]; exact Nat.beq_refl _⟩
    rw [heavyF] at h
    rw [this] at h
    cases h
  constructor
  · cases q : heavyIds.contains id with
    | false => rfl
    | true => exact absurd rfl (key id (List.mem_append_left _ (List.contains_iff_mem.mp q)))
  · cases q : guardIds.contains id with
    | false => rfl
    | true => exact absurd rfl (key id (List.mem_append_right _ (List.contains_iff_mem.mp q)))
theorem light_weight {id : String} (h : heavyF id = false) (args : Args) : (Code.builtin id args).weight = 0 := by
  obtain ⟨h1, h2⟩ := heavy_not h
  have hg : (Code.builtin id args).isGuard = false := h2
  simp only [heavyIds, List.contains_cons, List.contains_nil, Bool.or_false, Bool.or_eq_false_iff, beq_eq_false_iff_ne, ne_eq] at h1
  have hf : (Code.builtin id args).frames = 0 := by
    unfold Code.frames
    split <;> first | rfl | simp_all [Code.isFrame]
  have hc : (Code.builtin id args).isCreation = false := by
    unfold Code.isCreation
    split <;> first | rfl | simp_all
  have hk : (Code.builtin id args).isCaller = false := by
    unfold Code.isCaller
    split <;> first | rfl | simp_all
  simp [Code.weight, hf, hc, hg, hk]
theorem any_frames (c : Code) : c.frames ≤ 3 := by
  unfold Code.frames
  split <;> first | decide | (split <;> decide)
theorem any_weight (id : String) (args : Args) : (Code.builtin id args).weight ≤ 306 := by
  have hf := any_frames (Code.builtin id args)
  unfold Code.weight
  have : claimMargin = 300 := rfl
  (repeat' split) <;> omega
def wF : Code → Nat
  | .builtin id _ => match heavyF id with
    | true => match Nat.beq (PySem.code id) 7635746451779523968930960996981 with
      | true => 1
      | false => 306
    | false => 0
  | .call .. => 0
  | .func .. => 1
  | .expr .. => 1
  | .body .. => 1
  | .compStart .. => 1
  | .compLoop .. => 1
  | _ => 0
theorem type_call_weight (args : Args) : (Code.builtin "type.__call__" args).weight ≤ 1 := by
  have h1 : (Code.builtin "type.__call__" args).frames = 0 := rfl
  have h2 : (Code.builtin "type.__call__" args).isGuard = false := by show guardIds.contains "type.__call__" = false; decide +kernel
  have h3 : (Code.builtin "type.__call__" args).isCaller = false := rfl
  unfold Code.weight
  rw [h1, h2, h3]
  simp only [Bool.false_eq_true, if_false]
  split <;> omega
theorem wF_le (c : Code) : c.weight ≤ wF c := by
  cases c with
  | builtin id args =>
    show _ ≤ (match heavyF id with | true => (match Nat.beq (PySem.code id) 7635746451779523968930960996981 with | true => 1 | false => 306) | false => 0)
    cases h : heavyF id with
    | true =>
      cases q : Nat.beq (PySem.code id) 7635746451779523968930960996981 with
      | true =>
        have e : id = "type.__call__" := PySem.code_inj _ _ ((Nat.eq_of_beq_eq_true q).trans (by decide +kernel))
        subst e
        exact type_call_weight args
      | false => exact any_weight id args
    | false => exact Nat.le_of_eq (light_weight h args)
  | compStart e dp it acc env =>
    have : (Code.compStart e dp it acc env).frames ≤ 1 := by unfold Code.frames; (repeat' split) <;> first | omega | simp_all
    show (Code.compStart e dp it acc env).frames + 0 + 0 + 0 ≤ 1
    omega
  | compLoop e dp it acc env =>
    have : (Code.compLoop e dp it acc env).frames ≤ 1 := by unfold Code.frames; (repeat' split) <;> first | omega | simp_all
    show (Code.compLoop e dp it acc env).frames + 0 + 0 + 0 ≤ 1
    omega
  | _ => first | exact Nat.le_refl _ | decide
def koD : Ko → Nat
  | .base => 0
  | .ret c _ _ κ => wF c + koD κ
  | .ent c _ _ κ => wF c + koD κ
def okm : Option Value → Bool
  | some .notImplemented => false
  | _ => true
theorem okm_ne {hd : Option Value} (h : okm hd = true) : hd ≠ some byPass := by
  rintro rfl
  exact absurd h (by decide)
noncomputable def quietF : Code → Bool := PySem.W.ZFast.zw17772548960776305114
theorem quietF_eq : PySem.Code.quiet = quietF := PySem.W.ZFast.ze17772548960776305114
inductive Out where
  | fin (f : PySem.Fin) (L : Led) (r i : Nat) (ob : List (Nat × Nat))
  | err (e : Value) (L : Led) (r i : Nat) (ob : List (Nat × Nat))
  | pend (ag : Bool) (κ : Ko) (c : Code) (hd : Option Value) (k : Result → Sem PySem.Fin) (L : Led) (r i : Nat) (ob : List (Nat × Nat))
  | bad (n a : Nat)
def nth : Led → Nat → Option (Nat × Obj)
  | [], _ => none
  | p :: _, 0 => some p
  | _ :: l, n + 1 => nth l n
def upd : Led → Nat → Obj → Led
  | [], _, _ => []
  | p :: l, 0, o => (p.1, o) :: l
  | p :: l, n + 1, o => p :: upd l n o
def hdOf : Ko → Option Value
  | .base => none
  | .ret _ hd _ κ => hd.or (hdOf κ)
  | .ent _ hd _ κ => hd.or (hdOf κ)
def isFn : Code → Bool
  | .call (.ref _) _ => true
  | _ => false
def fnOf (o : Obj) : Option FuncData := match o.data with
  | .func fd => match fd.scope.isCoroutine with
    | true => none
    | false => match fd.scope.isGenerator with
      | true => none
      | false => some fd
  | _ => none
theorem fnOf_eq {o : Obj} {fd : FuncData} (h : fnOf o = some fd) : o.data = .func fd ∧ fd.scope.isCoroutine = false ∧ fd.scope.isGenerator = false := by
  unfold fnOf at h
  split at h
  · rename_i fd' e
    split at h
    · cases h
    · rename_i hc
      split at h
      · cases h
      · rename_i hg
        cases h
        exact ⟨e, hc, hg⟩
  · cases h
/-- how a code is begun: as the script says -/
inductive Nx where
  | stop
  | go (sc : List Nat) (t : Sem PySem.Fin) (ob : List (Nat × Nat))
  | ent (sc : List Nat) (t : Sem PySem.Fin) (ob : List (Nat × Nat))
  | bad (n a : Nat)
noncomputable def enterN (κ : Ko) (a : Addr) (o : Obj) (args : Args) (sc : List Nat) (ob : List (Nat × Nat)) : Nx := match fnOf o with
  | some fd => match Nat.blt (koD κ) 200 with
    | true => .ent sc (callPreF a fd args) ob
    | false => .bad 15 0
  | none => .bad 16 a
noncomputable def startC (den : Code → Sem PySem.Fin) (kt : Nat → Option Obj) (κ : Ko) (c : Code) (auto : Bool) (sc : List Nat) (L : Led) (ob : List (Nat × Nat)) : Nx := match auto with
  | true => .go sc (den c) ob
  | false => match sc with
    | [] => .stop
    | j :: sc => match j with
      | 0 => .stop
      | j + 1 => match j with
        | 0 => .go sc (den c) ob
        | _ + 1 => match c with
          | .call f args => match f with
            | .ref a => match sc with
              | [] => .bad 13 a
              | j :: sc => match j with
                | 0 => match kt a with
                  | some o => enterN κ a o args sc ob
                  | none => .bad 2 a
                | j + 1 => match nth L j with
                  | some p => enterN κ a p.2 args sc ((a, p.1) :: ob)
                  | none => .bad 3 j
            | _ => .bad 14 0
          | _ => .bad 14 1
/-- the machine: single steps of the trees, loads by the script -/
noncomputable def run (den : Code → Sem PySem.Fin) (P : Setting) (kt : Nat → Option Obj) (B t0 : Nat) :
    Nat → List Nat → Ko → Sem PySem.Fin → Led → Nat → Nat → List (Nat × Nat) → Out
  | 0, _, _, _, _, _, _, _ => .bad 0 0
  | n + 1, sc, κ, t, L, r, i, ob => match t with
    | .pure f => match κ with
      | .base => .fin f L r i ob
      | .ret _ hd k κ => match f with
        | .done fl => run den P kt B t0 n sc κ (k (.ok fl)) L r i ob
        | .again c' => match quietF c' with
          | true => match startC den kt κ c' (!isFn c') sc L ob with
            | .stop => .pend true κ c' hd k L r i ob
            | .go sc t ob => run den P kt B t0 n sc (.ret c' hd k κ) t L r i ob
            | .ent sc t ob => run den P kt B t0 n sc (.ent c' hd k κ) t L r i ob
            | .bad x a => .bad x a
          | false => .bad 8 0
      | .ent _ hd k κ => match f with
        | .done _ => .bad 17 0
        | .again c' => run den P kt B t0 n sc (.ret c' hd k κ) (den c') L r i ob
    | .raise e => match κ with
      | .base => .err e L r i ob
      | .ret _ _ k κ => run den P kt B t0 n sc κ (k (.error e)) L r i ob
      | .ent _ _ k κ => run den P kt B t0 n sc κ (k (.error e)) L r i ob
    | .rule _ k => run den P kt B t0 n sc κ (k ()) L r i ob
    | .at _ k => run den P kt B t0 n sc κ (k ()) L r i ob
    | .point _ k => run den P kt B t0 n sc κ (k ()) L r i ob
    | .ask k => run den P kt B t0 n sc κ (k P) L r i ob
    | .fresh k => run den P kt B t0 n sc κ (k (t0 + i)) L r (i + 1) ob
    | .handled own k => match own with
      | false => run den P kt B t0 n sc κ (k (hdOf κ)) L r i ob
      | true => .bad 10 0
    | .load a _ k => match sc with
      | [] => .bad 1 a
      | j :: sc => match j with
        | 0 => match kt a with
          | some o => run den P kt B t0 n sc κ (k o) L r i ob
          | none => .bad 2 a
        | j + 1 => match nth L j with
          | some p => run den P kt B t0 n sc κ (k p.2) L r i ((a, p.1) :: ob)
          | none => .bad 3 j
    | .loadIfAlive a k => match sc with
      | [] => .bad 1 a
      | j :: sc => match j with
        | 0 => match kt a with
          | some o => run den P kt B t0 n sc κ (k (some o)) L r i ob
          | none => .bad 2 a
        | j + 1 => match nth L j with
          | some p => run den P kt B t0 n sc κ (k (some p.2)) L r i ((a, p.1) :: ob)
          | none => .bad 3 j
    | .update a _ f k => match sc with
      | [] => .bad 5 a
      | j :: sc => match j with
        | 0 => .bad 5 a
        | j + 1 => match nth L j with
          | some p => match (f p.2).isFreed with
            | true => .bad 4 a
            | false => run den P kt B t0 n sc κ (k ()) (upd L j (f p.2)) r i ((a, p.1) :: ob)
          | none => .bad 3 j
    | .alloc o k => match o.isFreed with
      | true => .bad 4 0
      | false => run den P kt B t0 n sc κ (k (B + r)) (L ++ [(B + r, o)]) (r + 1) i ob
    | .call c hd _ _ k => match okm hd with
      | true => match startC den kt κ c false sc L ob with
        | .stop => .pend false κ c hd k L r i ob
        | .go sc t ob => run den P kt B t0 n sc (.ret c hd k κ) t L r i ob
        | .ent sc t ob => run den P kt B t0 n sc (.ent c hd k κ) t L r i ob
        | .bad x a => .bad x a
      | false => .bad 11 0
    | .unsupported _ => .bad 6 0
    | .stack _ => .bad 12 0
    | _ => .bad 7 0
def outOb : Out → List (Nat × Nat)
  | .fin _ _ _ _ ob => ob
  | .err _ _ _ _ ob => ob
  | .pend _ _ _ _ _ _ _ _ ob => ob
  | .bad .. => []
def outL : Out → Led
  | .fin _ L _ _ _ => L
  | .err _ L _ _ _ => L
  | .pend _ _ _ _ _ L _ _ _ => L
  | .bad .. => []
def outR : Out → Nat
  | .fin _ _ r _ _ => r
  | .err _ _ r _ _ => r
  | .pend _ _ _ _ _ _ r _ _ => r
  | .bad .. => 0
def outI : Out → Nat
  | .fin _ _ _ i _ => i
  | .err _ _ _ i _ => i
  | .pend _ _ _ _ _ _ _ i _ => i
  | .bad .. => 0
def outC : Out → Code
  | .pend _ _ c _ _ _ _ _ _ => c
  | _ => default
def outH : Out → Option Value
  | .pend _ _ _ hd _ _ _ _ _ => hd
  | _ => none
def outAg : Out → Bool
  | .pend ag _ _ _ _ _ _ _ _ => ag
  | _ => true
def outK : Out → Result → Sem PySem.Fin
  | .pend _ _ _ _ k _ _ _ _ => k
  | _ => fun _ => .unsupported ""
def outκ : Out → Ko
  | .pend _ κ _ _ _ _ _ _ _ => κ
  | _ => .base
def outF : Out → PySem.Fin
  | .fin f _ _ _ _ => f
  | _ => default
def outE : Out → Value
  | .err e _ _ _ _ => e
  | _ => .none
def outKind : Out → Nat
  | .fin .. => 1
  | .err .. => 2
  | .pend .. => 3
  | .bad .. => 0
/-- what is known of the heap: the ledger L that the machine works on, and X that it leaves alone -/
structure Rep (kt : Nat → Option Obj) (h₀ : Heap) (mods : List Nat) (h : Heap) (B : Nat) (L X : Led) (r : Nat) : Prop where
  size : h.objs.size = B + r
  at_ : ∀ p ∈ L ++ X, h.get? p.1 = some p.2
  nd : ((L ++ X).map (·.1)).Nodup
  keep : ∀ b o, h₀.get? b = some o → b ∉ mods → h.get? b = some o
  own : ∀ p ∈ L ++ X, p.1 ∈ mods ∨ h₀.get? p.1 = none
  top : ∀ a o, kt a = some o → h₀.get? a = some o ∧ a ∉ mods
  le : h₀.objs.size ≤ h.objs.size
theorem nth_mem {L : Led} : ∀ {j : Nat} {p : Nat × Obj}, nth L j = some p → p ∈ L := by
  induction L with
  | nil => intro j p h; exact absurd (show (none : Option (Nat × Obj)) = some p from h) (by simp)
  | cons x l ih =>
    intro j p h
    cases j with
    | zero => rw [← Option.some.inj (show some x = some p from h)]; exact List.mem_cons_self
    | succ j => exact List.mem_cons_of_mem _ (ih (show nth l j = some p from h))
theorem upd_map (o : Obj) (L : Led) : ∀ (j : Nat), (upd L j o).map (·.1) = L.map (·.1) := by
  induction L with
  | nil => intro j; rfl
  | cons x l ih =>
    intro j
    cases j with
    | zero => rfl
    | succ j => show x.1 :: (upd l j o).map (·.1) = x.1 :: l.map (·.1); rw [ih j]
theorem upd_mem {o : Obj} {p q : Nat × Obj} {L : Led} : ∀ {j : Nat}, (L.map (·.1)).Nodup → nth L j = some p → q ∈ upd L j o → q = (p.1, o) ∨ (q ∈ L ∧ q.1 ≠ p.1) := by
  induction L with
  | nil => intro j _ h; exact absurd (show (none : Option (Nat × Obj)) = some p from h) (by simp)
  | cons x l ih =>
    intro j nd h hq
    have nd' := List.nodup_cons.mp (show (x.1 :: l.map (·.1)).Nodup from nd)
    cases j with
    | zero =>
      have e : x = p := Option.some.inj (show some x = some p from h)
      subst e
      rcases List.mem_cons.mp (show q ∈ (x.1, o) :: l from hq) with e | hq
      · exact .inl e
      · exact .inr ⟨List.mem_cons_of_mem _ hq, fun e => nd'.1 (e ▸ List.mem_map.mpr ⟨q, hq, rfl⟩)⟩
    | succ j =>
      have h' : nth l j = some p := h
      rcases List.mem_cons.mp (show q ∈ x :: upd l j o from hq) with e | hq
      · subst e
        exact .inr ⟨List.mem_cons_self, fun e => nd'.1 (e ▸ List.mem_map.mpr ⟨p, nth_mem h', rfl⟩)⟩
      · rcases ih nd'.2 h' hq with e | ⟨a, b⟩
        · exact .inl e
        · exact .inr ⟨List.mem_cons_of_mem _ a, b⟩
theorem upd_app (o : Obj) (X : Led) (L : Led) : ∀ {j : Nat} {p : Nat × Obj}, nth L j = some p → upd L j o ++ X = upd (L ++ X) j o ∧ nth (L ++ X) j = some p := by
  induction L with
  | nil => intro j p h; exact absurd (show (none : Option (Nat × Obj)) = some p from h) (by simp)
  | cons x l ih =>
    intro j p h
    cases j with
    | zero => exact ⟨rfl, h⟩
    | succ j =>
      have := ih (show nth l j = some p from h)
      exact ⟨by show x :: (upd l j o ++ X) = x :: upd (l ++ X) j o; rw [this.1], this.2⟩
section
variable {kt : Nat → Option Obj} {h₀ h : Heap} {mods : List Nat} {B : Nat} {L X : Led} {r : Nat}
theorem Rep.get (D : Rep kt h₀ mods h B L X r) {j : Nat} {p : Nat × Obj} (e : nth L j = some p) : h.get? p.1 = some p.2 := D.at_ p (List.mem_append_left _ (nth_mem e))
theorem Rep.kt_ (D : Rep kt h₀ mods h B L X r) {a : Nat} {o : Obj} (e : kt a = some o) : h.get? a = some o := D.keep a o (D.top a o e).1 (D.top a o e).2
theorem Rep.perm (D : Rep kt h₀ mods h B L X r) {L' X' : Led} (p : (L ++ X).Perm (L' ++ X')) : Rep kt h₀ mods h B L' X' r :=
  ⟨D.size, fun q hq => D.at_ q (p.mem_iff.mpr hq), (p.map _).nodup_iff.mp D.nd, D.keep, fun q hq => D.own q (p.mem_iff.mpr hq), D.top, D.le⟩
theorem Rep.alloc (D : Rep kt h₀ mods h B L X r) {o : Obj} (hf : o.isFreed = false) : Rep kt h₀ mods (h.push o) B (L ++ [(B + r, o)]) X (r + 1) := by
  have hs := D.size
  have key : Rep kt h₀ mods (h.push o) B ((B + r, o) :: L) X (r + 1) := by
    refine ⟨by rw [Heap.size_push, hs, Nat.add_assoc], fun p hp => ?_, ?_, fun b o' e q => Heap.get?_push_of_some _ (D.keep b o' e q), fun p hp => ?_, D.top, by rw [Heap.size_push]; exact Nat.le_succ_of_le D.le⟩
    · rcases List.mem_cons.mp hp with e | hp
      · rw [e]
        show (h.push o).get? (B + r) = _
        rw [← hs]; exact Heap.get?_push_size _ hf
      · exact Heap.get?_push_of_some _ (D.at_ p hp)
    · refine List.nodup_cons.mpr ⟨fun hm => ?_, D.nd⟩
      obtain ⟨p, hp, e⟩ := List.mem_map.mp hm
      have hl : p.1 < h.objs.size := Heap.lt_size (D.at_ p hp)
      rw [hs] at hl
      exact absurd e (Nat.ne_of_lt hl)
    · rcases List.mem_cons.mp hp with e | hp
      · rw [e]
        refine .inr ?_
        cases e : h₀.get? (B + r) with
        | none => rfl
        | some o' =>
          have h1 : B + r < h₀.objs.size := Heap.lt_size e
          have h2 := D.le
          rw [hs] at h2
          exact absurd h1 (Nat.not_lt.mpr h2)
      · exact D.own p hp
  refine key.perm (List.Perm.append_right X ?_)
  exact (List.perm_append_comm (l₁ := [(B + r, o)]) (l₂ := L))
theorem Rep.update (D : Rep kt h₀ mods h B L X r) {j : Nat} {p : Nat × Obj} {f : Obj → Obj} (e : nth L j = some p) (hf : (f p.2).isFreed = false) : Rep kt h₀ mods (h.update p.1 f) B (upd L j (f p.2)) X r := by
  obtain ⟨eu, en⟩ := upd_app (f p.2) X L e
  have hp := D.get e
  have hs : Heap.SameBut p.1 h (h.update p.1 f) := Heap.SameBut.update ..
  refine ⟨by rw [hs.1, D.size], fun q hq => ?_, by rw [eu, upd_map]; exact D.nd, fun b o' e' nb => ?_, fun q hq => ?_, D.top, by rw [hs.1]; exact D.le⟩
  · rw [eu] at hq
    rcases upd_mem D.nd en hq with rfl | ⟨a, b⟩
    · first | exact Heap.get?_update_self f hp hf | exact Heap.get?_update_self _ hp hf
    · exact (hs.2 _ b).trans (D.at_ q a)
  · have ne : b ≠ p.1 := by
      rintro rfl
      rcases D.own p (nth_mem en) with q | q
      · exact nb q
      · rw [q] at e'; cases e'
    exact (hs.2 b ne).trans (D.keep b o' e' nb)
  · rw [eu] at hq
    rcases upd_mem D.nd en hq with rfl | ⟨a, _⟩
    · exact D.own p (nth_mem en)
    · exact D.own q a
end
def around (A₀ : Around) : Ko → Around
  | .base => A₀
  | .ret c hd _ κ => ((around A₀ κ).mark hd).under c
  | .ent c hd _ κ => ((around A₀ κ).mark hd).under c
theorem around_handled {A₀ : Around} (hA : A₀.handled = none) : ∀ κ, (around A₀ κ).handled = hdOf κ
  | .base => hA
  | .ret c hd k κ => by
    show hd.or (around A₀ κ).handled = hd.or (hdOf κ)
    rw [around_handled hA κ]
  | .ent c hd k κ => by
    show hd.or (around A₀ κ).handled = hd.or (hdOf κ)
    rw [around_handled hA κ]
theorem around_depth (A₀ : Around) : ∀ κ, (around A₀ κ).depth ≤ A₀.depth + koD κ
  | .base => Nat.le_refl _
  | .ret c hd k κ => by
    show (around A₀ κ).depth + c.weight ≤ A₀.depth + (wF c + koD κ)
    have := around_depth A₀ κ
    have := wF_le c
    omega
  | .ent c hd k κ => by
    show (around A₀ κ).depth + c.weight ≤ A₀.depth + (wF c + koD κ)
    have := around_depth A₀ κ
    have := wF_le c
    omega
abbrev Post := (PySem.Fin → Shared → Prop) × (Value → Shared → Prop)
def post (M : Model) (A₀ : Around) (Q₀ : PySem.Fin → Shared → Prop) (E₀ : Value → Shared → Prop) : Ko → Post
  | .base => (Q₀, E₀)
  | .ret _ hd k κ => (fun fin s' => match fin with
      | .done f => wpAny M (around A₀ κ) (k (.ok f)) (post M A₀ Q₀ E₀ κ).1 (post M A₀ Q₀ E₀ κ).2 s'
      | .again c' => c'.quiet = true ∧ codeAny M ((around A₀ κ).mark hd) c' (fun r s'' => wpAny M (around A₀ κ) (k r) (post M A₀ Q₀ E₀ κ).1 (post M A₀ Q₀ E₀ κ).2 s'') s',
    fun e s' => wpAny M (around A₀ κ) (k (.error e)) (post M A₀ Q₀ E₀ κ).1 (post M A₀ Q₀ E₀ κ).2 s')
  | .ent _ hd k κ => (fun fin s' => match fin with
      | .done _ => False
      | .again c' => s'.heap.NoLimit ∧ codeAny M ((around A₀ κ).mark hd) c' (fun r s'' => wpAny M (around A₀ κ) (k r) (post M A₀ Q₀ E₀ κ).1 (post M A₀ Q₀ E₀ κ).2 s'') s',
    fun e s' => wpAny M (around A₀ κ) (k (.error e)) (post M A₀ Q₀ E₀ κ).1 (post M A₀ Q₀ E₀ κ).2 s')
def MeansD (M : Model) (A₀ : Around) (Q₀ : PySem.Fin → Shared → Prop) (E₀ : Value → Shared → Prop) (κ : Ko) (t : Sem PySem.Fin) (s : Shared) : Prop :=
  wpAny M (around A₀ κ) t (post M A₀ Q₀ E₀ κ).1 (post M A₀ Q₀ E₀ κ).2 s
section
variable {prog : Program} {w : World} {A₀ : Around} {Q₀ : PySem.Fin → Shared → Prop} {E₀ : Value → Shared → Prop} {s : Shared}
theorem means_go {c c₀ : Code} {hd hd' : Option Value} {k : Result → Sem PySem.Fin} {κ : Ko}
    (h : MeansD (model prog w) A₀ Q₀ E₀ (.ret c hd k κ) (denote table c) s) : codeAny (model prog w) ((around A₀ κ).mark hd) c (fun r s'' => MeansD (model prog w) A₀ Q₀ E₀ κ (k r) s'') s := by
  let _ := c₀; let _ := hd'
  refine codeAny_of_tree (wpAny_mono h (fun fin s' hf => ?_) fun _ _ e => e)
  cases fin with
  | done f => exact hf
  | again c' => exact hf
/-- a call from within -/
def callW (M : Model) (A : Around) (hd : Option Value) (c : Code) (R : Result → Shared → Prop) (s : Shared) : Prop := ∀ (Γ : Ctx) (p : Pos), Γ.In A → wpCode M (Γ.enter c hd p) R p s
theorem callW_of {M : Model} {A : Around} {hd : Option Value} {c : Code} {R : Result → Shared → Prop} {s : Shared} (hm : okm hd = true) (h : codeAny M (A.mark hd) c R s) : callW M A hd c R s :=
  fun Γ p hΓ => h _ p rfl (hΓ.enter c hd p (okm_ne hm))
theorem means_callW {c : Code} {hd : Option Value} {g : Bool} {l : List Value} {k : Result → Sem PySem.Fin} {κ : Ko}
    (h : callW (model prog w) (around A₀ κ) hd c (fun r s'' => MeansD (model prog w) A₀ Q₀ E₀ κ (k r) s'') s) : MeansD (model prog w) A₀ Q₀ E₀ κ (.call c hd g l k) s :=
  fun Γ p hΓ => wpCode_mono (fun _ _ hr => hr Γ p hΓ) (h Γ p hΓ)
theorem callW_call {M : Model} {A : Around} {f : Value} {pos : List Value} {kw : List (Str × Value)} {Q : Value → Shared → Prop} {E : Value → Shared → Prop} {R : Result → Shared → Prop} {s : Shared}
    (h : wpAny M A (call f pos kw) Q E s) (hQ : ∀ v s', Q v s' → R (.ok (.ret v)) s') (hE : ∀ e s', E e s' → R (.error e) s') : callW M A none (.call f ⟨pos, kw⟩) R s := by
  intro Γ p hΓ
  have z := h Γ p hΓ
  unfold PySem.call at z
  rw [Sem.wp_runValue] at z
  refine wpCode_mono (fun r s' hr => ?_) z
  cases r with
  | ok f => cases f <;> first | exact hQ _ _ hr | exact hr.elim
  | error e => exact hE _ _ hr
theorem callW_run {M : Model} {A : Around} {c : Code} {Q : Value → Shared → Prop} {E : Value → Shared → Prop} {R : Result → Shared → Prop} {s : Shared}
    (h : wpAny M A (runValue c) Q E s) (hQ : ∀ v s', Q v s' → R (.ok (.ret v)) s') (hE : ∀ e s', E e s' → R (.error e) s') : callW M A none c R s := by
  intro Γ p hΓ
  have z := h Γ p hΓ
  rw [Sem.wp_runValue] at z
  refine wpCode_mono (fun r s' hr => ?_) z
  cases r with
  | ok f => cases f <;> first | exact hQ _ _ hr | exact hr.elim
  | error e => exact hE _ _ hr
theorem means_call {c : Code} {hd : Option Value} {g : Bool} {l : List Value} {k : Result → Sem PySem.Fin} {κ : Ko} (hm : okm hd = true)
    (h : codeAny (model prog w) ((around A₀ κ).mark hd) c (fun r s'' => MeansD (model prog w) A₀ Q₀ E₀ κ (k r) s'') s) : MeansD (model prog w) A₀ Q₀ E₀ κ (.call c hd g l k) s :=
  PySem.W.X.x_call h (okm_ne hm)
variable {kt : Nat → Option Obj} {h₀ : Heap} {mods : List Nat} {X : Led} {B t0 : Nat} {g : Array GenState} {d : Drawn} {os : OsState}
def OutOk (prog : Program) (w : World) (A₀ : Around) (Q₀ : PySem.Fin → Shared → Prop) (E₀ : Value → Shared → Prop) (kt : Nat → Option Obj) (h₀ : Heap) (mods : List Nat) (X : Led) (B t0 : Nat) (g : Array GenState) (d : Drawn) (os : OsState) : Out → Prop
  | .fin f L r i ob => (∀ q ∈ ob, q.1 = q.2) ∧ ∀ h, Rep kt h₀ mods h B L X r → Q₀ f ⟨h, g, d, t0 + i, os⟩
  | .err e L r i ob => (∀ q ∈ ob, q.1 = q.2) ∧ ∀ h, Rep kt h₀ mods h B L X r → E₀ e ⟨h, g, d, t0 + i, os⟩
  | .pend ag κ c hd k L r i ob => (∀ q ∈ ob, q.1 = q.2) ∧ okm hd = true ∧ ∀ h, Rep kt h₀ mods h B L X r → match ag with
      | true => codeAny (model prog w) ((around A₀ κ).mark hd) c (fun r s'' => MeansD (model prog w) A₀ Q₀ E₀ κ (k r) s'') ⟨h, g, d, t0 + i, os⟩
      | false => callW (model prog w) (around A₀ κ) hd c (fun r s'' => MeansD (model prog w) A₀ Q₀ E₀ κ (k r) s'') ⟨h, g, d, t0 + i, os⟩
  | .bad .. => False
theorem OutOk.ob : ∀ {o : Out}, OutOk prog w A₀ Q₀ E₀ kt h₀ mods X B t0 g d os o → ∀ q ∈ outOb o, q.1 = q.2
  | .fin .., h => h.1
  | .err .., h => h.1
  | .pend .., h => h.1
  | .bad .., h => h.elim
theorem ent_ob {κ : Ko} {f : Addr} {o : Obj} {args : Args} {sc sc' : List Nat} {ob ob' : List (Nat × Nat)} {t : Sem PySem.Fin} (h : enterN κ f o args sc ob = .ent sc' t ob') :
    ob' = ob ∧ ∃ fd, fnOf o = some fd ∧ koD κ < 200 ∧ t = callPreF f fd args := by
  unfold enterN at h
  split at h
  · rename_i fd hf
    split at h
    · rename_i q
      cases h
      exact ⟨rfl, fd, hf, Nat.le_of_ble_eq_true q, rfl⟩
    · cases h
  · cases h
theorem ent_go {κ : Ko} {f : Addr} {o : Obj} {args : Args} {sc sc' : List Nat} {ob ob' : List (Nat × Nat)} {t : Sem PySem.Fin} : enterN κ f o args sc ob ≠ .go sc' t ob' := by
  unfold enterN
  intro h
  (repeat' split at h) <;> cases h
theorem start_go {den : Code → Sem PySem.Fin} {κ : Ko} {c : Code} {au : Bool} {sc sc' : List Nat} {L : Led} {ob ob' : List (Nat × Nat)} {t : Sem PySem.Fin}
    (h : startC den kt κ c au sc L ob = .go sc' t ob') : t = den c ∧ ob' = ob := by
  unfold startC at h
  (repeat' split at h) <;> first | (cases h; exact ⟨rfl, rfl⟩) | (cases h; done) | exact absurd h ent_go
theorem start_ent {den : Code → Sem PySem.Fin} {κ : Ko} {c : Code} {au : Bool} {sc sc' : List Nat} {L : Led} {ob ob' : List (Nat × Nat)} {t : Sem PySem.Fin}
    (h : startC den kt κ c au sc L ob = .ent sc' t ob') : ∃ a args o fd, c = .call (.ref a) args ∧ fnOf o = some fd ∧ koD κ < 200 ∧ t = callPreF a fd args ∧
      ((ob' = ob ∧ kt a = some o) ∨ ∃ j p, nth L j = some p ∧ p.2 = o ∧ ob' = (a, p.1) :: ob) := by
  unfold startC at h
  cases au with
  | true => cases h
  | false =>
    cases sc with
    | nil => cases h
    | cons j sc => cases j with
      | zero => cases h
      | succ j => cases j with
        | zero => cases h
        | succ j => cases c with
          | call f args => cases f with
            | ref a => cases sc with
              | nil => cases h
              | cons j sc => cases j with
                | zero =>
                  simp only at h
                  split at h
                  · rename_i o e
                    obtain ⟨e1, fd, hf, hk, ht⟩ := ent_ob h
                    exact ⟨a, args, o, fd, rfl, hf, hk, ht, .inl ⟨e1, e⟩⟩
                  · cases h
                | succ j =>
                  simp only at h
                  split at h
                  · rename_i p e
                    obtain ⟨e1, fd, hf, hk, ht⟩ := ent_ob h
                    exact ⟨a, args, p.2, fd, rfl, hf, hk, ht, .inr ⟨j, p, e, rfl, e1⟩⟩
                  · cases h
            | _ => cases h
          | _ => cases h
theorem run_ob (den : Code → Sem PySem.Fin) (P : Setting) :
    ∀ (n : Nat) (sc : List Nat) (κ : Ko) (t : Sem PySem.Fin) (L : Led) (r i : Nat) (ob : List (Nat × Nat)),
      OutOk prog w A₀ Q₀ E₀ kt h₀ mods X B t0 g d os (run den P kt B t0 n sc κ t L r i ob) → ∀ q ∈ ob, q.1 = q.2
  | 0, _, _, _, _, _, _, _ => fun h => h.elim
  | n + 1, sc, κ, t, L, r, i, ob => by
    intro h
    have IH := run_ob den P n
    have st : ∀ {c : Code} {au : Bool} {sc' : List Nat} {t' : Sem PySem.Fin} {ob' : List (Nat × Nat)}, startC den kt κ c au sc L ob = .ent sc' t' ob' → (∀ q ∈ ob', q.1 = q.2) → ∀ q ∈ ob, q.1 = q.2 := by
      intro c au sc' t' ob' e hq q hm
      obtain ⟨_, _, _, _, _, _, _, _, z⟩ := start_ent e
      rcases z with ⟨z, _⟩ | ⟨_, _, _, _, z⟩
      · exact hq q (z ▸ hm)
      · exact hq q (z ▸ List.mem_cons_of_mem _ hm)
    cases t with
    | pure f => cases κ with
      | base => exact h.1
      | ret c hd k κ => cases f with
        | done fl => exact IH _ _ _ _ _ _ _ h
        | again c' =>
          simp only [run] at h
          split at h
          · split at h
            · exact h.1
            · rename_i e
              obtain ⟨rfl, rfl⟩ := start_go e
              exact IH _ _ _ _ _ _ _ h
            · rename_i e
              obtain ⟨_, _, _, _, _, _, _, _, z⟩ := start_ent e
              have hq := IH _ _ _ _ _ _ _ h
              rcases z with ⟨z, _⟩ | ⟨_, _, _, _, z⟩
              · exact fun q hm => hq q (z ▸ hm)
              · exact fun q hm => hq q (z ▸ List.mem_cons_of_mem _ hm)
            · exact h.elim
          · exact h.elim
      | ent c hd k κ => cases f with
        | done fl => exact h.elim
        | again c' => exact IH _ _ _ _ _ _ _ h
    | raise e => cases κ with
      | base => exact h.1
      | ret c hd k κ => exact IH _ _ _ _ _ _ _ h
      | ent c hd k κ => exact IH _ _ _ _ _ _ _ h
    | rule tg k => exact IH _ _ _ _ _ _ _ h
    | «at» p k => exact IH _ _ _ _ _ _ _ h
    | point l k => exact IH _ _ _ _ _ _ _ h
    | ask k => exact IH _ _ _ _ _ _ _ h
    | fresh k => exact IH _ _ _ _ _ _ _ h
    | handled own k => cases own with
      | false => exact IH _ _ _ _ _ _ _ h
      | true => exact h.elim
    | load a q k => cases sc with
      | nil => exact h.elim
      | cons j sc => cases j with
        | zero =>
          simp only [run] at h
          split at h
          · exact IH _ _ _ _ _ _ _ h
          · exact h.elim
        | succ j =>
          simp only [run] at h
          split at h
          · exact fun q hq => IH _ _ _ _ _ _ _ h q (.tail _ hq)
          · exact h.elim
    | loadIfAlive a k => cases sc with
      | nil => exact h.elim
      | cons j sc => cases j with
        | zero =>
          simp only [run] at h
          split at h
          · exact IH _ _ _ _ _ _ _ h
          · exact h.elim
        | succ j =>
          simp only [run] at h
          split at h
          · exact fun q hq => IH _ _ _ _ _ _ _ h q (.tail _ hq)
          · exact h.elim
    | update a q f k => cases sc with
      | nil => exact h.elim
      | cons j sc => cases j with
        | zero => exact h.elim
        | succ j =>
          simp only [run] at h
          split at h
          · split at h
            · exact h.elim
            · exact fun q hq => IH _ _ _ _ _ _ _ h q (.tail _ hq)
          · exact h.elim
    | alloc o k =>
      simp only [run] at h
      split at h
      · exact h.elim
      · exact IH _ _ _ _ _ _ _ h
    | call c hd gd l k =>
      simp only [run] at h
      split at h
      · split at h
        · exact h.1
        · rename_i e
          obtain ⟨rfl, rfl⟩ := start_go e
          exact IH _ _ _ _ _ _ _ h
        · rename_i e
          exact st e (IH _ _ _ _ _ _ _ h)
        · exact h.elim
      · exact h.elim
    | _ => exact h.elim
theorem run_sound {den : Code → Sem PySem.Fin} (hden : ∀ c, den c = denote table c) (hA : A₀.handled = none) (hroom : A₀.depth + 200 < recursionLimit) (hl : h₀.NoLimit) {lo : Obj} (hkl : kt cStatics = some lo) :
    ∀ (n : Nat) (sc : List Nat) (κ : Ko) (t : Sem PySem.Fin) (L : Led) (r i : Nat) (ob : List (Nat × Nat)) (h : Heap), Rep kt h₀ mods h B L X r →
      OutOk prog w A₀ Q₀ E₀ kt h₀ mods X B t0 g d os (run den ⟨prog, w.params⟩ kt B t0 n sc κ t L r i ob) →
      MeansD (model prog w) A₀ Q₀ E₀ κ t ⟨h, g, d, t0 + i, os⟩
  | 0, _, _, _, _, _, _, _, _, _ => fun H => H.elim
  | n + 1, sc, κ, t, L, r, i, ob, h, D => by
    intro H
    have IH := fun sc κ t L r i ob h => run_sound hden hA hroom hl hkl n sc κ t L r i ob h
    -- a function is entered
    have ent : ∀ {κ : Ko} {c : Code} {au : Bool} {hd : Option Value} {k : Result → Sem PySem.Fin} {sc' : List Nat} {t' : Sem PySem.Fin} {ob' : List (Nat × Nat)}, startC den kt κ c au sc L ob = .ent sc' t' ob' →
        OutOk prog w A₀ Q₀ E₀ kt h₀ mods X B t0 g d os (run den ⟨prog, w.params⟩ kt B t0 n sc' (.ent c hd k κ) t' L r i ob') →
        codeAny (model prog w) ((around A₀ κ).mark hd) c (fun r s'' => MeansD (model prog w) A₀ Q₀ E₀ κ (k r) s'') ⟨h, g, d, t0 + i, os⟩ := by
      intro κ c au hd k sc' t' ob' e H
      obtain ⟨a, args, o, fd, ec, hf, hk, ht, z⟩ := start_ent e
      have ho : h.get? a = some o := by
        rcases z with ⟨_, z⟩ | ⟨j, p, z1, z2, z3⟩
        · exact D.kt_ z
        · have ea : a = p.1 := run_ob den _ n _ _ _ _ _ _ _ H (a, p.1) (by rw [z3]; exact List.mem_cons_self)
          rw [ea, ← z2]; exact D.get z1
      obtain ⟨hd1, hd2, hd3⟩ := fnOf_eq hf
      have M := IH _ _ _ _ _ _ _ _ D H
      subst ec ht
      have hdep : ((around A₀ κ).mark hd).depth < recursionLimit := by
        have := around_depth A₀ κ
        show (around A₀ κ).depth < _
        omega
      refine enter ho hd1 hd2 hd3 hdep ?_
      have M' : wpAny (model prog w) (((around A₀ κ).mark hd).under (.call (.ref a) args)) (callPreF a fd args) (post (model prog w) A₀ Q₀ E₀ (.ent (.call (.ref a) args) hd k κ)).1 (post (model prog w) A₀ Q₀ E₀ (.ent (.call (.ref a) args) hd k κ)).2 ⟨h, g, d, t0 + i, os⟩ := M
      rw [under_call] at M'
      refine wpAny_mono M' (fun fin s' hf => ?_) fun e s' he => he
      cases fin with
      | done f => exact hf.elim
      | again c' => exact ⟨hf.1, c', rfl, hf.2⟩
    cases t with
    | pure f => cases κ with
      | base => exact wpAny_pure (H.2 h D)
      | ret c hd k κ => cases f with
        | done fl => exact wpAny_pure (IH _ _ _ _ _ _ _ _ D H)
        | again c' =>
          simp only [run] at H
          split at H
          · rename_i q
            rw [← quietF_eq] at q
            split at H
            · exact wpAny_pure ⟨q, H.2.2 h D⟩
            · rename_i e
              obtain ⟨rfl, rfl⟩ := start_go e
              rw [hden] at H
              exact wpAny_pure ⟨q, means_go (c₀ := c') (hd' := none) (IH _ _ _ _ _ _ _ _ D H)⟩
            · rename_i e
              exact wpAny_pure ⟨q, ent e H⟩
            · exact H.elim
          · exact H.elim
      | ent c hd k κ => cases f with
        | done fl => exact H.elim
        | again c' =>
          have H' : OutOk prog w A₀ Q₀ E₀ kt h₀ mods X B t0 g d os (run den ⟨prog, w.params⟩ kt B t0 n sc (.ret c' hd k κ) (den c') L r i ob) := H
          rw [hden] at H'
          exact wpAny_pure ⟨nolimit_of hl (D.top _ _ hkl).1 (D.kt_ hkl), means_go (c₀ := c') (hd' := none) (IH _ _ _ _ _ _ _ _ D H')⟩
    | raise e => cases κ with
      | base => exact wpAny_throw (H.2 h D)
      | ret c hd k κ => exact wpAny_throw (IH _ _ _ _ _ _ _ _ D H)
      | ent c hd k κ => exact wpAny_throw (IH _ _ _ _ _ _ _ _ D H)
    | rule tg k => exact PySem.W.X.x_rule (IH _ _ _ _ _ _ _ _ D H)
    | «at» p k => exact PySem.W.X.x_at (IH _ _ _ _ _ _ _ _ D H)
    | point l k => exact PySem.W.X.x_point (IH _ _ _ _ _ _ _ _ D H)
    | ask k => exact PySem.W.X.x_ask (IH _ _ _ _ _ _ _ _ D H)
    | fresh k => exact PySem.W.X.x_fresh (IH _ _ _ _ _ _ _ _ D H)
    | handled own k => cases own with
      | false =>
        refine PySem.W.X.x_handled ?_
        rw [around_handled hA]
        exact IH _ _ _ _ _ _ _ _ D H
      | true => exact H.elim
    | load a q k => cases sc with
      | nil => exact H.elim
      | cons j sc => cases j with
        | zero =>
          simp only [run] at H
          split at H
          · rename_i o e
            exact PySem.W.X.x_load (D.kt_ e) (IH _ _ _ _ _ _ _ _ D H)
          · exact H.elim
        | succ j =>
          simp only [run] at H
          split at H
          · rename_i p e
            have ea : a = p.1 := run_ob den _ n _ _ _ _ _ _ _ H (a, p.1) (.head _)
            exact PySem.W.X.x_load (by rw [ea]; exact D.get e) (IH _ _ _ _ _ _ _ _ D H)
          · exact H.elim
    | loadIfAlive a k => cases sc with
      | nil => exact H.elim
      | cons j sc => cases j with
        | zero =>
          simp only [run] at H
          split at H
          · rename_i o e
            have z := IH _ _ _ _ _ _ _ _ D H
            intro Γ p hΓ
            show Sem.wp _ Γ (k (h.get? a)) _ _ p _
            rw [D.kt_ e]
            exact z Γ p hΓ
          · exact H.elim
        | succ j =>
          simp only [run] at H
          split at H
          · rename_i p e
            have ea : a = p.1 := run_ob den _ n _ _ _ _ _ _ _ H (a, p.1) (.head _)
            have z := IH _ _ _ _ _ _ _ _ D H
            intro Γ q hΓ
            show Sem.wp _ Γ (k (h.get? a)) _ _ q _
            rw [ea, D.get e]
            exact z Γ q hΓ
          · exact H.elim
    | update a q f k => cases sc with
      | nil => exact H.elim
      | cons j sc => cases j with
        | zero => exact H.elim
        | succ j =>
          simp only [run] at H
          split at H
          · rename_i p e
            split at H
            · exact H.elim
            · rename_i hf
              have ea : a = p.1 := run_ob den _ n _ _ _ _ _ _ _ H (a, p.1) (.head _)
              have z := IH _ _ _ _ _ _ _ _ (D.update e hf) H
              subst ea
              exact wpAny_bind (m := updatePart p.1 q f) (f := k) (wpAny_updatePart (D.get e) z)
          · exact H.elim
    | alloc o k =>
      simp only [run] at H
      split at H
      · exact H.elim
      · rename_i hf
        have z := IH _ _ _ _ _ _ _ _ (D.alloc hf) H
        refine wpAny_bind (m := PySem.alloc o) (f := k) (wpAny_alloc ?_)
        show wpAny _ _ (k h.objs.size) _ _ _
        rw [D.size]
        exact z
    | call c hd gd l k =>
      simp only [run] at H
      split at H
      · rename_i hm
        split at H
        · exact means_callW (H.2.2 h D)
        · rename_i e
          obtain ⟨rfl, rfl⟩ := start_go e
          rw [hden] at H
          exact means_call hm (means_go (c₀ := c) (hd' := none) (IH _ _ _ _ _ _ _ _ D H))
        · rename_i e
          exact means_call hm (ent e H)
        · exact H.elim
      · exact H.elim
    | _ => exact H.elim
end
section
variable {prog : Program} {w : World} {A₀ : Around} {Q₀ : PySem.Fin → Shared → Prop} {E₀ : Value → Shared → Prop} {s : Shared}
variable {kt : Nat → Option Obj} {h₀ h : Heap} {mods : List Nat} {B t0 : Nat} {g : Array GenState} {d : Drawn} {os : OsState} {L X : Led} {κ : Ko} {t : Sem PySem.Fin} {r i : Nat}
theorem mark_none (A : Around) : A.mark none = A := by cases A; simp [Around.mark]
/-- the room that a run asks -/
structure Fit (n : Nat) (A : Around) (kt : Nat → Option Obj) (h₀ : Heap) : Prop where
  handled : A.handled = none
  room : A.depth + (200 + n) < recursionLimit
  nolimit : h₀.NoLimit
  statics : ∃ lo, kt cStatics = some lo
theorem ob_ok {ob : List (Nat × Nat)} (hb : ob.map (·.1) = ob.map (·.2)) : ∀ q ∈ ob, q.1 = q.2 := by
  induction ob with
  | nil => intro q hq; cases hq
  | cons x l ih =>
    simp only [List.map_cons, List.cons.injEq] at hb
    intro q hq
    rcases List.mem_cons.mp hq with rfl | hq
    · exact hb.1
    · exact ih hb.2 q hq
theorem out_cases (o : Out) : (∃ ag κ c hd k L r i ob, o = .pend ag κ c hd k L r i ob) ∨ (∃ f L r i ob, o = .fin f L r i ob) ∨ (outKind o ≠ 1 ∧ outKind o ≠ 3) := by
  cases o with
  | pend ag κ c hd k L r i ob => exact .inl ⟨_, _, _, _, _, _, _, _, _, rfl⟩
  | fin f L r i ob => exact .inr (.inl ⟨_, _, _, _, _, rfl⟩)
  | err => exact .inr (.inr ⟨(show (2 : Nat) ≠ 1 by decide), (show (2 : Nat) ≠ 3 by decide)⟩)
  | bad => exact .inr (.inr ⟨(show (0 : Nat) ≠ 1 by decide), (show (0 : Nat) ≠ 3 by decide)⟩)
/-- a stretch up to a call of a def or a loop (a contract on codeAny) -/
theorem segL0 (n : Nat) (sc : List Nat) (c : Code) (D : Rep kt h₀ mods h B L X r) {m₀ : Nat} (hA : Fit m₀ A₀ kt h₀) {b1 b2 : Bool} (hw : w.params = parF w b1 b2)
    (H : let o := run denF ⟨prog, parF w b1 b2⟩ kt B t0 n sc κ t L r i []
      outKind o = 3 ∧ outH o = none ∧ outC o = c ∧ (outOb o).map (·.1) = (outOb o).map (·.2) ∧
      ∀ h', Rep kt h₀ mods h' B (outL o) X (outR o) → codeAny (model prog w) (around A₀ (outκ o)) c (fun r s'' => MeansD (model prog w) A₀ Q₀ E₀ (outκ o) (outK o r) s'') ⟨h', g, d, t0 + outI o, os⟩) :
    MeansD (model prog w) A₀ Q₀ E₀ κ t ⟨h, g, d, t0 + i, os⟩ := by
  rw [← hw] at H
  obtain ⟨hA1, hA2', hA3, lo, hA4⟩ := hA
  have hA2 : A₀.depth + 200 < recursionLimit := by omega
  refine run_sound (i := i) denF_eq hA1 hA2 hA3 hA4 n sc κ t L r [] h D (kt := kt) (h₀ := h₀) (mods := mods) (B := B) (t0 := t0) (g := g) (d := d) (os := os) ?_
  generalize run denF ⟨prog, w.params⟩ kt B t0 n sc κ t L r i [] = o at H
  obtain ⟨hk, hh, hc, hb, H⟩ := H
  rcases out_cases o with ⟨ag, κ', c', hd', k', L', r', i', ob', rfl⟩ | ⟨f, L', r', i', ob', rfl⟩ | ⟨_, q⟩
  · have e1 : hd' = none := hh
    have e2 : c' = c := hc
    subst e1 e2
    refine ⟨ob_ok hb, rfl, fun h' D' => ?_⟩
    have z := H h' D'
    have z' : codeAny (model prog w) ((around A₀ κ').mark none) c' (fun r s'' => MeansD (model prog w) A₀ Q₀ E₀ κ' (k' r) s'') ⟨h', g, d, t0 + i', os⟩ := by rw [mark_none]; exact z
    cases ag with
    | true => exact z'
    | false => exact callW_of rfl z'
  · exact absurd (show (1 : Nat) = 3 from hk) (by decide)
  · exact absurd hk q
/-- a stretch up to a call of a built-in (a rule on callW) -/
theorem segW0 (n : Nat) (sc : List Nat) (c : Code) (D : Rep kt h₀ mods h B L X r) {m₀ : Nat} (hA : Fit m₀ A₀ kt h₀) {b1 b2 : Bool} (hw : w.params = parF w b1 b2)
    (H : let o := run denF ⟨prog, parF w b1 b2⟩ kt B t0 n sc κ t L r i []
      outKind o = 3 ∧ outH o = none ∧ outAg o = false ∧ outC o = c ∧ (outOb o).map (·.1) = (outOb o).map (·.2) ∧
      ∀ h', Rep kt h₀ mods h' B (outL o) X (outR o) → callW (model prog w) (around A₀ (outκ o)) none c (fun r s'' => MeansD (model prog w) A₀ Q₀ E₀ (outκ o) (outK o r) s'') ⟨h', g, d, t0 + outI o, os⟩) :
    MeansD (model prog w) A₀ Q₀ E₀ κ t ⟨h, g, d, t0 + i, os⟩ := by
  rw [← hw] at H
  obtain ⟨hA1, hA2', hA3, lo, hA4⟩ := hA
  have hA2 : A₀.depth + 200 < recursionLimit := by omega
  refine run_sound (i := i) denF_eq hA1 hA2 hA3 hA4 n sc κ t L r [] h D (kt := kt) (h₀ := h₀) (mods := mods) (B := B) (t0 := t0) (g := g) (d := d) (os := os) ?_
  generalize run denF ⟨prog, w.params⟩ kt B t0 n sc κ t L r i [] = o at H
  obtain ⟨hk, hh, ha, hc, hb, H⟩ := H
  rcases out_cases o with ⟨ag, κ', c', hd', k', L', r', i', ob', rfl⟩ | ⟨f, L', r', i', ob', rfl⟩ | ⟨_, q⟩
  · have e1 : hd' = none := hh
    have e2 : c' = c := hc
    have e3 : ag = false := ha
    subst e1 e2 e3
    exact ⟨ob_ok hb, rfl, H⟩
  · exact absurd (show (1 : Nat) = 3 from hk) (by decide)
  · exact absurd hk q
/-- a stretch up to its end -/
theorem segF0 (n : Nat) (sc : List Nat) (f : PySem.Fin) (D : Rep kt h₀ mods h B L X r) {m₀ : Nat} (hA : Fit m₀ A₀ kt h₀) {b1 b2 : Bool} (hw : w.params = parF w b1 b2)
    (H : let o := run denF ⟨prog, parF w b1 b2⟩ kt B t0 n sc κ t L r i []
      outKind o = 1 ∧ outF o = f ∧ (outOb o).map (·.1) = (outOb o).map (·.2) ∧
      ∀ h', Rep kt h₀ mods h' B (outL o) X (outR o) → Q₀ f ⟨h', g, d, t0 + outI o, os⟩) :
    MeansD (model prog w) A₀ Q₀ E₀ κ t ⟨h, g, d, t0 + i, os⟩ := by
  rw [← hw] at H
  obtain ⟨hA1, hA2', hA3, lo, hA4⟩ := hA
  have hA2 : A₀.depth + 200 < recursionLimit := by omega
  refine run_sound (i := i) denF_eq hA1 hA2 hA3 hA4 n sc κ t L r [] h D (kt := kt) (h₀ := h₀) (mods := mods) (B := B) (t0 := t0) (g := g) (d := d) (os := os) ?_
  generalize run denF ⟨prog, w.params⟩ kt B t0 n sc κ t L r i [] = o at H
  obtain ⟨hk, hc, hb, H⟩ := H
  rcases out_cases o with ⟨ag, κ', c', hd', k', L', r', i', ob', rfl⟩ | ⟨f', L', r', i', ob', rfl⟩ | ⟨q, _⟩
  · exact absurd (show (3 : Nat) = 1 from hk) (by decide)
  · have e2 : f' = f := hc
    subst e2
    exact ⟨ob_ok hb, H⟩
  · exact absurd hk q
/-- a stretch up to an exception at the base -/
theorem segE0 (n : Nat) (sc : List Nat) (f : Value) (D : Rep kt h₀ mods h B L X r) {m₀ : Nat} (hA : Fit m₀ A₀ kt h₀) {b1 b2 : Bool} (hw : w.params = parF w b1 b2)
    (H : let o := run denF ⟨prog, parF w b1 b2⟩ kt B t0 n sc κ t L r i []
      outKind o = 2 ∧ outE o = f ∧ (outOb o).map (·.1) = (outOb o).map (·.2) ∧
      ∀ h', Rep kt h₀ mods h' B (outL o) X (outR o) → E₀ f ⟨h', g, d, t0 + outI o, os⟩) :
    MeansD (model prog w) A₀ Q₀ E₀ κ t ⟨h, g, d, t0 + i, os⟩ := by
  rw [← hw] at H
  obtain ⟨hA1, hA2', hA3, lo, hA4⟩ := hA
  have hA2 : A₀.depth + 200 < recursionLimit := by omega
  refine run_sound (i := i) denF_eq hA1 hA2 hA3 hA4 n sc κ t L r [] h D (kt := kt) (h₀ := h₀) (mods := mods) (B := B) (t0 := t0) (g := g) (d := d) (os := os) ?_
  generalize run denF ⟨prog, w.params⟩ kt B t0 n sc κ t L r i [] = o at H
  obtain ⟨hk, hc, hb, H⟩ := H
  cases o with
  | err e' L' r' i' ob' =>
    have e2 : e' = f := hc
    subst e2
    exact ⟨ob_ok hb, H⟩
  | fin => exact absurd (show (1 : Nat) = 2 from hk) (by decide)
  | pend => exact absurd (show (3 : Nat) = 2 from hk) (by decide)
  | bad => exact absurd (show (0 : Nat) = 2 from hk) (by decide)
end
/-- the same, closed: the elaborator does not look into it -/
structure Means (M : Model) (A₀ : Around) (Q₀ : PySem.Fin → Shared → Prop) (E₀ : Value → Shared → Prop) (κ : Ko) (t : Sem PySem.Fin) (s : Shared) : Prop where
  out : MeansD M A₀ Q₀ E₀ κ t s
section
variable {prog : Program} {w : World} {A₀ : Around} {Q₀ : PySem.Fin → Shared → Prop} {E₀ : Value → Shared → Prop} {s : Shared}
variable {kt : Nat → Option Obj} {h₀ h : Heap} {mods : List Nat} {B t0 : Nat} {g : Array GenState} {d : Drawn} {os : OsState} {L X : Led} {κ : Ko} {t : Sem PySem.Fin} {r i : Nat}
theorem callW_mono {M : Model} {A : Around} {hd : Option Value} {c : Code} {R R' : Result → Shared → Prop} {s : Shared} (h : callW M A hd c R s) (hr : ∀ r s, R r s → R' r s) : callW M A hd c R' s :=
  fun Γ p hΓ => wpCode_mono hr (h Γ p hΓ)
theorem segL (n : Nat) (sc : List Nat) (c : Code) (D : Rep kt h₀ mods h B L X r) {m₀ : Nat} (hA : Fit m₀ A₀ kt h₀) {b1 b2 : Bool} (hw : w.params = parF w b1 b2)
    (H : let o := run denF ⟨prog, parF w b1 b2⟩ kt B t0 n sc κ t L r i []
      outKind o = 3 ∧ outH o = none ∧ outC o = c ∧ (outOb o).map (·.1) = (outOb o).map (·.2) ∧
      ∀ h', Rep kt h₀ mods h' B (outL o) X (outR o) → codeAny (model prog w) (around A₀ (outκ o)) c (fun r s'' => Means (model prog w) A₀ Q₀ E₀ (outκ o) (outK o r) s'') ⟨h', g, d, t0 + outI o, os⟩) :
    Means (model prog w) A₀ Q₀ E₀ κ t ⟨h, g, d, t0 + i, os⟩ :=
  ⟨segL0 n sc c D hA hw ⟨H.1, H.2.1, H.2.2.1, H.2.2.2.1, fun h' D' => codeAny_mono (H.2.2.2.2 h' D') fun _ _ hr => hr.out⟩⟩
theorem segW (n : Nat) (sc : List Nat) (c : Code) (D : Rep kt h₀ mods h B L X r) {m₀ : Nat} (hA : Fit m₀ A₀ kt h₀) {b1 b2 : Bool} (hw : w.params = parF w b1 b2)
    (H : let o := run denF ⟨prog, parF w b1 b2⟩ kt B t0 n sc κ t L r i []
      outKind o = 3 ∧ outH o = none ∧ outAg o = false ∧ outC o = c ∧ (outOb o).map (·.1) = (outOb o).map (·.2) ∧
      ∀ h', Rep kt h₀ mods h' B (outL o) X (outR o) → callW (model prog w) (around A₀ (outκ o)) none c (fun r s'' => Means (model prog w) A₀ Q₀ E₀ (outκ o) (outK o r) s'') ⟨h', g, d, t0 + outI o, os⟩) :
    Means (model prog w) A₀ Q₀ E₀ κ t ⟨h, g, d, t0 + i, os⟩ :=
  ⟨segW0 n sc c D hA hw ⟨H.1, H.2.1, H.2.2.1, H.2.2.2.1, H.2.2.2.2.1, fun h' D' => callW_mono (H.2.2.2.2.2 h' D') fun _ _ hr => hr.out⟩⟩
theorem segF (n : Nat) (sc : List Nat) (f : PySem.Fin) (D : Rep kt h₀ mods h B L X r) {m₀ : Nat} (hA : Fit m₀ A₀ kt h₀) {b1 b2 : Bool} (hw : w.params = parF w b1 b2)
    (H : let o := run denF ⟨prog, parF w b1 b2⟩ kt B t0 n sc κ t L r i []
      outKind o = 1 ∧ outF o = f ∧ (outOb o).map (·.1) = (outOb o).map (·.2) ∧
      ∀ h', Rep kt h₀ mods h' B (outL o) X (outR o) → Q₀ f ⟨h', g, d, t0 + outI o, os⟩) :
    Means (model prog w) A₀ Q₀ E₀ κ t ⟨h, g, d, t0 + i, os⟩ := ⟨segF0 n sc f D hA hw H⟩
theorem segE (n : Nat) (sc : List Nat) (f : Value) (D : Rep kt h₀ mods h B L X r) {m₀ : Nat} (hA : Fit m₀ A₀ kt h₀) {b1 b2 : Bool} (hw : w.params = parF w b1 b2)
    (H : let o := run denF ⟨prog, parF w b1 b2⟩ kt B t0 n sc κ t L r i []
      outKind o = 2 ∧ outE o = f ∧ (outOb o).map (·.1) = (outOb o).map (·.2) ∧
      ∀ h', Rep kt h₀ mods h' B (outL o) X (outR o) → E₀ f ⟨h', g, d, t0 + outI o, os⟩) :
    Means (model prog w) A₀ Q₀ E₀ κ t ⟨h, g, d, t0 + i, os⟩ := ⟨segE0 n sc f D hA hw H⟩
theorem means_base {M : Model} (H : Means M A₀ Q₀ E₀ .base t s) : wpAny M A₀ t Q₀ E₀ s := H.out
theorem Means.add0 {M : Model} {n : Nat} (H : Means M A₀ Q₀ E₀ κ t ⟨h, g, d, n + 0, os⟩) : Means M A₀ Q₀ E₀ κ t ⟨h, g, d, n, os⟩ := H
end
/-- what a call leaves -/
structure After (h h' : Heap) (cm : List Nat) (Lo : Led) : Prop where
  keep : ∀ b o, h.get? b = some o → b ∉ cm → h'.get? b = some o
  le : h.objs.size ≤ h'.objs.size
  out : ∀ p ∈ Lo, h'.get? p.1 = some p.2
  own : ∀ p ∈ Lo, p.1 ∈ cm ∨ h.get? p.1 = none
  nd : (Lo.map (·.1)).Nodup
def sel : List Nat → Led → Led
  | [], _ => []
  | _, [] => []
  | 0 :: m, _ :: l => sel m l
  | (_ + 1) :: m, p :: l => p :: sel m l
def cpl : List Nat → Led → Led
  | [], l => l
  | _, [] => []
  | 0 :: m, p :: l => p :: cpl m l
  | (_ + 1) :: m, _ :: l => cpl m l
theorem sel_cpl : ∀ (m : List Nat) (l : Led), (sel m l ++ cpl m l).Perm l := by
  intro m
  induction m with
  | nil => intro l; exact List.Perm.refl _
  | cons a m ih =>
    intro l
    cases l with
    | nil => cases a <;> exact List.Perm.refl _
    | cons p l => cases a with
      | zero => exact (List.perm_middle (a := p) (l₁ := sel m l) (l₂ := cpl m l)).trans ((ih l).cons p)
      | succ a => exact (ih l).cons p
section
variable {kt : Nat → Option Obj} {h₀ h h' : Heap} {mods : List Nat} {B : Nat} {L Lo X Xp Xo Xk : Led} {r : Nat}
theorem Rep.none_of (D : Rep kt h₀ mods h B L X r) {a : Nat} (e : h.get? a = none) (nm : a ∉ mods) : h₀.get? a = none := by
  cases q : h₀.get? a with
  | none => rfl
  | some o => rw [D.keep a o q nm] at e; cases e
/-- the ledger behind a call that was handed a part P of it and left Q, K being the rest -/
theorem Rep.behind {P K Q : Led} (D : Rep kt h₀ mods h B L X r) (hp : (P ++ K).Perm (L ++ X)) (a : After h h' (P.map (·.1)) Q) {L' X' : Led} (hq : (Q ++ K).Perm (L' ++ X')) : Rep kt h₀ mods h' h'.objs.size L' X' 0 := by
  have D1 : Rep kt h₀ mods h B P K r := D.perm hp.symm
  have hsel : ∀ x ∈ P.map (·.1), x ∈ mods ∨ h₀.get? x = none := fun x hx => by
    obtain ⟨p, hp, rfl⟩ := List.mem_map.mp hx
    exact D1.own p (List.mem_append_left _ hp)
  have own' : ∀ x, x ∈ P.map (·.1) ∨ h.get? x = none → x ∈ mods ∨ h₀.get? x = none := fun x hx => by
    rcases hx with hx | hx
    · exact hsel x hx
    · by_cases q : x ∈ mods
      · exact .inl q
      · exact .inr (D1.none_of hx q)
  have nd := D1.nd
  rw [List.map_append] at nd
  obtain ⟨_, ndK, disj⟩ := List.nodup_append.mp nd
  have key : Rep kt h₀ mods h' h'.objs.size Q K 0 := by
    refine ⟨rfl, fun p hp => ?_, ?_, fun b o e nb => ?_, fun p hp => ?_, D1.top, Nat.le_trans D1.le a.le⟩
    · rcases List.mem_append.mp hp with hp | hp
      · exact a.out p hp
      · refine a.keep _ _ (D1.at_ p (List.mem_append_right _ hp)) fun hx => ?_
        exact disj _ hx _ (List.mem_map.mpr ⟨p, hp, rfl⟩) rfl
    · rw [List.map_append]
      refine List.nodup_append.mpr ⟨a.nd, ndK, fun x hx y hy => ?_⟩
      obtain ⟨p, hp, rfl⟩ := List.mem_map.mp hx
      rcases a.own p hp with z | z
      · exact disj _ z _ hy
      · intro e
        obtain ⟨q, hq, rfl⟩ := List.mem_map.mp hy
        have := D1.at_ q (List.mem_append_right _ hq)
        rw [← e, z] at this
        cases this
    · refine a.keep b o (D1.keep b o e nb) fun hx => ?_
      rcases hsel b hx with q | q
      · exact nb q
      · rw [q] at e; cases e
    · rcases List.mem_append.mp hp with hp | hp
      · exact own' p.1 (a.own p hp)
      · exact D1.own p (List.mem_append_right _ hp)
  exact key.perm hq
/-- the same, the part told by a mask; X is kept -/
theorem Rep.after (D : Rep kt h₀ mods h B L X r) (m : List Nat) (a : After h h' ((sel m L).map (·.1)) Lo) : Rep kt h₀ mods h' h'.objs.size (Lo ++ cpl m L) X 0 := by
  refine D.behind (P := sel m L) (K := cpl m L ++ X) (Q := Lo) ?_ a (List.Perm.of_eq (List.append_assoc _ _ _).symm)
  rw [← List.append_assoc]
  exact (sel_cpl m L).append_right X
/-- the same, X handed too -/
theorem Rep.afterX (D : Rep kt h₀ mods h B L X r) (m : List Nat) (a : After h h' ((sel m L ++ X).map (·.1)) (Lo ++ Xo)) : Rep kt h₀ mods h' h'.objs.size (Lo ++ cpl m L) Xo 0 := by
  refine D.behind (P := sel m L ++ X) (K := cpl m L) (Q := Lo ++ Xo) ?_ a ?_
  · rw [List.append_assoc]
    refine (List.Perm.append_left _ List.perm_append_comm).trans ?_
    rw [← List.append_assoc]
    exact (sel_cpl m L).append_right X
  · rw [List.append_assoc, List.append_assoc]
    exact List.Perm.append_left _ List.perm_append_comm
theorem Rep.sub (D : Rep kt h₀ mods h B L X r) {L' X' : Led} (hs : (L' ++ X').Sublist (L ++ X)) : Rep kt h₀ mods h B L' X' r :=
  ⟨D.size, fun p hp => D.at_ p (hs.subset hp), (hs.map _).nodup D.nd, D.keep, fun p hp => D.own p (hs.subset hp), D.top, D.le⟩
/-- what a body leaves, for its caller -/
theorem Rep.done (D : Rep kt h₀ mods h B L X r) (Q K : Led) (hq : (Q ++ K).Perm (L ++ X)) : After h₀ h mods Q := by
  have D1 : Rep kt h₀ mods h B Q K r := D.perm hq.symm
  have D2 := D1.sub (L' := Q) (X' := []) (by rw [List.append_nil]; exact List.sublist_append_left _ _)
  have e : Q ++ [] = Q := List.append_nil Q
  refine ⟨D.keep, D.le, fun p hp => D2.at_ p (e.symm ▸ hp), fun p hp => D2.own p (e.symm ▸ hp), ?_⟩
  have := D2.nd
  rw [e] at this
  exact this
theorem Rep.doneM (D : Rep kt h₀ mods h B L X r) (m : List Nat) : After h₀ h mods (sel m L) := by
  refine D.done (sel m L) (cpl m L ++ X) ?_
  rw [← List.append_assoc]
  exact (sel_cpl m L).append_right X
theorem Rep.base (D : Rep kt h₀ mods h B L X r) : Rep kt h₀ mods h h.objs.size L X 0 := ⟨rfl, D.at_, D.nd, D.keep, D.own, D.top, D.le⟩
/-- the start -/
theorem Rep.start (L X : Led) (ha : ∀ p ∈ L ++ X, h.get? p.1 = some p.2) (nd : ((L ++ X).map (·.1)).Nodup) (top : ∀ a o, kt a = some o → h.get? a = some o ∧ a ∉ (L ++ X).map (·.1)) :
    Rep kt h ((L ++ X).map (·.1)) h h.objs.size L X 0 := ⟨rfl, ha, nd, fun _ _ e _ => e, fun p hp => .inl (List.mem_map.mpr ⟨p, hp, rfl⟩), top, Nat.le_refl _⟩
end
section
variable {prog : Program} {w : World} {A : Around} {s : Shared} {R : Result → Shared → Prop}
def codeOfFin : PySem.Fin → Code
  | .again c => c
  | _ => default
def isAgain : PySem.Fin → Bool
  | .again _ => true
  | _ => false
def finQ (M : Model) (A : Around) (R : Result → Shared → Prop) : PySem.Fin → Shared → Prop := fun fin s' => match fin with
  | .done f => R (.ok f) s'
  | .again c' => c'.quiet = true ∧ codeAny M A c' R s'
def finE (R : Result → Shared → Prop) : Value → Shared → Prop := fun e s' => R (.error e) s'
theorem code_start0 {c : Code} (h : MeansD (model prog w) (A.under c) (finQ (model prog w) A R) (finE R) .base (denF c) s) : codeAny (model prog w) A c R s := by
  refine codeAny_of_tree ?_
  have h' : wpAny (model prog w) (A.under c) (denF c) (finQ (model prog w) A R) (finE R) s := h
  rw [denF_eq] at h'
  exact wpAny_mono h' (fun fin s' hf => by cases fin <;> exact hf) fun _ _ e => e
def kk : Result → Sem PySem.Fin
  | .ok f => .pure (.done f)
  | .error e => .raise e
def goQ (R : Result → Shared → Prop) : PySem.Fin → Shared → Prop := fun fin s' => match fin with
  | .done f => R (.ok f) s'
  | .again _ => False
theorem base_out0 {c : Code} (z : codeAny (model prog w) A c (fun r s'' => MeansD (model prog w) A (goQ R) (finE R) .base (kk r) s'') s) : codeAny (model prog w) A c R s := by
  intro Γ p hc hΓ
  refine wpCode_mono (fun r s' hr => ?_) (z Γ p hc hΓ)
  have hin : ({ Γ with code := .block [] default } : Ctx).In A := by
    refine ⟨hΓ.1, hΓ.2.1, hΓ.2.2.1, hΓ.2.2.2.1, ?_⟩
    have := hΓ.2.2.2.2
    show (Code.block [] default).cUnits + unitsOf Γ.below ≤ A.units
    have e : (Code.block [] default).cUnits = 0 := rfl
    rw [e, Nat.zero_add]
    exact this
  have w := hr _ p hin
  cases r with
  | ok f => exact w
  | error e => exact w
theorem code_go0 {c : Code} (h : MeansD (model prog w) A (goQ R) (finE R) (.ret c none kk .base) (denF c) s) : codeAny (model prog w) A c R s := by
  rw [denF_eq] at h
  have z := means_go (c₀ := c) (hd' := none) h
  have e : (around A .base).mark none = A := mark_none A
  rw [e] at z
  exact base_out0 z
theorem code_slot {T : String} {name : Str} {id : String} {B : Builtin} {self : Value} {rest : List Value} (slot : Slot T name id) (hT : s.TypeIs self T)
    (entry : entryFor table id = some B) (args : argsOk id ⟨self :: rest, []⟩) (h : MeansD (model prog w) A.in1 (finQ (model prog w) A R) (finE R) .base (B ⟨self :: rest, []⟩) s) :
    codeAny (model prog w) A (.call (.builtin id) ⟨self :: rest, []⟩) R s :=
  codeAny_call_builtin slot.plain entry (slot.check _ _ _ _ _ _ _ _ hT args (wpAny_mono h (fun fin s' hf => by cases fin <;> exact hf) fun _ _ e => e))
theorem code_meets {T : String} {name : Str} {id : String} {B : Builtin} {self : Value} {rest : List Value} {S : PySem.Spec} (slot : Slot T name id) (hT : s.TypeIs self T)
    (entry : entryFor table id = some B) (args : argsOk id ⟨self :: rest, []⟩) (g : Meets (B ⟨self :: rest, []⟩) S) (h : S A R s) :
    codeAny (model prog w) A (.call (.builtin id) ⟨self :: rest, []⟩) R s :=
  codeAny_call_builtin slot.plain entry (slot.check _ _ _ _ _ _ _ _ hT args (g prog w A R s h))
/-- begin a call of a def -/
theorem code_ent0 {a : Addr} {args : Args} {o : Obj} {fd : FuncData} (ho : s.heap.get? a = some o) (hf : fnOf o = some fd) (hroom : A.depth < recursionLimit)
    (h : MeansD (model prog w) A (goQ R) (finE R) (.ent (.call (.ref a) args) none kk .base) (callPreF a fd args) s) : codeAny (model prog w) A (.call (.ref a) args) R s := by
  obtain ⟨hd1, hd2, hd3⟩ := fnOf_eq hf
  refine base_out0 (enter ho hd1 hd2 hd3 hroom ?_)
  have M' : wpAny (model prog w) ((A.mark none).under (.call (.ref a) args)) (callPreF a fd args) (post (model prog w) A (goQ R) (finE R) (.ent (.call (.ref a) args) none kk .base)).1 (post (model prog w) A (goQ R) (finE R) (.ent (.call (.ref a) args) none kk .base)).2 s := h
  rw [under_call, mark_none] at M'
  refine wpAny_mono M' (fun fin s' hf => ?_) fun e s' he => he
  cases fin with
  | done f => exact hf.elim
  | again c' =>
    have z : codeAny (model prog w) (A.mark none) c' (fun r s'' => MeansD (model prog w) A (goQ R) (finE R) .base (kk r) s'') s' := hf.2
    rw [mark_none] at z
    exact ⟨hf.1, c', rfl, z⟩
theorem code_start {c : Code} (h : Means (model prog w) (A.under c) (finQ (model prog w) A R) (finE R) .base (denF c) s) : codeAny (model prog w) A c R s := code_start0 h.out
theorem code_go {c : Code} (h : Means (model prog w) A (goQ R) (finE R) (.ret c none kk .base) (denF c) s) : codeAny (model prog w) A c R s := code_go0 h.out
theorem code_ent {a : Addr} {args : Args} {o : Obj} {fd : FuncData} (ho : s.heap.get? a = some o) (hf : fnOf o = some fd) (hroom : A.depth < recursionLimit)
    (h : Means (model prog w) A (goQ R) (finE R) (.ent (.call (.ref a) args) none kk .base) (callPreF a fd args) s) : codeAny (model prog w) A (.call (.ref a) args) R s := code_ent0 ho hf hroom h.out
variable {kt : Nat → Option Obj} {h₀ h : Heap} {mods : List Nat} {B t0 : Nat} {g : Array GenState} {d : Drawn} {os : OsState} {L X : Led} {κ : Ko} {t : Sem PySem.Fin} {r i : Nat}
end
section
variable {kt : Nat → Option Obj} {h₀ h : Heap} {mods : List Nat} {B : Nat} {L X : Led} {r n m : Nat} {A : Around}
theorem Fit.inner (hA : Fit n A kt h₀) (D : Rep kt h₀ mods h B L X r) (κ : Ko) (hm : Nat.ble (koD κ + m) n = true) (hh : hdOf κ = none) : Fit m (around A κ) kt h := by
  obtain ⟨h1, h2, h3, lo, h4⟩ := hA
  refine ⟨by rw [around_handled h1, hh], ?_, nolimit_of h3 (D.top _ _ h4).1 (D.kt_ h4), lo, h4⟩
  have := around_depth A κ
  have := Nat.le_of_ble_eq_true hm
  omega
theorem Fit.ar (hA : Fit n A kt h₀) (κ : Ko) (hm : Nat.ble (koD κ + m) n = true) (hh : hdOf κ = none) : Fit m (around A κ) kt h₀ := by
  obtain ⟨h1, h2, h3, lo, h4⟩ := hA
  refine ⟨by rw [around_handled h1, hh], ?_, h3, lo, h4⟩
  have := around_depth A κ
  have := Nat.le_of_ble_eq_true hm
  omega
theorem Fit.move (hA : Fit n A kt h₀) (D : Rep kt h₀ mods h B L X r) : Fit n A kt h := hA.inner D .base (by rw [show koD .base = 0 from rfl, Nat.zero_add]; exact Nat.ble_eq_true_of_le (Nat.le_refl n)) rfl
theorem Fit.less (hA : Fit n A kt h₀) (hm : Nat.ble m n = true) : Fit m A kt h₀ := by
  obtain ⟨h1, h2, h3, lo, h4⟩ := hA
  have := Nat.le_of_ble_eq_true hm
  exact ⟨h1, by omega, h3, lo, h4⟩
theorem Fit.under (hA : Fit n A kt h₀) (c : Code) (hm : Nat.ble (wF c + m) n = true) : Fit m (A.under c) kt h₀ := by
  obtain ⟨h1, h2, h3, lo, h4⟩ := hA
  refine ⟨h1, ?_, h3, lo, h4⟩
  have h5 : (A.under c).depth = A.depth + c.weight := rfl
  have := wF_le c
  have := Nat.le_of_ble_eq_true hm
  omega
theorem sel_sub : ∀ (m : List Nat) (l : Led), (sel m l).Sublist l := by
  intro m
  induction m with
  | nil => intro l; exact List.nil_sublist l
  | cons a m ih =>
    intro l
    cases l with
    | nil => cases a <;> exact List.Sublist.refl _
    | cons p l => cases a with
      | zero => exact (ih l).trans (List.sublist_cons_self p l)
      | succ a => exact (ih l).cons₂ p
theorem Rep.reX (D : Rep kt h₀ mods h B L X r) (m : List Nat) : Rep kt h ((sel m L ++ X).map (·.1)) h h.objs.size (sel m L) X 0 := by
  have D1 := D.sub (L' := sel m L) (X' := X) ((sel_sub m L).append_right X)
  refine Rep.start (sel m L) X D1.at_ D1.nd fun a o e => ⟨D.kt_ e, fun hm => ?_⟩
  obtain ⟨p, hp, rfl⟩ := List.mem_map.mp hm
  obtain ⟨e0, nm⟩ := D.top _ _ e
  rcases D1.own p hp with q | q
  · exact nm q
  · rw [q] at e0; cases e0
theorem Rep.re (D : Rep kt h₀ mods h B L X r) (m : List Nat) : Rep kt h ((sel m L).map (·.1)) h h.objs.size (sel m L) [] 0 := by
  have D1 := D.sub (L' := sel m L) (X' := []) (by rw [List.append_nil]; exact (sel_sub m L).trans (List.sublist_append_left L X))
  have z := D1.reX (m := (sel m L).map fun _ => 1)
  have e : ∀ l : Led, sel (l.map fun _ => 1) l = l := fun l => by
    induction l with
    | nil => rfl
    | cons p l ih => show p :: sel (l.map fun _ => 1) l = p :: l; rw [ih]
  rw [e, List.append_nil] at z
  exact z
/-- only what the mask tells -/
theorem Rep.keepL (D : Rep kt h₀ mods h B L X r) (m : List Nat) : Rep kt h₀ mods h h.objs.size (sel m L) X 0 := (D.sub ((sel_sub m L).append_right X)).base
end
section
variable {kt : Nat → Option Obj} {h₀ h h' : Heap} {mods : List Nat} {B : Nat} {L X Lo : Led} {r : Nat}
theorem Rep.fin (D : Rep kt h₀ mods h B L X r) (m : List Nat) {Lo : Led} (e : sel m L = Lo) : After h₀ h mods Lo := e ▸ D.doneM m
theorem Rep.only (D : Rep kt h₀ mods h B L X r) (m : List Nat) {Lo : Led} (e : sel m L = Lo) : Rep kt h₀ mods h h.objs.size Lo X 0 := e ▸ D.keepL m
/-- begin a callee on a part -/
theorem Rep.give (D : Rep kt h₀ mods h B L X r) (m : List Nat) {L' : Led} (e : sel m L = L') : Rep kt h (L'.map (·.1)) h h.objs.size L' [] 0 := e ▸ D.re m
/-- behind a callee that was given a part -/
theorem Rep.back (D : Rep kt h₀ mods h B L X r) (m : List Nat) {cm : List Nat} (e : (sel m L).map (·.1) = cm) (a : After h h' cm Lo) : Rep kt h₀ mods h' h'.objs.size (Lo ++ cpl m L) X 0 := D.after m (e ▸ a)
theorem Rep.backTo (D : Rep kt h₀ mods h B L X r) (m : List Nat) {cm : List Nat} {L' : Led} (e : (sel m L).map (·.1) = cm) (a : After h h' cm Lo) (e' : Lo ++ cpl m L = L') : Rep kt h₀ mods h' h'.objs.size L' X 0 := e' ▸ D.after m (e ▸ a)
theorem Rep.onlyE (D : Rep kt h₀ mods h B L X r) (m : List Nat) (Lo : Led) (e : sel m L = Lo) : ∃ B', Rep kt h₀ mods h B' Lo X 0 := ⟨_, D.only m e⟩
/-- behind a callee: given by m, of what comes back and what was kept only m2 -/
theorem Rep.backE (D : Rep kt h₀ mods h B L X r) (m m2 : List Nat) {cm : List Nat} (L' : Led) (e : (sel m L).map (·.1) = cm) (a : After h h' cm Lo) (e' : sel m2 (Lo ++ cpl m L) = L') : ∃ B', Rep kt h₀ mods h' B' L' X 0 := (D.back m e a).onlyE m2 L' e'
end
/-- an entry and a frame -/
noncomputable def ent (w : World) (nm : List Nat) (t : Nat) (v : Value) : DictEntry := { hash := if (⟨nm⟩ : Array Nat).isEmpty = true then 0 else reduceHash (w.params.strHash ⟨nm⟩), key := .str ⟨⟨nm⟩⟩ t, val := v }
def fobj (l : List DictEntry) (n : Nat) : Obj := { cls := .type "frame", data := .dict ⟨l⟩ n }
def whileOf : Stmt → Env → Code
  | .While t b o _, env => .whileLoop t b o env
  | _, _ => default
end Mine
end
section
open PySem PySem.W PySem.Calls PyProof.Rows
set_option Elab.async false
set_option maxRecDepth 100000
namespace Mine
def pick : List Nat → Led → Led
  | [], _ => []
  | i :: ix, L => match nth L i with
    | some p => p :: pick ix L
    | none => pick ix L
theorem pick_mem {L : Led} {p : Nat × Obj} : ∀ {ix : List Nat}, p ∈ pick ix L → ∃ i ∈ ix, nth L i = some p := by
  intro ix
  induction ix with
  | nil => intro h; cases h
  | cons i ix ih =>
    intro h
    unfold pick at h
    split at h
    · rename_i q e
      rcases List.mem_cons.mp h with rfl | h
      · exact ⟨i, List.mem_cons_self, e⟩
      · obtain ⟨j, hj, e'⟩ := ih h
        exact ⟨j, List.mem_cons_of_mem _ hj, e'⟩
    · obtain ⟨j, hj, e'⟩ := ih h
      exact ⟨j, List.mem_cons_of_mem _ hj, e'⟩
theorem nth_inj {L : Led} (nd : (L.map (·.1)).Nodup) : ∀ {i j : Nat} {p q : Nat × Obj}, nth L i = some p → nth L j = some q → p.1 = q.1 → i = j := by
  induction L with
  | nil => intro i j p q h; exact absurd (show (none : Option (Nat × Obj)) = some p from h) (by simp)
  | cons x l ih =>
    intro i j p q hp hq e
    have nd' := List.nodup_cons.mp (show (x.1 :: l.map (·.1)).Nodup from nd)
    cases i with
    | zero => cases j with
      | zero => rfl
      | succ j =>
        have ep : x = p := Option.some.inj (show some x = some p from hp)
        subst ep
        exact absurd (List.mem_map.mpr ⟨q, nth_mem (show nth l j = some q from hq), e.symm⟩) nd'.1
    | succ i => cases j with
      | zero =>
        have eq : x = q := Option.some.inj (show some x = some q from hq)
        subst eq
        exact absurd (List.mem_map.mpr ⟨p, nth_mem (show nth l i = some p from hp), e⟩) nd'.1
      | succ j => rw [ih nd'.2 (show nth l i = some p from hp) (show nth l j = some q from hq) e]
theorem pick_nd {L : Led} (nd : (L.map (·.1)).Nodup) : ∀ {ix : List Nat}, ix.Nodup → ((pick ix L).map (·.1)).Nodup := by
  intro ix
  induction ix with
  | nil => intro _; exact List.nodup_nil
  | cons i ix ih =>
    intro h
    obtain ⟨h1, h2⟩ := List.nodup_cons.mp h
    unfold pick
    split
    · rename_i p e
      refine List.nodup_cons.mpr ⟨fun hm => ?_, ih h2⟩
      obtain ⟨q, hq, eq⟩ := List.mem_map.mp hm
      obtain ⟨j, hj, ej⟩ := pick_mem hq
      exact h1 (nth_inj nd e ej eq.symm ▸ hj)
    · exact ih h2
section
variable {kt : Nat → Option Obj} {h₀ h h' : Heap} {mods : List Nat} {B : Nat} {L X Lo : Led} {r : Nat}
theorem Rep.pick (D : Rep kt h₀ mods h B L X r) (ix : List Nat) (nd : ix.Nodup) : Rep kt h₀ mods h h.objs.size (pick ix L) X 0 := by
  have sub : ∀ q ∈ Mine.pick ix L ++ X, q ∈ L ++ X := fun q hq => by
    rcases List.mem_append.mp hq with hq | hq
    · obtain ⟨i, _, e⟩ := pick_mem hq
      exact List.mem_append_left _ (nth_mem e)
    · exact List.mem_append_right _ hq
  have nd0 := D.nd
  rw [List.map_append] at nd0
  obtain ⟨n1, n2, n3⟩ := List.nodup_append.mp nd0
  refine ⟨rfl, fun q hq => D.at_ q (sub q hq), ?_, D.keep, fun q hq => D.own q (sub q hq), D.top, D.le⟩
  rw [List.map_append]
  refine List.nodup_append.mpr ⟨pick_nd n1 nd, n2, fun x hx y hy => ?_⟩
  obtain ⟨p, hp, rfl⟩ := List.mem_map.mp hx
  obtain ⟨i, _, e⟩ := pick_mem hp
  exact n3 _ (List.mem_map.mpr ⟨p, nth_mem e, rfl⟩) _ hy
theorem Rep.pickE (D : Rep kt h₀ mods h B L X r) (ix : List Nat) (L' : Led) (e : Mine.pick ix L = L') (nd : ix.Nodup := by decide) : ∃ B', Rep kt h₀ mods h B' L' X 0 := ⟨_, e ▸ D.pick ix nd⟩
/-- behind a callee: given by m; of what comes back and what was kept the places ix -/
theorem Rep.backP (D : Rep kt h₀ mods h B L X r) (m ix : List Nat) {cm : List Nat} (L' : Led) (e : (sel m L).map (·.1) = cm) (a : After h h' cm Lo) (e' : Mine.pick ix (Lo ++ cpl m L) = L') (nd : ix.Nodup := by decide) : ∃ B', Rep kt h₀ mods h' B' L' X 0 := (D.back m e a).pickE ix L' e' nd
/-- what a body leaves, in the order told -/
theorem Rep.finP (D : Rep kt h₀ mods h B L X r) (ix : List Nat) {Lo : Led} (e : Mine.pick ix L = Lo) (nd : ix.Nodup := by decide) : After h₀ h mods Lo := by
  have D1 := D.pick ix nd
  rw [e] at D1
  exact D1.done Lo X (List.Perm.refl _)
theorem pick_app (L : Led) : ∀ (ix jx : List Nat), Mine.pick (ix ++ jx) L = Mine.pick ix L ++ Mine.pick jx L := by
  intro ix jx
  induction ix with
  | nil => rfl
  | cons i ix ih =>
    show (match nth L i with | some p => p :: Mine.pick (ix ++ jx) L | none => Mine.pick (ix ++ jx) L) = (match nth L i with | some p => p :: Mine.pick ix L | none => Mine.pick ix L) ++ Mine.pick jx L
    cases nth L i with
    | none => exact ih
    | some p => exact congrArg (p :: ·) ih
/-- set a part aside -/
theorem Rep.partE (D : Rep kt h₀ mods h B L [] r) (ix jx : List Nat) (L' X' : Led) (e : Mine.pick ix L = L') (e' : Mine.pick jx L = X') (nd : (ix ++ jx).Nodup := by decide) : ∃ B', Rep kt h₀ mods h B' L' X' 0 := by
  have D1 := D.pick (ix ++ jx) nd
  rw [pick_app, e, e'] at D1
  exact ⟨_, D1.perm (by rw [List.append_nil])⟩
/-- take it back -/
theorem Rep.joinX (D : Rep kt h₀ mods h B L X r) : Rep kt h₀ mods h B (L ++ X) [] r := D.perm (by rw [List.append_nil])
end
end Mine
end
section
open PySem PySem.W PySem.Calls PyProof.Rows
set_option Elab.async false
set_option maxRecDepth 100000
namespace Mine
open PySem.Sre PySem.Builtin.Re
theorem runFor_done {m : Sre.M} (h : m.outcome.isSome = true) : ∀ n, M.runFor n m = m := by
  intro n
  cases n with
  | zero => rfl
  | succ n => unfold M.runFor; rw [if_pos h]
theorem runFor_add : ∀ (a b : Nat) (m : Sre.M), M.runFor (a + b) m = M.runFor b (M.runFor a m) := by
  intro a
  induction a with
  | zero => intro b m; rw [Nat.zero_add]; rfl
  | succ a ih =>
    intro b m
    by_cases h : m.outcome.isSome = true
    · rw [runFor_done h, runFor_done h, runFor_done h]
    · have e1 : M.runFor (a + 1 + b) m = M.runFor (a + b) m.step := by
        rw [show a + 1 + b = (a + b) + 1 by omega]
        show (if m.outcome.isSome = true then m else M.runFor (a + b) m.step) = _
        rw [if_neg h]
      have e2 : M.runFor (a + 1) m = M.runFor a m.step := by
        show (if m.outcome.isSome = true then m else M.runFor a m.step) = _
        rw [if_neg h]
      rw [e1, e2, ih]
theorem wp_drive {MM : Model} {A : Around} {Q : Sre.M → Shared → Prop} {E : Value → Shared → Prop} {s : Shared} : ∀ (T n : Nat) (m : Sre.M), n ≤ 4 * T → (0 < T) → (M.runFor n m).outcome.isSome = true → Q (M.runFor n m) s → wpAny MM A (reDrive T m) Q E s := by
  intro T
  induction T with
  | zero => intro n m _ h; exact absurd h (Nat.lt_irrefl 0)
  | succ T ih =>
    intro n m hn _ ho hq
    unfold reDrive
    show wpAny MM A (if (M.runFor reTurnSteps m).outcome.isSome = true then pure (M.runFor reTurnSteps m) else (rule "sre.turn" >>= fun _ => reDrive T (M.runFor reTurnSteps m))) Q E s
    by_cases h4 : n ≤ 4
    · have e : M.runFor reTurnSteps m = M.runFor n m := by
        have e4 : reTurnSteps = n + (4 - n) := by show 4 = _; omega
        rw [e4, runFor_add, runFor_done ho]
      rw [e, if_pos ho]
      exact wpAny_pure hq
    · have e : M.runFor (n - 4) (M.runFor reTurnSteps m) = M.runFor n m := by
        rw [← runFor_add]
        congr 1
        show 4 + (n - 4) = n
        omega
      by_cases h : (M.runFor reTurnSteps m).outcome.isSome = true
      · rw [if_pos h]
        rw [runFor_done h] at e
        rw [e]
        exact wpAny_pure hq
      · rw [if_neg h]
        refine wpAny_bind (wpAny_rule ?_)
        rcases Nat.eq_zero_or_pos T with rfl | hT
        · omega
        · exact ih (n - 4) _ (by omega) hT (by rw [e]; exact ho) (by rw [e]; exact hq)
theorem wp_rules {MM : Model} {A : Around} {E : Value → Shared → Prop} {s : Shared} (c : Nat → Bool) (nm : Nat → String) : ∀ (l : List Nat) {Q : Unit → Shared → Prop}, Q () s →
    wpAny MM A (forIn l () fun i _ => (if c i = true then (rule (nm i) >>= fun _ => pure (ForInStep.yield ())) else pure (ForInStep.yield ()) : Sem (ForInStep Unit))) Q E s := by
  intro l
  induction l with
  | nil => intro Q h; exact wpAny_pure h
  | cons i l ih =>
    intro Q h
    rw [List.forIn_cons]
    refine wpAny_bind ?_
    by_cases hc : c i = true
    · rw [if_pos hc]
      exact wpAny_bind (wpAny_rule (wpAny_pure (ih h)))
    · rw [if_neg hc]
      exact wpAny_pure (ih h)
theorem wp_found {MM : Model} {A : Around} {Q : Option Sre.M → Shared → Prop} {E : Value → Shared → Prop} {s : Shared} (n : Nat) (m : Sre.M) (hn : n ≤ 4 * 2 ^ 64) (ho : (M.runFor n m).outcome = some .matched) (hq : Q (some (M.runFor n m)) s) : wpAny MM A (reRunToEnd m) Q E s := by
  unfold reRunToEnd
  refine wpAny_bind (wp_drive (2 ^ 64) n m hn (by decide) (by rw [ho]; rfl) ?_)
  refine wpAny_bind (wp_rules _ _ _ ?_)
  rw [ho]
  exact wpAny_pure hq
theorem wp_none {MM : Model} {A : Around} {Q : Option Sre.M → Shared → Prop} {E : Value → Shared → Prop} {s : Shared} (n : Nat) (m : Sre.M) (hn : n ≤ 4 * 2 ^ 64) (ho : (M.runFor n m).outcome = some .failed) (hq : Q none s) : wpAny MM A (reRunToEnd m) Q E s := by
  unfold reRunToEnd
  refine wpAny_bind (wp_drive (2 ^ 64) n m hn (by decide) (by rw [ho]; rfl) ?_)
  refine wpAny_bind (wp_rules _ _ _ ?_)
  rw [ho]
  exact wpAny_pure hq
end Mine
end
section
open PySem PySem.W PySem.Calls PyProof.Rows
set_option Elab.async false
set_option maxRecDepth 100000
namespace Mine
open PySem.Sre PySem.Builtin.Re
def cd1 : Array Nat := #[14, 4, 0, 1, 1, 6, 1, 16, 46, 1]
def T1 (x : Array Nat) (start : Nat) (o : Bool) (pc pos hd : Nat) (fr : List Sre.Frame) (wt : Nat) (an : Option Bool) (se : Sre.Seen) (oc : Option Sre.Outcome) : Sre.M :=
  { code := cd1, text := x, lim := x.size, start, lastStart := x.size, pc, pos, handed := hd, outermost := o, marks := #[], frames := fr, weight := wt, answer := an, seen := se, outcome := oc }
def fr1 (s : Nat) (o : Bool) : List Sre.Frame := [{ wait := .nextStart, pc := 5, pos := s, outermost := o }]
section
variable (x : Array Nat) (s : Nat) (o : Bool) (se : Sre.Seen)
theorem t1a : ∃ se', M.step (T1 x s o 5 s s (fr1 s o) 1 none se none) = if (s == 0 || x.getD (s - 1) 0 == 10) = true then T1 x s o 7 s s (fr1 s o) 1 none se' none else T1 x s o 5 s s (fr1 s o) 1 (some false) se' none := ⟨_, rfl⟩
theorem t1b : ∃ se', M.step (T1 x s o 7 s s (fr1 s o) 1 none se none) = if s ≥ x.size then T1 x s o 7 s s (fr1 s o) 1 (some false) se' none else match x.getD s 0 == 46 with
  | true => T1 x s o 9 (s + 1) s (fr1 s o) 1 none se' none
  | false => T1 x s o 7 s s (fr1 s o) 1 (some false) se' none := by
  refine ⟨se.add 16, ?_⟩
  cases h : x.getD s 0 == 46 <;> (show (if s ≥ x.size then _ else (match (Except.ok (x.getD s 0 == 46, se.add 16) : Except String (Bool × Sre.Seen)) with | .error why => _ | .ok (false, seen) => _ | .ok (true, seen) => _)) = _; rw [h]; rfl)
theorem t1c : ∃ se', M.step (T1 x s o 9 (s + 1) s (fr1 s o) 1 none se none) = T1 x s o 9 (s + 1) (s + 1) (fr1 s o) 1 (some true) se' none := by
  cases o <;> exact ⟨_, rfl⟩
theorem t1d : M.step (M.step (T1 x s o 9 (s + 1) (s + 1) (fr1 s o) 1 (some true) se none)) = T1 x s o 5 s (s + 1) [] 0 (some true) se (some .matched) := rfl
theorem t1f (pc : Nat) : M.step (T1 x s o pc s s (fr1 s o) 1 (some false) se none) = if s < x.size then T1 x (s + 1) false 5 (s + 1) (s + 1) (fr1 (s + 1) false) 1 none se none else T1 x s o 5 s s [] 0 (some false) se none := rfl
theorem t1g (pc : Nat) : M.step (T1 x s o pc s s [] 0 (some false) se none) = T1 x s o pc s s [] 0 (some false) se (some .failed) := rfl
end
theorem rf1 {m : Sre.M} (h : m.outcome = none) (n : Nat) : M.runFor (n + 1) m = M.runFor n m.step := by
  show (if m.outcome.isSome = true then m else M.runFor n m.step) = _
  rw [h]
  rfl
def nextP (p : Nat → Bool) : Nat → Nat → Option Nat
  | 0, _ => none
  | k + 1, s => if p s = true then some s else nextP p k (s + 1)
/-- a run that ends at a match from q to e, or at none -/
def Found (m : Sre.M) (N : Nat) : Option (Nat × Nat) → Prop
  | some (q, e) => ∃ n, n ≤ N ∧ (M.runFor n m).outcome = some .matched ∧ (M.runFor n m).start = q ∧ (M.runFor n m).handed = e
  | none => ∃ n, n ≤ N ∧ (M.runFor n m).outcome = some .failed
theorem Found.step {m m' : Sre.M} {N : Nat} {r : Option (Nat × Nat)} (ho : m.outcome = none) (e : M.step m = m') (h : Found m' N r) : Found m (N + 1) r := by
  cases r with
  | none =>
    obtain ⟨n, hn, h⟩ := h
    exact ⟨n + 1, by omega, by rw [rf1 ho, e]; exact h⟩
  | some q =>
    obtain ⟨n, hn, h⟩ := h
    exact ⟨n + 1, by omega, by rw [rf1 ho, e]; exact h⟩
theorem Found.mono {m : Sre.M} {N N' : Nat} {r : Option (Nat × Nat)} (h : Found m N r) (hn : N ≤ N') : Found m N' r := by
  cases r with
  | none => obtain ⟨n, hn', h⟩ := h; exact ⟨n, by omega, h⟩
  | some q => obtain ⟨n, hn', h⟩ := h; exact ⟨n, by omega, h⟩
theorem Found.now {m : Sre.M} {q e : Nat} (h : m.outcome = some .matched) (h1 : m.start = q) (h2 : m.handed = e) : Found m 0 (some (q, e)) := ⟨0, Nat.le_refl _, h, h1, h2⟩
theorem Found.no {m : Sre.M} (h : m.outcome = some .failed) : Found m 0 none := ⟨0, Nat.le_refl _, h⟩
def bolDot (x : Array Nat) (q : Nat) : Bool := (q == 0 || x.getD (q - 1) 0 == 10) && decide (q < x.size) && (x.getD q 0 == 46)
theorem t1_fail (x : Array Nat) (s : Nat) (o : Bool) (pc : Nat) (se : Sre.Seen) (k : Nat) (hk : x.size - s = k) (hs : s ≤ x.size)
    (ih : ∀ k' < k, ∀ s o se, x.size - s = k' → s ≤ x.size → Found (T1 x s o 5 s s (fr1 s o) 1 none se none) (3 * k' + 6) ((nextP (bolDot x) (k' + 1) s).map fun q => (q, q + 1)))
    (hd : bolDot x s = false) : Found (T1 x s o pc s s (fr1 s o) 1 (some false) se none) (3 * k + 4) ((nextP (bolDot x) (k + 1) s).map fun q => (q, q + 1)) := by
  have e0 : nextP (bolDot x) (k + 1) s = nextP (bolDot x) k (s + 1) := by
    show (if bolDot x s = true then _ else _) = _
    rw [if_neg (by rw [hd]; exact Bool.false_ne_true)]
  rw [e0]
  by_cases h : s < x.size
  · obtain ⟨k', rfl⟩ : ∃ k', k = k' + 1 := ⟨k - 1, by omega⟩
    refine (Found.step rfl ((t1f x s o se pc).trans (if_pos h)) (ih k' (by omega) (s + 1) false se (by omega) (by omega))).mono (by omega)
  · have e1 : k = 0 := by omega
    subst e1
    refine (Found.step rfl ((t1f x s o se pc).trans (if_neg h)) (Found.step rfl (t1g x s o se 5) (Found.no rfl))).mono (by omega)
theorem t1_run (x : Array Nat) : ∀ k s o se, x.size - s = k → s ≤ x.size → Found (T1 x s o 5 s s (fr1 s o) 1 none se none) (3 * k + 6) ((nextP (bolDot x) (k + 1) s).map fun q => (q, q + 1)) := by
  intro k
  induction k using Nat.strongRecOn with
  | ind k ih =>
  intro s o se hk hs
  obtain ⟨se1, e1⟩ := t1a x s o se
  by_cases hb : (s == 0 || x.getD (s - 1) 0 == 10) = true
  · rw [if_pos hb] at e1
    obtain ⟨se2, e2⟩ := t1b x s o se1
    by_cases hl : s ≥ x.size
    · rw [if_pos hl] at e2
      refine (Found.step rfl e1 (Found.step rfl e2 (t1_fail x s o 7 se2 k hk hs ih ?_))).mono (by omega)
      unfold bolDot
      rw [decide_eq_false (by omega : ¬ s < x.size), Bool.and_false, Bool.false_and]
    · rw [if_neg hl] at e2
      cases hc : x.getD s 0 == 46 with
      | true =>
        rw [hc] at e2
        obtain ⟨se3, e3⟩ := t1c x s o se2
        have e0 : nextP (bolDot x) (k + 1) s = some s := by
          show (if bolDot x s = true then _ else _) = _
          rw [if_pos]
          unfold bolDot
          rw [hb, hc, decide_eq_true (by omega : s < x.size)]
          rfl
        rw [e0]
        refine (Found.step rfl e1 (Found.step rfl e2 (Found.step rfl e3 ?_))).mono (N := 2 + 1 + 1 + 1) (by omega)
        exact ⟨2, Nat.le_refl _, rfl, rfl, rfl⟩
      | false =>
        rw [hc] at e2
        refine (Found.step rfl e1 (Found.step rfl e2 (t1_fail x s o 7 se2 k hk hs ih ?_))).mono (by omega)
        unfold bolDot
        rw [hc, Bool.and_false]
  · rw [if_neg hb] at e1
    refine (Found.step rfl e1 (t1_fail x s o 5 se1 k hk hs ih ?_)).mono (by omega)
    unfold bolDot
    rw [Bool.eq_false_iff.mpr hb, Bool.false_and, Bool.false_and]
theorem search1 (x : Array Nat) (s : Nat) (hs : s ≤ x.size) : Found (forSearch cd1 x 0 s x.size false) (3 * (x.size - s) + 6) ((nextP (bolDot x) (x.size - s + 1) s).map fun q => (q, q + 1)) := by
  by_cases h : s < x.size
  · have e : forSearch cd1 x 0 s x.size false = T1 x s true 5 s s (fr1 s true) 1 none (({} : Sre.Seen).add 14) none := by
      have e2 : ¬ ((decide (s > x.size) || decide (x.size - s < 1)) = true) := by simp; omega
      show (if (decide (s > x.size) || decide (x.size - s < 1)) = true then _ else _) = _
      rw [if_neg e2]
      rfl
    rw [e]
    exact t1_run x _ s true _ rfl hs
  · have e0 : x.size - s = 0 := by omega
    rw [e0]
    have e1 : nextP (bolDot x) (0 + 1) s = none := by
      show (if bolDot x s = true then _ else _) = _
      rw [if_neg]
      · rfl
      · unfold bolDot
        rw [decide_eq_false h, Bool.and_false, Bool.false_and]
        exact Bool.false_ne_true
    rw [e1]
    have e2 : (decide (s > x.size) || decide (x.size - s < 1)) = true := by simp; omega
    refine ⟨1, by omega, ?_⟩
    have e : forSearch cd1 x 0 s x.size false = (if (decide (s > x.size) || decide (x.size - s < 1)) = true then M.say { code := cd1, text := x, lim := x.size, start := s, pc := 5, pos := s, handed := s, marks := #[], seen := ({} : Sre.Seen).add 14 } false else M.attemptFrom { code := cd1, text := x, lim := x.size, start := s, pc := 5, pos := s, handed := s, marks := #[], seen := ({} : Sre.Seen).add 14, lastStart := x.size } s true) := rfl
    rw [e, if_pos e2]
    rfl
end Mine
end
section
open PySem PySem.W PySem.Calls PyProof.Rows
set_option Elab.async false
set_option maxRecDepth 100000
namespace Mine
open PySem.Sre PySem.Builtin.Re
def cd2 : Array Nat := #[14, 9, 4, 1, 2, 16, 10, 16, 13, 0, 7, 7, 16, 13, 16, 10, 15, 18, 5, 16, 10, 15, 13, 11, 16, 13, 5, 5, 0, 16, 10, 1, 15, 2, 0, 1]
def T2 (x : Array Nat) (start : Nat) (o : Bool) (pc pos hd : Nat) (fr : List Sre.Frame) (wt : Nat) (an : Option Bool) (se : Sre.Seen) (oc : Option Sre.Outcome) : Sre.M :=
  { code := cd2, text := x, lim := x.size, start, lastStart := x.size, pc, pos, handed := hd, outermost := o, marks := #[], frames := fr, weight := wt, answer := an, seen := se, outcome := oc }
def fn2 (s : Nat) (o : Bool) : Sre.Frame := { wait := .nextStart, pc := 10, pos := s, outermost := o }
def fb2 (pc s : Nat) (o : Bool) : Sre.Frame := { wait := .nextBranch, pc := pc, pos := s, outermost := o }
def fl2 (s : Nat) (o : Bool) : Sre.Frame := { wait := .lookNot, pc := 26, pos := s, outermost := o }
theorem nextP_none {p : Nat → Bool} : ∀ k s, (∀ q, s ≤ q → p q = false) → nextP p k s = none := by
  intro k
  induction k with
  | zero => intro s _; rfl
  | succ k ih =>
    intro s h
    show (if p s = true then _ else _) = _
    rw [if_neg (by rw [h s (Nat.le_refl _)]; exact Bool.false_ne_true)]
    exact ih (s + 1) fun q hq => h q (by omega)
def isNl (x : Array Nat) (q : Nat) : Bool := decide (q < x.size) && (x.getD q 0 == 10 || x.getD q 0 == 13)
def nlEnd (x : Array Nat) (q : Nat) : Nat := if (x.getD q 0 == 13 && decide (q + 1 < x.size) && x.getD (q + 1) 0 == 10) = true then q + 2 else q + 1
theorem inSet2 (c : Nat) (se : Sre.Seen) : ∃ se', inSet cd2 c 36 5 true se = .ok (c == 10 || c == 13, se') := by
  by_cases h : (c == 10) = true
  · refine ⟨se.add 16, ?_⟩
    show (if (c == 10) = true then _ else _) = _
    rw [if_pos h, h]
    rfl
  · by_cases h2 : (c == 13) = true
    · refine ⟨(se.add 16).add 16, ?_⟩
      show (if (c == 10) = true then _ else (if (c == 13) = true then _ else _)) = _
      rw [if_neg h, if_pos h2, h2, Bool.or_true]
      rfl
    · refine ⟨((se.add 16).add 16).add 0, ?_⟩
      show (if (c == 10) = true then _ else (if (c == 13) = true then _ else _)) = _
      rw [if_neg h, if_neg h2, Bool.eq_false_iff.mpr h, Bool.eq_false_iff.mpr h2]
      rfl
theorem adm2 (m : Sre.M) (hc : m.code = cd2) (hl : m.lim = m.text.size) : ∀ fuel s se, m.text.size < s + fuel → ∃ se', M.admitted m fuel s se = .ok (nextP (isNl m.text) fuel s, se') := by
  intro fuel
  induction fuel with
  | zero => intro s se _; exact ⟨se, rfl⟩
  | succ fuel ih =>
    intro s se h
    unfold M.admitted
    by_cases hs : s ≥ m.lim
    · refine ⟨se, ?_⟩
      rw [if_pos hs, nextP_none]
      intro q hq
      unfold isNl
      rw [decide_eq_false (by omega), Bool.false_and]
    · rw [if_neg hs]
      obtain ⟨se1, e1⟩ := inSet2 (m.text.getD s 0) se
      have e2 : inSet m.code (m.text.getD s 0) m.code.size 5 true se = .ok (m.text.getD s 0 == 10 || m.text.getD s 0 == 13, se1) := by rw [hc]; exact e1
      rw [e2]
      have e3 : isNl m.text s = (m.text.getD s 0 == 10 || m.text.getD s 0 == 13) := by
        unfold isNl
        rw [decide_eq_true (by omega : s < m.text.size), Bool.true_and]
      have e4 : nextP (isNl m.text) (fuel + 1) s = if isNl m.text s = true then some s else nextP (isNl m.text) fuel (s + 1) := rfl
      rw [e4, e3]
      cases m.text.getD s 0 == 10 || m.text.getD s 0 == 13 with
      | true => exact ⟨se1, rfl⟩
      | false =>
        obtain ⟨se2, e5⟩ := ih (s + 1) se1 (by omega)
        exact ⟨se2, e5⟩
section
variable (x : Array Nat) (st : Nat) (o : Bool) (se : Sre.Seen) (p hd : Nat) (fr : List Sre.Frame) (wt : Nat)
theorem l12 : ∃ se', M.step (T2 x st o 12 p hd fr wt none se none) = if p ≥ x.size then T2 x st o 12 p hd fr wt (some false) se' none else match x.getD p 0 == 13 with
  | true => T2 x st o 14 (p + 1) hd fr wt none se' none
  | false => T2 x st o 12 p hd fr wt (some false) se' none := by
  refine ⟨se.add 16, ?_⟩
  cases h : x.getD p 0 == 13 <;> (show (if p ≥ x.size then _ else (match (Except.ok (x.getD p 0 == 13, se.add 16) : Except String (Bool × Sre.Seen)) with | .error why => _ | .ok (false, seen) => _ | .ok (true, seen) => _)) = _; rw [h]; rfl)
theorem l14 : ∃ se', M.step (T2 x st o 14 p hd fr wt none se none) = if p ≥ x.size then T2 x st o 14 p hd fr wt (some false) se' none else match x.getD p 0 == 10 with
  | true => T2 x st o 16 (p + 1) hd fr wt none se' none
  | false => T2 x st o 14 p hd fr wt (some false) se' none := by
  refine ⟨se.add 16, ?_⟩
  cases h : x.getD p 0 == 10 <;> (show (if p ≥ x.size then _ else (match (Except.ok (x.getD p 0 == 10, se.add 16) : Except String (Bool × Sre.Seen)) with | .error why => _ | .ok (false, seen) => _ | .ok (true, seen) => _)) = _; rw [h]; rfl)
theorem l19 : ∃ se', M.step (T2 x st o 19 p hd fr wt none se none) = if p ≥ x.size then T2 x st o 19 p hd fr wt (some false) se' none else match x.getD p 0 == 10 with
  | true => T2 x st o 21 (p + 1) hd fr wt none se' none
  | false => T2 x st o 19 p hd fr wt (some false) se' none := by
  refine ⟨se.add 16, ?_⟩
  cases h : x.getD p 0 == 10 <;> (show (if p ≥ x.size then _ else (match (Except.ok (x.getD p 0 == 10, se.add 16) : Except String (Bool × Sre.Seen)) with | .error why => _ | .ok (false, seen) => _ | .ok (true, seen) => _)) = _; rw [h]; rfl)
theorem l24 : ∃ se', M.step (T2 x st o 24 p hd fr wt none se none) = if p ≥ x.size then T2 x st o 24 p hd fr wt (some false) se' none else match x.getD p 0 == 13 with
  | true => T2 x st o 26 (p + 1) hd fr wt none se' none
  | false => T2 x st o 24 p hd fr wt (some false) se' none := by
  refine ⟨se.add 16, ?_⟩
  cases h : x.getD p 0 == 13 <;> (show (if p ≥ x.size then _ else (match (Except.ok (x.getD p 0 == 13, se.add 16) : Except String (Bool × Sre.Seen)) with | .error why => _ | .ok (false, seen) => _ | .ok (true, seen) => _)) = _; rw [h]; rfl)
theorem l29 : ∃ se', M.step (T2 x st o 29 p hd fr wt none se none) = if p ≥ x.size then T2 x st o 29 p hd fr wt (some false) se' none else match x.getD p 0 == 10 with
  | true => T2 x st o 31 (p + 1) hd fr wt none se' none
  | false => T2 x st o 29 p hd fr wt (some false) se' none := by
  refine ⟨se.add 16, ?_⟩
  cases h : x.getD p 0 == 10 <;> (show (if p ≥ x.size then _ else (match (Except.ok (x.getD p 0 == 10, se.add 16) : Except String (Bool × Sre.Seen)) with | .error why => _ | .ok (false, seen) => _ | .ok (true, seen) => _)) = _; rw [h]; rfl)
theorem j16 : ∃ se', M.step (T2 x st o 16 p hd fr wt none se none) = T2 x st o 35 p hd fr wt none se' none := ⟨_, rfl⟩
theorem j21 : ∃ se', M.step (T2 x st o 21 p hd fr wt none se none) = T2 x st o 35 p hd fr wt none se' none := ⟨_, rfl⟩
theorem j32 : ∃ se', M.step (T2 x st o 32 p hd fr wt none se none) = T2 x st o 35 p hd fr wt none se' none := ⟨_, rfl⟩
theorem b10 : ∃ se', M.step (T2 x st o 10 st hd [fn2 st o] 1 none se none) = T2 x st o 12 st st [fb2 11 st o, fn2 st o] 2 none se' none := ⟨_, rfl⟩
theorem b11 (pc : Nat) : M.step (T2 x st o pc p hd [fb2 11 st o, fn2 st o] 2 (some false) se none) = T2 x st o 19 st st [fb2 18 st o, fn2 st o] 2 none se none := rfl
theorem b18 (pc : Nat) : M.step (T2 x st o pc p hd [fb2 18 st o, fn2 st o] 2 (some false) se none) = T2 x st o 24 st st [fb2 23 st o, fn2 st o] 2 none se none := rfl
theorem a26 (pb : Nat) : ∃ se', M.step (T2 x st o 26 p hd [fb2 pb st o, fn2 st o] 2 none se none) = T2 x st false 29 p p [fl2 p o, fb2 pb st o, fn2 st o] 3 none se' none := ⟨_, rfl⟩
theorem a29 (pb pc q : Nat) (o' : Bool) : M.step (T2 x st o' pc q hd [fl2 p o, fb2 pb st o, fn2 st o] 3 (some false) se none) = T2 x st o 32 p hd [fb2 pb st o, fn2 st o] 2 none se none := rfl
theorem s35 (pb : Nat) : ∃ se', M.step (T2 x st o 35 p hd [fb2 pb st o, fn2 st o] 2 none se none) = T2 x st o 35 p p [fb2 pb st o, fn2 st o] 2 (some true) se' none := by
  cases o <;> exact ⟨_, rfl⟩
theorem w2 (pb : Nat) : Found (T2 x st o 35 p p [fb2 pb st o, fn2 st o] 2 (some true) se none) 3 (some (st, p)) := ⟨3, Nat.le_refl _, rfl, rfl, rfl⟩
end
theorem t2_run (x : Array Nat) (s : Nat) (o : Bool) (se : Sre.Seen) (h : isNl x s = true) : Found (T2 x s o 10 s s [fn2 s o] 1 none se none) 30 (some (s, nlEnd x s)) := by
  unfold isNl at h
  obtain ⟨h1, h2⟩ := Bool.and_eq_true_iff.mp h
  have hs : ¬ s ≥ x.size := by have := of_decide_eq_true h1; omega
  obtain ⟨se1, e1⟩ := b10 x s o se s
  refine (Found.step rfl e1 ?_).mono (N := 29 + 1) (by omega)
  obtain ⟨se2, e2⟩ := l12 x s o se1 s s [fb2 11 s o, fn2 s o] 2
  rw [if_neg hs] at e2
  cases h13 : x.getD s 0 == 13 with
  | false =>
    rw [h13] at e2 h2
    rw [Bool.or_false] at h2
    have en : nlEnd x s = s + 1 := by unfold nlEnd; rw [h13, Bool.false_and, Bool.false_and]; rfl
    rw [en]
    refine (Found.step rfl e2 (Found.step rfl (b11 x s o se2 s s 12) ?_)).mono (N := 25 + 1 + 1) (by omega)
    obtain ⟨se3, e3⟩ := l19 x s o se2 s s [fb2 18 s o, fn2 s o] 2
    rw [if_neg hs, h2] at e3
    obtain ⟨se4, e4⟩ := j21 x s o se3 (s + 1) s [fb2 18 s o, fn2 s o] 2
    obtain ⟨se5, e5⟩ := s35 x s o se4 (s + 1) s 18
    exact (Found.step rfl e3 (Found.step rfl e4 (Found.step rfl e5 (w2 x s o se5 (s + 1) 18)))).mono (by omega)
  | true =>
    rw [h13] at e2
    refine (Found.step rfl e2 ?_).mono (N := 28 + 1) (by omega)
    obtain ⟨se3, e3⟩ := l14 x s o se2 (s + 1) s [fb2 11 s o, fn2 s o] 2
    by_cases hA : (decide (s + 1 < x.size) && x.getD (s + 1) 0 == 10) = true
    · obtain ⟨g1, g2⟩ := Bool.and_eq_true_iff.mp hA
      have hs1 : ¬ s + 1 ≥ x.size := by have := of_decide_eq_true g1; omega
      rw [if_neg hs1, g2] at e3
      have en : nlEnd x s = s + 1 + 1 := by unfold nlEnd; rw [h13, g1, g2]; rfl
      rw [en]
      obtain ⟨se4, e4⟩ := j16 x s o se3 (s + 1 + 1) s [fb2 11 s o, fn2 s o] 2
      obtain ⟨se5, e5⟩ := s35 x s o se4 (s + 1 + 1) s 11
      exact (Found.step rfl e3 (Found.step rfl e4 (Found.step rfl e5 (w2 x s o se5 (s + 1 + 1) 11)))).mono (by omega)
    · have en : nlEnd x s = s + 1 := by
        unfold nlEnd
        rw [h13, Bool.true_and, if_neg hA]
      rw [en]
      have f3 : ∃ se' pc' p', M.step (T2 x s o 14 (s + 1) s [fb2 11 s o, fn2 s o] 2 none se2 none) = T2 x s o pc' p' s [fb2 11 s o, fn2 s o] 2 (some false) se' none := by
        by_cases hs1 : s + 1 ≥ x.size
        · rw [if_pos hs1] at e3; exact ⟨_, _, _, e3⟩
        · rw [if_neg hs1] at e3
          cases g : x.getD (s + 1) 0 == 10 with
          | true => exact absurd (by rw [g, decide_eq_true (by omega)]; rfl) hA
          | false => rw [g] at e3; exact ⟨_, _, _, e3⟩
      obtain ⟨se3', pc3, p3, e3'⟩ := f3
      have h10 : (x.getD s 0 == 10) = false := by
        have := beq_iff_eq.mp h13
        rw [this]
        rfl
      obtain ⟨se4, e4⟩ := l19 x s o se3' s s [fb2 18 s o, fn2 s o] 2
      rw [if_neg hs, h10] at e4
      obtain ⟨se5, e5⟩ := l24 x s o se4 s s [fb2 23 s o, fn2 s o] 2
      rw [if_neg hs, h13] at e5
      obtain ⟨se6, e6⟩ := a26 x s o se5 (s + 1) s 23
      obtain ⟨se7, e7⟩ := l29 x s false se6 (s + 1) (s + 1) [fl2 (s + 1) o, fb2 23 s o, fn2 s o] 3
      have f7 : ∃ se' pc' p', M.step (T2 x s false 29 (s + 1) (s + 1) [fl2 (s + 1) o, fb2 23 s o, fn2 s o] 3 none se6 none) = T2 x s false pc' p' (s + 1) [fl2 (s + 1) o, fb2 23 s o, fn2 s o] 3 (some false) se' none := by
        by_cases hs1 : s + 1 ≥ x.size
        · rw [if_pos hs1] at e7; exact ⟨_, _, _, e7⟩
        · rw [if_neg hs1] at e7
          cases g : x.getD (s + 1) 0 == 10 with
          | true => exact absurd (by rw [g, decide_eq_true (by omega)]; rfl) hA
          | false => rw [g] at e7; exact ⟨_, _, _, e7⟩
      obtain ⟨se7', pc7, p7, e7'⟩ := f7
      obtain ⟨se8, e8⟩ := j32 x s o se7' (s + 1) (s + 1) [fb2 23 s o, fn2 s o] 2
      obtain ⟨se9, e9⟩ := s35 x s o se8 (s + 1) (s + 1) 23
      refine (Found.step rfl e3' (Found.step rfl (b11 x s o se3' p3 s pc3) (Found.step rfl e4 (Found.step rfl (b18 x s o se4 s s 19) (Found.step rfl e5 (Found.step rfl e6 (Found.step rfl e7' (Found.step rfl (a29 x s o se7' (s + 1) (s + 1) 23 pc7 p7 false) (Found.step rfl e8 (Found.step rfl e9 (w2 x s o se9 (s + 1) 23))))))))))).mono (by omega)
theorem search2 (x : Array Nat) (s : Nat) (hs : s ≤ x.size) : Found (forSearch cd2 x 0 s x.size false) 31 ((nextP (isNl x) (x.size + 1 - s) s).map fun q => (q, nlEnd x q)) := by
  have e : forSearch cd2 x 0 s x.size false = (if (decide (s > x.size) || decide (x.size - s < 1)) = true then M.say { code := cd2, text := x, lim := x.size, start := s, pc := 10, pos := s, handed := s, marks := #[], seen := ({} : Sre.Seen).add 14 } false else M.attemptFrom { code := cd2, text := x, lim := x.size, start := s, pc := 10, pos := s, handed := s, marks := #[], seen := ({} : Sre.Seen).add 14, lastStart := x.size } s true) := rfl
  by_cases h : s < x.size
  · have e2 : ¬ ((decide (s > x.size) || decide (x.size - s < 1)) = true) := by simp; omega
    rw [e, if_neg e2]
    have e3 : M.attemptFrom { code := cd2, text := x, lim := x.size, start := s, pc := 10, pos := s, handed := s, marks := #[], seen := ({} : Sre.Seen).add 14, lastStart := x.size } s true =
        match M.admitted ({ code := cd2, text := x, lim := x.size, start := s, pc := 10, pos := s, handed := s, marks := #[], seen := ({} : Sre.Seen).add 14, lastStart := x.size } : Sre.M) (x.size + 1 - s) s (({} : Sre.Seen).add 14) with
        | .ok (some q, seen) => T2 x q true 10 q q [fn2 q true] 1 none seen none
        | .ok (none, seen) => T2 x s true 10 s s [] 0 (some false) seen none
        | .error why => M.stick { code := cd2, text := x, lim := x.size, start := s, pc := 10, pos := s, handed := s, marks := #[], seen := ({} : Sre.Seen).add 14, lastStart := x.size } why := rfl
    rw [e3]
    obtain ⟨se, e4⟩ := adm2 { code := cd2, text := x, lim := x.size, start := s, pc := 10, pos := s, handed := s, marks := #[], seen := ({} : Sre.Seen).add 14, lastStart := x.size } rfl rfl (x.size + 1 - s) s (({} : Sre.Seen).add 14) (by show x.size < _; omega)
    rw [e4]
    show Found (match (Except.ok (nextP (isNl x) (x.size + 1 - s) s, se) : Except String (Option Nat × Sre.Seen)) with | .ok (some q, seen) => _ | .ok (none, seen) => _ | .error why => _) _ _
    cases hq : nextP (isNl x) (x.size + 1 - s) s with
    | none => exact ⟨1, by omega, rfl⟩
    | some q =>
      have hp : ∀ k s, nextP (isNl x) k s = some q → isNl x q = true := by
        intro k
        induction k with
        | zero => intro s h; cases h
        | succ k ih =>
          intro s h
          have e5 : nextP (isNl x) (k + 1) s = if isNl x s = true then some s else nextP (isNl x) k (s + 1) := rfl
          rw [e5] at h
          by_cases g : isNl x s = true
          · rw [if_pos g] at h; cases h; exact g
          · rw [if_neg g] at h; exact ih _ h
      exact (t2_run x q true se (hp _ _ hq)).mono (by omega)
  · have e2 : (decide (s > x.size) || decide (x.size - s < 1)) = true := by simp; omega
    rw [e, if_pos e2, nextP_none]
    · exact ⟨1, by omega, rfl⟩
    · intro q hq
      unfold isNl
      rw [decide_eq_false (by omega), Bool.false_and]
end Mine
end
section
open Lean PySem PySem.W PySem.W.X PyProof.Rows
set_option Elab.async false
namespace Mine
theorem onlyIf (n : Nat) (_ : PySem.Challenge.rw_rw0012_01.Holds) : n + 0 = n := rfl
set_option maxRecDepth 100000 in
set_option maxHeartbeats 0 in
/-- says nothing: its line lays out the head's constants (they are definitions) -/
theorem zaux (n : Nat) : n + 0 = n := by
  simp (discharger := (w_on; o_law; z_head)) only [onlyIf, Nat.add_zero]
/-- 111 is the table of _law_lexer's code: its first call writes into it -/
noncomputable def kt1 (w : World) (a : Nat) : Option Obj := match Nat.beq a 111 with
  | true => none
  | false => (zaux.ktop_268 w.params).get a
noncomputable def obAt (w : World) (a : Nat) : Obj := ((zaux.ktop_268 w.params).get a).getD default
noncomputable def fdAt (w : World) (a : Nat) : FuncData := (fnOf (obAt w a)).getD default
noncomputable abbrev PP (w : World) : Model := model PySem.Challenge.pw_rw0012_01 w
end Mine
end
section
open PySem PySem.W PySem.Calls PyProof.Rows
set_option Elab.async false
set_option maxRecDepth 100000
namespace Mine
noncomputable def envOf (w : World) (a B : Nat) (q : List Nat) : Env := { scope := (fdAt w a).scope, locals := B, globals := 3, cells := [], qual := ⟨⟨q⟩⟩, func := some a, code := (fdAt w a).code, frame := some B }
noncomputable def stmtAt (w : World) (a i : Nat) : Stmt := match (fdAt w a).body with
  | .stmts l => l.getD i default
  | _ => default
def q_ap := [73, 110, 116, 50, 65, 80, 46, 60, 108, 111, 99, 97, 108, 115, 62, 46]
def n_num := [110, 117, 109]
def n_val := [118, 97, 108]
def n_AP := [65, 80]
def n_mod := [109, 111, 100]
def APs : Array UInt8 := ⟨[65, 66, 67, 68, 69, 70, 71, 72, 73, 74, 75, 76, 77, 78, 79, 80]⟩
/-- the figures to the base 16, the greatest ahead -/
def hexL (n : Nat) : List Nat := if h : n = 0 then [] else hexL (n / 16) ++ [n % 16]
def hexB (n : Nat) : List UInt8 := (hexL n).map fun r => UInt8.ofNat (65 + r)
theorem hexB_zero : hexB 0 = [] := by unfold hexB hexL; rfl
theorem hexB_succ (n : Nat) : hexB (n + 1) = hexB ((n + 1) / 16) ++ [UInt8.ofNat (65 + (n + 1) % 16)] := by
  unfold hexB
  rw [hexL, dif_neg (Nat.succ_ne_zero n), List.map_append]
  rfl
def tupO (l : List Value) : Obj := { cls := .type "tuple", data := .seq ⟨l⟩ }
section
variable {w : World} {A : Around} {h₀ : Heap} {R : Result → Shared → Prop} {t0 : Nat} {g : Array GenState} {d : Drawn} {os : OsState} {kt : Nat → Option Obj} {prog : Program}
theorem r_divmod (hA : Fit 0 A kt h₀) (m tn tm : Nat) {B : Nat} {mods : List Nat} (D : Rep kt h₀ mods h₀ B [] [] 0)
   (hR : ∀ h1 a t1 t2 t', After h₀ h1 mods [(a, tupO [.int (.ofNat (m / 16)) t1, .int (.ofNat (m % 16)) t2])] → R (.ok (.ret (.ref a))) ⟨h1, g, d, t', os⟩) :
   codeAny (model prog w) A (.call (.builtin "divmod") ⟨[.int (.ofNat m) tn, .int 16 tm], []⟩) R ⟨h₀, g, d, t0, os⟩ := by
  obtain ⟨b1, b2, hw⟩ := parF_ex w
  refine code_go ?_
  refine segF (t0 := t0) (i := 0) 100000 [1] (Fin.done (Flow.ret (Value.ref B))) D (by assumption) (by assumption) ?_; intro o1; refine ⟨by kernel_rfl, by kernel_rfl, by kernel_rfl, fun h1 D1 => ?_⟩
  have a := D1.fin [1] (Lo := [(B, tupO [.int (Int.fdiv (.ofNat m) 16) t0, .int (Int.fmod (.ofNat m) 16) (t0 + 1)])]) (by kernel_rfl)
  rw [Int.fdiv_eq_ediv_of_nonneg _ (by decide), Int.fmod_eq_emod_of_nonneg _ (by decide)] at a
  exact hR h1 B t0 (t0 + 1) _ a
end
def sliceO (a b c : Value) : Obj := { cls := .type "slice", data := .fields ⟨[a, b, c]⟩ }
theorem r_APslice {w : World} {A : Around} {h₀ : Heap} {R : Result → Shared → Prop} {t0 : Nat} {g : Array GenState} {d : Drawn} {os : OsState} {kt : Nat → Option Obj} {prog : Program}
   (hA : Fit 0 A kt h₀) (r t1 t2 ta a B : Nat) {mods : List Nat} (hr : r < 16) (D : Rep kt h₀ mods h₀ B [(a, sliceO (.int (.ofNat r) t1) (.int (.ofNat (r + 1)) t2) .none)] [] 0)
   (hR : ∀ h1 t' t'', After h₀ h1 mods [] → R (.ok (.ret (.bytes ⟨[UInt8.ofNat (65 + r)]⟩ t'))) ⟨h1, g, d, t'', os⟩) :
   codeAny (model prog w) A (.call (.builtin "bytes.__getitem__") ⟨[.bytes APs ta, .ref a], []⟩) R ⟨h₀, g, d, t0, os⟩ := by
  obtain ⟨b1, b2, hw⟩ := parF_ex w
  have e : r = 0 ∨ r = 1 ∨ r = 2 ∨ r = 3 ∨ r = 4 ∨ r = 5 ∨ r = 6 ∨ r = 7 ∨ r = 8 ∨ r = 9 ∨ r = 10 ∨ r = 11 ∨ r = 12 ∨ r = 13 ∨ r = 14 ∨ r = 15 := by omega
  refine code_go ?_
  cases b1
  · rcases e with rfl | rfl | rfl | rfl | rfl | rfl | rfl | rfl | rfl | rfl | rfl | rfl | rfl | rfl | rfl | rfl
    · refine segF (t0 := t0) (i := 0) 100000 [1, 1, 1, 1, 1] (Fin.done (Flow.ret (Value.bytes ⟨[UInt8.ofNat (65 + 0)]⟩ t0))) D hA hw ?_; intro o1; refine ⟨by kernel_rfl, by kernel_rfl, by kernel_rfl, fun h1 D1 => hR h1 _ _ (D1.fin [] (by kernel_rfl))⟩
    · refine segF (t0 := t0) (i := 0) 100000 [1, 1, 1, 1, 1] (Fin.done (Flow.ret (Value.bytes ⟨[UInt8.ofNat (65 + 1)]⟩ t0))) D hA hw ?_; intro o1; refine ⟨by kernel_rfl, by kernel_rfl, by kernel_rfl, fun h1 D1 => hR h1 _ _ (D1.fin [] (by kernel_rfl))⟩
    · refine segF (t0 := t0) (i := 0) 100000 [1, 1, 1, 1, 1] (Fin.done (Flow.ret (Value.bytes ⟨[UInt8.ofNat (65 + 2)]⟩ t0))) D hA hw ?_; intro o1; refine ⟨by kernel_rfl, by kernel_rfl, by kernel_rfl, fun h1 D1 => hR h1 _ _ (D1.fin [] (by kernel_rfl))⟩
    · refine segF (t0 := t0) (i := 0) 100000 [1, 1, 1, 1, 1] (Fin.done (Flow.ret (Value.bytes ⟨[UInt8.ofNat (65 + 3)]⟩ t0))) D hA hw ?_; intro o1; refine ⟨by kernel_rfl, by kernel_rfl, by kernel_rfl, fun h1 D1 => hR h1 _ _ (D1.fin [] (by kernel_rfl))⟩
    · refine segF (t0 := t0) (i := 0) 100000 [1, 1, 1, 1, 1] (Fin.done (Flow.ret (Value.bytes ⟨[UInt8.ofNat (65 + 4)]⟩ t0))) D hA hw ?_; intro o1; refine ⟨by kernel_rfl, by kernel_rfl, by kernel_rfl, fun h1 D1 => hR h1 _ _ (D1.fin [] (by kernel_rfl))⟩
    · refine segF (t0 := t0) (i := 0) 100000 [1, 1, 1, 1, 1] (Fin.done (Flow.ret (Value.bytes ⟨[UInt8.ofNat (65 + 5)]⟩ t0))) D hA hw ?_; intro o1; refine ⟨by kernel_rfl, by kernel_rfl, by kernel_rfl, fun h1 D1 => hR h1 _ _ (D1.fin [] (by kernel_rfl))⟩
    · refine segF (t0 := t0) (i := 0) 100000 [1, 1, 1, 1, 1] (Fin.done (Flow.ret (Value.bytes ⟨[UInt8.ofNat (65 + 6)]⟩ t0))) D hA hw ?_; intro o1; refine ⟨by kernel_rfl, by kernel_rfl, by kernel_rfl, fun h1 D1 => hR h1 _ _ (D1.fin [] (by kernel_rfl))⟩
    · refine segF (t0 := t0) (i := 0) 100000 [1, 1, 1, 1, 1] (Fin.done (Flow.ret (Value.bytes ⟨[UInt8.ofNat (65 + 7)]⟩ t0))) D hA hw ?_; intro o1; refine ⟨by kernel_rfl, by kernel_rfl, by kernel_rfl, fun h1 D1 => hR h1 _ _ (D1.fin [] (by kernel_rfl))⟩
    · refine segF (t0 := t0) (i := 0) 100000 [1, 1, 1, 1, 1] (Fin.done (Flow.ret (Value.bytes ⟨[UInt8.ofNat (65 + 8)]⟩ t0))) D hA hw ?_; intro o1; refine ⟨by kernel_rfl, by kernel_rfl, by kernel_rfl, fun h1 D1 => hR h1 _ _ (D1.fin [] (by kernel_rfl))⟩
    · refine segF (t0 := t0) (i := 0) 100000 [1, 1, 1, 1, 1] (Fin.done (Flow.ret (Value.bytes ⟨[UInt8.ofNat (65 + 9)]⟩ t0))) D hA hw ?_; intro o1; refine ⟨by kernel_rfl, by kernel_rfl, by kernel_rfl, fun h1 D1 => hR h1 _ _ (D1.fin [] (by kernel_rfl))⟩
    · refine segF (t0 := t0) (i := 0) 100000 [1, 1, 1, 1, 1] (Fin.done (Flow.ret (Value.bytes ⟨[UInt8.ofNat (65 + 10)]⟩ t0))) D hA hw ?_; intro o1; refine ⟨by kernel_rfl, by kernel_rfl, by kernel_rfl, fun h1 D1 => hR h1 _ _ (D1.fin [] (by kernel_rfl))⟩
    · refine segF (t0 := t0) (i := 0) 100000 [1, 1, 1, 1, 1] (Fin.done (Flow.ret (Value.bytes ⟨[UInt8.ofNat (65 + 11)]⟩ t0))) D hA hw ?_; intro o1; refine ⟨by kernel_rfl, by kernel_rfl, by kernel_rfl, fun h1 D1 => hR h1 _ _ (D1.fin [] (by kernel_rfl))⟩
    · refine segF (t0 := t0) (i := 0) 100000 [1, 1, 1, 1, 1] (Fin.done (Flow.ret (Value.bytes ⟨[UInt8.ofNat (65 + 12)]⟩ t0))) D hA hw ?_; intro o1; refine ⟨by kernel_rfl, by kernel_rfl, by kernel_rfl, fun h1 D1 => hR h1 _ _ (D1.fin [] (by kernel_rfl))⟩
    · refine segF (t0 := t0) (i := 0) 100000 [1, 1, 1, 1, 1] (Fin.done (Flow.ret (Value.bytes ⟨[UInt8.ofNat (65 + 13)]⟩ t0))) D hA hw ?_; intro o1; refine ⟨by kernel_rfl, by kernel_rfl, by kernel_rfl, fun h1 D1 => hR h1 _ _ (D1.fin [] (by kernel_rfl))⟩
    · refine segF (t0 := t0) (i := 0) 100000 [1, 1, 1, 1, 1] (Fin.done (Flow.ret (Value.bytes ⟨[UInt8.ofNat (65 + 14)]⟩ t0))) D hA hw ?_; intro o1; refine ⟨by kernel_rfl, by kernel_rfl, by kernel_rfl, fun h1 D1 => hR h1 _ _ (D1.fin [] (by kernel_rfl))⟩
    · refine segF (t0 := t0) (i := 0) 100000 [1, 1, 1, 1, 1] (Fin.done (Flow.ret (Value.bytes ⟨[UInt8.ofNat (65 + 15)]⟩ t0))) D hA hw ?_; intro o1; refine ⟨by kernel_rfl, by kernel_rfl, by kernel_rfl, fun h1 D1 => hR h1 _ _ (D1.fin [] (by kernel_rfl))⟩
  · rcases e with rfl | rfl | rfl | rfl | rfl | rfl | rfl | rfl | rfl | rfl | rfl | rfl | rfl | rfl | rfl | rfl
    · refine segF (t0 := t0) (i := 0) 100000 [1, 1, 1, 1, 1] (Fin.done (Flow.ret (Value.bytes ⟨[UInt8.ofNat (65 + 0)]⟩ t0))) D hA hw ?_; intro o1; refine ⟨by kernel_rfl, by kernel_rfl, by kernel_rfl, fun h1 D1 => hR h1 _ _ (D1.fin [] (by kernel_rfl))⟩
    · refine segF (t0 := t0) (i := 0) 100000 [1, 1, 1, 1, 1] (Fin.done (Flow.ret (Value.bytes ⟨[UInt8.ofNat (65 + 1)]⟩ t0))) D hA hw ?_; intro o1; refine ⟨by kernel_rfl, by kernel_rfl, by kernel_rfl, fun h1 D1 => hR h1 _ _ (D1.fin [] (by kernel_rfl))⟩
    · refine segF (t0 := t0) (i := 0) 100000 [1, 1, 1, 1, 1] (Fin.done (Flow.ret (Value.bytes ⟨[UInt8.ofNat (65 + 2)]⟩ t0))) D hA hw ?_; intro o1; refine ⟨by kernel_rfl, by kernel_rfl, by kernel_rfl, fun h1 D1 => hR h1 _ _ (D1.fin [] (by kernel_rfl))⟩
    · refine segF (t0 := t0) (i := 0) 100000 [1, 1, 1, 1, 1] (Fin.done (Flow.ret (Value.bytes ⟨[UInt8.ofNat (65 + 3)]⟩ t0))) D hA hw ?_; intro o1; refine ⟨by kernel_rfl, by kernel_rfl, by kernel_rfl, fun h1 D1 => hR h1 _ _ (D1.fin [] (by kernel_rfl))⟩
    · refine segF (t0 := t0) (i := 0) 100000 [1, 1, 1, 1, 1] (Fin.done (Flow.ret (Value.bytes ⟨[UInt8.ofNat (65 + 4)]⟩ t0))) D hA hw ?_; intro o1; refine ⟨by kernel_rfl, by kernel_rfl, by kernel_rfl, fun h1 D1 => hR h1 _ _ (D1.fin [] (by kernel_rfl))⟩
    · refine segF (t0 := t0) (i := 0) 100000 [1, 1, 1, 1, 1] (Fin.done (Flow.ret (Value.bytes ⟨[UInt8.ofNat (65 + 5)]⟩ t0))) D hA hw ?_; intro o1; refine ⟨by kernel_rfl, by kernel_rfl, by kernel_rfl, fun h1 D1 => hR h1 _ _ (D1.fin [] (by kernel_rfl))⟩
    · refine segF (t0 := t0) (i := 0) 100000 [1, 1, 1, 1, 1] (Fin.done (Flow.ret (Value.bytes ⟨[UInt8.ofNat (65 + 6)]⟩ t0))) D hA hw ?_; intro o1; refine ⟨by kernel_rfl, by kernel_rfl, by kernel_rfl, fun h1 D1 => hR h1 _ _ (D1.fin [] (by kernel_rfl))⟩
    · refine segF (t0 := t0) (i := 0) 100000 [1, 1, 1, 1, 1] (Fin.done (Flow.ret (Value.bytes ⟨[UInt8.ofNat (65 + 7)]⟩ t0))) D hA hw ?_; intro o1; refine ⟨by kernel_rfl, by kernel_rfl, by kernel_rfl, fun h1 D1 => hR h1 _ _ (D1.fin [] (by kernel_rfl))⟩
    · refine segF (t0 := t0) (i := 0) 100000 [1, 1, 1, 1, 1] (Fin.done (Flow.ret (Value.bytes ⟨[UInt8.ofNat (65 + 8)]⟩ t0))) D hA hw ?_; intro o1; refine ⟨by kernel_rfl, by kernel_rfl, by kernel_rfl, fun h1 D1 => hR h1 _ _ (D1.fin [] (by kernel_rfl))⟩
    · refine segF (t0 := t0) (i := 0) 100000 [1, 1, 1, 1, 1] (Fin.done (Flow.ret (Value.bytes ⟨[UInt8.ofNat (65 + 9)]⟩ t0))) D hA hw ?_; intro o1; refine ⟨by kernel_rfl, by kernel_rfl, by kernel_rfl, fun h1 D1 => hR h1 _ _ (D1.fin [] (by kernel_rfl))⟩
    · refine segF (t0 := t0) (i := 0) 100000 [1, 1, 1, 1, 1] (Fin.done (Flow.ret (Value.bytes ⟨[UInt8.ofNat (65 + 10)]⟩ t0))) D hA hw ?_; intro o1; refine ⟨by kernel_rfl, by kernel_rfl, by kernel_rfl, fun h1 D1 => hR h1 _ _ (D1.fin [] (by kernel_rfl))⟩
    · refine segF (t0 := t0) (i := 0) 100000 [1, 1, 1, 1, 1] (Fin.done (Flow.ret (Value.bytes ⟨[UInt8.ofNat (65 + 11)]⟩ t0))) D hA hw ?_; intro o1; refine ⟨by kernel_rfl, by kernel_rfl, by kernel_rfl, fun h1 D1 => hR h1 _ _ (D1.fin [] (by kernel_rfl))⟩
    · refine segF (t0 := t0) (i := 0) 100000 [1, 1, 1, 1, 1] (Fin.done (Flow.ret (Value.bytes ⟨[UInt8.ofNat (65 + 12)]⟩ t0))) D hA hw ?_; intro o1; refine ⟨by kernel_rfl, by kernel_rfl, by kernel_rfl, fun h1 D1 => hR h1 _ _ (D1.fin [] (by kernel_rfl))⟩
    · refine segF (t0 := t0) (i := 0) 100000 [1, 1, 1, 1, 1] (Fin.done (Flow.ret (Value.bytes ⟨[UInt8.ofNat (65 + 13)]⟩ t0))) D hA hw ?_; intro o1; refine ⟨by kernel_rfl, by kernel_rfl, by kernel_rfl, fun h1 D1 => hR h1 _ _ (D1.fin [] (by kernel_rfl))⟩
    · refine segF (t0 := t0) (i := 0) 100000 [1, 1, 1, 1, 1] (Fin.done (Flow.ret (Value.bytes ⟨[UInt8.ofNat (65 + 14)]⟩ t0))) D hA hw ?_; intro o1; refine ⟨by kernel_rfl, by kernel_rfl, by kernel_rfl, fun h1 D1 => hR h1 _ _ (D1.fin [] (by kernel_rfl))⟩
    · refine segF (t0 := t0) (i := 0) 100000 [1, 1, 1, 1, 1] (Fin.done (Flow.ret (Value.bytes ⟨[UInt8.ofNat (65 + 15)]⟩ t0))) D hA hw ?_; intro o1; refine ⟨by kernel_rfl, by kernel_rfl, by kernel_rfl, fun h1 D1 => hR h1 _ _ (D1.fin [] (by kernel_rfl))⟩
theorem r_badd {w : World} {A : Around} {R : Result → Shared → Prop} {s : Shared} {prog : Program} (b c : Array UInt8) (t u : Nat) (hsz : b.size + c.size ≤ 16777216)
   (hR : ∀ t' k, R (.ok (.ret (.bytes (b ++ c) t'))) ⟨s.heap, s.gens, s.drawn, k, s.os⟩) : callW (model prog w) A none (.call (.builtin "bytes.__add__") ⟨[.bytes b t, .bytes c u], []⟩) R s := by
  refine callW_call (Q := fun v s' => R (.ok (.ret v)) s') (E := fun e s' => R (.error e) s') ?_ (fun _ _ h => h) (fun _ _ h => h)
  refine call_meets FB.slot_bytes_add (typeIs_bytes s b t) FB.entry_bytes_add (FB.args_bytes_add_2 _ _) (KBy.gives_bytes_add (KBy.tooLong_not hsz)).meets ?_
  by_cases hb : b.isEmpty = true
  · rw [if_pos hb]
    have e : b = #[] := Array.isEmpty_iff.mp hb
    have z := hR u s.toks
    rw [e, Array.empty_append] at z
    exact z
  · rw [if_neg hb]
    by_cases hc : c.isEmpty = true
    · rw [if_pos hc]
      have e : c = #[] := Array.isEmpty_iff.mp hc
      have z := hR t s.toks
      rw [e, Array.append_empty] at z
      exact z
    · rw [if_neg hc]
      refine ⟨?_, hR _ _⟩
      rw [Array.size_append, sizeLine_eq]
      exact hsz
theorem r_baddL {w : World} {A : Around} {R : Result → Shared → Prop} {s : Shared} {prog : Program} (b c : List UInt8) (t u : Nat) (hsz : b.length + c.length ≤ 16777216)
   (hR : ∀ t' k, R (.ok (.ret (.bytes ⟨b ++ c⟩ t'))) ⟨s.heap, s.gens, s.drawn, k, s.os⟩) : callW (model prog w) A none (.call (.builtin "bytes.__add__") ⟨[.bytes ⟨b⟩ t, .bytes ⟨c⟩ u], []⟩) R s := by
  refine r_badd ⟨b⟩ ⟨c⟩ t u hsz fun t' k => ?_
  have e : (⟨b⟩ : Array UInt8) ++ ⟨c⟩ = ⟨b ++ c⟩ := by rw [List.append_toArray]
  rw [e]
  exact hR t' k
end Mine
end
section
open PySem PySem.W PySem.Calls PyProof.Rows
set_option Elab.async false
set_option maxRecDepth 100000
namespace Mine
theorem ap_loop (w : World) (A : Around) (h₀ : Heap) (mods : List Nat) (hA : Fit 0 A (kt1 w) h₀) (R : Result → Shared → Prop) (f : Nat) (g : Array GenState) (d : Drawn) (os : OsState) (k1 k2 k3 t3 : Nat) :
  ∀ (n : Nat) (h : Heap) (B t0 tn t2 ep : Nat) (vb : List UInt8) (md : List DictEntry), (md = [] ∨ ∃ k v, md = [ent w n_mod k v]) → vb.length + (hexB n).length ≤ 16777000 →
   Rep (kt1 w) h₀ mods h B [(f, fobj (ent w n_num k1 (.int (.ofNat n) tn) :: ent w n_val k2 (.bytes ⟨vb⟩ t2) :: ent w n_AP k3 (.bytes APs t3) :: md) ep)] [] 0 →
   (∀ h1 B' t' tn' t2' md' ep', Rep (kt1 w) h₀ mods h1 B' [(f, fobj (ent w n_num k1 (.int (.ofNat 0) tn') :: ent w n_val k2 (.bytes ⟨hexB n ++ vb⟩ t2') :: ent w n_AP k3 (.bytes APs t3) :: md') ep')] [] 0 → R (.ok .next) ⟨h1, g, d, t', os⟩) →
   codeAny (PP w) A (whileOf (stmtAt w 55 3) (envOf w 55 f q_ap)) R ⟨h, g, d, t0, os⟩ := by
  obtain ⟨b1, b2, hw⟩ := parF_ex w
  have hA' := hA.under (whileOf (stmtAt w 55 3) (envOf w 55 f q_ap)) (m := 0) (by kernel_rfl)
  intro n
  induction n using Nat.strongRecOn with
  | ind n ih =>
  intro h B t0 tn t2 ep vb md hmd hsz D hR
  match n, ih, hsz, D, hR with
  | 0, ih, hsz, D, hR =>
    refine code_start ?_
    change Means _ _ _ _ _ _ ⟨h, g, d, t0 + 0, os⟩
    cases b1
    all_goals rcases hmd with rfl | ⟨k, v, rfl⟩
    all_goals (refine segF (t0 := t0) (i := 0) 100000 [1, 1] (Fin.done Flow.next) D (by assumption) (by assumption) ?_; intro o11; refine ⟨by kernel_rfl, by kernel_rfl, by kernel_rfl, fun h11 D11 => ?_⟩)
    · obtain ⟨B4, E3⟩ := D11.onlyE [1] [(f, fobj [ent w n_num k1 (.int (.ofNat 0) tn), ent w n_val k2 (.bytes ⟨hexB 0 ++ vb⟩ t2), ent w n_AP k3 (.bytes APs t3)] ep)] (by rw [hexB_zero, List.nil_append]; kernel_rfl)
      exact hR _ _ _ _ _ _ _ E3
    · obtain ⟨B4, E3⟩ := D11.onlyE [1] [(f, fobj [ent w n_num k1 (.int (.ofNat 0) tn), ent w n_val k2 (.bytes ⟨hexB 0 ++ vb⟩ t2), ent w n_AP k3 (.bytes APs t3), ent w n_mod k v] ep)] (by rw [hexB_zero, List.nil_append]; kernel_rfl)
      exact hR _ _ _ _ _ _ _ E3
    · obtain ⟨B4, E3⟩ := D11.onlyE [1] [(f, fobj [ent w n_num k1 (.int (.ofNat 0) tn), ent w n_val k2 (.bytes ⟨hexB 0 ++ vb⟩ t2), ent w n_AP k3 (.bytes APs t3)] ep)] (by rw [hexB_zero, List.nil_append]; kernel_rfl)
      exact hR _ _ _ _ _ _ _ E3
    · obtain ⟨B4, E3⟩ := D11.onlyE [1] [(f, fobj [ent w n_num k1 (.int (.ofNat 0) tn), ent w n_val k2 (.bytes ⟨hexB 0 ++ vb⟩ t2), ent w n_AP k3 (.bytes APs t3), ent w n_mod k v] ep)] (by rw [hexB_zero, List.nil_append]; kernel_rfl)
      exact hR _ _ _ _ _ _ _ E3
  | n + 1, ih, hsz, D, hR =>
    rw [hexB_succ, List.length_append, List.length_singleton] at hsz
    rw [hexB_succ] at hR
    refine code_start ?_
    change Means _ _ _ _ _ _ ⟨h, g, d, t0 + 0, os⟩
    have hq : (n + 1) / 16 < n + 1 := by omega
    have ih' := ih _ hq
    clear ih
    have hr : (n + 1) % 16 < 16 := Nat.mod_lt _ (by decide)
    cases b1
    all_goals rcases hmd with rfl | ⟨k, v, rfl⟩
    · (refine segW (t0 := t0) (i := 0) 100000 [1, 1, 0, 0, 1] (Code.call (Value.builtin "divmod") { pos := [Value.int (Int.ofNat (n + 1)) tn, Value.int 16 t0] : Args }) D (by assumption) (by assumption) ?_; intro o101; refine ⟨by kernel_rfl, by kernel_rfl, by kernel_rfl, by kernel_rfl, by kernel_rfl, fun h101 D101 => ?_⟩)
      refine callW_of rfl ?_
      rw [mark_none]
      refine r_divmod (Fit.inner hA' D101 _ (by kernel_rfl) (by kernel_rfl)) _ _ _ (D101.give [] (by kernel_rfl)) fun g1 a u1 u2 t' a1 => ?_
      obtain ⟨B2, E1⟩ := D101.backE [] [1, 1] [(a, tupO [.int (.ofNat ((n+1) / 16)) u1, .int (.ofNat ((n+1) % 16)) u2]), (f, fobj [ent w n_num k1 (.int (.ofNat (n + 1)) tn), ent w n_val k2 (.bytes ⟨vb⟩ t2), ent w n_AP k3 (.bytes APs t3)] ep)] (by kernel_rfl) a1 (by kernel_rfl)
      generalize (n+1) / 16 = q at E1 ih' hR hsz
      generalize (n+1) % 16 = r at E1 hr hR
      change Means _ _ _ _ (outκ o101) (outK o101 _) ⟨g1, g, d, t' + 0, os⟩
      (refine segW (t0 := t') (i := 0) 100000 [1, 1, 1, 1, 1, 3, 3, 1, 3, 3, 3, 1, 3, 3, 3, 1, 3, 3, 3, 1, 3, 3, 3, 1, 3, 3, 3, 1, 3, 3, 5, 2, 2, 2, 2, 2, 2, 2, 1] ((Code.call (Value.builtin "bytes.__getitem__") ⟨[Value.bytes APs t3, Value.ref (B2 + 3)], []⟩) ) E1 (by assumption) (by assumption) ?_; intro o102; refine ⟨by kernel_rfl, by kernel_rfl, by kernel_rfl, by kernel_rfl, by kernel_rfl, fun h102 D102 => ?_⟩)
      refine callW_of rfl ?_
      rw [mark_none]
      refine r_APslice (Fit.inner hA' D102 _ (by kernel_rfl) (by kernel_rfl)) r u2 (t' + 3) t3 (B2 + 3) _ hr (D102.give [0, 0, 0, 0, 0, 1] (by kernel_rfl)) fun g2 v1 t'' a2 => ?_
      obtain ⟨B3, E2⟩ := D102.backE [0, 0, 0, 0, 0, 1] [0, 1] [(f, fobj [ent w n_num k1 (.int (.ofNat q) u1), ent w n_val k2 (.bytes ⟨vb⟩ t2), ent w n_AP k3 (.bytes APs t3), ent w n_mod (t' + 1) (.int (.ofNat r) u2)] (ep + 1))] (by kernel_rfl) a2 (by kernel_rfl)
      change Means _ _ _ _ (outκ o102) (outK o102 _) ⟨g2, g, d, t'' + 0, os⟩
      (refine segW (t0 := t'') (i := 0) 100000 [1] (Code.call (Value.builtin "bytes.__add__") { pos := [Value.bytes { toList := [UInt8.ofNat (65 + r)] : Array UInt8 } v1, Value.bytes { toList := vb : Array UInt8 } t2] : Args }) E2 (by assumption) (by assumption) ?_; intro o103; refine ⟨by kernel_rfl, by kernel_rfl, by kernel_rfl, by kernel_rfl, by kernel_rfl, fun h103 D103 => ?_⟩)
      refine r_baddL [UInt8.ofNat (65 + r)] vb _ _ (by show 1 + vb.length ≤ _; omega) fun t4 u4 => ?_
      obtain ⟨B4, E3⟩ := D103.onlyE [1] [(f, fobj [ent w n_num k1 (.int (.ofNat q) u1), ent w n_val k2 (.bytes ⟨vb⟩ t2), ent w n_AP k3 (.bytes APs t3), ent w n_mod (t' + 1) (.int (.ofNat r) u2)] (ep + 1))] (by kernel_rfl)
      change Means _ _ _ _ (outκ o103) (outK o103 _) ⟨h103, g, d, u4 + 0, os⟩
      (refine segF (t0 := u4) (i := 0) 100000 [1, 1] ((Fin.again (whileOf (stmtAt w 55 3) (envOf w 55 f q_ap))) ) E3 (by assumption) (by assumption) ?_; intro o104; refine ⟨by kernel_rfl, by kernel_rfl, by kernel_rfl, fun h104 D104 => ?_⟩)
      have E4 := D104.only [1] (Lo := [(f, fobj (ent w n_num k1 (.int (.ofNat q) u1) :: ent w n_val k2 (.bytes ⟨[UInt8.ofNat (65 + r)] ++ vb⟩ t4) :: ent w n_AP k3 (.bytes APs t3) :: [ent w n_mod (t' + 1) (.int (.ofNat r) u2)]) (ep + 1))]) (by kernel_rfl)
      refine ⟨by kernel_rfl, ih' _ _ _ _ _ _ _ _ (.inr ⟨_, _, rfl⟩) (by rw [List.length_append, List.length_singleton]; omega) E4 ?_⟩
      rw [← List.append_assoc]
      exact hR
    · (refine segW (t0 := t0) (i := 0) 100000 [1, 1, 0, 0, 1] (Code.call (Value.builtin "divmod") { pos := [Value.int (Int.ofNat (n + 1)) tn, Value.int 16 t0] : Args }) D (by assumption) (by assumption) ?_; intro o201; refine ⟨by kernel_rfl, by kernel_rfl, by kernel_rfl, by kernel_rfl, by kernel_rfl, fun h201 D201 => ?_⟩)
      refine callW_of rfl ?_
      rw [mark_none]
      refine r_divmod (Fit.inner hA' D201 _ (by kernel_rfl) (by kernel_rfl)) _ _ _ (D201.give [] (by kernel_rfl)) fun g1 a u1 u2 t' a1 => ?_
      obtain ⟨B2, E1⟩ := D201.backE [] [1, 1] [(a, tupO [.int (.ofNat ((n+1) / 16)) u1, .int (.ofNat ((n+1) % 16)) u2]), (f, fobj [ent w n_num k1 (.int (.ofNat (n + 1)) tn), ent w n_val k2 (.bytes ⟨vb⟩ t2), ent w n_AP k3 (.bytes APs t3), ent w n_mod k v] ep)] (by kernel_rfl) a1 (by kernel_rfl)
      generalize (n+1) / 16 = q at E1 ih' hR hsz
      generalize (n+1) % 16 = r at E1 hr hR
      change Means _ _ _ _ (outκ o201) (outK o201 _) ⟨g1, g, d, t' + 0, os⟩
      (refine segW (t0 := t') (i := 0) 100000 [1, 1, 1, 1, 1, 3, 3, 1, 3, 3, 3, 1, 3, 3, 3, 1, 3, 3, 3, 1, 3, 3, 3, 1, 3, 3, 3, 1, 3, 3, 5, 2, 2, 2, 2, 2, 2, 2, 1] ((Code.call (Value.builtin "bytes.__getitem__") ⟨[Value.bytes APs t3, Value.ref (B2 + 3)], []⟩) ) E1 (by assumption) (by assumption) ?_; intro o202; refine ⟨by kernel_rfl, by kernel_rfl, by kernel_rfl, by kernel_rfl, by kernel_rfl, fun h202 D202 => ?_⟩)
      refine callW_of rfl ?_
      rw [mark_none]
      refine r_APslice (Fit.inner hA' D202 _ (by kernel_rfl) (by kernel_rfl)) r u2 (t' + 3) t3 (B2 + 3) _ hr (D202.give [0, 0, 0, 0, 0, 1] (by kernel_rfl)) fun g2 v1 t'' a2 => ?_
      obtain ⟨B3, E2⟩ := D202.backE [0, 0, 0, 0, 0, 1] [0, 1] [(f, fobj [ent w n_num k1 (.int (.ofNat q) u1), ent w n_val k2 (.bytes ⟨vb⟩ t2), ent w n_AP k3 (.bytes APs t3), ent w n_mod k (.int (.ofNat r) u2)] ep)] (by kernel_rfl) a2 (by kernel_rfl)
      change Means _ _ _ _ (outκ o202) (outK o202 _) ⟨g2, g, d, t'' + 0, os⟩
      (refine segW (t0 := t'') (i := 0) 100000 [1] (Code.call (Value.builtin "bytes.__add__") { pos := [Value.bytes { toList := [UInt8.ofNat (65 + r)] : Array UInt8 } v1, Value.bytes { toList := vb : Array UInt8 } t2] : Args }) E2 (by assumption) (by assumption) ?_; intro o203; refine ⟨by kernel_rfl, by kernel_rfl, by kernel_rfl, by kernel_rfl, by kernel_rfl, fun h203 D203 => ?_⟩)
      refine r_baddL [UInt8.ofNat (65 + r)] vb _ _ (by show 1 + vb.length ≤ _; omega) fun t4 u4 => ?_
      obtain ⟨B4, E3⟩ := D203.onlyE [1] [(f, fobj [ent w n_num k1 (.int (.ofNat q) u1), ent w n_val k2 (.bytes ⟨vb⟩ t2), ent w n_AP k3 (.bytes APs t3), ent w n_mod k (.int (.ofNat r) u2)] ep)] (by kernel_rfl)
      change Means _ _ _ _ (outκ o203) (outK o203 _) ⟨h203, g, d, u4 + 0, os⟩
      (refine segF (t0 := u4) (i := 0) 100000 [1, 1] ((Fin.again (whileOf (stmtAt w 55 3) (envOf w 55 f q_ap))) ) E3 (by assumption) (by assumption) ?_; intro o204; refine ⟨by kernel_rfl, by kernel_rfl, by kernel_rfl, fun h204 D204 => ?_⟩)
      have E4 := D204.only [1] (Lo := [(f, fobj (ent w n_num k1 (.int (.ofNat q) u1) :: ent w n_val k2 (.bytes ⟨[UInt8.ofNat (65 + r)] ++ vb⟩ t4) :: ent w n_AP k3 (.bytes APs t3) :: [ent w n_mod k (.int (.ofNat r) u2)]) ep)]) (by kernel_rfl)
      refine ⟨by kernel_rfl, ih' _ _ _ _ _ _ _ _ (.inr ⟨_, _, rfl⟩) (by rw [List.length_append, List.length_singleton]; omega) E4 ?_⟩
      rw [← List.append_assoc]
      exact hR
    · (refine segW (t0 := t0) (i := 0) 100000 [1, 1, 0, 0, 1] (Code.call (Value.builtin "divmod") { pos := [Value.int (Int.ofNat (n + 1)) tn, Value.int 16 t0] : Args }) D (by assumption) (by assumption) ?_; intro o301; refine ⟨by kernel_rfl, by kernel_rfl, by kernel_rfl, by kernel_rfl, by kernel_rfl, fun h301 D301 => ?_⟩)
      refine callW_of rfl ?_
      rw [mark_none]
      refine r_divmod (Fit.inner hA' D301 _ (by kernel_rfl) (by kernel_rfl)) _ _ _ (D301.give [] (by kernel_rfl)) fun g1 a u1 u2 t' a1 => ?_
      obtain ⟨B2, E1⟩ := D301.backE [] [1, 1] [(a, tupO [.int (.ofNat ((n+1) / 16)) u1, .int (.ofNat ((n+1) % 16)) u2]), (f, fobj [ent w n_num k1 (.int (.ofNat (n + 1)) tn), ent w n_val k2 (.bytes ⟨vb⟩ t2), ent w n_AP k3 (.bytes APs t3)] ep)] (by kernel_rfl) a1 (by kernel_rfl)
      generalize (n+1) / 16 = q at E1 ih' hR hsz
      generalize (n+1) % 16 = r at E1 hr hR
      change Means _ _ _ _ (outκ o301) (outK o301 _) ⟨g1, g, d, t' + 0, os⟩
      (refine segW (t0 := t') (i := 0) 100000 [1, 1, 1, 1, 1, 3, 3, 1, 3, 3, 3, 1, 3, 3, 3, 1, 3, 3, 3, 1, 3, 3, 3, 1, 3, 3, 3, 1, 3, 3, 5, 2, 2, 2, 2, 2, 2, 2, 1] ((Code.call (Value.builtin "bytes.__getitem__") ⟨[Value.bytes APs t3, Value.ref (B2 + 3)], []⟩) ) E1 (by assumption) (by assumption) ?_; intro o302; refine ⟨by kernel_rfl, by kernel_rfl, by kernel_rfl, by kernel_rfl, by kernel_rfl, fun h302 D302 => ?_⟩)
      refine callW_of rfl ?_
      rw [mark_none]
      refine r_APslice (Fit.inner hA' D302 _ (by kernel_rfl) (by kernel_rfl)) r u2 (t' + 3) t3 (B2 + 3) _ hr (D302.give [0, 0, 0, 0, 0, 1] (by kernel_rfl)) fun g2 v1 t'' a2 => ?_
      obtain ⟨B3, E2⟩ := D302.backE [0, 0, 0, 0, 0, 1] [0, 1] [(f, fobj [ent w n_num k1 (.int (.ofNat q) u1), ent w n_val k2 (.bytes ⟨vb⟩ t2), ent w n_AP k3 (.bytes APs t3), ent w n_mod (t' + 1) (.int (.ofNat r) u2)] (ep + 1))] (by kernel_rfl) a2 (by kernel_rfl)
      change Means _ _ _ _ (outκ o302) (outK o302 _) ⟨g2, g, d, t'' + 0, os⟩
      (refine segW (t0 := t'') (i := 0) 100000 [1] (Code.call (Value.builtin "bytes.__add__") { pos := [Value.bytes { toList := [UInt8.ofNat (65 + r)] : Array UInt8 } v1, Value.bytes { toList := vb : Array UInt8 } t2] : Args }) E2 (by assumption) (by assumption) ?_; intro o303; refine ⟨by kernel_rfl, by kernel_rfl, by kernel_rfl, by kernel_rfl, by kernel_rfl, fun h303 D303 => ?_⟩)
      refine r_baddL [UInt8.ofNat (65 + r)] vb _ _ (by show 1 + vb.length ≤ _; omega) fun t4 u4 => ?_
      obtain ⟨B4, E3⟩ := D303.onlyE [1] [(f, fobj [ent w n_num k1 (.int (.ofNat q) u1), ent w n_val k2 (.bytes ⟨vb⟩ t2), ent w n_AP k3 (.bytes APs t3), ent w n_mod (t' + 1) (.int (.ofNat r) u2)] (ep + 1))] (by kernel_rfl)
      change Means _ _ _ _ (outκ o303) (outK o303 _) ⟨h303, g, d, u4 + 0, os⟩
      (refine segF (t0 := u4) (i := 0) 100000 [1, 1] ((Fin.again (whileOf (stmtAt w 55 3) (envOf w 55 f q_ap))) ) E3 (by assumption) (by assumption) ?_; intro o304; refine ⟨by kernel_rfl, by kernel_rfl, by kernel_rfl, fun h304 D304 => ?_⟩)
      have E4 := D304.only [1] (Lo := [(f, fobj (ent w n_num k1 (.int (.ofNat q) u1) :: ent w n_val k2 (.bytes ⟨[UInt8.ofNat (65 + r)] ++ vb⟩ t4) :: ent w n_AP k3 (.bytes APs t3) :: [ent w n_mod (t' + 1) (.int (.ofNat r) u2)]) (ep + 1))]) (by kernel_rfl)
      refine ⟨by kernel_rfl, ih' _ _ _ _ _ _ _ _ (.inr ⟨_, _, rfl⟩) (by rw [List.length_append, List.length_singleton]; omega) E4 ?_⟩
      rw [← List.append_assoc]
      exact hR
    · (refine segW (t0 := t0) (i := 0) 100000 [1, 1, 0, 0, 1] (Code.call (Value.builtin "divmod") { pos := [Value.int (Int.ofNat (n + 1)) tn, Value.int 16 t0] : Args }) D (by assumption) (by assumption) ?_; intro o401; refine ⟨by kernel_rfl, by kernel_rfl, by kernel_rfl, by kernel_rfl, by kernel_rfl, fun h401 D401 => ?_⟩)
      refine callW_of rfl ?_
      rw [mark_none]
      refine r_divmod (Fit.inner hA' D401 _ (by kernel_rfl) (by kernel_rfl)) _ _ _ (D401.give [] (by kernel_rfl)) fun g1 a u1 u2 t' a1 => ?_
      obtain ⟨B2, E1⟩ := D401.backE [] [1, 1] [(a, tupO [.int (.ofNat ((n+1) / 16)) u1, .int (.ofNat ((n+1) % 16)) u2]), (f, fobj [ent w n_num k1 (.int (.ofNat (n + 1)) tn), ent w n_val k2 (.bytes ⟨vb⟩ t2), ent w n_AP k3 (.bytes APs t3), ent w n_mod k v] ep)] (by kernel_rfl) a1 (by kernel_rfl)
      generalize (n+1) / 16 = q at E1 ih' hR hsz
      generalize (n+1) % 16 = r at E1 hr hR
      change Means _ _ _ _ (outκ o401) (outK o401 _) ⟨g1, g, d, t' + 0, os⟩
      (refine segW (t0 := t') (i := 0) 100000 [1, 1, 1, 1, 1, 3, 3, 1, 3, 3, 3, 1, 3, 3, 3, 1, 3, 3, 3, 1, 3, 3, 3, 1, 3, 3, 3, 1, 3, 3, 5, 2, 2, 2, 2, 2, 2, 2, 1] ((Code.call (Value.builtin "bytes.__getitem__") ⟨[Value.bytes APs t3, Value.ref (B2 + 3)], []⟩) ) E1 (by assumption) (by assumption) ?_; intro o402; refine ⟨by kernel_rfl, by kernel_rfl, by kernel_rfl, by kernel_rfl, by kernel_rfl, fun h402 D402 => ?_⟩)
      refine callW_of rfl ?_
      rw [mark_none]
      refine r_APslice (Fit.inner hA' D402 _ (by kernel_rfl) (by kernel_rfl)) r u2 (t' + 3) t3 (B2 + 3) _ hr (D402.give [0, 0, 0, 0, 0, 1] (by kernel_rfl)) fun g2 v1 t'' a2 => ?_
      obtain ⟨B3, E2⟩ := D402.backE [0, 0, 0, 0, 0, 1] [0, 1] [(f, fobj [ent w n_num k1 (.int (.ofNat q) u1), ent w n_val k2 (.bytes ⟨vb⟩ t2), ent w n_AP k3 (.bytes APs t3), ent w n_mod k (.int (.ofNat r) u2)] ep)] (by kernel_rfl) a2 (by kernel_rfl)
      change Means _ _ _ _ (outκ o402) (outK o402 _) ⟨g2, g, d, t'' + 0, os⟩
      (refine segW (t0 := t'') (i := 0) 100000 [1] (Code.call (Value.builtin "bytes.__add__") { pos := [Value.bytes { toList := [UInt8.ofNat (65 + r)] : Array UInt8 } v1, Value.bytes { toList := vb : Array UInt8 } t2] : Args }) E2 (by assumption) (by assumption) ?_; intro o403; refine ⟨by kernel_rfl, by kernel_rfl, by kernel_rfl, by kernel_rfl, by kernel_rfl, fun h403 D403 => ?_⟩)
      refine r_baddL [UInt8.ofNat (65 + r)] vb _ _ (by show 1 + vb.length ≤ _; omega) fun t4 u4 => ?_
      obtain ⟨B4, E3⟩ := D403.onlyE [1] [(f, fobj [ent w n_num k1 (.int (.ofNat q) u1), ent w n_val k2 (.bytes ⟨vb⟩ t2), ent w n_AP k3 (.bytes APs t3), ent w n_mod k (.int (.ofNat r) u2)] ep)] (by kernel_rfl)
      change Means _ _ _ _ (outκ o403) (outK o403 _) ⟨h403, g, d, u4 + 0, os⟩
      (refine segF (t0 := u4) (i := 0) 100000 [1, 1] ((Fin.again (whileOf (stmtAt w 55 3) (envOf w 55 f q_ap))) ) E3 (by assumption) (by assumption) ?_; intro o404; refine ⟨by kernel_rfl, by kernel_rfl, by kernel_rfl, fun h404 D404 => ?_⟩)
      have E4 := D404.only [1] (Lo := [(f, fobj (ent w n_num k1 (.int (.ofNat q) u1) :: ent w n_val k2 (.bytes ⟨[UInt8.ofNat (65 + r)] ++ vb⟩ t4) :: ent w n_AP k3 (.bytes APs t3) :: [ent w n_mod k (.int (.ofNat r) u2)]) ep)]) (by kernel_rfl)
      refine ⟨by kernel_rfl, ih' _ _ _ _ _ _ _ _ (.inr ⟨_, _, rfl⟩) (by rw [List.length_append, List.length_singleton]; omega) E4 ?_⟩
      rw [← List.append_assoc]
      exact hR
end Mine
end
section
open PySem PySem.W PySem.Calls PyProof.Rows
set_option Elab.async false
set_option maxRecDepth 100000
namespace Mine
theorem int2ap (w : World) (A : Around) (h₀ : Heap) (hA : Fit 5 A (kt1 w) h₀) (R : Result → Shared → Prop) (B t0 : Nat) (g : Array GenState) (d : Drawn) (os : OsState) (n : Int) (tn : Nat) {mods : List Nat}
   (hsz : (hexB n.natAbs).length ≤ 16777000)
   (D : Rep (kt1 w) h₀ mods h₀ B [] [] 0)
   (hR : ∀ h1 t t', After h₀ h1 mods [] → R (.ok (.ret (.bytes ⟨hexB n.natAbs⟩ t))) ⟨h1, g, d, t', os⟩) :
   codeAny (PP w) A (.call (.ref 55) ⟨[.int n tn], []⟩) R ⟨h₀, g, d, t0, os⟩ := by
  obtain ⟨b1, b2, hw⟩ := parF_ex w
  cases n with
  | ofNat m =>
    change (hexB m).length ≤ _ at hsz
    change ∀ h1 t t', After h₀ h1 mods [] → R (.ok (.ret (.bytes ⟨hexB m⟩ t))) ⟨h1, g, d, t', os⟩ at hR
    refine code_ent (D.kt_ (a := 55) (o := obAt w 55) (by kernel_rfl)) (fd := fdAt w 55) (by kernel_rfl) (by have := hA.room; omega) ?_
    change Means _ _ _ _ _ _ ⟨h₀, g, d, t0 + 0, os⟩
    cases b1
    · (refine segL (t0 := t0) (i := 0) 100000 [0, 1, 1, 1, 1, 1, 1, 0, 0, 0, 0, 1, 1, 1, 1, 1, 1, 1, 1] ((whileOf (stmtAt w 55 3) (envOf w 55 B q_ap)) ) D (by assumption) (by assumption) ?_; intro o101; refine ⟨by kernel_rfl, by kernel_rfl, by kernel_rfl, by kernel_rfl, fun h101 D101 => ?_⟩)
      obtain ⟨B1, E1⟩ := D101.onlyE [1] [(B, fobj [ent w n_num t0 (.int (.ofNat m) tn), ent w n_val (t0 + 2) (.bytes ⟨[]⟩ (t0 + 1)), ent w n_AP (t0 + 4) (.bytes APs (t0 + 3))] 3)] (by kernel_rfl)
      refine ap_loop w _ _ _ (hA.ar _ (by kernel_rfl) (by kernel_rfl)) _ _ g d os _ _ _ _ m _ _ _ _ _ _ [] [] (.inl rfl) (by show 0 + _ ≤ _; omega) E1 ?_
      intro h2 B2 t2 tn' t2' md ep E2
      rw [List.append_nil] at E2
      change Means _ _ _ _ (outκ o101) (outK o101 _) ⟨h2, g, d, t2 + 0, os⟩
      (refine segF (t0 := t2) (i := 0) 100000 [1] ((Fin.done (Flow.ret (.bytes ⟨hexB m⟩ t2'))) ) E2 (by assumption) (by assumption) ?_; intro o102; refine ⟨by kernel_rfl, by kernel_rfl, by kernel_rfl, fun h102 D102 => ?_⟩)
      exact hR _ _ _ (D102.fin [] (by kernel_rfl))
    · (refine segL (t0 := t0) (i := 0) 100000 [0, 1, 1, 1, 1, 1, 1, 0, 0, 0, 0, 1, 1, 1, 1, 1, 1, 1, 1] ((whileOf (stmtAt w 55 3) (envOf w 55 B q_ap)) ) D (by assumption) (by assumption) ?_; intro o201; refine ⟨by kernel_rfl, by kernel_rfl, by kernel_rfl, by kernel_rfl, fun h201 D201 => ?_⟩)
      obtain ⟨B1, E1⟩ := D201.onlyE [1] [(B, fobj [ent w n_num t0 (.int (.ofNat m) tn), ent w n_val (t0 + 2) (.bytes ⟨[]⟩ (t0 + 1)), ent w n_AP (t0 + 4) (.bytes APs (t0 + 3))] 3)] (by kernel_rfl)
      refine ap_loop w _ _ _ (hA.ar _ (by kernel_rfl) (by kernel_rfl)) _ _ g d os _ _ _ _ m _ _ _ _ _ _ [] [] (.inl rfl) (by show 0 + _ ≤ _; omega) E1 ?_
      intro h2 B2 t2 tn' t2' md ep E2
      rw [List.append_nil] at E2
      change Means _ _ _ _ (outκ o201) (outK o201 _) ⟨h2, g, d, t2 + 0, os⟩
      (refine segF (t0 := t2) (i := 0) 100000 [1] ((Fin.done (Flow.ret (.bytes ⟨hexB m⟩ t2'))) ) E2 (by assumption) (by assumption) ?_; intro o202; refine ⟨by kernel_rfl, by kernel_rfl, by kernel_rfl, fun h202 D202 => ?_⟩)
      exact hR _ _ _ (D202.fin [] (by kernel_rfl))
  | negSucc l =>
    cases l with
    | zero =>
     change ∀ h1 t t', After h₀ h1 mods [] → R (.ok (.ret (.bytes ⟨hexB 1⟩ t))) ⟨h1, g, d, t', os⟩ at hR
     change (hexB 1).length ≤ _ at hsz
     refine code_ent (D.kt_ (a := 55) (o := obAt w 55) (by kernel_rfl)) (fd := fdAt w 55) (by kernel_rfl) (by have := hA.room; omega) ?_
     change Means _ _ _ _ _ _ ⟨h₀, g, d, t0 + 0, os⟩
     cases b1
     · (refine segL (t0 := t0) (i := 0) 100000 [0, 1, 1, 1, 1, 1, 1, 0, 0, 0, 0, 1, 1, 1, 1, 1, 1, 1, 1] ((whileOf (stmtAt w 55 3) (envOf w 55 B q_ap)) ) D (by assumption) (by assumption) ?_; intro o301; refine ⟨by kernel_rfl, by kernel_rfl, by kernel_rfl, by kernel_rfl, fun h301 D301 => ?_⟩)
       obtain ⟨B1, E1⟩ := D301.onlyE [1] [(B, fobj [ent w n_num t0 (.int (.ofNat 1) (t0 + 5)), ent w n_val (t0 + 2) (.bytes ⟨[]⟩ (t0 + 1)), ent w n_AP (t0 + 4) (.bytes APs (t0 + 3))] 3)] (by kernel_rfl)
       refine ap_loop w _ _ _ (hA.ar _ (by kernel_rfl) (by kernel_rfl)) _ _ g d os _ _ _ _ 1 _ _ _ _ _ _ [] [] (.inl rfl) (by show 0 + _ ≤ _; omega) E1 ?_
       intro h2 B2 t2 tn' t2' md ep E2
       rw [List.append_nil] at E2
       change Means _ _ _ _ (outκ o301) (outK o301 _) ⟨h2, g, d, t2 + 0, os⟩
       (refine segF (t0 := t2) (i := 0) 100000 [1] ((Fin.done (Flow.ret (.bytes ⟨hexB 1⟩ t2'))) ) E2 (by assumption) (by assumption) ?_; intro o302; refine ⟨by kernel_rfl, by kernel_rfl, by kernel_rfl, fun h302 D302 => ?_⟩)
       exact hR _ _ _ (D302.fin [] (by kernel_rfl))
     · (refine segL (t0 := t0) (i := 0) 100000 [0, 1, 1, 1, 1, 1, 1, 0, 0, 0, 0, 1, 1, 1, 1, 1, 1, 1, 1] ((whileOf (stmtAt w 55 3) (envOf w 55 B q_ap)) ) D (by assumption) (by assumption) ?_; intro o401; refine ⟨by kernel_rfl, by kernel_rfl, by kernel_rfl, by kernel_rfl, fun h401 D401 => ?_⟩)
       obtain ⟨B1, E1⟩ := D401.onlyE [1] [(B, fobj [ent w n_num t0 (.int (.ofNat 1) (t0 + 5)), ent w n_val (t0 + 2) (.bytes ⟨[]⟩ (t0 + 1)), ent w n_AP (t0 + 4) (.bytes APs (t0 + 3))] 3)] (by kernel_rfl)
       refine ap_loop w _ _ _ (hA.ar _ (by kernel_rfl) (by kernel_rfl)) _ _ g d os _ _ _ _ 1 _ _ _ _ _ _ [] [] (.inl rfl) (by show 0 + _ ≤ _; omega) E1 ?_
       intro h2 B2 t2 tn' t2' md ep E2
       rw [List.append_nil] at E2
       change Means _ _ _ _ (outκ o401) (outK o401 _) ⟨h2, g, d, t2 + 0, os⟩
       (refine segF (t0 := t2) (i := 0) 100000 [1] ((Fin.done (Flow.ret (.bytes ⟨hexB 1⟩ t2'))) ) E2 (by assumption) (by assumption) ?_; intro o402; refine ⟨by kernel_rfl, by kernel_rfl, by kernel_rfl, fun h402 D402 => ?_⟩)
       exact hR _ _ _ (D402.fin [] (by kernel_rfl))
    | succ l =>
     change ∀ h1 t t', After h₀ h1 mods [] → R (.ok (.ret (.bytes ⟨hexB (l + 2)⟩ t))) ⟨h1, g, d, t', os⟩ at hR
     change (hexB (l + 2)).length ≤ _ at hsz
     refine code_ent (D.kt_ (a := 55) (o := obAt w 55) (by kernel_rfl)) (fd := fdAt w 55) (by kernel_rfl) (by have := hA.room; omega) ?_
     change Means _ _ _ _ _ _ ⟨h₀, g, d, t0 + 0, os⟩
     cases b1
     · (refine segL (t0 := t0) (i := 0) 100000 [0, 1, 1, 1, 1, 1, 1, 0, 0, 0, 0, 1, 1, 1, 1, 1, 1, 1, 1] ((whileOf (stmtAt w 55 3) (envOf w 55 B q_ap)) ) D (by assumption) (by assumption) ?_; intro o501; refine ⟨by kernel_rfl, by kernel_rfl, by kernel_rfl, by kernel_rfl, fun h501 D501 => ?_⟩)
       obtain ⟨B1, E1⟩ := D501.onlyE [1] [(B, fobj [ent w n_num t0 (.int (.ofNat (l + 2)) (t0 + 5)), ent w n_val (t0 + 2) (.bytes ⟨[]⟩ (t0 + 1)), ent w n_AP (t0 + 4) (.bytes APs (t0 + 3))] 3)] (by kernel_rfl)
       refine ap_loop w _ _ _ (hA.ar _ (by kernel_rfl) (by kernel_rfl)) _ _ g d os _ _ _ _ (l + 2) _ _ _ _ _ _ [] [] (.inl rfl) (by show 0 + _ ≤ _; omega) E1 ?_
       intro h2 B2 t2 tn' t2' md ep E2
       rw [List.append_nil] at E2
       change Means _ _ _ _ (outκ o501) (outK o501 _) ⟨h2, g, d, t2 + 0, os⟩
       (refine segF (t0 := t2) (i := 0) 100000 [1] ((Fin.done (Flow.ret (.bytes ⟨hexB (l + 2)⟩ t2'))) ) E2 (by assumption) (by assumption) ?_; intro o502; refine ⟨by kernel_rfl, by kernel_rfl, by kernel_rfl, fun h502 D502 => ?_⟩)
       exact hR _ _ _ (D502.fin [] (by kernel_rfl))
     · (refine segL (t0 := t0) (i := 0) 100000 [0, 1, 1, 1, 1, 1, 1, 0, 0, 0, 0, 1, 1, 1, 1, 1, 1, 1, 1] ((whileOf (stmtAt w 55 3) (envOf w 55 B q_ap)) ) D (by assumption) (by assumption) ?_; intro o601; refine ⟨by kernel_rfl, by kernel_rfl, by kernel_rfl, by kernel_rfl, fun h601 D601 => ?_⟩)
       obtain ⟨B1, E1⟩ := D601.onlyE [1] [(B, fobj [ent w n_num t0 (.int (.ofNat (l + 2)) (t0 + 5)), ent w n_val (t0 + 2) (.bytes ⟨[]⟩ (t0 + 1)), ent w n_AP (t0 + 4) (.bytes APs (t0 + 3))] 3)] (by kernel_rfl)
       refine ap_loop w _ _ _ (hA.ar _ (by kernel_rfl) (by kernel_rfl)) _ _ g d os _ _ _ _ (l + 2) _ _ _ _ _ _ [] [] (.inl rfl) (by show 0 + _ ≤ _; omega) E1 ?_
       intro h2 B2 t2 tn' t2' md ep E2
       rw [List.append_nil] at E2
       change Means _ _ _ _ (outκ o601) (outK o601 _) ⟨h2, g, d, t2 + 0, os⟩
       (refine segF (t0 := t2) (i := 0) 100000 [1] ((Fin.done (Flow.ret (.bytes ⟨hexB (l + 2)⟩ t2'))) ) E2 (by assumption) (by assumption) ?_; intro o602; refine ⟨by kernel_rfl, by kernel_rfl, by kernel_rfl, fun h602 D602 => ?_⟩)
       exact hR _ _ _ (D602.fin [] (by kernel_rfl))
end Mine
end
section
open PySem PySem.W PySem.Calls PyProof.Rows
set_option Elab.async false
set_option maxRecDepth 100000
namespace Mine
def iterO (cls : String) (v : Value) (i : Nat) : Obj := { cls := .type cls, data := .fields ⟨[v, .int (.ofNat i) 0]⟩ }
def stopO (a2 : Nat) : Obj := { cls := .type "StopIteration", data := .fields ⟨[.ref a2, .none, .none, .none, .bool false, .none]⟩ }
def listO (l : List Value) (ep : Nat) : Obj := { cls := .type "list", data := .seq ⟨l⟩ ep }
section
variable {w : World} {A : Around} {h₀ : Heap} {R : Result → Shared → Prop} {B t0 : Nat} {g : Array GenState} {d : Drawn} {os : OsState} {mods : List Nat} {prog : Program} {kt : Nat → Option Obj}
theorem Fit.in1 {n : Nat} (hA : Fit n A kt h₀) : Fit n A.in1 kt h₀ := ⟨hA.handled, hA.room, hA.nolimit, hA.statics⟩
theorem r_bnext (hA : Fit 0 A kt h₀) (it t i : Nat) (b : List UInt8) (c : UInt8) (hx : b[i]? = some c) (D : Rep kt h₀ mods h₀ B [(it, iterO "bytes_iterator" (.bytes ⟨b⟩ t) i)] [] 0)
   (hR : ∀ h1 t1 t', After h₀ h1 mods [(it, iterO "bytes_iterator" (.bytes ⟨b⟩ t) (i + 1))] → R (.ok (.ret (.int (.ofNat c.toNat) t1))) ⟨h1, g, d, t', os⟩) :
   codeAny (model prog w) A (.call (.builtin "bytes_iterator.__next__") ⟨[.ref it], []⟩) R ⟨h₀, g, d, t0, os⟩ := by
  obtain ⟨b1, b2, hw⟩ := parF_ex w
  have hA' := hA.in1
  have ho : h₀.get? it = some (iterO "bytes_iterator" (.bytes ⟨b⟩ t) i) := D.get (j := 0) rfl
  refine code_slot KBw.slot_next ⟨_, ho, rfl⟩ KBw.entry_next (KBw.args_next _) ?_
  show wpAny _ _ (PySem.field (.ref it) 0 >>= _) _ _ _
  refine wpAny_bind (wpAny_field ho rfl (x := .bytes ⟨b⟩ t) rfl ?_)
  show wpAny _ _ (if (Value.bytes ⟨b⟩ t == Value.none) = true then _ else _) _ _ _
  rw [if_neg (show ¬ ((Value.bytes ⟨b⟩ t == Value.none) = true) from Bool.false_ne_true)]
  show wpAny _ _ (PySem.field (.ref it) 1 >>= _) _ _ _
  refine wpAny_bind (wpAny_field ho rfl (x := .int i 0) rfl ?_)
  refine wpAny_bind (wpAny_of_eq (a := ⟨b⟩) rfl ?_)
  have hx' : (⟨b⟩ : Array UInt8)[i]? = some c := by rw [List.getElem?_toArray]; exact hx
  simp only [Int.toNat_natCast, hx']
  refine means_base (s := ⟨h₀, g, d, t0 + 0, os⟩) ?_
  (refine segF (t0 := t0) (i := 0) 100000 [1, 1] (Fin.done (Flow.ret (Value.int (Int.ofNat (UInt8.toNat c)) t0))) D (by assumption) (by assumption) ?_; intro o1; refine ⟨by kernel_rfl, by kernel_rfl, by kernel_rfl, fun h1 D1 => ?_⟩)
  exact hR _ _ _ (D1.fin [1] (by kernel_rfl))
theorem r_bend (hA : Fit 0 A kt h₀) (it t i : Nat) (b : List UInt8) (hx : b[i]? = none) (D : Rep kt h₀ mods h₀ B [(it, iterO "bytes_iterator" (.bytes ⟨b⟩ t) i)] [] 0)
   (hR : ∀ h1 t' a a2, After h₀ h1 mods [(a2, tupO []), (a, stopO a2)] → R (.error (.ref a)) ⟨h1, g, d, t', os⟩) :
   codeAny (model prog w) A (.call (.builtin "bytes_iterator.__next__") ⟨[.ref it], []⟩) R ⟨h₀, g, d, t0, os⟩ := by
  obtain ⟨b1, b2, hw⟩ := parF_ex w
  have hA' := hA.in1
  have ho : h₀.get? it = some (iterO "bytes_iterator" (.bytes ⟨b⟩ t) i) := D.get (j := 0) rfl
  refine code_slot KBw.slot_next ⟨_, ho, rfl⟩ KBw.entry_next (KBw.args_next _) ?_
  show wpAny _ _ (PySem.field (.ref it) 0 >>= _) _ _ _
  refine wpAny_bind (wpAny_field ho rfl (x := .bytes ⟨b⟩ t) rfl ?_)
  show wpAny _ _ (if (Value.bytes ⟨b⟩ t == Value.none) = true then _ else _) _ _ _
  rw [if_neg (show ¬ ((Value.bytes ⟨b⟩ t == Value.none) = true) from Bool.false_ne_true)]
  show wpAny _ _ (PySem.field (.ref it) 1 >>= _) _ _ _
  refine wpAny_bind (wpAny_field ho rfl (x := .int i 0) rfl ?_)
  refine wpAny_bind (wpAny_of_eq (a := ⟨b⟩) rfl ?_)
  have hx' : (⟨b⟩ : Array UInt8)[i]? = none := by rw [List.getElem?_toArray]; exact hx
  simp only [Int.toNat_natCast, hx']
  refine means_base (s := ⟨h₀, g, d, t0 + 0, os⟩) ?_
  (refine segE (t0 := t0) (i := 0) 100000 [1, 1] (Value.ref (B + 1)) D (by assumption) (by assumption) ?_; intro o2; refine ⟨by kernel_rfl, by kernel_rfl, by kernel_rfl, fun h2 D2 => ?_⟩)
  exact hR _ _ (B + 1) B (D2.fin [0, 1, 1] (by kernel_rfl))
theorem r_snext (hA : Fit 0 A kt h₀) (it t i : Nat) (b : List Nat) (c : Nat) (hx : b[i]? = some c) (D : Rep kt h₀ mods h₀ B [(it, iterO "str_ascii_iterator" (.str ⟨⟨b⟩⟩ t) i)] [] 0)
   (hR : ∀ h1 t1 t', After h₀ h1 mods [(it, iterO "str_ascii_iterator" (.str ⟨⟨b⟩⟩ t) (i + 1))] → R (.ok (.ret (.str ⟨⟨[c]⟩⟩ t1))) ⟨h1, g, d, t', os⟩) :
   codeAny (model prog w) A (.call (.builtin "str_ascii_iterator.__next__") ⟨[.ref it], []⟩) R ⟨h₀, g, d, t0, os⟩ := by
  obtain ⟨b1, b2, hw⟩ := parF_ex w
  have hA' := hA.in1
  have ho : h₀.get? it = some (iterO "str_ascii_iterator" (.str ⟨⟨b⟩⟩ t) i) := D.get (j := 0) rfl
  refine code_slot F.slot_str_ascii_iterator_next ⟨_, ho, rfl⟩ F.entry_str_ascii_iterator_next (F.args_str_ascii_iterator_next_1 _) ?_
  show wpAny _ _ (PySem.field (.ref it) 0 >>= _) _ _ _
  refine wpAny_bind (wpAny_field ho rfl (x := .str ⟨⟨b⟩⟩ t) rfl ?_)
  show wpAny _ _ (PySem.field (.ref it) 1 >>= _) _ _ _
  refine wpAny_bind (wpAny_field ho rfl (x := .int i 0) rfl ?_)
  have hx' : (⟨b⟩ : Array Nat)[i]? = some c := by rw [List.getElem?_toArray]; exact hx
  simp only [Int.toNat_natCast, hx']
  refine means_base (s := ⟨h₀, g, d, t0 + 0, os⟩) ?_
  (refine segF (t0 := t0) (i := 0) 100000 [1, 1] (Fin.done (Flow.ret (Value.str { cps := { toList := [c] : Array Nat } : Str } t0))) D (by assumption) (by assumption) ?_; intro o3; refine ⟨by kernel_rfl, by kernel_rfl, by kernel_rfl, fun h3 D3 => ?_⟩)
  exact hR _ _ _ (D3.fin [1] (by kernel_rfl))
theorem r_send (hA : Fit 0 A kt h₀) (it t i : Nat) (b : List Nat) (hx : b[i]? = none) (D : Rep kt h₀ mods h₀ B [(it, iterO "str_ascii_iterator" (.str ⟨⟨b⟩⟩ t) i)] [] 0)
   (hR : ∀ h1 t' a a2, After h₀ h1 mods [(a2, tupO []), (a, stopO a2)] → R (.error (.ref a)) ⟨h1, g, d, t', os⟩) :
   codeAny (model prog w) A (.call (.builtin "str_ascii_iterator.__next__") ⟨[.ref it], []⟩) R ⟨h₀, g, d, t0, os⟩ := by
  obtain ⟨b1, b2, hw⟩ := parF_ex w
  have hA' := hA.in1
  have ho : h₀.get? it = some (iterO "str_ascii_iterator" (.str ⟨⟨b⟩⟩ t) i) := D.get (j := 0) rfl
  refine code_slot F.slot_str_ascii_iterator_next ⟨_, ho, rfl⟩ F.entry_str_ascii_iterator_next (F.args_str_ascii_iterator_next_1 _) ?_
  show wpAny _ _ (PySem.field (.ref it) 0 >>= _) _ _ _
  refine wpAny_bind (wpAny_field ho rfl (x := .str ⟨⟨b⟩⟩ t) rfl ?_)
  show wpAny _ _ (PySem.field (.ref it) 1 >>= _) _ _ _
  refine wpAny_bind (wpAny_field ho rfl (x := .int i 0) rfl ?_)
  have hx' : (⟨b⟩ : Array Nat)[i]? = none := by rw [List.getElem?_toArray]; exact hx
  simp only [Int.toNat_natCast, hx']
  refine means_base (s := ⟨h₀, g, d, t0 + 0, os⟩) ?_
  (refine segE (t0 := t0) (i := 0) 100000 [1, 1] (Value.ref (B + 1)) D (by assumption) (by assumption) ?_; intro o4; refine ⟨by kernel_rfl, by kernel_rfl, by kernel_rfl, fun h4 D4 => ?_⟩)
  exact hR _ _ (B + 1) B (D4.fin [0, 1, 1] (by kernel_rfl))
theorem r_lnext (hA : Fit 0 A kt h₀) (it la i ep : Nat) (l : List Value) (c : Value) (hx : l[i]? = some c) (D : Rep kt h₀ mods h₀ B [(it, iterO "list_iterator" (.ref la) i), (la, listO l ep)] [] 0)
   (hR : ∀ h1 t', After h₀ h1 mods [(it, iterO "list_iterator" (.ref la) (i + 1)), (la, listO l ep)] → R (.ok (.ret c)) ⟨h1, g, d, t', os⟩) :
   codeAny (model prog w) A (.call (.builtin "list_iterator.__next__") ⟨[.ref it], []⟩) R ⟨h₀, g, d, t0, os⟩ := by
  obtain ⟨b1, b2, hw⟩ := parF_ex w
  have hA' := hA.in1
  have ho : h₀.get? it = some (iterO "list_iterator" (.ref la) i) := D.get (j := 0) rfl
  have hl : h₀.get? la = some (listO l ep) := D.get (j := 1) rfl
  refine code_slot slot_listiter_next ⟨_, ho, rfl⟩ entry_listiter_next (args_listiter_next _) ?_
  show wpAny _ _ (PySem.field (.ref it) 0 >>= _) _ _ _
  refine wpAny_bind (wpAny_field ho rfl (x := .ref la) rfl ?_)
  show wpAny _ _ (if (Value.ref la == Value.none) = true then _ else _) _ _ _
  rw [if_neg (show ¬ ((Value.ref la == Value.none) = true) from Bool.false_ne_true)]
  show wpAny _ _ (PySem.field (.ref it) 1 >>= _) _ _ _
  refine wpAny_bind (wpAny_field ho rfl (x := .int i 0) rfl ?_)
  refine wpAny_bind (wpAny_seqItems hl rfl ?_)
  have hx' : (⟨l⟩ : Array Value)[i]? = some c := by rw [List.getElem?_toArray]; exact hx
  show wpAny _ _ (match (⟨l⟩ : Array Value)[((i : Int)).toNat]? with | some x => _ | none => _) _ _ _
  simp only [Int.toNat_natCast, hx']
  refine means_base (s := ⟨h₀, g, d, t0 + 0, os⟩) ?_
  (refine segF (t0 := t0) (i := 0) 100000 [1, 1] (Fin.done (Flow.ret c)) D (by assumption) (by assumption) ?_; intro o5; refine ⟨by kernel_rfl, by kernel_rfl, by kernel_rfl, fun h5 D5 => ?_⟩)
  exact hR _ _ (D5.fin [1, 1] (by kernel_rfl))
theorem r_lend (hA : Fit 0 A kt h₀) (it la i ep : Nat) (l : List Value) (hx : l[i]? = none) (D : Rep kt h₀ mods h₀ B [(it, iterO "list_iterator" (.ref la) i), (la, listO l ep)] [] 0)
   (hR : ∀ h1 t' a a2, After h₀ h1 mods [(la, listO l ep), (a2, tupO []), (a, stopO a2)] → R (.error (.ref a)) ⟨h1, g, d, t', os⟩) :
   codeAny (model prog w) A (.call (.builtin "list_iterator.__next__") ⟨[.ref it], []⟩) R ⟨h₀, g, d, t0, os⟩ := by
  obtain ⟨b1, b2, hw⟩ := parF_ex w
  have hA' := hA.in1
  have ho : h₀.get? it = some (iterO "list_iterator" (.ref la) i) := D.get (j := 0) rfl
  have hl : h₀.get? la = some (listO l ep) := D.get (j := 1) rfl
  refine code_slot slot_listiter_next ⟨_, ho, rfl⟩ entry_listiter_next (args_listiter_next _) ?_
  show wpAny _ _ (PySem.field (.ref it) 0 >>= _) _ _ _
  refine wpAny_bind (wpAny_field ho rfl (x := .ref la) rfl ?_)
  show wpAny _ _ (if (Value.ref la == Value.none) = true then _ else _) _ _ _
  rw [if_neg (show ¬ ((Value.ref la == Value.none) = true) from Bool.false_ne_true)]
  show wpAny _ _ (PySem.field (.ref it) 1 >>= _) _ _ _
  refine wpAny_bind (wpAny_field ho rfl (x := .int i 0) rfl ?_)
  refine wpAny_bind (wpAny_seqItems hl rfl ?_)
  have hx' : (⟨l⟩ : Array Value)[i]? = none := by rw [List.getElem?_toArray]; exact hx
  show wpAny _ _ (match (⟨l⟩ : Array Value)[((i : Int)).toNat]? with | some x => _ | none => _) _ _ _
  simp only [Int.toNat_natCast, hx']
  refine means_base (s := ⟨h₀, g, d, t0 + 0, os⟩) ?_
  (refine segE (t0 := t0) (i := 0) 100000 [1, 1] (Value.ref (B + 1)) D (by assumption) (by assumption) ?_; intro o6; refine ⟨by kernel_rfl, by kernel_rfl, by kernel_rfl, fun h6 D6 => ?_⟩)
  exact hR _ _ (B + 1) B (D6.fin [0, 1, 1, 1] (by kernel_rfl))
end
end Mine
end
section
open PySem PySem.W PySem.Calls PyProof.Rows
set_option Elab.async false
set_option maxRecDepth 100000
namespace Mine
section
variable {w : World} {A : Around} {h₀ : Heap} {R : Result → Shared → Prop} {B t0 : Nat} {g : Array GenState} {d : Drawn} {os : OsState} {mods : List Nat} {prog : Program} {kt : Nat → Option Obj}
theorem r_append (la ep : Nat) (l : List Value) (x : Value) (hsz : l.length ≤ 16777216) (D : Rep kt h₀ mods h₀ B [(la, listO l ep)] [] 0)
   (hR : ∀ h1 t', After h₀ h1 mods [(la, listO (l ++ [x]) (ep + 1))] → R (.ok (.ret .none)) ⟨h1, g, d, t', os⟩) :
   codeAny (model prog w) A (.call (.builtin "list.append") ⟨[.ref la, x], []⟩) R ⟨h₀, g, d, t0, os⟩ := by
  have hl : h₀.get? la = some (listO l ep) := D.get (j := 0) rfl
  refine code_meets slot_list_append ⟨_, hl, rfl⟩ entry_list_append (args_list_append _ _) (AutoListH.list_append_list_val_0 la ⟨l⟩ ep x (by rw [sizeLine_eq]; exact hsz)) ⟨hl, ?_⟩
  have D1 := D.update (j := 0) (p := (la, listO l ep)) (f := Obj.mapSeq fun x_1 => x_1.push x) rfl rfl
  refine hR _ _ (D1.fin [1] ?_)
  have e : Obj.mapSeq (fun x_1 => x_1.push x) (listO l ep) = listO (l ++ [x]) (ep + 1) := by
    have e1 : (⟨l⟩ : Array Value).push x = ⟨l ++ [x]⟩ := by rw [List.push_toArray]
    show (⟨.type "list", none, .seq ((⟨l⟩ : Array Value).push x) (if ((⟨l⟩ : Array Value).push x).size == (⟨l⟩ : Array Value).size then ep else ep + 1), #[]⟩ : Obj) = _
    rw [e1]
    have e2 : ((⟨l ++ [x]⟩ : Array Value).size == (⟨l⟩ : Array Value).size) = false := by
      show ((l ++ [x]).length == l.length) = false
      rw [List.length_append, List.length_singleton]
      exact beq_eq_false_iff_ne.mpr (Nat.succ_ne_self _)
    rw [e2]
    rfl
  show [(la, Obj.mapSeq (fun x_1 => x_1.push x) (listO l ep))] = _
  rw [e]
end
def scopeOf : Expr → Scope
  | .ListComp _ _ s _ => s
  | _ => default
noncomputable def compS (w : World) (a : Nat) (e : Expr) (it acc : Value) (di : Nat) (q : List Nat) (fr : Nat) : Code :=
  .compStart e 0 it acc { scope := scopeOf e, locals := di, globals := 3, cells := [], qual := ⟨⟨q⟩⟩, code := (fdAt w a).code, frame := some fr }
noncomputable def compL (w : World) (a : Nat) (e : Expr) (it acc : Value) (di : Nat) (q : List Nat) (fr : Nat) : Code :=
  .compLoop e 0 it acc { scope := scopeOf e, locals := di, globals := 3, cells := [], qual := ⟨⟨q⟩⟩, code := (fdAt w a).code, frame := some fr }
noncomputable def eLW (w : World) : Expr := match stmtAt w 102 0 with
  | .Return (some (.Call _ (e :: _) _ _)) _ => e
  | _ => default
def q_lw := [95, 108, 97, 119, 95, 119, 111, 114, 100, 46, 60, 108, 111, 99, 97, 108, 115, 62, 46]
def n_octet := [111, 99, 116, 101, 116]
def dictO (l : List DictEntry) (n : Nat) : Obj := { cls := .type "dict", data := .dict ⟨l⟩ n }
theorem lw_loop (w : World) (A : Around) (h₀ : Heap) (mods : List Nat) (hA : Fit 5 A (kt1 w) h₀) (R : Result → Shared → Prop) (g : Array GenState) (d : Drawn) (os : OsState) (it acc di fr t : Nat) (X : Led) :
   ∀ (rest pre : List UInt8) (P : List (Str × Tok)) (h : Heap) (B t0 ep : Nat) (dl : List DictEntry) (dn : Nat), (dl = [] ∧ dn = 0 ∨ ∃ k v, dl = [ent w n_octet k v] ∧ dn = 1) → (∀ c ∈ rest, c.toNat < 128) → P.length + rest.length ≤ 16777000 →
   Rep (kt1 w) h₀ mods h B [(acc, listO (strValues P) ep), (it, iterO "bytes_iterator" (.bytes ⟨pre ++ rest⟩ t) pre.length), (di, dictO dl dn)] X 0 →
   (∀ h1 B' t' ep' Q dl' dn', (dl' = [] ∧ dn' = 0 ∨ ∃ k v, dl' = [ent w n_octet k v] ∧ dn' = 1) → Q.map (·.1) = rest.map (fun c => (⟨⟨[c.toNat]⟩⟩ : Str)) → Rep (kt1 w) h₀ mods h1 B' [(acc, listO (strValues (P ++ Q)) ep'), (di, dictO dl' dn')] X 0 → R (.ok .next) ⟨h1, g, d, t', os⟩) →
   codeAny (PP w) A (compL w 102 (eLW w) (.ref it) (.ref acc) di q_lw fr) R ⟨h, g, d, t0, os⟩ := by
  obtain ⟨b1, b2, hw⟩ := parF_ex w
  have hA' := hA.under (compL w 102 (eLW w) (.ref it) (.ref acc) di q_lw fr) (m := 0) (by kernel_rfl)
  intro rest
  induction rest with
  | nil =>
    intro pre P h B t0 ep dl dn hdl hc hsz D hR
    refine code_start ?_
    change Means _ _ _ _ _ _ ⟨h, g, d, t0 + 0, os⟩
    (refine segW (t0 := t0) (i := 0) 100000 [2] (Code.call (Value.builtin "bytes_iterator.__next__") { pos := [Value.ref it] : Args }) D (by assumption) (by assumption) ?_; intro o11; refine ⟨by kernel_rfl, by kernel_rfl, by kernel_rfl, by kernel_rfl, by kernel_rfl, fun h11 D11 => ?_⟩)
    refine callW_of rfl ?_
    rw [mark_none]
    refine r_bend (Fit.inner hA' D11 _ (by kernel_rfl) (by kernel_rfl)) it t pre.length (pre ++ []) (by simp) (D11.give [0, 1] (by kernel_rfl)) fun g1 t' x y a1 => ?_
    obtain ⟨B2, E1⟩ := D11.backP [0, 1] [0, 1, 2, 3] [(y, tupO []), (x, stopO y), (acc, listO (strValues P) ep), (di, dictO dl dn)] (by kernel_rfl) a1 (by kernel_rfl)
    change Means _ _ _ _ (outκ o11) (outK o11 _) ⟨g1, g, d, t' + 0, os⟩
    (refine segF (t0 := t') (i := 0) 100000 [2] (Fin.done Flow.next) E1 (by assumption) (by assumption) ?_; intro o12; refine ⟨by kernel_rfl, by kernel_rfl, by kernel_rfl, fun h12 D12 => ?_⟩)
    obtain ⟨B3, E2⟩ := D12.pickE [2, 3] [(acc, listO (strValues (P ++ [])) ep), (di, dictO dl dn)] (by rw [List.append_nil]; kernel_rfl)
    exact hR _ _ _ _ [] _ _ hdl rfl E2
  | cons c rest ih =>
    intro pre P h B t0 ep dl dn hdl hc hsz D hR
    refine code_start ?_
    change Means _ _ _ _ _ _ ⟨h, g, d, t0 + 0, os⟩
    (refine segW (t0 := t0) (i := 0) 100000 [2] (Code.call (Value.builtin "bytes_iterator.__next__") { pos := [Value.ref it] : Args }) D (by assumption) (by assumption) ?_; intro o21; refine ⟨by kernel_rfl, by kernel_rfl, by kernel_rfl, by kernel_rfl, by kernel_rfl, fun h21 D21 => ?_⟩)
    refine callW_of rfl ?_
    rw [mark_none]
    refine r_bnext (Fit.inner hA' D21 _ (by kernel_rfl) (by kernel_rfl)) it t pre.length (pre ++ c :: rest) c (by simp) (D21.give [0, 1] (by kernel_rfl)) fun g1 t1 t' a1 => ?_
    obtain ⟨B2, E1⟩ := D21.backP [0, 1] [1, 0, 2] [(acc, listO (strValues P) ep), (it, iterO "bytes_iterator" (.bytes ⟨pre ++ c :: rest⟩ t) (pre.length + 1)), (di, dictO dl dn)] (by kernel_rfl) a1 (by kernel_rfl)
    change Means _ _ _ _ (outκ o21) (outK o21 _) ⟨g1, g, d, t' + 0, os⟩
    have hc0 := hc c List.mem_cons_self
    have e1 : pre ++ c :: rest = (pre ++ [c]) ++ rest := by simp
    have e2 : pre.length + 1 = (pre ++ [c]).length := by simp
    rw [List.length_cons] at hsz
    rcases hdl with ⟨rfl, rfl⟩ | ⟨k, v, rfl, rfl⟩
    · (refine segW (t0 := t') (i := 0) 100000 [3, 3, 0, 0, 3] (Code.call (Value.builtin "chr") { pos := [Value.int (Int.ofNat (UInt8.toNat c)) t1] : Args }) E1 (by assumption) (by assumption) ?_; intro o101; refine ⟨by kernel_rfl, by kernel_rfl, by kernel_rfl, by kernel_rfl, by kernel_rfl, fun h101 D101 => ?_⟩)
      refine callW_call (Q := fun v s' => _) (E := fun e s' => _) (chr_of_range (by show (0 : Int) ≤ ((c.toNat : Nat) : Int); omega) (by show ((c.toNat : Nat) : Int) ≤ 1114111; omega) ?_) (fun _ _ h => h) (fun _ _ h => h)
      obtain ⟨B3, E2⟩ := D101.pickE [0, 1, 2] [(acc, listO (strValues P) ep), (it, iterO "bytes_iterator" (.bytes ⟨pre ++ c :: rest⟩ t) (pre.length + 1)), (di, dictO [ent w n_octet t' (.int (.ofNat c.toNat) t1)] 1)] (by kernel_rfl)
      change Means _ _ _ _ (outκ o101) (outK o101 (.ok (.ret (.str ⟨⟨[c.toNat]⟩⟩ _)))) ⟨h101, g, d, _ + 0, os⟩
      generalize ((⟨h101, g, d, t' + outI o101, os⟩ : Shared)).toks = t5
      (refine segW (t0 := Nat.succ (Nat.add t5 0)) (i := 0) 100000 [] ((.call (.builtin "list.append") ⟨[.ref acc, .str ⟨⟨[c.toNat]⟩⟩ t5], []⟩) ) E2 (by assumption) (by assumption) ?_; intro o102; refine ⟨by kernel_rfl, by kernel_rfl, by kernel_rfl, by kernel_rfl, by kernel_rfl, fun h102 D102 => ?_⟩)
      refine callW_of rfl ?_
      rw [mark_none]
      refine r_append acc ep (strValues P) _ (by rw [show (strValues P).length = P.length from by simp [strValues]]; omega) (D102.give [1] (by kernel_rfl)) fun g3 t3 a3 => ?_
      obtain ⟨B4, E3⟩ := D102.backP [1] [0, 1, 2] [(acc, listO (strValues P ++ [.str ⟨⟨[c.toNat]⟩⟩ t5]) (ep + 1)), (it, iterO "bytes_iterator" (.bytes ⟨pre ++ c :: rest⟩ t) (pre.length + 1)), (di, dictO [ent w n_octet t' (.int (.ofNat c.toNat) t1)] 1)] (by kernel_rfl) a3 (by kernel_rfl)
      change Means _ _ _ _ (outκ o102) (outK o102 _) ⟨g3, g, d, t3 + 0, os⟩
      (refine segF (t0 := t3) (i := 0) 100000 [] ((Fin.again (compL w 102 (eLW w) (.ref it) (.ref acc) di q_lw fr)) ) E3 (by assumption) (by assumption) ?_; intro o103; refine ⟨by kernel_rfl, by kernel_rfl, by kernel_rfl, fun h103 D103 => ?_⟩)
      obtain ⟨B5, E4⟩ := D103.pickE [0, 1, 2] [(acc, listO (strValues P ++ [.str ⟨⟨[c.toNat]⟩⟩ t5]) (ep + 1)), (it, iterO "bytes_iterator" (.bytes ⟨pre ++ c :: rest⟩ t) (pre.length + 1)), (di, dictO [ent w n_octet t' (.int (.ofNat c.toNat) t1)] 1)] (by kernel_rfl)
      have e3 : strValues P ++ [.str ⟨⟨[c.toNat]⟩⟩ t5] = strValues (P ++ [(⟨⟨[c.toNat]⟩⟩, t5)]) := by simp [strValues]
      rw [e1, e2, e3] at E4
      refine ⟨by kernel_rfl, ih (pre ++ [c]) (P ++ [(⟨⟨[c.toNat]⟩⟩, t5)]) _ _ _ _ _ _ (.inr ⟨_, _, rfl, rfl⟩) (fun x hx => hc x (List.mem_cons_of_mem _ hx)) (by rw [List.length_append, List.length_singleton]; omega) E4 fun h1 B' t9 ep' Q dl' dn' hd2 hQ E => ?_⟩
      refine hR h1 B' t9 ep' ((⟨⟨[c.toNat]⟩⟩, t5) :: Q) dl' dn' hd2 (by rw [List.map_cons, List.map_cons, hQ]) ?_
      rw [List.append_assoc] at E
      exact E
    · (refine segW (t0 := t') (i := 0) 100000 [3, 3, 0, 0, 3] (Code.call (Value.builtin "chr") { pos := [Value.int (Int.ofNat (UInt8.toNat c)) t1] : Args }) E1 (by assumption) (by assumption) ?_; intro o201; refine ⟨by kernel_rfl, by kernel_rfl, by kernel_rfl, by kernel_rfl, by kernel_rfl, fun h201 D201 => ?_⟩)
      refine callW_call (Q := fun v s' => _) (E := fun e s' => _) (chr_of_range (by show (0 : Int) ≤ ((c.toNat : Nat) : Int); omega) (by show ((c.toNat : Nat) : Int) ≤ 1114111; omega) ?_) (fun _ _ h => h) (fun _ _ h => h)
      obtain ⟨B3, E2⟩ := D201.pickE [0, 1, 2] [(acc, listO (strValues P) ep), (it, iterO "bytes_iterator" (.bytes ⟨pre ++ c :: rest⟩ t) (pre.length + 1)), (di, dictO [ent w n_octet k (.int (.ofNat c.toNat) t1)] 1)] (by kernel_rfl)
      change Means _ _ _ _ (outκ o201) (outK o201 (.ok (.ret (.str ⟨⟨[c.toNat]⟩⟩ _)))) ⟨h201, g, d, _ + 0, os⟩
      generalize ((⟨h201, g, d, t' + outI o201, os⟩ : Shared)).toks = t5
      (refine segW (t0 := Nat.succ (Nat.add t5 0)) (i := 0) 100000 [] ((.call (.builtin "list.append") ⟨[.ref acc, .str ⟨⟨[c.toNat]⟩⟩ t5], []⟩) ) E2 (by assumption) (by assumption) ?_; intro o202; refine ⟨by kernel_rfl, by kernel_rfl, by kernel_rfl, by kernel_rfl, by kernel_rfl, fun h202 D202 => ?_⟩)
      refine callW_of rfl ?_
      rw [mark_none]
      refine r_append acc ep (strValues P) _ (by rw [show (strValues P).length = P.length from by simp [strValues]]; omega) (D202.give [1] (by kernel_rfl)) fun g3 t3 a3 => ?_
      obtain ⟨B4, E3⟩ := D202.backP [1] [0, 1, 2] [(acc, listO (strValues P ++ [.str ⟨⟨[c.toNat]⟩⟩ t5]) (ep + 1)), (it, iterO "bytes_iterator" (.bytes ⟨pre ++ c :: rest⟩ t) (pre.length + 1)), (di, dictO [ent w n_octet k (.int (.ofNat c.toNat) t1)] 1)] (by kernel_rfl) a3 (by kernel_rfl)
      change Means _ _ _ _ (outκ o202) (outK o202 _) ⟨g3, g, d, t3 + 0, os⟩
      (refine segF (t0 := t3) (i := 0) 100000 [] ((Fin.again (compL w 102 (eLW w) (.ref it) (.ref acc) di q_lw fr)) ) E3 (by assumption) (by assumption) ?_; intro o203; refine ⟨by kernel_rfl, by kernel_rfl, by kernel_rfl, fun h203 D203 => ?_⟩)
      obtain ⟨B5, E4⟩ := D203.pickE [0, 1, 2] [(acc, listO (strValues P ++ [.str ⟨⟨[c.toNat]⟩⟩ t5]) (ep + 1)), (it, iterO "bytes_iterator" (.bytes ⟨pre ++ c :: rest⟩ t) (pre.length + 1)), (di, dictO [ent w n_octet k (.int (.ofNat c.toNat) t1)] 1)] (by kernel_rfl)
      have e3 : strValues P ++ [.str ⟨⟨[c.toNat]⟩⟩ t5] = strValues (P ++ [(⟨⟨[c.toNat]⟩⟩, t5)]) := by simp [strValues]
      rw [e1, e2, e3] at E4
      refine ⟨by kernel_rfl, ih (pre ++ [c]) (P ++ [(⟨⟨[c.toNat]⟩⟩, t5)]) _ _ _ _ _ _ (.inr ⟨_, _, rfl, rfl⟩) (fun x hx => hc x (List.mem_cons_of_mem _ hx)) (by rw [List.length_append, List.length_singleton]; omega) E4 fun h1 B' t9 ep' Q dl' dn' hd2 hQ E => ?_⟩
      refine hR h1 B' t9 ep' ((⟨⟨[c.toNat]⟩⟩, t5) :: Q) dl' dn' hd2 (by rw [List.map_cons, List.map_cons, hQ]) ?_
      rw [List.append_assoc] at E
      exact E
end Mine
end
section
open PySem PySem.W PySem.Calls PyProof.Rows
set_option Elab.async false
set_option maxRecDepth 100000
namespace Mine
def strCat (l : List Str) : List Nat := l.flatMap fun s => s.cps.toList
theorem glued_fold (ps : List Str) : ∀ acc : Array Nat, (ps.foldl (fun acc p => acc ++ (⟨⟨[]⟩⟩ : Str).cps ++ p.cps) acc).toList = acc.toList ++ strCat ps := by
  induction ps with
  | nil => intro acc; simp [strCat]
  | cons p ps ih =>
    intro acc
    rw [List.foldl_cons, ih]
    simp [strCat]
theorem glued_nil (l : List Str) : Builtin.Str.glued ⟨⟨[]⟩⟩ l = ⟨⟨strCat l⟩⟩ := by
  unfold Builtin.Str.glued
  have e := glued_fold (l.drop 1) (l.headD Str.empty).cps
  have e2 : (l.headD Str.empty).cps.toList ++ strCat (l.drop 1) = strCat l := by
    cases l with
    | nil => rfl
    | cons p l => simp [strCat]
  rw [e2] at e
  congr 1
  exact Array.toList_inj.mp e
theorem len_fold (l : List Str) : ∀ n : Nat, l.foldl (fun a s => a + s.length + (⟨⟨[]⟩⟩ : Str).length) n = n + (strCat l).length := by
  induction l with
  | nil => intro n; rfl
  | cons p l ih =>
    intro n
    rw [List.foldl_cons, ih]
    have e : (strCat (p :: l)).length = p.length + (strCat l).length := by
      show (p.cps.toList ++ strCat l).length = p.cps.size + _
      rw [List.length_append, Array.length_toList]
    have e0 : (⟨⟨[]⟩⟩ : Str).length = 0 := rfl
    omega
theorem r_join {w : World} {A : Around} {h₀ : Heap} {R : Result → Shared → Prop} {B t0 : Nat} {g : Array GenState} {d : Drawn} {os : OsState} {mods : List Nat} {prog : Program} {kt : Nat → Option Obj}
   (a t ep : Nat) (l : List (Str × Tok)) (hsz : (strCat (l.map (·.1))).length ≤ 16777216) (D : Rep kt h₀ mods h₀ B [(a, listO (strValues l) ep)] [] 0)
   (hR : ∀ t1 t', R (.ok (.ret (.str ⟨⟨strCat (l.map (·.1))⟩⟩ t1))) ⟨h₀, g, d, t', os⟩) :
   codeAny (model prog w) A (.call (.builtin "str.join") ⟨[.str ⟨⟨[]⟩⟩ t, .ref a], []⟩) R ⟨h₀, g, d, t0, os⟩ := by
  have hl : h₀.get? a = some (listO (strValues l) ep) := D.get (j := 0) rfl
  refine code_meets F.slot_str_join (typeIs_str _ _ _) F.entry_str_join (F.args_str_join_2 _ _) (meets_str_join_list ⟨⟨[]⟩⟩ t a l ?_) ⟨⟨_, hl, rfl, ep, rfl⟩, ?_⟩
  · rw [List.foldl_toArray, len_fold]
    unfold Builtin.Str.tooLong
    rw [sizeLine_eq]
    exact decide_eq_false (by omega)
  · have key : (Made.str (Builtin.Str.glued ⟨⟨[]⟩⟩ (l.map (·.1)))).post (fun v s' => R (.ok (.ret v)) s') ⟨h₀, g, d, t0, os⟩ := by
      rw [glued_nil]
      exact ⟨by rw [sizeLine_eq]; exact hsz, hR _ _⟩
    unfold joinMade
    split
    · rename_i p
      have z := hR p.2 t0
      have e : strCat ([p].map (·.1)) = p.1.cps.toList := by simp [strCat]
      rw [e] at z
      exact z
    · exact key
theorem strCat_one {α : Type} (f : α → Nat) (l : List α) : strCat (l.map fun c => (⟨⟨[f c]⟩⟩ : Str)) = l.map f := by
  induction l with
  | nil => rfl
  | cons c l ih =>
    show [f c] ++ strCat (l.map fun c => (⟨⟨[f c]⟩⟩ : Str)) = f c :: l.map f
    rw [ih]
    rfl
end Mine
end
section
open PySem PySem.W PySem.Calls PyProof.Rows
set_option Elab.async false
set_option maxRecDepth 100000
namespace Mine
theorem lw_start (w : World) (A : Around) (h₀ : Heap) (mods : List Nat) (hA : Fit 5 A (kt1 w) h₀) (R : Result → Shared → Prop) (g : Array GenState) (d : Drawn) (os : OsState) (it acc di fr t : Nat) (bb : List UInt8) (X : Led) (h : Heap) (B t0 : Nat) (hc : ∀ c ∈ bb, c.toNat < 128) (hsz : bb.length ≤ 16777000)
   (D : Rep (kt1 w) h₀ mods h B [(acc, listO [] 0), (it, iterO "bytes_iterator" (.bytes ⟨bb⟩ t) 0), (di, dictO [] 0)] X 0)
   (hR : ∀ h1 B' t' ep' Q dl dn, (dl = [] ∧ dn = 0 ∨ ∃ k v, dl = [ent w n_octet k v] ∧ dn = 1) → Q.map (·.1) = bb.map (fun c => (⟨⟨[c.toNat]⟩⟩ : Str)) → Rep (kt1 w) h₀ mods h1 B' [(acc, listO (strValues Q) ep'), (di, dictO dl dn)] X 0 → R (.ok .next) ⟨h1, g, d, t', os⟩) :
   codeAny (PP w) A (compS w 102 (eLW w) (.ref it) (.ref acc) di q_lw fr) R ⟨h, g, d, t0, os⟩ := by
  obtain ⟨b1, b2, hw⟩ := parF_ex w
  have hA' := hA.under (compS w 102 (eLW w) (.ref it) (.ref acc) di q_lw fr) (m := 0) (by kernel_rfl)
  refine code_start ?_
  change Means _ _ _ _ _ _ ⟨h, g, d, t0 + 0, os⟩
  cases b2
  · cases b1 <;> (
    (refine segF (t0 := t0) (i := 0) 100000 [2, 2, 1, 2, 2] ((Fin.again (compL w 102 (eLW w) (.ref it) (.ref acc) di q_lw fr)) ) D (by assumption) (by assumption) ?_; intro o1; refine ⟨by kernel_rfl, by kernel_rfl, by kernel_rfl, fun h1 D1 => ?_⟩)
    obtain ⟨B2, E1⟩ := D1.pickE [0, 1, 2] [(acc, listO (strValues []) 0), (it, iterO "bytes_iterator" (.bytes ⟨[] ++ bb⟩ t) ([] : List UInt8).length), (di, dictO [] 0)] (by kernel_rfl)
    exact ⟨by kernel_rfl, lw_loop w A h₀ mods hA R g d os it acc di fr t X bb [] [] _ _ _ _ _ _ (.inl ⟨rfl, rfl⟩) hc (by rw [List.length_nil]; omega) E1 hR⟩)
  · (refine segF (t0 := t0) (i := 0) 100000 [] ((Fin.again (compL w 102 (eLW w) (.ref it) (.ref acc) di q_lw fr)) ) D (by assumption) (by assumption) ?_; intro o2; refine ⟨by kernel_rfl, by kernel_rfl, by kernel_rfl, fun h2 D2 => ?_⟩)
    obtain ⟨B2, E1⟩ := D2.pickE [0, 1, 2] [(acc, listO (strValues []) 0), (it, iterO "bytes_iterator" (.bytes ⟨[] ++ bb⟩ t) ([] : List UInt8).length), (di, dictO [] 0)] (by kernel_rfl)
    exact ⟨by kernel_rfl, lw_loop w A h₀ mods hA R g d os it acc di fr t X bb [] [] _ _ _ _ _ _ (.inl ⟨rfl, rfl⟩) hc (by rw [List.length_nil]; omega) E1 hR⟩
def hexS (n : Nat) : List Nat := (hexL n).map fun r => 65 + r
theorem hexL_lt : ∀ (n : Nat), ∀ r ∈ hexL n, r < 16 := by
  intro n
  induction n using Nat.strongRecOn with
  | ind n ih =>
    unfold hexL
    split
    · intro r h; cases h
    · intro r h
      rcases List.mem_append.mp h with h | h
      · exact ih _ (by omega) r h
      · rw [List.mem_singleton.mp h]; exact Nat.mod_lt _ (by decide)
theorem hexB_toNat (n : Nat) : (hexB n).map UInt8.toNat = hexS n := by
  unfold hexB hexS
  rw [List.map_map]
  refine List.map_congr_left fun r hr => ?_
  have := hexL_lt n r hr
  show (UInt8.ofNat (65 + r)).toNat = 65 + r
  rw [UInt8.toNat_ofNat']
  omega
theorem hexB_lt (n : Nat) : ∀ c ∈ hexB n, c.toNat < 128 := by
  intro c hc
  have : c.toNat ∈ hexS n := by rw [← hexB_toNat]; exact List.mem_map.mpr ⟨c, hc, rfl⟩
  obtain ⟨r, hr, e⟩ := List.mem_map.mp this
  have := hexL_lt n r hr
  omega
theorem law_word (w : World) (A : Around) (h₀ : Heap) (hA : Fit 20 A (kt1 w) h₀) (R : Result → Shared → Prop) (B t0 : Nat) (g : Array GenState) (d : Drawn) (os : OsState) (n : Int) (tn : Nat) {mods : List Nat}
   (hsz : (hexB n.natAbs).length ≤ 16777000)
   (D : Rep (kt1 w) h₀ mods h₀ B [] [] 0)
   (hR : ∀ h1 t t', After h₀ h1 mods [] → R (.ok (.ret (.str ⟨⟨hexS n.natAbs⟩⟩ t))) ⟨h1, g, d, t', os⟩) :
   codeAny (PP w) A (.call (.ref 102) ⟨[.int n tn], []⟩) R ⟨h₀, g, d, t0, os⟩ := by
  obtain ⟨b1, b2, hw⟩ := parF_ex w
  refine code_ent (D.kt_ (a := 102) (o := obAt w 102) (by kernel_rfl)) (fd := fdAt w 102) (by kernel_rfl) (by have := hA.room; omega) ?_
  change Means _ _ _ _ _ _ ⟨h₀, g, d, t0 + 0, os⟩
  rw [← hexB_toNat] at hR
  have hcs : ∀ c ∈ hexB n.natAbs, c.toNat < 128 := hexB_lt _
  cases b1 <;> (
  (refine segL (t0 := t0) (i := 0) 100000 [0, 1, 1, 0, 1, 0] (Code.call (Value.ref 55) { pos := [Value.int n tn] : Args }) D (by assumption) (by assumption) ?_; intro o11; refine ⟨by kernel_rfl, by kernel_rfl, by kernel_rfl, by kernel_rfl, fun h11 D11 => ?_⟩)
  refine int2ap w _ _ (Fit.inner hA D11 _ (by kernel_rfl) (by kernel_rfl)) _ _ _ g d os n tn hsz (D11.give [] (by kernel_rfl)) fun g1 t t' a1 => ?_
  obtain ⟨B2, E1⟩ := D11.backP [] [0] [(B, fobj [ent w [110, 117, 109, 98, 101, 114] t0 (.int n tn)] 1)] (by kernel_rfl) a1 (by kernel_rfl)
  change Means _ _ _ _ (outκ o11) (outK o11 _) ⟨g1, g, d, t' + 0, os⟩
  generalize hexB n.natAbs = bb at hsz hcs hR
  (refine segL (t0 := t') (i := 0) 100000 [1, 2] ((compS w 102 (eLW w) (.ref B2) (.ref (B2 + 1)) (B2 + 2) q_lw B) ) E1 (by assumption) (by assumption) ?_; intro o12; refine ⟨by kernel_rfl, by kernel_rfl, by kernel_rfl, by kernel_rfl, fun h12 D12 => ?_⟩)
  obtain ⟨B3, E2⟩ := D12.partE [2, 1, 3] [0] [(B2 + 1, listO [] 0), (B2, iterO "bytes_iterator" (.bytes ⟨bb⟩ t) 0), (B2 + 2, dictO [] 0)] [(B, fobj [ent w [110, 117, 109, 98, 101, 114] t0 (.int n tn)] 1)] (by kernel_rfl) (by kernel_rfl)
  refine lw_start w _ h₀ mods (hA.ar _ (by kernel_rfl) (by kernel_rfl)) _ g d os B2 (B2 + 1) (B2 + 2) B t bb _ _ _ _ hcs hsz E2 fun h3 B4 t4 ep4 Q dl dn hdl hQ E3 => ?_
  have E3 := E3.joinX
  change Means _ _ _ _ (outκ o12) (outK o12 _) ⟨h3, g, d, t4 + 0, os⟩
  rcases hdl with ⟨rfl, rfl⟩ | ⟨k, v, rfl, rfl⟩ <;> (
  (first | (refine segW (t0 := t4) (i := 0) 100000 [2] ((.call (.builtin "str.join") ⟨[.str ⟨⟨[]⟩⟩ (t0 + 1), .ref (B2 + 1)], []⟩) ) E3 (by assumption) (by assumption) ?_; intro o13; refine ⟨by kernel_rfl!, by kernel_rfl!, by kernel_rfl!, by kernel_rfl!, by kernel_rfl!, fun h13 D13 => ?_⟩) | (refine segW (t0 := t4) (i := 0) 100000 [2, 2, 2] ((.call (.builtin "str.join") ⟨[.str ⟨⟨[]⟩⟩ (t0 + 1), .ref (B2 + 1)], []⟩) ) E3 (by assumption) (by assumption) ?_; intro o13; refine ⟨by kernel_rfl!, by kernel_rfl!, by kernel_rfl!, by kernel_rfl!, by kernel_rfl!, fun h13 D13 => ?_⟩))
  refine callW_of rfl ?_
  rw [mark_none]
  have hcat : strCat (Q.map (·.1)) = bb.map UInt8.toNat := by
    rw [hQ]
    exact strCat_one UInt8.toNat bb
  refine r_join (B2 + 1) _ ep4 Q (by rw [hcat, List.length_map]; omega) (D13.give [1] (by kernel_rfl)) fun t6 t7 => ?_
  rw [hcat]
  obtain ⟨B5, E5⟩ := D13.pickE [2] [(B, fobj [ent w [110, 117, 109, 98, 101, 114] t0 (.int n tn)] 1)] (by kernel_rfl)
  change Means _ _ _ _ (outκ o13) (outK o13 _) ⟨h13, g, d, t7 + 0, os⟩
  (refine segF (t0 := t7) (i := 0) 100000 [] ((Fin.done (Flow.ret (.str ⟨⟨bb.map UInt8.toNat⟩⟩ t6))) ) E5 (by assumption) (by assumption) ?_; intro o14; refine ⟨by kernel_rfl, by kernel_rfl, by kernel_rfl, fun h14 D14 => ?_⟩)
  exact hR _ _ _ (D14.fin [] (by kernel_rfl))))
end Mine
end
section
open PySem PySem.W PySem.Calls PyProof.Rows
set_option Elab.async false
set_option maxRecDepth 100000
namespace Mine
theorem r_siter {w : World} {A : Around} {h₀ : Heap} {R : Result → Shared → Prop} {B t0 : Nat} {g : Array GenState} {d : Drawn} {os : OsState} {mods : List Nat} {prog : Program} {kt : Nat → Option Obj}
   (hA : Fit 0 A kt h₀) (x : List Nat) (t : Nat) (hx : ∀ c ∈ x, c < 128) (D : Rep kt h₀ mods h₀ B [] [] 0)
   (hR : ∀ h1 a t', After h₀ h1 mods [(a, iterO "str_ascii_iterator" (.str ⟨⟨x⟩⟩ t) 0)] → R (.ok (.ret (.ref a))) ⟨h1, g, d, t', os⟩) :
   codeAny (model prog w) A (.call (.builtin "str.__iter__") ⟨[.str ⟨⟨x⟩⟩ t], []⟩) R ⟨h₀, g, d, t0, os⟩ := by
  obtain ⟨b1, b2, hw⟩ := parF_ex w
  have hA' := hA.in1
  have ha : (⟨⟨x⟩⟩ : Str).cps.all (· < 128) = true := by
    rw [Array.all_eq_true_iff_forall_mem]
    intro c hc
    exact decide_eq_true (hx c (List.mem_toArray.mp hc))
  refine code_slot F.slot_str_iter (typeIs_str _ _ _) F.entry_str_iter (F.args_str_iter_1 _) ?_
  show wpAny _ _ (do ret (← newFields (if (true && (⟨⟨x⟩⟩ : Str).cps.all (· < 128)) = true then "str_ascii_iterator" else "str_iterator") [.str ⟨⟨x⟩⟩ t, rawInt 0])) _ _ _
  rw [ha]
  refine means_base (s := ⟨h₀, g, d, t0 + 0, os⟩) ?_
  (refine segF (t0 := t0) (i := 0) 100000 [] (Fin.done (Flow.ret (Value.ref B))) D (by assumption) (by assumption) ?_; intro o1; refine ⟨by kernel_rfl, by kernel_rfl, by kernel_rfl, fun h1 D1 => ?_⟩)
  exact hR _ B _ (D1.fin [1] (by kernel_rfl))
def forOf : Stmt → Value → Env → Code
  | .For t _ b o _, it, env => .forLoop t it b o env
  | _, _, _ => default
def q_ln := [95, 108, 97, 119, 95, 110, 117, 109, 98, 101, 114, 46, 60, 108, 111, 99, 97, 108, 115, 62, 46]
def n_word := [119, 111, 114, 100]
def n_number := [110, 117, 109, 98, 101, 114]
def n_sign := [115, 105, 103, 110]
def numZ (v : Int) (x : List Nat) : Int := x.foldl (fun v c => 16 * v + (Int.ofNat c) - 65) v
theorem ln_loop (w : World) (A : Around) (h₀ : Heap) (mods : List Nat) (hA : Fit 5 A (kt1 w) h₀) (R : Result → Shared → Prop) (g : Array GenState) (d : Drawn) (os : OsState) (it f t k1 k2 : Nat) :
   ∀ (rest pre : List Nat) (v : Int) (h : Heap) (B t0 tv ep : Nat) (dl : List DictEntry), (dl = [] ∨ ∃ k v, dl = [ent w n_sign k v]) →
   Rep (kt1 w) h₀ mods h B [(f, fobj (ent w n_word k1 (.str ⟨⟨pre ++ rest⟩⟩ t) :: ent w n_number k2 (.int v tv) :: dl) ep), (it, iterO "str_ascii_iterator" (.str ⟨⟨pre ++ rest⟩⟩ t) pre.length)] [] 0 →
   (∀ h1 B' t' ep' tv' dl', Rep (kt1 w) h₀ mods h1 B' [(f, fobj (ent w n_word k1 (.str ⟨⟨pre ++ rest⟩⟩ t) :: ent w n_number k2 (.int (numZ v rest) tv') :: dl') ep')] [] 0 → R (.ok .next) ⟨h1, g, d, t', os⟩) →
   codeAny (PP w) A (forOf (stmtAt w 109 1) (.ref it) (envOf w 109 f q_ln)) R ⟨h, g, d, t0, os⟩ := by
  obtain ⟨b1, b2, hw⟩ := parF_ex w
  have hA' := hA.under (forOf (stmtAt w 109 1) (.ref it) (envOf w 109 f q_ln)) (m := 0) (by kernel_rfl)
  intro rest
  induction rest with
  | nil =>
    intro pre v h B t0 tv ep dl hdl D hR
    refine code_start ?_
    change Means _ _ _ _ _ _ ⟨h, g, d, t0 + 0, os⟩
    (refine segW (t0 := t0) (i := 0) 100000 [2] (Code.call (Value.builtin "str_ascii_iterator.__next__") { pos := [Value.ref it] : Args }) D (by assumption) (by assumption) ?_; intro o11; refine ⟨by kernel_rfl, by kernel_rfl, by kernel_rfl, by kernel_rfl, by kernel_rfl, fun h11 D11 => ?_⟩)
    refine callW_of rfl ?_
    rw [mark_none]
    refine r_send (Fit.inner hA' D11 _ (by kernel_rfl) (by kernel_rfl)) it t pre.length (pre ++ []) (by simp) (D11.give [0, 1] (by kernel_rfl)) fun g1 t' x y a1 => ?_
    obtain ⟨B2, E1⟩ := D11.backP [0, 1] [0, 1, 2] [(y, tupO []), (x, stopO y), (f, fobj (ent w n_word k1 (.str ⟨⟨pre ++ []⟩⟩ t) :: ent w n_number k2 (.int v tv) :: dl) ep)] (by kernel_rfl) a1 (by kernel_rfl)
    change Means _ _ _ _ (outκ o11) (outK o11 _) ⟨g1, g, d, t' + 0, os⟩
    (refine segF (t0 := t') (i := 0) 100000 [2] ((Fin.again (Code.block [] (envOf w 109 f q_ln))) ) E1 (by assumption) (by assumption) ?_; intro o12; refine ⟨by kernel_rfl, by kernel_rfl, by kernel_rfl, fun h12 D12 => ?_⟩)
    obtain ⟨B3, E2⟩ := D12.pickE [2] [(f, fobj (ent w n_word k1 (.str ⟨⟨pre ++ []⟩⟩ t) :: ent w n_number k2 (.int v tv) :: dl) ep)] (by kernel_rfl)
    have hA2 := hA.under (Code.block [] (envOf w 109 f q_ln)) (m := 0) (by kernel_rfl)
    refine ⟨by kernel_rfl, code_start ?_⟩
    change Means _ _ _ _ _ _ ⟨h12, g, d, (t' + outI o12) + 0, os⟩
    (refine segF (t0 := t' + outI o12) (i := 0) 100000 [] (Fin.done Flow.next) E2 (by assumption) (by assumption) ?_; intro o13; refine ⟨by kernel_rfl, by kernel_rfl, by kernel_rfl, fun h13 D13 => ?_⟩)
    obtain ⟨B4, E3⟩ := D13.pickE [0] [(f, fobj (ent w n_word k1 (.str ⟨⟨pre ++ []⟩⟩ t) :: ent w n_number k2 (.int v tv) :: dl) ep)] (by kernel_rfl)
    exact hR _ _ _ _ _ _ E3
  | cons c rest ih =>
    intro pre v h B t0 tv ep dl hdl D hR
    refine code_start ?_
    change Means _ _ _ _ _ _ ⟨h, g, d, t0 + 0, os⟩
    (refine segW (t0 := t0) (i := 0) 100000 [2] (Code.call (Value.builtin "str_ascii_iterator.__next__") { pos := [Value.ref it] : Args }) D (by assumption) (by assumption) ?_; intro o21; refine ⟨by kernel_rfl, by kernel_rfl, by kernel_rfl, by kernel_rfl, by kernel_rfl, fun h21 D21 => ?_⟩)
    refine callW_of rfl ?_
    rw [mark_none]
    refine r_snext (Fit.inner hA' D21 _ (by kernel_rfl) (by kernel_rfl)) it t pre.length (pre ++ c :: rest) c (by simp) (D21.give [0, 1] (by kernel_rfl)) fun g1 t1 t' a1 => ?_
    obtain ⟨B2, E1⟩ := D21.backP [0, 1] [1, 0] [(f, fobj (ent w n_word k1 (.str ⟨⟨pre ++ c :: rest⟩⟩ t) :: ent w n_number k2 (.int v tv) :: dl) ep), (it, iterO "str_ascii_iterator" (.str ⟨⟨pre ++ c :: rest⟩⟩ t) (pre.length + 1))] (by kernel_rfl) a1 (by kernel_rfl)
    change Means _ _ _ _ (outκ o21) (outK o21 _) ⟨g1, g, d, t' + 0, os⟩
    have e1 : pre ++ c :: rest = (pre ++ [c]) ++ rest := by simp
    have e2 : pre.length + 1 = (pre ++ [c]).length := by simp
    cases b1
    · rcases hdl with rfl | ⟨k, v0, rfl⟩
      · (refine segF (t0 := t') (i := 0) 100000 [1, 1, 1, 1, 0, 0, 1, 1, 1, 1, 1, 1] ((Fin.again (forOf (stmtAt w 109 1) (.ref it) (envOf w 109 f q_ln))) ) E1 (by assumption) (by assumption) ?_; intro o101; refine ⟨by kernel_rfl, by kernel_rfl, by kernel_rfl, fun h101 D101 => ?_⟩)
        obtain ⟨B3, E2⟩ := D101.pickE [0, 1] [(f, fobj [ent w n_word k1 (.str ⟨⟨pre ++ c :: rest⟩⟩ t), ent w n_number k2 (.int (16 * v + (Int.ofNat c) - 65) (t' + 6)), ent w n_sign t' (.str ⟨⟨[c]⟩⟩ t1)] (ep + 1)), (it, iterO "str_ascii_iterator" (.str ⟨⟨pre ++ c :: rest⟩⟩ t) (pre.length + 1))] (by kernel_rfl)
        rw [e1, e2] at E2
        rw [e1] at hR
        exact ⟨by kernel_rfl, ih (pre ++ [c]) _ _ _ _ _ _ _ (.inr ⟨_, _, rfl⟩) E2 hR⟩
      · (refine segF (t0 := t') (i := 0) 100000 [1, 1, 1, 1, 0, 0, 1, 1, 1, 1, 1, 1] ((Fin.again (forOf (stmtAt w 109 1) (.ref it) (envOf w 109 f q_ln))) ) E1 (by assumption) (by assumption) ?_; intro o201; refine ⟨by kernel_rfl, by kernel_rfl, by kernel_rfl, fun h201 D201 => ?_⟩)
        obtain ⟨B3, E2⟩ := D201.pickE [0, 1] [(f, fobj [ent w n_word k1 (.str ⟨⟨pre ++ c :: rest⟩⟩ t), ent w n_number k2 (.int (16 * v + (Int.ofNat c) - 65) (t' + 6)), ent w n_sign k (.str ⟨⟨[c]⟩⟩ t1)] ep), (it, iterO "str_ascii_iterator" (.str ⟨⟨pre ++ c :: rest⟩⟩ t) (pre.length + 1))] (by kernel_rfl)
        rw [e1, e2] at E2
        rw [e1] at hR
        exact ⟨by kernel_rfl, ih (pre ++ [c]) _ _ _ _ _ _ _ (.inr ⟨_, _, rfl⟩) E2 hR⟩
    · rcases hdl with rfl | ⟨k, v0, rfl⟩
      · (refine segF (t0 := t') (i := 0) 100000 [1, 1, 1, 1, 0, 0, 1, 1, 1, 1, 1, 1] ((Fin.again (forOf (stmtAt w 109 1) (.ref it) (envOf w 109 f q_ln))) ) E1 (by assumption) (by assumption) ?_; intro o301; refine ⟨by kernel_rfl, by kernel_rfl, by kernel_rfl, fun h301 D301 => ?_⟩)
        obtain ⟨B3, E2⟩ := D301.pickE [0, 1] [(f, fobj [ent w n_word k1 (.str ⟨⟨pre ++ c :: rest⟩⟩ t), ent w n_number k2 (.int (16 * v + (Int.ofNat c) - 65) (t' + 6)), ent w n_sign t' (.str ⟨⟨[c]⟩⟩ t1)] (ep + 1)), (it, iterO "str_ascii_iterator" (.str ⟨⟨pre ++ c :: rest⟩⟩ t) (pre.length + 1))] (by kernel_rfl)
        rw [e1, e2] at E2
        rw [e1] at hR
        exact ⟨by kernel_rfl, ih (pre ++ [c]) _ _ _ _ _ _ _ (.inr ⟨_, _, rfl⟩) E2 hR⟩
      · (refine segF (t0 := t') (i := 0) 100000 [1, 1, 1, 1, 0, 0, 1, 1, 1, 1, 1, 1] ((Fin.again (forOf (stmtAt w 109 1) (.ref it) (envOf w 109 f q_ln))) ) E1 (by assumption) (by assumption) ?_; intro o401; refine ⟨by kernel_rfl, by kernel_rfl, by kernel_rfl, fun h401 D401 => ?_⟩)
        obtain ⟨B3, E2⟩ := D401.pickE [0, 1] [(f, fobj [ent w n_word k1 (.str ⟨⟨pre ++ c :: rest⟩⟩ t), ent w n_number k2 (.int (16 * v + (Int.ofNat c) - 65) (t' + 6)), ent w n_sign k (.str ⟨⟨[c]⟩⟩ t1)] ep), (it, iterO "str_ascii_iterator" (.str ⟨⟨pre ++ c :: rest⟩⟩ t) (pre.length + 1))] (by kernel_rfl)
        rw [e1, e2] at E2
        rw [e1] at hR
        exact ⟨by kernel_rfl, ih (pre ++ [c]) _ _ _ _ _ _ _ (.inr ⟨_, _, rfl⟩) E2 hR⟩
theorem law_number (w : World) (A : Around) (h₀ : Heap) (hA : Fit 20 A (kt1 w) h₀) (R : Result → Shared → Prop) (B t0 : Nat) (g : Array GenState) (d : Drawn) (os : OsState) (x : List Nat) (tn : Nat) {mods : List Nat} (hx : ∀ c ∈ x, c < 128)
   (D : Rep (kt1 w) h₀ mods h₀ B [] [] 0)
   (hR : ∀ h1 t t', After h₀ h1 mods [] → R (.ok (.ret (.int (numZ 0 x) t))) ⟨h1, g, d, t', os⟩) :
   codeAny (PP w) A (.call (.ref 109) ⟨[.str ⟨⟨x⟩⟩ tn], []⟩) R ⟨h₀, g, d, t0, os⟩ := by
  obtain ⟨b1, b2, hw⟩ := parF_ex w
  refine code_ent (D.kt_ (a := 109) (o := obAt w 109) (by kernel_rfl)) (fd := fdAt w 109) (by kernel_rfl) (by have := hA.room; omega) ?_
  change Means _ _ _ _ _ _ ⟨h₀, g, d, t0 + 0, os⟩
  cases b1 <;> (
  (refine segW (t0 := t0) (i := 0) 100000 [0, 1, 1, 1, 1, 1] (Code.call (Value.builtin "str.__iter__") { pos := [Value.str { cps := { toList := x : Array Nat } : Str } tn] : Args }) D (by assumption) (by assumption) ?_; intro o1011; refine ⟨by kernel_rfl, by kernel_rfl, by kernel_rfl, by kernel_rfl, by kernel_rfl, fun h1011 D1011 => ?_⟩)
  refine callW_of rfl ?_
  rw [mark_none]
  refine r_siter (Fit.inner hA D1011 _ (by kernel_rfl) (by kernel_rfl)) x tn hx (D1011.give [] (by kernel_rfl)) fun g1 it t' a1 => ?_
  obtain ⟨B2, E1⟩ := D1011.backP [] [1, 0] [(B, fobj [ent w n_word t0 (.str ⟨⟨x⟩⟩ tn), ent w n_number (t0 + 2) (.int 0 (t0 + 1))] 2), (it, iterO "str_ascii_iterator" (.str ⟨⟨x⟩⟩ tn) 0)] (by kernel_rfl) a1 (by kernel_rfl)
  change Means _ _ _ _ (outκ o1011) (outK o1011 _) ⟨g1, g, d, t' + 0, os⟩
  (refine segL (t0 := t') (i := 0) 100000 [2] ((forOf (stmtAt w 109 1) (.ref it) (envOf w 109 B q_ln)) ) E1 (by assumption) (by assumption) ?_; intro o1012; refine ⟨by kernel_rfl, by kernel_rfl, by kernel_rfl, by kernel_rfl, fun h1012 D1012 => ?_⟩)
  obtain ⟨B3, E2⟩ := D1012.pickE [0, 1] [(B, fobj (ent w n_word t0 (.str ⟨⟨[] ++ x⟩⟩ tn) :: ent w n_number (t0 + 2) (.int 0 (t0 + 1)) :: []) 2), (it, iterO "str_ascii_iterator" (.str ⟨⟨[] ++ x⟩⟩ tn) ([] : List Nat).length)] (by kernel_rfl)
  refine ln_loop w _ h₀ mods (hA.ar _ (by kernel_rfl) (by kernel_rfl)) _ g d os it B tn t0 (t0 + 2) x [] 0 _ _ _ _ _ _ (.inl rfl) E2 fun h3 B4 t4 ep4 tv4 dl4 E3 => ?_
  change Means _ _ _ _ (outκ o1012) (outK o1012 _) ⟨h3, g, d, t4 + 0, os⟩
  (refine segF (t0 := t4) (i := 0) 100000 [1] ((Fin.done (Flow.ret (.int (numZ 0 x) tv4))) ) E3 (by assumption) (by assumption) ?_; intro o1013; refine ⟨by kernel_rfl, by kernel_rfl, by kernel_rfl, fun h1013 D1013 => ?_⟩)
  exact hR _ _ _ (D1013.fin [] (by kernel_rfl)))
end Mine
end
section
open PySem PySem.W PySem.Calls PyProof.Rows
set_option Elab.async false
set_option maxRecDepth 100000
namespace Mine
open PySem.Sre PySem.Builtin.Re
structure Pat (kt : Nat → Option Obj) (pa : Nat) (cd : Array Nat) : Prop where
  ex : ∃ po fs ca co items n, kt pa = some po ∧ po.data = .fields fs ∧ fs.getD 5 .none = .ref ca ∧ kt ca = some co ∧ co.data = .seq items n ∧ (items.map reRawOf).map Int.toNat = cd ∧ reRawNat (fs.getD 6 .none) = 0 ∧ reRawNat (fs.getD 2 .none) = 0
theorem wp_target {kt : Nat → Option Obj} {h₀ h : Heap} {mods : List Nat} {B : Nat} {L X : Led} {r : Nat} {MM : Model} {A : Around} {Q : ReTarget → Shared → Prop} {E : Value → Shared → Prop} {g : Array GenState} {d : Drawn} {os : OsState} {t0 : Nat}
   {pa : Nat} {cd : Array Nat} (pat : Pat kt pa cd) (x : List Nat) (t : Nat) (D : Rep kt h₀ mods h B L X r)
   (hq : Q { pattern := .ref pa, string := .str ⟨⟨x⟩⟩ t, code := cd, text := ⟨x⟩, kind := 0, groups := 0, pos := 0, lim := x.length } ⟨h, g, d, t0, os⟩) :
   wpAny MM A (reWholeTarget (.ref pa) (.str ⟨⟨x⟩⟩ t)) Q E ⟨h, g, d, t0, os⟩ := by
  obtain ⟨po, fs, ca, co, items, n, h1, h2, h3, h4, h5, h6, h7, h8⟩ := pat.ex
  unfold reWholeTarget
  refine wpAny_bind (wpAny_fieldsOf (D.kt_ h1) h2 ?_)
  refine wpAny_bind (wpAny_of_eq (a := ((⟨x⟩ : Array Nat), 0)) rfl ?_)
  simp only [h7, h8, h3]
  show wpAny MM A (reNoCollectionInside (.str ⟨⟨x⟩⟩ t) 0 >>= fun _ => _) _ _ _
  refine wpAny_bind (wpAny_of_eq (a := ()) rfl ?_)
  show wpAny MM A (reRawItems (.ref ca) >>= fun _ => _) _ _ _
  unfold reRawItems
  refine wpAny_bind (wpAny_bind (wpAny_seqItems (D.kt_ h4) h5 (wpAny_pure ?_)))
  refine wpAny_pure ?_
  show Q { pattern := .ref pa, string := .str ⟨⟨x⟩⟩ t, code := (items.map reRawOf).map Int.toNat, text := ⟨x⟩, kind := 0, groups := 0, pos := 0, lim := x.length } _
  rw [h6]
  exact hq
theorem push_obj (l : List Value) (v : Value) (ep : Nat) : Obj.mapSeq (fun a => a.push v) (listO l ep) = listO (l ++ [v]) (ep + 1) := by
  have e1 : (⟨l⟩ : Array Value).push v = ⟨l ++ [v]⟩ := by rw [List.push_toArray]
  show (⟨.type "list", none, .seq ((⟨l⟩ : Array Value).push v) (if ((⟨l⟩ : Array Value).push v).size == (⟨l⟩ : Array Value).size then ep else ep + 1), #[]⟩ : Obj) = _
  rw [e1]
  have e2 : ((⟨l ++ [v]⟩ : Array Value).size == (⟨l⟩ : Array Value).size) = false := by
    show ((l ++ [v]).length == l.length) = false
    rw [List.length_append, List.length_singleton]
    exact beq_eq_false_iff_ne.mpr (Nat.succ_ne_self _)
  rw [e2]
  rfl
theorem wp_push {kt : Nat → Option Obj} {h₀ h : Heap} {mods : List Nat} {B : Nat} {X : Led} {MM : Model} {A : Around} {Q : Unit → Shared → Prop} {E : Value → Shared → Prop} {g : Array GenState} {d : Drawn} {os : OsState} {t0 : Nat}
   (la ep : Nat) (l : List Value) (v : Value) (hsz : l.length ≤ 16777216) (D : Rep kt h₀ mods h B [(la, listO l ep)] X 0)
   (hq : ∀ h' B', Rep kt h₀ mods h' B' [(la, listO (l ++ [v]) (ep + 1))] X 0 → Q () ⟨h', g, d, t0, os⟩) : wpAny MM A (updateSeq la fun a => a.push v) Q E ⟨h, g, d, t0, os⟩ := by
  have hl : h.get? la = some (listO l ep) := D.get (j := 0) rfl
  have D1 := D.update (j := 0) (p := (la, listO l ep)) (f := Obj.mapSeq fun a => a.push v) rfl rfl
  rw [push_obj] at D1
  refine wpAny_updateSeq hl rfl (hq _ _ D1) (by rw [sizeLine_eq]; exact hsz) ?_
  show ((⟨l⟩ : Array Value).push v).size ≤ _
  rw [Array.size_push, sizeLine_eq]
  show l.length + 1 ≤ _
  omega
def cut (x : List Nat) (a b : Nat) : List Nat := ((⟨x⟩ : Array Nat).extract a b).toList
theorem cut_len (x : List Nat) (a b : Nat) : (cut x a b).length ≤ x.length := by
  unfold cut
  rw [Array.length_toList, Array.size_extract]
  show min b x.length - a ≤ x.length
  omega
def subF (x : List Nat) (next : Nat → Option (Nat × Nat)) (rp : List Nat) : Nat → Nat → List Nat
  | 0, _ => []
  | k + 1, s => match next s with
    | some (q, e) => cut x s q ++ rp ++ subF x next rp k e
    | none => cut x s x.length
theorem strCat_app (l m : List Str) : strCat (l ++ m) = strCat l ++ strCat m := by simp [strCat]
theorem cut_nil (x : List Nat) (a b : Nat) (h : ¬ a < b) : cut x a b = [] := by
  have : (cut x a b).length = 0 := by
    unfold cut
    rw [Array.length_toList, Array.size_extract]
    show min b x.length - a = 0
    omega
  exact List.length_eq_zero_iff.mp this
theorem wp_slice {MM : Model} {A : Around} {Q : Value → Shared → Prop} {E : Value → Shared → Prop} {h : Heap} {g : Array GenState} {d : Drawn} {os : OsState} {t0 : Nat} (x : List Nat) (a b : Nat) (hx : x.length ≤ 16777216)
   (hq : Q (.str ⟨⟨cut x a b⟩⟩ t0) ⟨h, g, d, t0 + 1, os⟩) : wpAny MM A (reSlice ⟨x⟩ 0 a b) Q E ⟨h, g, d, t0, os⟩ := by
  show wpAny MM A (mkStr ⟨⟨cut x a b⟩⟩) Q E _
  refine wpAny_mkStr hq ?_
  show (cut x a b).length ≤ _
  have := cut_len x a b
  rw [sizeLine_eq]
  omega
theorem sub_end {w : World} {prog : Program} {A : Around} {kt : Nat → Option Obj} {h₀ h : Heap} {mods : List Nat} {B : Nat} {X : Led} {g : Array GenState} {d : Drawn} {os : OsState} {Q : PySem.Fin → Shared → Prop} {E : Value → Shared → Prop} {t0 : Nat}
   (x : List Nat) (la ep : Nat) (P : List (Str × Tok)) (n : Int) (hx : x.length ≤ 16777216) (hcat : (strCat (P.map (·.1))).length ≤ 16777216) (D : Rep kt h₀ mods h B [(la, listO (strValues P) ep)] X 0)
   (hQ : ∀ t' tt, Q (.done (.ret (.str ⟨⟨strCat (P.map (·.1))⟩⟩ tt))) ⟨h, g, d, t', os⟩) :
   wpAny (model prog w) A (reSlice ⟨x⟩ 0 0 0 >>= fun joiner => seqItems? (.ref la) >>= fun items => (if (items.getD #[]).isEmpty = true then (pure joiner >>= fun text => (if false = true then (holding [text] (mkInt n >>= fun z => newTuple [text, z]) >>= fun v => ret v) else ret text)) else (call (.builtin (if ((0 : Nat) == 0) = true then "str.join" else "bytes.join")) [joiner, .ref la] >>= fun text => (if false = true then (holding [text] (mkInt n >>= fun z => newTuple [text, z]) >>= fun v => ret v) else ret text)))) Q E ⟨h, g, d, t0, os⟩ := by
  refine wpAny_bind (wp_slice x 0 0 hx ?_)
  rw [cut_nil x 0 0 (Nat.lt_irrefl 0)]
  have hl : h.get? la = some (listO (strValues P) ep) := D.get (j := 0) rfl
  refine wpAny_bind (wpAny_seqItems hl rfl ?_)
  cases P with
  | nil =>
    show wpAny _ _ (pure (.str ⟨⟨[]⟩⟩ t0) >>= fun text => ret text) _ _ _
    exact wpAny_bind (wpAny_pure (wpAny_pure (hQ _ _)))
  | cons p P =>
    show wpAny _ _ (call (.builtin "str.join") [.str ⟨⟨[]⟩⟩ t0, .ref la] >>= fun text => ret text) _ _ _
    refine wpAny_bind (wpAny_call ?_)
    exact r_join la t0 ep (p :: P) hcat (D.give [1] rfl) fun t1 t' => wpAny_pure (hQ _ _)
theorem sub_loop {w : World} {prog : Program} {A : Around} {kt : Nat → Option Obj} {h₀ : Heap} {mods : List Nat} (hA : Fit 5 A kt h₀) {R : Result → Shared → Prop} {g : Array GenState} {d : Drawn} {os : OsState} {pa : Nat} {cd : Array Nat} (pat : Pat kt pa cd)
   (x rp : List Nat) (t tr la : Nat) (X : Led) (next : Nat → Option (Nat × Nat)) (hnext : ∀ s, s ≤ x.length → ∃ N, N ≤ 4 * 2 ^ 64 ∧ Found (forSearch cd ⟨x⟩ 0 s x.length false) N (next s))
   (hprog : ∀ s q e, s ≤ x.length → next s = some (q, e) → s ≤ q ∧ q < e ∧ e ≤ x.length) (hx : x.length ≤ 16777216) :
   ∀ (k s : Nat) (P : List (Str × Tok)) (h : Heap) (B t0 ep : Nat) (n : Int), x.length - s < k → s ≤ x.length → P.length + 2 * (x.length - s) + 2 ≤ 16777216 →
   (strCat (P.map (·.1))).length + (subF x next rp k s).length ≤ 16777216 →
   Rep kt h₀ mods h B [(la, listO (strValues P) ep)] X 0 →
   (∀ h' B' t' tt, Rep kt h₀ mods h' B' [] X 0 → R (.ok (.ret (.str ⟨⟨strCat (P.map (·.1)) ++ subF x next rp k s⟩⟩ tt))) ⟨h', g, d, t', os⟩) →
   codeAny (model prog w) A (.builtin "re.Pattern.sub.loop" ⟨[.ref pa, .str ⟨⟨x⟩⟩ t, .str ⟨⟨rp⟩⟩ tr, rawInt 0, rawInt 0, rawInt n, rawInt s, rawInt s, .bool false, .ref la, .bool false], []⟩) R ⟨h, g, d, t0, os⟩ := by
  intro k
  induction k with
  | zero => intro s P h B t0 ep n hk; exact absurd hk (Nat.not_lt_zero _)
  | succ k ih =>
  intro s P h B t0 ep n hk hs hP hcat D hR
  refine codeAny_builtin (b := Builtin.«re.Pattern.sub.loop») (entryFor_of_tree (by kernel_rfl)) ?_
  unfold Builtin.«re.Pattern.sub.loop»
  refine wpAny_bind (wp_target pat x t D ?_)
  show wpAny _ _ (reLiteralCannotBeTurned (.str ⟨⟨rp⟩⟩ tr) >>= fun _ => _) _ _ _
  refine wpAny_bind (wpAny_of_eq (a := ()) rfl ?_)
  obtain ⟨N, hN, hf⟩ := hnext s hs
  have hSP : (strValues P).length = P.length := by simp [strValues]
  show wpAny _ _ (reNextFound _ s false >>= fun _ => _) _ _ _
  cases hn : next s with
  | none =>
    rw [hn] at hf
    obtain ⟨nn, hnn, ho⟩ := hf
    refine wpAny_bind (wp_none nn _ (by omega) ho ?_)
    have eF : subF x next rp (k + 1) s = cut x s x.length := by
      show (match next s with | some (q, e) => _ | none => _) = _
      rw [hn]
    rw [eF] at hR hcat
    by_cases hlt : s < x.length
    · show wpAny _ _ (if s < x.length then (reSlice ⟨x⟩ 0 s x.length >>= fun v => (updateSeq la (fun a => a.push v) >>= fun _ => _)) else _) _ _ _
      rw [if_pos hlt]
      refine wpAny_bind (wp_slice x s x.length hx ?_)
      refine wpAny_bind (wp_push la ep (strValues P) _ (by rw [hSP]; omega) D fun h' B' D' => ?_)
      have e3 : strValues P ++ [.str ⟨⟨cut x s x.length⟩⟩ t0] = strValues (P ++ [(⟨⟨cut x s x.length⟩⟩, t0)]) := by simp [strValues]
      have e4 : strCat ((P ++ [((⟨⟨cut x s x.length⟩⟩ : Str), t0)]).map (·.1)) = strCat (P.map (·.1)) ++ cut x s x.length := by
        rw [List.map_append, strCat_app]
        congr 1
        simp [strCat]
      rw [e3] at D'
      refine sub_end x la (ep + 1) (P ++ [(⟨⟨cut x s x.length⟩⟩, t0)]) n hx (by rw [e4, List.length_append]; exact hcat) D' fun t' tt => ?_
      rw [e4]
      obtain ⟨B2, D2⟩ := D'.pickE [] [] rfl
      exact hR _ _ _ _ D2
    · show wpAny _ _ (if s < x.length then _ else _) _ _ _
      rw [if_neg hlt]
      rw [cut_nil x s x.length hlt, List.append_nil] at hR
      refine sub_end x la ep P n hx (by omega) D fun t' tt => ?_
      obtain ⟨B2, D2⟩ := D.pickE [] [] rfl
      exact hR _ _ _ _ D2
  | some qe =>
    obtain ⟨q, e⟩ := qe
    rw [hn] at hf
    obtain ⟨nn, hnn, ho, hst, hha⟩ := hf
    obtain ⟨p1, p2, p3⟩ := hprog s q e hs hn
    refine wpAny_bind (wp_found nn _ (by omega) ho ?_)
    generalize M.runFor nn _ = m at hst hha
    subst hst hha
    have eF : subF x next rp (k + 1) s = cut x s m.start ++ rp ++ subF x next rp k m.handed := by
      show (match next s with | some (q, e) => _ | none => _) = _
      rw [hn]
    rw [eF] at hR hcat
    have hb : (m.handed == m.start) = false := beq_eq_false_iff_ne.mpr (by omega)
    have item : ∀ (P' : List (Str × Tok)) (h' : Heap) (B' t' ep' : Nat), P'.length ≤ P.length + 1 → strCat (P'.map (·.1)) = strCat (P.map (·.1)) ++ cut x s m.start → Rep kt h₀ mods h' B' [(la, listO (strValues P') ep')] X 0 →
        wpAny (model prog w) (A.under (.builtin "re.Pattern.sub.loop" ⟨[.ref pa, .str ⟨⟨x⟩⟩ t, .str ⟨⟨rp⟩⟩ tr, rawInt 0, rawInt 0, rawInt n, rawInt s, rawInt s, .bool false, .ref la, .bool false], []⟩))
          (updateSeq la (fun a => a.push (.str ⟨⟨rp⟩⟩ tr)) >>= fun _ => again (.builtin "re.Pattern.sub.loop" ⟨[.ref pa, .str ⟨⟨x⟩⟩ t, .str ⟨⟨rp⟩⟩ tr, rawInt 0, rawInt 0, rawInt (n + 1), rawInt m.handed, rawInt m.handed, .bool (m.handed == m.start), .ref la, .bool false], []⟩))
          (fun fin s' => match fin with | .done f => R (.ok f) s' | .again c' => c'.quiet = true ∧ codeAny (model prog w) A c' R s') (fun e s' => R (.error e) s') ⟨h', g, d, t', os⟩ := by
      intro P' h' B' t' ep' hP' hcat' D'
      have hSP' : (strValues P').length = P'.length := by simp [strValues]
      refine wpAny_bind (wp_push la ep' (strValues P') _ (by rw [hSP']; omega) D' fun h2 B2 D2 => ?_)
      have e3 : strValues P' ++ [.str ⟨⟨rp⟩⟩ tr] = strValues (P' ++ [(⟨⟨rp⟩⟩, tr)]) := by simp [strValues]
      have e4 : strCat ((P' ++ [((⟨⟨rp⟩⟩ : Str), tr)]).map (·.1)) = strCat (P.map (·.1)) ++ cut x s m.start ++ rp := by
        rw [List.map_append, strCat_app, hcat']
        congr 1
        simp [strCat]
      rw [e3] at D2
      rw [hb]
      refine wpAny_pure ⟨by kernel_rfl, ?_⟩
      refine ih m.handed (P' ++ [(⟨⟨rp⟩⟩, tr)]) h2 B2 t' (ep' + 1) (n + 1) (by omega) p3 (by rw [List.length_append, List.length_singleton]; omega) ?_ D2 ?_
      · rw [e4]
        simp only [List.length_append] at hcat ⊢
        omega
      · intro h3 B3 t3 tt D3
        have z := hR h3 B3 t3 tt D3
        rw [e4]
        rw [← List.append_assoc, ← List.append_assoc] at z
        exact z
    by_cases hlt : s < m.start
    · show wpAny _ _ (if s < m.start then (reSlice ⟨x⟩ 0 s m.start >>= fun v => (updateSeq la (fun a => a.push v) >>= fun _ => _)) else _) _ _ _
      rw [if_pos hlt]
      refine wpAny_bind (wp_slice x s m.start hx ?_)
      refine wpAny_bind (wp_push la ep (strValues P) _ (by rw [hSP]; omega) D fun h' B' D' => ?_)
      have e3 : strValues P ++ [.str ⟨⟨cut x s m.start⟩⟩ t0] = strValues (P ++ [(⟨⟨cut x s m.start⟩⟩, t0)]) := by simp [strValues]
      rw [e3] at D'
      refine item (P ++ [(⟨⟨cut x s m.start⟩⟩, t0)]) h' B' _ (ep + 1) (by rw [List.length_append, List.length_singleton]; omega) ?_ D'
      rw [List.map_append, strCat_app]
      congr 1
      simp [strCat]
    · show wpAny _ _ (if s < m.start then _ else _) _ _ _
      rw [if_neg hlt]
      refine item P h B t0 ep (by omega) ?_ D
      rw [cut_nil x s m.start hlt, List.append_nil]
end Mine
end
section
open PySem PySem.W PySem.Calls PyProof.Rows
set_option Elab.async false
set_option maxRecDepth 100000
namespace Mine
open PySem.Builtin.Re
def fieldsA (o : Obj) : Array Value := match o.data with
  | .fields fs => fs
  | _ => #[]
def seqA (o : Obj) : Array Value := match o.data with
  | .seq l _ => l
  | _ => #[]
theorem pat41 (w : World) : Pat (kt1 w) 41 cd2 := ⟨obAt w 41, fieldsA (obAt w 41), 40, obAt w 40, seqA (obAt w 40), 0, by kernel_rfl, by kernel_rfl, by kernel_rfl, by kernel_rfl, by kernel_rfl, by kernel_rfl, by kernel_rfl, by kernel_rfl⟩
theorem pat36 (w : World) : Pat (kt1 w) 36 cd1 := ⟨obAt w 36, fieldsA (obAt w 36), 35, obAt w 35, seqA (obAt w 35), 0, by kernel_rfl, by kernel_rfl, by kernel_rfl, by kernel_rfl, by kernel_rfl, by kernel_rfl, by kernel_rfl, by kernel_rfl⟩
def next1 (x : List Nat) (s : Nat) : Option (Nat × Nat) := (nextP (bolDot ⟨x⟩) (x.length - s + 1) s).map fun q => (q, q + 1)
def next2 (x : List Nat) (s : Nat) : Option (Nat × Nat) := (nextP (isNl ⟨x⟩) (x.length + 1 - s) s).map fun q => (q, nlEnd ⟨x⟩ q)
theorem nextP_some {p : Nat → Bool} : ∀ k s q, nextP p k s = some q → s ≤ q ∧ p q = true := by
  intro k
  induction k with
  | zero => intro s q h; cases h
  | succ k ih =>
    intro s q h
    have e5 : nextP p (k + 1) s = if p s = true then some s else nextP p k (s + 1) := rfl
    rw [e5] at h
    by_cases g : p s = true
    · rw [if_pos g] at h; cases h; exact ⟨Nat.le_refl _, g⟩
    · rw [if_neg g] at h
      have := ih _ _ h
      exact ⟨by omega, this.2⟩
theorem prog1 (x : List Nat) (s q e : Nat) (_ : s ≤ x.length) (h : next1 x s = some (q, e)) : s ≤ q ∧ q < e ∧ e ≤ x.length := by
  unfold next1 at h
  obtain ⟨q', hq, e1⟩ := Option.map_eq_some_iff.mp h
  cases e1
  obtain ⟨h1, h2⟩ := nextP_some _ _ _ hq
  unfold bolDot at h2
  have h3 := (Bool.and_eq_true_iff.mp (Bool.and_eq_true_iff.mp h2).1).2
  have h4 : q < x.length := of_decide_eq_true h3
  exact ⟨h1, by omega, h4⟩
theorem prog2 (x : List Nat) (s q e : Nat) (_ : s ≤ x.length) (h : next2 x s = some (q, e)) : s ≤ q ∧ q < e ∧ e ≤ x.length := by
  unfold next2 at h
  obtain ⟨q', hq, e1⟩ := Option.map_eq_some_iff.mp h
  cases e1
  obtain ⟨h1, h2⟩ := nextP_some _ _ _ hq
  unfold isNl at h2
  have h4 : q < x.length := of_decide_eq_true (Bool.and_eq_true_iff.mp h2).1
  unfold nlEnd
  split
  · rename_i g
    have g2 : q + 1 < x.length := of_decide_eq_true (Bool.and_eq_true_iff.mp (Bool.and_eq_true_iff.mp g).1).2
    exact ⟨h1, by omega, by omega⟩
  · exact ⟨h1, by omega, by omega⟩
theorem sub41 (w : World) (A : Around) (h₀ : Heap) (hA : Fit 10 A (kt1 w) h₀) (R : Result → Shared → Prop) (B t0 : Nat) (g : Array GenState) (d : Drawn) (os : OsState) (x : List Nat) (tn t2 : Nat) {mods : List Nat} (hx : 2 * x.length + 10 ≤ 16777216) (hz : (subF x (next2 x) [13, 10] (x.length + 1) 0).length ≤ 16777216)
   (D : Rep (kt1 w) h₀ mods h₀ B [] [] 0)
   (hR : ∀ h1 t t', After h₀ h1 mods [] → R (.ok (.ret (.str ⟨⟨subF x (next2 x) [13, 10] (x.length + 1) 0⟩⟩ t))) ⟨h1, g, d, t', os⟩) :
   codeAny (PP w) A (.call (.builtin "re.Pattern.sub") ⟨[.ref 41, .str ⟨⟨[13, 10]⟩⟩ t2, .str ⟨⟨x⟩⟩ tn], []⟩) R ⟨h₀, g, d, t0, os⟩ := by
  obtain ⟨b1, b2, hw⟩ := parF_ex w
  have hA1 := hA.under (.call (.builtin "re.Pattern.sub") ⟨[.ref 41, .str ⟨⟨[13, 10]⟩⟩ t2, .str ⟨⟨x⟩⟩ tn], []⟩) (m := 0) (by kernel_rfl)
  refine code_start ?_
  change Means _ _ _ _ _ _ ⟨h₀, g, d, t0 + 0, os⟩
  (refine segF (t0 := t0) (i := 0) 100000 [0] ((Fin.again (.builtin "re.Pattern.sub" ⟨[.ref 41, .str ⟨⟨[13, 10]⟩⟩ t2, .str ⟨⟨x⟩⟩ tn], []⟩)) ) D (by assumption) (by assumption) ?_; intro o11; refine ⟨by kernel_rfl, by kernel_rfl, by kernel_rfl, fun h11 D11 => ?_⟩)
  obtain ⟨B1, E1⟩ := D11.pickE [] [] (by kernel_rfl)
  have hA2 := hA.under (.builtin "re.Pattern.sub" ⟨[.ref 41, .str ⟨⟨[13, 10]⟩⟩ t2, .str ⟨⟨x⟩⟩ tn], []⟩) (m := 0) (by kernel_rfl)
  refine ⟨by kernel_rfl, code_start ?_⟩
  clear hA1
  change Means _ _ _ _ _ _ ⟨h11, g, d, (t0 + outI o11) + 0, os⟩
  (refine segF (t0 := t0 + outI o11) (i := 0) 100000 [0, 0] ((Fin.again (.builtin "re.Pattern.sub.loop" ⟨[.ref 41, .str ⟨⟨x⟩⟩ tn, .str ⟨⟨[13, 10]⟩⟩ t2, rawInt 0, rawInt 0, rawInt 0, rawInt (0 : Nat), rawInt (0 : Nat), .bool false, .ref B1, .bool false], []⟩)) ) E1 (by assumption) (by assumption) ?_; intro o12; refine ⟨by kernel_rfl, by kernel_rfl, by kernel_rfl, fun h12 D12 => ?_⟩)
  obtain ⟨B2, E2⟩ := D12.pickE [0] [(B1, listO (strValues []) 0)] (by kernel_rfl)
  refine ⟨by kernel_rfl, sub_loop (hA.less (by kernel_rfl)) (pat41 w) x [13, 10] tn t2 B1 [] (next2 x) (fun s hs => ⟨31, by omega, search2 ⟨x⟩ s hs⟩) (prog2 x) (by omega) (x.length + 1) 0 [] _ _ _ _ _ (by omega) (by omega) (by rw [List.length_nil]; omega) (by rw [List.map_nil]; show 0 + _ ≤ _; omega) E2 fun h3 B3 t3 tt D3 => ?_⟩
  exact hR _ _ _ (D3.finP [] rfl)
theorem sub36 (w : World) (A : Around) (h₀ : Heap) (hA : Fit 10 A (kt1 w) h₀) (R : Result → Shared → Prop) (B t0 : Nat) (g : Array GenState) (d : Drawn) (os : OsState) (x : List Nat) (tn t2 : Nat) {mods : List Nat} (hx : 2 * x.length + 10 ≤ 16777216) (hz : (subF x (next1 x) [46, 46] (x.length + 1) 0).length ≤ 16777216)
   (D : Rep (kt1 w) h₀ mods h₀ B [] [] 0)
   (hR : ∀ h1 t t', After h₀ h1 mods [] → R (.ok (.ret (.str ⟨⟨subF x (next1 x) [46, 46] (x.length + 1) 0⟩⟩ t))) ⟨h1, g, d, t', os⟩) :
   codeAny (PP w) A (.call (.builtin "re.Pattern.sub") ⟨[.ref 36, .str ⟨⟨[46, 46]⟩⟩ t2, .str ⟨⟨x⟩⟩ tn], []⟩) R ⟨h₀, g, d, t0, os⟩ := by
  obtain ⟨b1, b2, hw⟩ := parF_ex w
  have hA1 := hA.under (.call (.builtin "re.Pattern.sub") ⟨[.ref 36, .str ⟨⟨[46, 46]⟩⟩ t2, .str ⟨⟨x⟩⟩ tn], []⟩) (m := 0) (by kernel_rfl)
  refine code_start ?_
  change Means _ _ _ _ _ _ ⟨h₀, g, d, t0 + 0, os⟩
  (refine segF (t0 := t0) (i := 0) 100000 [0] ((Fin.again (.builtin "re.Pattern.sub" ⟨[.ref 36, .str ⟨⟨[46, 46]⟩⟩ t2, .str ⟨⟨x⟩⟩ tn], []⟩)) ) D (by assumption) (by assumption) ?_; intro o21; refine ⟨by kernel_rfl, by kernel_rfl, by kernel_rfl, fun h21 D21 => ?_⟩)
  obtain ⟨B1, E1⟩ := D21.pickE [] [] (by kernel_rfl)
  have hA2 := hA.under (.builtin "re.Pattern.sub" ⟨[.ref 36, .str ⟨⟨[46, 46]⟩⟩ t2, .str ⟨⟨x⟩⟩ tn], []⟩) (m := 0) (by kernel_rfl)
  refine ⟨by kernel_rfl, code_start ?_⟩
  clear hA1
  change Means _ _ _ _ _ _ ⟨h21, g, d, (t0 + outI o21) + 0, os⟩
  (refine segF (t0 := t0 + outI o21) (i := 0) 100000 [0, 0] ((Fin.again (.builtin "re.Pattern.sub.loop" ⟨[.ref 36, .str ⟨⟨x⟩⟩ tn, .str ⟨⟨[46, 46]⟩⟩ t2, rawInt 0, rawInt 0, rawInt 0, rawInt (0 : Nat), rawInt (0 : Nat), .bool false, .ref B1, .bool false], []⟩)) ) E1 (by assumption) (by assumption) ?_; intro o22; refine ⟨by kernel_rfl, by kernel_rfl, by kernel_rfl, fun h22 D22 => ?_⟩)
  obtain ⟨B2, E2⟩ := D22.pickE [0] [(B1, listO (strValues []) 0)] (by kernel_rfl)
  refine ⟨by kernel_rfl, sub_loop (hA.less (by kernel_rfl)) (pat36 w) x [46, 46] tn t2 B1 [] (next1 x) (fun s hs => ⟨3 * (x.length - s) + 6, by omega, search1 ⟨x⟩ s hs⟩) (prog1 x) (by omega) (x.length + 1) 0 [] _ _ _ _ _ (by omega) (by omega) (by rw [List.length_nil]; omega) (by rw [List.map_nil]; show 0 + _ ≤ _; omega) E2 fun h3 B3 t3 tt D3 => ?_⟩
  exact hR _ _ _ (D3.finP [] rfl)
def n_data := [100, 97, 116, 97]
def sub2 (x : List Nat) : List Nat := subF x (next2 x) [13, 10] (x.length + 1) 0
def sub1 (x : List Nat) : List Nat := subF x (next1 x) [46, 46] (x.length + 1) 0
theorem quotedata (w : World) (A : Around) (h₀ : Heap) (hA : Fit 20 A (kt1 w) h₀) (R : Result → Shared → Prop) (B t0 : Nat) (g : Array GenState) (d : Drawn) (os : OsState) (x : List Nat) (tn : Nat) {mods : List Nat} (hx : 2 * x.length + 10 ≤ 16777216) (hy : 2 * (sub2 x).length + 10 ≤ 16777216) (hz : (sub1 (sub2 x)).length ≤ 16777216)
   (D : Rep (kt1 w) h₀ mods h₀ B [] [] 0)
   (hR : ∀ h1 t t', After h₀ h1 mods [] → R (.ok (.ret (.str ⟨⟨sub1 (sub2 x)⟩⟩ t))) ⟨h1, g, d, t', os⟩) :
   codeAny (PP w) A (.call (.ref 48) ⟨[.str ⟨⟨x⟩⟩ tn], []⟩) R ⟨h₀, g, d, t0, os⟩ := by
  obtain ⟨b1, b2, hw⟩ := parF_ex w
  refine code_ent (D.kt_ (a := 48) (o := obAt w 48) (by kernel_rfl)) (fd := fdAt w 48) (by kernel_rfl) (by have := hA.room; omega) ?_
  change Means _ _ _ _ _ _ ⟨h₀, g, d, t0 + 0, os⟩
  (refine segW (t0 := t0) (i := 0) 100000 [0, 1, 1, 0, 0, 0, 0, 0, 0, 0, 0, 0, 0, 0, 1] ((.call (.builtin "re.Pattern.sub") ⟨[.ref 41, .str ⟨⟨[13, 10]⟩⟩ 342, .str ⟨⟨x⟩⟩ tn], []⟩) ) D (by assumption) (by assumption) ?_; intro o31; refine ⟨by kernel_rfl, by kernel_rfl, by kernel_rfl, by kernel_rfl, by kernel_rfl, fun h31 D31 => ?_⟩)
  refine callW_of rfl ?_
  rw [mark_none]
  refine sub41 w _ _ (Fit.inner hA D31 _ (by kernel_rfl) (by kernel_rfl)) _ _ _ g d os x tn _ hx (by show (sub2 x).length ≤ _; omega) (D31.give [] (by kernel_rfl)) fun g1 t1 t' a1 => ?_
  obtain ⟨B2, E1⟩ := D31.backP [] [0] [(B, fobj [ent w n_data t0 (.str ⟨⟨x⟩⟩ tn)] 1)] (by kernel_rfl) a1 (by kernel_rfl)
  change Means _ _ _ _ (outκ o31) (outK o31 (.ok (.ret (.str ⟨⟨sub2 x⟩⟩ t1)))) ⟨g1, g, d, t' + 0, os⟩
  generalize sub2 x = y at hy hz hR
  (refine segW (t0 := t') (i := 0) 100000 [] (Code.call (Value.builtin "re.Pattern.sub") { pos := [Value.ref 36, Value.str { cps := { toList := [46, 46] : Array Nat } : Str } (t0 + 1), Value.str { cps := { toList := y : Array Nat } : Str } t1] : Args }) E1 (by assumption) (by assumption) ?_; intro o32; refine ⟨by kernel_rfl, by kernel_rfl, by kernel_rfl, by kernel_rfl, by kernel_rfl, fun h32 D32 => ?_⟩)
  refine callW_of rfl ?_
  rw [mark_none]
  refine sub36 w _ _ (Fit.inner hA D32 _ (by kernel_rfl) (by kernel_rfl)) _ _ _ g d os y t1 _ hy hz (D32.give [] (by kernel_rfl)) fun g2 t3 t4 a2 => ?_
  obtain ⟨B3, E2⟩ := D32.backP [] [0] [(B, fobj [ent w n_data t0 (.str ⟨⟨x⟩⟩ tn)] 1)] (by kernel_rfl) a2 (by kernel_rfl)
  change Means _ _ _ _ (outκ o32) (outK o32 (.ok (.ret (.str ⟨⟨sub1 y⟩⟩ t3)))) ⟨g2, g, d, t4 + 0, os⟩
  (refine segF (t0 := t4) (i := 0) 100000 [] ((Fin.done (Flow.ret (.str ⟨⟨sub1 y⟩⟩ t3))) ) E2 (by assumption) (by assumption) ?_; intro o33; refine ⟨by kernel_rfl, by kernel_rfl, by kernel_rfl, fun h33 D33 => ?_⟩)
  exact hR _ _ _ (D33.fin [] (by kernel_rfl))
end Mine
end
section
open PySem PySem.W PySem.Calls PyProof.Rows
set_option Elab.async false
set_option maxRecDepth 100000
namespace Mine
theorem wp_snext {w : World} {prog : Program} {A : Around} {kt : Nat → Option Obj} {h₀ h : Heap} {mods : List Nat} {B : Nat} (hA : Fit 0 A kt h) {Q : Option Value → Shared → Prop} {E : Value → Shared → Prop} {g : Array GenState} {d : Drawn} {os : OsState} {t0 : Nat} (S it t i : Nat) (so : Obj) (b : List Nat) (c : Nat) (hx : b[i]? = some c)
   (D : Rep kt h₀ mods h B [(S, so), (it, iterO "str_ascii_iterator" (.str ⟨⟨b⟩⟩ t) i)] [] 0)
   (hq : ∀ h' B' t1 t', Rep kt h₀ mods h' B' [(S, so), (it, iterO "str_ascii_iterator" (.str ⟨⟨b⟩⟩ t) (i + 1))] [] 0 → Q (some (.str ⟨⟨[c]⟩⟩ t1)) ⟨h', g, d, t', os⟩) :
   wpAny (model prog w) A (pyNext (.ref it)) Q E ⟨h, g, d, t0, os⟩ := by
  have hit : h.get? it = some (iterO "str_ascii_iterator" (.str ⟨⟨b⟩⟩ t) i) := D.get (j := 1) rfl
  unfold pyNext
  refine wpAny_bind (wpAny_attempt (wpAny_callSpecial?_slot (name := Str.ofString "__next__") (T := "str_ascii_iterator") ⟨_, hit, rfl⟩ F.slot_str_ascii_iterator_next (wpAny_call ?_)))
  refine r_snext hA it t i b c hx (D.give [0, 1] rfl) fun h1 t1 t' a => ?_
  obtain ⟨B2, E1⟩ := D.backP [0, 1] [1, 0] [(S, so), (it, iterO "str_ascii_iterator" (.str ⟨⟨b⟩⟩ t) (i + 1))] rfl a rfl
  exact wpAny_pure (hq _ _ _ _ E1)
theorem sv_push (P : List (Str × Tok)) (c : Nat) (t : Nat) : strValues P ++ [.str ⟨⟨[c]⟩⟩ t] = strValues (P ++ [(⟨⟨[c]⟩⟩, t)]) := by simp [strValues]
/-- list.extend.loop over the letters of a str -/
theorem ext_loop {w : World} {prog : Program} {A : Around} {kt : Nat → Option Obj} {h₀ : Heap} {mods : List Nat} (hA : Fit 5 A kt h₀) {R : Result → Shared → Prop} {g : Array GenState} {d : Drawn} {os : OsState} (S it t : Nat) :
   ∀ (rest pre : List Nat) (P : List (Str × Tok)) (h : Heap) (B t0 ep : Nat), P.length + rest.length ≤ 16777000 →
   Rep kt h₀ mods h B [(S, listO (strValues P) ep), (it, iterO "str_ascii_iterator" (.str ⟨⟨pre ++ rest⟩⟩ t) pre.length)] [] 0 →
   (∀ h' B' t' ep' Q, Q.map (·.1) = rest.map (fun c => (⟨⟨[c]⟩⟩ : Str)) → Rep kt h₀ mods h' B' [(S, listO (strValues (P ++ Q)) ep')] [] 0 → R (.ok (.ret .none)) ⟨h', g, d, t', os⟩) →
   codeAny (model prog w) A (.builtin "list.extend.loop" ⟨[.ref S, .ref it, .none], []⟩) R ⟨h, g, d, t0, os⟩ := by
  obtain ⟨b1, b2, hw⟩ := parF_ex w
  have hA' := hA.under (.builtin "list.extend.loop" ⟨[.ref S, .ref it, .none], []⟩) (m := 0) (by kernel_rfl)
  intro rest
  induction rest with
  | nil =>
    intro pre P h B t0 ep hsz D hR
    refine code_start ?_
    change Means _ _ _ _ _ _ ⟨h, g, d, t0 + 0, os⟩
    (refine segW (t0 := t0) (i := 0) 100000 [2] (Code.call (Value.builtin "str_ascii_iterator.__next__") { pos := [Value.ref it] : Args }) D (by assumption) (by assumption) ?_; intro o14; refine ⟨by kernel_rfl, by kernel_rfl, by kernel_rfl, by kernel_rfl, by kernel_rfl, fun h14 D14 => ?_⟩)
    refine callW_of rfl ?_
    rw [mark_none]
    refine r_send (Fit.inner hA' D14 _ (by kernel_rfl) (by kernel_rfl)) it t pre.length (pre ++ []) (by simp) (D14.give [0, 1] (by kernel_rfl)) fun g1 t' x y a1 => ?_
    obtain ⟨B2, E1⟩ := D14.backP [0, 1] [0, 1, 2] [(y, tupO []), (x, stopO y), (S, listO (strValues P) ep)] (by kernel_rfl) a1 (by kernel_rfl)
    change Means _ _ _ _ (outκ o14) (outK o14 _) ⟨g1, g, d, t' + 0, os⟩
    (refine segF (t0 := t') (i := 0) 100000 [2] (Fin.done (Flow.ret Value.none)) E1 (by assumption) (by assumption) ?_; intro o15; refine ⟨by kernel_rfl, by kernel_rfl, by kernel_rfl, fun h15 D15 => ?_⟩)
    obtain ⟨B3, E2⟩ := D15.pickE [2] [(S, listO (strValues (P ++ [])) ep)] (by rw [List.append_nil]; kernel_rfl)
    exact hR _ _ _ _ [] rfl E2
  | cons c rest ih =>
    intro pre P h B t0 ep hsz D hR
    rw [List.length_cons] at hsz
    refine codeAny_builtin (b := Builtin.«list.extend.loop») (entryFor_of_tree (by kernel_rfl)) ?_
    unfold Builtin.«list.extend.loop»
    have hx : (pre ++ c :: rest)[pre.length]? = some c := by simp
    have hSP : (strValues P).length = P.length := by simp [strValues]
    refine wpAny_bind (wp_snext (hA'.move D) S it t pre.length _ _ c hx D fun h' B' t1 t' D' => ?_)
    obtain ⟨B3, D3⟩ := D'.partE [0] [1] [(S, listO (strValues P) ep)] [(it, iterO "str_ascii_iterator" (.str ⟨⟨pre ++ c :: rest⟩⟩ t) (pre.length + 1))] rfl rfl
    show wpAny _ _ (updateSeq S (fun a => a.push (.str ⟨⟨[c]⟩⟩ t1)) >>= fun _ => again (.builtin "list.extend.loop" ⟨[.ref S, .ref it, .none], []⟩)) _ _ _
    refine wpAny_bind (wp_push S ep (strValues P) _ (by rw [hSP]; omega) D3 fun h2 B4 D4 => wpAny_pure ⟨by kernel_rfl, ?_⟩)
    have D5 := D4.joinX
    rw [sv_push, show pre ++ c :: rest = (pre ++ [c]) ++ rest by simp, show pre.length + 1 = (pre ++ [c]).length by simp] at D5
    refine ih (pre ++ [c]) (P ++ [(⟨⟨[c]⟩⟩, t1)]) _ _ _ _ (by rw [List.length_append, List.length_singleton]; omega) D5 fun h6 B6 t6 ep6 Q hQ D6 => ?_
    refine hR h6 B6 t6 ep6 ((⟨⟨[c]⟩⟩, t1) :: Q) (by rw [List.map_cons, List.map_cons, hQ]) ?_
    rw [List.append_assoc] at D6
    exact D6
end Mine
end
section
open PySem PySem.W PySem.Calls PyProof.Rows
set_option Elab.async false
set_option maxRecDepth 100000
namespace Mine
theorem r_listnew {w : World} {A : Around} {h₀ : Heap} {R : Result → Shared → Prop} {B t0 : Nat} {g : Array GenState} {d : Drawn} {os : OsState} {mods : List Nat} {prog : Program} {kt : Nat → Option Obj}
   (a : Value) (D : Rep kt h₀ mods h₀ B [] [] 0)
   (hR : ∀ h1 la t', After h₀ h1 mods [(la, listO [] 0)] → R (.ok (.ret (.ref la))) ⟨h1, g, d, t', os⟩) :
   codeAny (model prog w) A (.call (.builtin "list.__new__") ⟨[.type "list", a], []⟩) R ⟨h₀, g, d, t0, os⟩ := by
  have D1 := D.alloc (o := listO [] 0) rfl
  have hB : h₀.objs.size = B := D.size
  refine codeAny_mono (code_list_new (E := fun e s' => R (.error e) s') (Q₁ := fun v s' => R (.ok (.ret v)) s') a ?_) fun r s hr => ?_
  · show R (.ok (.ret (.ref h₀.objs.size))) ⟨h₀.push (listO [] 0), g, d, t0, os⟩
    rw [hB]
    exact hR _ _ _ (D1.fin [1] rfl)
  · cases r with
    | ok f => cases f <;> first | exact hr | exact hr.elim
    | error e => exact hr
theorem r_listinit {w : World} {prog : Program} {kt : Nat → Option Obj} {A : Around} {h₀ : Heap} (hA : Fit 20 A kt h₀) {R : Result → Shared → Prop} {B t0 : Nat} {g : Array GenState} {d : Drawn} {os : OsState} (x : List Nat) (tn : Nat) {mods : List Nat} (hx : ∀ c ∈ x, c < 128) (hsz : x.length ≤ 16777000)
   (S : Nat) (D : Rep kt h₀ mods h₀ B [(S, listO [] 0)] [] 0)
   (hR : ∀ h1 t' ep Q, Q.map (·.1) = x.map (fun c => (⟨⟨[c]⟩⟩ : Str)) → After h₀ h1 mods [(S, listO (strValues Q) ep)] → R (.ok (.ret .none)) ⟨h1, g, d, t', os⟩) :
   codeAny (model prog w) A (.call (.builtin "list.__init__") ⟨[.ref S, .str ⟨⟨x⟩⟩ tn], []⟩) R ⟨h₀, g, d, t0, os⟩ := by
  obtain ⟨b1, b2, hw⟩ := parF_ex w
  refine code_start ?_
  have hA1 := hA.under (.call (.builtin "list.__init__") ⟨[.ref S, .str ⟨⟨x⟩⟩ tn], []⟩) (m := 20) (by kernel_rfl)
  change Means _ _ _ _ _ _ ⟨h₀, g, d, t0 + 0, os⟩
  (refine segF (t0 := t0) (i := 0) 100000 [1] ((Fin.again (.builtin "list.__init__" ⟨[.ref S, .str ⟨⟨x⟩⟩ tn], []⟩)) ) D (by assumption) (by assumption) ?_; intro o11; refine ⟨by kernel_rfl, by kernel_rfl, by kernel_rfl, fun h11 D11 => ?_⟩)
  obtain ⟨B1, E1⟩ := D11.pickE [0] [(S, listO [] 0)] (by kernel_rfl)
  have hA2 := hA.under (.builtin "list.__init__" ⟨[.ref S, .str ⟨⟨x⟩⟩ tn], []⟩) (m := 20) (by kernel_rfl)
  refine ⟨by kernel_rfl, code_start ?_⟩
  clear hA1
  change Means _ _ _ _ _ _ ⟨h11, g, d, (t0 + outI o11) + 0, os⟩
  cases b1 <;> (
  (refine segW (t0 := t0 + outI o11) (i := 0) 100000 [1, 1, 1, 1] (Code.call (Value.builtin "str.__iter__") { pos := [Value.str { cps := { toList := x : Array Nat } : Str } tn] : Args }) D11 (by assumption) (by assumption) ?_; intro o12; refine ⟨by kernel_rfl, by kernel_rfl, by kernel_rfl, by kernel_rfl, by kernel_rfl, fun h12 D12 => ?_⟩)
  refine callW_of rfl ?_
  rw [mark_none]
  refine r_siter (Fit.inner hA2 D12 _ (by kernel_rfl) (by kernel_rfl)) x tn hx (D12.give [] (by kernel_rfl)) fun g1 it t' a1 => ?_
  obtain ⟨B2, E2⟩ := D12.backP [] [1, 0] [(S, listO [] 0), (it, iterO "str_ascii_iterator" (.str ⟨⟨x⟩⟩ tn) 0)] (by kernel_rfl) a1 (by kernel_rfl)
  change Means _ _ _ _ (outκ o12) (outK o12 _) ⟨g1, g, d, t' + 0, os⟩
  (refine segF (t0 := t') (i := 0) 100000 [2] ((Fin.again (.builtin "list.extend.loop" ⟨[.ref S, .ref it, .none], []⟩)) ) E2 (by assumption) (by assumption) ?_; intro o13; refine ⟨by kernel_rfl, by kernel_rfl, by kernel_rfl, fun h13 D13 => ?_⟩)
  obtain ⟨B3, E3⟩ := D13.pickE [0, 1] [(S, listO (strValues []) 0), (it, iterO "str_ascii_iterator" (.str ⟨⟨[] ++ x⟩⟩ tn) ([] : List Nat).length)] (by kernel_rfl)
  refine ⟨by kernel_rfl, ext_loop (hA.less (by kernel_rfl)) S it tn x [] [] _ _ _ _ (by rw [List.length_nil]; omega) E3 fun h4 B4 t4 ep4 Q hQ E4 => ?_⟩
  exact hR _ _ _ Q hQ (E4.finP [0] rfl))
/-- list(x) of an ascii str -/
theorem r_liststr {w : World} {prog : Program} {kt : Nat → Option Obj} {A : Around} {h₀ : Heap} (hA : Fit 30 A kt h₀) {R : Result → Shared → Prop} {B t0 : Nat} {g : Array GenState} {d : Drawn} {os : OsState} (x : List Nat) (tn : Nat) {mods : List Nat} (hx : ∀ c ∈ x, c < 128) (hsz : x.length ≤ 16777000)
   (D : Rep kt h₀ mods h₀ B [] [] 0)
   (hR : ∀ h1 S t' ep Q, Q.map (·.1) = x.map (fun c => (⟨⟨[c]⟩⟩ : Str)) → After h₀ h1 mods [(S, listO (strValues Q) ep)] → R (.ok (.ret (.ref S))) ⟨h1, g, d, t', os⟩) :
   codeAny (model prog w) A (.call (.type "list") ⟨[.str ⟨⟨x⟩⟩ tn], []⟩) R ⟨h₀, g, d, t0, os⟩ := by
  obtain ⟨b1, b2, hw⟩ := parF_ex w
  refine code_go ?_
  change Means _ _ _ _ _ _ ⟨h₀, g, d, t0 + 0, os⟩
  cases b1 <;> (
  (refine segW (t0 := t0) (i := 0) 100000 [] (Code.call (Value.builtin "list.__new__") { pos := [Value.type "list", Value.str { cps := { toList := x : Array Nat } : Str } tn] : Args }) D (by assumption) (by assumption) ?_; intro o31; refine ⟨by kernel_rfl, by kernel_rfl, by kernel_rfl, by kernel_rfl, by kernel_rfl, fun h31 D31 => ?_⟩)
  refine callW_of rfl ?_
  rw [mark_none]
  refine r_listnew _ (D31.give [] (by kernel_rfl)) fun g1 S t' a1 => ?_
  obtain ⟨B2, E2⟩ := D31.backP [] [0] [(S, listO [] 0)] (by kernel_rfl) a1 (by kernel_rfl)
  change Means _ _ _ _ (outκ o31) (outK o31 _) ⟨g1, g, d, t' + 0, os⟩
  (refine segW (t0 := t') (i := 0) 100000 [1, 1] (Code.call (Value.builtin "list.__init__") { pos := [Value.ref S, Value.str { cps := { toList := x : Array Nat } : Str } tn] : Args }) E2 (by assumption) (by assumption) ?_; intro o32; refine ⟨by kernel_rfl, by kernel_rfl, by kernel_rfl, by kernel_rfl, by kernel_rfl, fun h32 D32 => ?_⟩)
  refine callW_of rfl ?_
  rw [mark_none]
  refine r_listinit (Fit.inner hA D32 _ (by kernel_rfl) (by kernel_rfl)) x tn hx hsz S (D32.give [1] (by kernel_rfl)) fun g2 t2 ep Q hQ a2 => ?_
  obtain ⟨B3, E3⟩ := D32.backP [1] [0] [(S, listO (strValues Q) ep)] (by kernel_rfl) a2 (by kernel_rfl)
  change Means _ _ _ _ (outκ o32) (outK o32 _) ⟨g2, g, d, t2 + 0, os⟩
  (refine segF (t0 := t2) (i := 0) 100000 [] ((Fin.done (Flow.ret (.ref S))) ) E3 (by assumption) (by assumption) ?_; intro o33; refine ⟨by kernel_rfl, by kernel_rfl, by kernel_rfl, fun h33 D33 => ?_⟩)
  exact hR _ S _ ep Q hQ (D33.finP [0] (by kernel_rfl)))
end Mine
end
section
open PySem PySem.W PySem.Calls PyProof.Rows
set_option Elab.async false
set_option maxRecDepth 100000
namespace Mine
def partO : Option (Int × Tok) → Value
  | none => .none
  | some (i, t) => .int i t
theorem range_pick {α : Type} : ∀ (y : List α), (List.range y.length).filterMap (fun k => y[k]?) = y := by
  intro y
  induction y with
  | nil => rfl
  | cons a y ih =>
    rw [List.length_cons, List.range_succ_eq_map, List.filterMap_cons]
    show a :: _ = _
    rw [List.filterMap_map]
    congr 1
theorem r_slice {w : World} {prog : Program} {kt : Nat → Option Obj} {A : Around} {h₀ : Heap} {R : Result → Shared → Prop} {B t0 : Nat} {g : Array GenState} {d : Drawn} {os : OsState} {mods : List Nat} (x y : List Nat) (tn a : Nat) (l u st : Option (Int × Tok))
   (h0 : ((st.map (·.1)).getD 1 == 0) = false) (hp : (slicePicked ⟨⟨x⟩⟩ l u st).filterMap (fun k => x[k]?) = y) (hy : y.length ≤ 16777216)
   (hfull : ((st.map (·.1)).getD 1 == 1 && (slicePicked ⟨⟨x⟩⟩ l u st).length == x.length) = true → y = x)
   (D : Rep kt h₀ mods h₀ B [(a, sliceO (partO l) (partO u) (partO st))] [] 0)
   (hR : ∀ t1 t', R (.ok (.ret (.str ⟨⟨y⟩⟩ t1))) ⟨h₀, g, d, t', os⟩) :
   codeAny (model prog w) A (.call (.builtin "str.__getitem__") ⟨[.str ⟨⟨x⟩⟩ tn, .ref a], []⟩) R ⟨h₀, g, d, t0, os⟩ := by
  have hl : h₀.get? a = some (sliceO (partO l) (partO u) (partO st)) := D.get (j := 0) rfl
  have hs : h₀.IsSlice a l u st := ⟨_, hl, rfl, by cases l <;> cases u <;> cases st <;> rfl⟩
  refine code_meets F.slot_str_getitem (typeIs_str _ _ _) F.entry_str_getitem (F.args_str_getitem_2 _ _) (meets_str_getitem_slice ⟨⟨x⟩⟩ tn a l u st h0) ⟨hs, ?_⟩
  unfold sliceMade
  split
  · rename_i h
    have e := hfull h
    subst e
    exact hR _ _
  · have e : (⟨((slicePicked ⟨⟨x⟩⟩ l u st).filterMap ((⟨⟨x⟩⟩ : Str).cps[·]?)).toArray⟩ : Str) = ⟨⟨y⟩⟩ := by
      rw [← hp]
      have e2 : (fun k : Nat => (⟨⟨x⟩⟩ : Str).cps[k]?) = fun k => x[k]? := by funext k; exact List.getElem?_toArray ..
      show (⟨(List.filterMap (fun k : Nat => (⟨⟨x⟩⟩ : Str).cps[k]?) _).toArray⟩ : Str) = _
      rw [e2]
    rw [e]
    exact ⟨by rw [sizeLine_eq]; exact hy, hR _ _⟩
theorem picked_rev (x : List Nat) (t : Nat) : (slicePicked ⟨⟨x⟩⟩ none none (some (-1, t))).filterMap (fun k => x[k]?) = x.reverse := by
  have e : slicePicked ⟨⟨x⟩⟩ none none (some (-1, t)) = (List.range x.length).map fun (k : Nat) => ((x.length : Int) - 1 + -1 * (k : Int)).toNat := by
    show sliceRange ((x.length : Int) - 1) (-1) (-1) = _
    unfold sliceRange
    have e1 : (if (-1 : Int) > 0 then (if (x.length : Int) - 1 < -1 then (-1 - ((x.length : Int) - 1) + -1 - 1) / -1 else 0) else (if (x.length : Int) - 1 > -1 then ((x.length : Int) - 1 - -1 - -1 - 1) / (- -1) else 0)).toNat = x.length := by
      rw [if_neg (by decide)]
      split
      · have : ((x.length : Int) - 1 - -1 - -1 - 1) / (- -1) = x.length := by
          rw [show (- -1 : Int) = 1 by decide, Int.ediv_one]
          omega
        rw [this]
        rfl
      · have : x.length = 0 := by omega
        rw [this]
        rfl
    simp only [] at e1 ⊢
    rw [e1]
  rw [e, List.filterMap_map]
  have hr := range_pick x.reverse
  rw [List.length_reverse] at hr
  rw [← hr]
  have cg : ∀ (l : List Nat) (f g : Nat → Option Nat), (∀ k ∈ l, f k = g k) → l.filterMap f = l.filterMap g := by
    intro l f g
    induction l with
    | nil => intro _; rfl
    | cons a l ih =>
      intro h
      rw [List.filterMap_cons, List.filterMap_cons, h a List.mem_cons_self, ih fun k hk => h k (List.mem_cons_of_mem _ hk)]
  refine cg _ _ _ fun k hk => ?_
  have hk' : k < x.length := List.mem_range.mp hk
  show x[((x.length : Int) - 1 + -1 * (k : Int)).toNat]? = x.reverse[k]?
  rw [List.getElem?_reverse hk']
  congr 1
  omega
end Mine
end
section
open PySem PySem.W PySem.Calls PyProof.Rows
set_option Elab.async false
set_option maxRecDepth 100000
namespace Mine
theorem r_sadd {w : World} {A : Around} {R : Result → Shared → Prop} {s : Shared} {prog : Program} (x y : List Nat) (t u : Nat) (hsz : x.length + y.length ≤ 16777216)
   (hR : ∀ t' k, R (.ok (.ret (.str ⟨⟨x ++ y⟩⟩ t'))) ⟨s.heap, s.gens, s.drawn, k, s.os⟩) : callW (model prog w) A none (.call (.builtin "str.__add__") ⟨[.str ⟨⟨x⟩⟩ t, .str ⟨⟨y⟩⟩ u], []⟩) R s := by
  refine callW_call (Q := fun v s' => R (.ok (.ret v)) s') (E := fun e s' => R (.error e) s') ?_ (fun _ _ h => h) (fun _ _ h => h)
  refine call_meets F.slot_str_add (typeIs_str _ _ _) F.entry_str_add (F.args_str_add_2 _ _) (gives_str_add ⟨⟨x⟩⟩ ⟨⟨y⟩⟩ t u).meets ?_
  have hx : ((⟨⟨x⟩⟩ : Str).length == 0) = (x.length == 0) := rfl
  have hy : ((⟨⟨y⟩⟩ : Str).length == 0) = (y.length == 0) := rfl
  rw [hx, hy]
  cases x with
  | nil => exact hR u s.toks
  | cons c x =>
    cases y with
    | nil =>
      have z := hR t s.toks
      rw [List.append_nil] at z
      exact z
    | cons e y =>
      have e1 : (⟨⟨c :: x⟩⟩ : Str) ++ (⟨⟨e :: y⟩⟩ : Str) = ⟨⟨c :: x ++ e :: y⟩⟩ := by
        show (⟨(⟨c :: x⟩ : Array Nat) ++ ⟨e :: y⟩⟩ : Str) = _
        rw [List.append_toArray]
      refine (show Made.post (.str ((⟨⟨c :: x⟩⟩ : Str) ++ (⟨⟨e :: y⟩⟩ : Str))) _ s from ?_)
      rw [e1]
      refine ⟨?_, hR _ _⟩
      show (c :: x ++ e :: y).length ≤ _
      rw [List.length_append, sizeLine_eq]
      exact hsz
end Mine
end
section
open PySem PySem.W PySem.Calls PyProof.Rows
set_option Elab.async false
set_option maxRecDepth 100000
namespace Mine
theorem cut_cons (x : List Nat) (s q : Nat) (hs : s < x.length) (hq : s < q) : cut x s q = x[s] :: cut x (s + 1) q := by
  unfold cut
  simp only [List.extract_toArray, List.extract_eq_drop_take]
  rw [List.drop_eq_getElem_cons hs]
  have : q - s = (q - (s + 1)) + 1 := by omega
  rw [this, List.take_succ_cons]
/-- a place that begins no match goes through as it is -/
theorem subF_skip (x rp : List Nat) (next : Nat → Option (Nat × Nat)) (k s : Nat) (hs : s < x.length) (hn : next s = next (s + 1)) (hp : ∀ q e, next (s + 1) = some (q, e) → s + 1 ≤ q) :
    subF x next rp (k + 1) s = x[s] :: subF x next rp (k + 1) (s + 1) := by
  show (match next s with | some (q, e) => cut x s q ++ rp ++ subF x next rp k e | none => cut x s x.length) = x[s] :: (match next (s + 1) with | some (q, e) => cut x (s + 1) q ++ rp ++ subF x next rp k e | none => cut x (s + 1) x.length)
  rw [hn]
  cases h : next (s + 1) with
  | none => exact cut_cons x s _ hs hs
  | some qe =>
    obtain ⟨q, e⟩ := qe
    have := hp q e h
    show cut x s q ++ rp ++ _ = x[s] :: (cut x (s + 1) q ++ rp ++ _)
    rw [cut_cons x s q hs (by omega)]
    rfl
theorem nextP_step {p : Nat → Bool} (k s : Nat) : nextP p (k + 1) s = if p s = true then some s else nextP p k (s + 1) := rfl
theorem next2_skip (x : List Nat) (s : Nat) (hs : s < x.length) (h : isNl ⟨x⟩ s = false) : next2 x s = next2 x (s + 1) := by
  unfold next2
  rw [show x.length + 1 - s = (x.length + 1 - (s + 1)) + 1 by omega, nextP_step, if_neg (by rw [h]; exact Bool.false_ne_true)]
theorem next1_skip (x : List Nat) (s : Nat) (hs : s < x.length) (h : bolDot ⟨x⟩ s = false) : next1 x s = next1 x (s + 1) := by
  unfold next1
  rw [show x.length - s + 1 = (x.length - (s + 1) + 1) + 1 by omega, nextP_step, if_neg (by rw [h]; exact Bool.false_ne_true)]
def crlfA : Bool → List Nat → List Nat
  | _, [] => []
  | cr, c :: r => if (cr && c == 10) = true then crlfA false r else if c = 13 then 13 :: 10 :: crlfA true r else if c = 10 then 13 :: 10 :: crlfA false r else c :: crlfA false r
theorem crlfA_head (r : List Nat) (h : ∀ r', r ≠ 10 :: r') : crlfA true r = crlfA false r := by
  cases r with
  | nil => rfl
  | cons c r =>
    have hc : (c == 10) = false := beq_eq_false_iff_ne.mpr fun e => h r (e ▸ rfl)
    show (if (true && c == 10) = true then _ else _) = (if (false && c == 10) = true then _ else _)
    rw [hc]
    rfl
theorem sub2_eq (x : List Nat) : ∀ n k s, x.length - s = n → n < k → s ≤ x.length → subF x (next2 x) [13, 10] k s = crlfA false (x.drop s) := by
  intro n
  induction n using Nat.strongRecOn with
  | ind n ih =>
  intro k s hn hk hs
  obtain ⟨k, rfl⟩ : ∃ k', k = k' + 1 := ⟨k - 1, by omega⟩
  by_cases hl : s < x.length
  · have hd : x.drop s = x[s] :: x.drop (s + 1) := List.drop_eq_getElem_cons hl
    have hg : (⟨x⟩ : Array Nat).getD s 0 = x[s] := by simp [Array.getD, hl]
    rw [hd]
    cases hnl : isNl ⟨x⟩ s with
    | false =>
      rw [subF_skip x [13, 10] (next2 x) k s hl (next2_skip x s hl hnl) fun q e h => (prog2 x (s + 1) q e (by omega) h).1, ih (n - 1) (by omega) (k + 1) (s + 1) (by omega) (by omega) (by omega)]
      unfold isNl at hnl
      rw [decide_eq_true (show s < (⟨x⟩ : Array Nat).size from hl), Bool.true_and, hg] at hnl
      obtain ⟨h1, h2⟩ := Bool.or_eq_false_iff.mp hnl
      have h1' := beq_eq_false_iff_ne.mp h1
      have h2' := beq_eq_false_iff_ne.mp h2
      show _ = (if (false && x[s] == 10) = true then _ else if x[s] = 13 then _ else if x[s] = 10 then _ else _)
      rw [Bool.false_and, if_neg Bool.false_ne_true, if_neg h2', if_neg h1']
    | true =>
      have e1 : next2 x s = some (s, nlEnd ⟨x⟩ s) := by
        unfold next2
        rw [show x.length + 1 - s = (x.length - s) + 1 by omega, nextP_step, if_pos hnl]
        rfl
      have hpr := prog2 x s s _ hs e1
      have e2 : subF x (next2 x) [13, 10] (k + 1) s = 13 :: 10 :: subF x (next2 x) [13, 10] k (nlEnd ⟨x⟩ s) := by
        show (match next2 x s with | some (q, e) => cut x s q ++ [13, 10] ++ subF x (next2 x) [13, 10] k e | none => cut x s x.length) = _
        rw [e1]
        show cut x s s ++ [13, 10] ++ _ = _
        rw [cut_nil x s s (Nat.lt_irrefl s)]
        rfl
      rw [e2, ih (x.length - nlEnd ⟨x⟩ s) (by omega) k _ rfl (by omega) hpr.2.2]
      unfold isNl at hnl
      rw [decide_eq_true (show s < (⟨x⟩ : Array Nat).size from hl), Bool.true_and, hg] at hnl
      show _ = (if (false && x[s] == 10) = true then _ else if x[s] = 13 then _ else if x[s] = 10 then _ else _)
      rw [Bool.false_and, if_neg Bool.false_ne_true]
      by_cases h13 : x[s] = 13
      · rw [if_pos h13]
        unfold nlEnd
        rw [hg, h13]
        by_cases hA : (decide (s + 1 < (⟨x⟩ : Array Nat).size) && (⟨x⟩ : Array Nat).getD (s + 1) 0 == 10) = true
        · obtain ⟨a1, a2⟩ := Bool.and_eq_true_iff.mp hA
          have hl1 : s + 1 < x.length := of_decide_eq_true a1
          have hg1 : (⟨x⟩ : Array Nat).getD (s + 1) 0 = x[s + 1] := by simp [Array.getD, hl1]
          rw [hg1] at a2
          have h10 := beq_iff_eq.mp a2
          rw [if_pos (by rw [a1, hg1, a2]; rfl), List.drop_eq_getElem_cons hl1, h10]
          rfl
        · rw [if_neg (by rw [show ((13 : Nat) == 13) = true from rfl, Bool.true_and]; exact hA), crlfA_head]
          intro r' e
          apply hA
          have hl1 : s + 1 < x.length := by
            have : (x.drop (s + 1)).length = (10 :: r').length := by rw [e]
            rw [List.length_drop, List.length_cons] at this
            omega
          have hg1 : (⟨x⟩ : Array Nat).getD (s + 1) 0 = x[s + 1] := by simp [Array.getD, hl1]
          rw [List.drop_eq_getElem_cons hl1] at e
          rw [decide_eq_true (show s + 1 < (⟨x⟩ : Array Nat).size from hl1), hg1, (List.cons.inj e).1]
          rfl
      · have h10 : x[s] = 10 := by
          rcases Bool.or_eq_true_iff.mp hnl with h | h
          · exact beq_iff_eq.mp h
          · exact absurd (beq_iff_eq.mp h) h13
        rw [if_neg h13, if_pos h10]
        unfold nlEnd
        rw [hg, h10, if_neg (by simp)]
  · have e0 : s = x.length := by omega
    have e1 : next2 x s = none := by
      unfold next2
      rw [nextP_none]
      · rfl
      · intro q hq
        unfold isNl
        rw [decide_eq_false (show ¬ q < (⟨x⟩ : Array Nat).size from by show ¬ q < x.length; omega), Bool.false_and]
    show (match next2 x s with | some (q, e) => cut x s q ++ [13, 10] ++ subF x (next2 x) [13, 10] k e | none => cut x s x.length) = _
    rw [e1]
    show cut x s x.length = _
    rw [cut_nil x s _ hl, e0, List.drop_length]
    rfl
def dotsA : Bool → List Nat → List Nat
  | _, [] => []
  | b, c :: r => if (b && c == 46) = true then 46 :: 46 :: dotsA false r else c :: dotsA (c == 10) r
theorem sub1_eq (x : List Nat) : ∀ n k s, x.length - s = n → n < k → s ≤ x.length → subF x (next1 x) [46, 46] k s = dotsA (s == 0 || (⟨x⟩ : Array Nat).getD (s - 1) 0 == 10) (x.drop s) := by
  intro n
  induction n using Nat.strongRecOn with
  | ind n ih =>
  intro k s hn hk hs
  obtain ⟨k, rfl⟩ : ∃ k', k = k' + 1 := ⟨k - 1, by omega⟩
  by_cases hl : s < x.length
  · have hd : x.drop s = x[s] :: x.drop (s + 1) := List.drop_eq_getElem_cons hl
    have hg : (⟨x⟩ : Array Nat).getD s 0 = x[s] := by simp [Array.getD, hl]
    rw [hd]
    have hs1 : (s + 1 == 0 || (⟨x⟩ : Array Nat).getD (s + 1 - 1) 0 == 10) = (x[s] == 10) := by
      rw [show s + 1 - 1 = s by omega, hg, show (s + 1 == 0) = false from rfl, Bool.false_or]
    cases hnl : bolDot ⟨x⟩ s with
    | false =>
      rw [subF_skip x [46, 46] (next1 x) k s hl (next1_skip x s hl hnl) fun q e h => (prog1 x (s + 1) q e (by omega) h).1, ih (n - 1) (by omega) (k + 1) (s + 1) (by omega) (by omega) (by omega), hs1]
      unfold bolDot at hnl
      rw [decide_eq_true (show s < (⟨x⟩ : Array Nat).size from hl), Bool.and_true, hg] at hnl
      show _ = (if (_ && x[s] == 46) = true then _ else _)
      rw [hnl, if_neg Bool.false_ne_true]
    | true =>
      have e1 : next1 x s = some (s, s + 1) := by
        unfold next1
        rw [nextP_step, if_pos hnl]
        rfl
      have e2 : subF x (next1 x) [46, 46] (k + 1) s = 46 :: 46 :: subF x (next1 x) [46, 46] k (s + 1) := by
        show (match next1 x s with | some (q, e) => cut x s q ++ [46, 46] ++ subF x (next1 x) [46, 46] k e | none => cut x s x.length) = _
        rw [e1]
        show cut x s s ++ [46, 46] ++ _ = _
        rw [cut_nil x s s (Nat.lt_irrefl s)]
        rfl
      rw [e2, ih (x.length - (s + 1)) (by omega) k _ rfl (by omega) (by omega), hs1]
      unfold bolDot at hnl
      rw [decide_eq_true (show s < (⟨x⟩ : Array Nat).size from hl), Bool.and_true, hg] at hnl
      show _ = (if (_ && x[s] == 46) = true then _ else _)
      rw [if_pos hnl, beq_iff_eq.mp (Bool.and_eq_true_iff.mp hnl).2]
      rfl
  · have e0 : s = x.length := by omega
    have e1 : next1 x s = none := by
      unfold next1
      rw [nextP_none]
      · rfl
      · intro q hq
        unfold bolDot
        rw [decide_eq_false (show ¬ q < (⟨x⟩ : Array Nat).size from by show ¬ q < x.length; omega), Bool.and_false, Bool.false_and]
    show (match next1 x s with | some (q, e) => cut x s q ++ [46, 46] ++ subF x (next1 x) [46, 46] k e | none => cut x s x.length) = _
    rw [e1]
    show cut x s x.length = _
    rw [cut_nil x s _ hl, e0, List.drop_length]
    unfold dotsA
    rfl
def sent (x : List Nat) : List Nat := dotsA true (crlfA false x)
theorem sub_both (x : List Nat) : sub1 (sub2 x) = sent x := by
  unfold sub1 sub2 sent
  rw [sub2_eq x x.length _ 0 (by omega) (by omega) (by omega), List.drop_zero, sub1_eq (crlfA false x) (crlfA false x).length _ 0 (by omega) (by omega) (by omega), List.drop_zero]
  rfl
end Mine
end
section
open PySem PySem.W PySem.Calls PyProof.Rows
set_option Elab.async false
set_option maxRecDepth 100000
namespace Mine
theorem pop_obj (l : List Value) (v : Value) (ep : Nat) : Obj.mapSeq (fun xs => xs.eraseIdxIfInBounds ((⟨l ++ [v]⟩ : Array Value).size - 1)) (listO (l ++ [v]) ep) = listO l (ep + 1) := by
  have hz : (⟨l ++ [v]⟩ : Array Value).size - 1 = l.length := by
    show (l ++ [v]).length - 1 = _
    rw [List.length_append, List.length_singleton]
    rfl
  rw [hz]
  have e1 : (⟨l ++ [v]⟩ : Array Value).eraseIdxIfInBounds l.length = ⟨l⟩ := by
    apply Array.toList_inj.mp
    rw [Array.toList_eraseIdxIfInBounds]
    show (l ++ [v]).eraseIdx l.length = l
    rw [List.eraseIdx_append_of_length_le (Nat.le_refl _), Nat.sub_self]
    show l ++ [] = l
    rw [List.append_nil]
  show (⟨.type "list", none, .seq ((⟨l ++ [v]⟩ : Array Value).eraseIdxIfInBounds l.length) (if ((⟨l ++ [v]⟩ : Array Value).eraseIdxIfInBounds l.length).size == (⟨l ++ [v]⟩ : Array Value).size then ep else ep + 1), #[]⟩ : Obj) = _
  rw [e1]
  have e2 : ((⟨l⟩ : Array Value).size == (⟨l ++ [v]⟩ : Array Value).size) = false := by
    show (l.length == (l ++ [v]).length) = false
    rw [List.length_append, List.length_singleton]
    exact beq_eq_false_iff_ne.mpr (by omega)
  rw [e2]
  rfl
theorem r_pop {w : World} {A : Around} {h₀ : Heap} {R : Result → Shared → Prop} {B t0 : Nat} {g : Array GenState} {d : Drawn} {os : OsState} {mods : List Nat} {prog : Program} {kt : Nat → Option Obj}
   (la ep : Nat) (l : List Value) (v : Value) (hsz : l.length + 1 ≤ 16777216) (D : Rep kt h₀ mods h₀ B [(la, listO (l ++ [v]) ep)] [] 0)
   (hR : ∀ h1 t', After h₀ h1 mods [(la, listO l (ep + 1))] → R (.ok (.ret v)) ⟨h1, g, d, t', os⟩) :
   codeAny (model prog w) A (.call (.builtin "list.pop") ⟨[.ref la], []⟩) R ⟨h₀, g, d, t0, os⟩ := by
  have hl : h₀.get? la = some (listO (l ++ [v]) ep) := D.get (j := 0) rfl
  refine code_meets F.slot_list_pop ⟨_, hl, rfl⟩ F.entry_list_pop (F.args_list_pop_1 _) (PySem.MeetsSeq.list_pop_last la ⟨l ++ [v]⟩ ep v (by show (⟨l ++ [v]⟩ : Array Value)[(l ++ [v]).length - 1]? = some v; rw [List.getElem?_toArray]; simp) (by show (l ++ [v]).length ≤ _; rw [List.length_append, sizeLine_eq]; exact hsz)) ⟨hl, ?_⟩
  have D1 := D.update (j := 0) (p := (la, listO (l ++ [v]) ep)) (f := Obj.mapSeq fun xs => xs.eraseIdxIfInBounds ((⟨l ++ [v]⟩ : Array Value).size - 1)) rfl rfl
  refine hR _ _ (D1.fin [1] ?_)
  show [(la, Obj.mapSeq (fun xs => xs.eraseIdxIfInBounds ((⟨l ++ [v]⟩ : Array Value).size - 1)) (listO (l ++ [v]) ep))] = _
  rw [pop_obj]
end Mine
end
section
open PySem PySem.W PySem.Calls PyProof.Rows
set_option Elab.async false
set_option maxRecDepth 100000
namespace Mine
theorem r_len {w : World} {A : Around} {h₀ : Heap} {R : Result → Shared → Prop} {B t0 : Nat} {g : Array GenState} {d : Drawn} {os : OsState} {mods : List Nat} {prog : Program} {kt : Nat → Option Obj}
   (la ep n : Nat) (l : List Value) (hn : l.length = n) (hsz : n ≤ 16777216) (D : Rep kt h₀ mods h₀ B [(la, listO l ep)] [] 0)
   (hR : ∀ t1 t', R (.ok (.ret (.int (.ofNat n) t1))) ⟨h₀, g, d, t', os⟩) :
   codeAny (model prog w) A (.builtin "len" ⟨[.ref la], []⟩) R ⟨h₀, g, d, t0, os⟩ := by
  have hl : h₀.get? la = some (listO l ep) := D.get (j := 0) rfl
  subst hn
  refine codeAny_builtin entry_len ?_
  refine wpAny_mono (wpAny_len_body_list (items := ⟨l⟩) (Q := fun r s' => R (.ok (.ret r)) s') ⟨_, hl, rfl, ep, rfl⟩ (by show (l.length : Int) < 2 ^ 63; omega) (hR _ _)) (fun fin s' h' => ?_) fun _ _ e => e
  obtain ⟨r, rfl, hq⟩ := h'
  exact hq
end Mine
end
section
open PySem PySem.W PySem.Calls PyProof.Rows
set_option Elab.async false
set_option maxRecDepth 100000
namespace Mine
def n_text := [116, 101, 120, 116]
def n_stand := [115, 116, 97, 110, 100]
def n_lineno := [108, 105, 110, 101, 110, 111]
def n_instream := [105, 110, 115, 116, 114, 101, 97, 109]
def n_whitespace := [119, 104, 105, 116, 101, 115, 112, 97, 99, 101]
def n_pushback := [112, 117, 115, 104, 98, 97, 99, 107]
def n_read := [114, 101, 97, 100]
def n_signs := [115, 105, 103, 110, 115]
def cellO (v : Option Value) : Obj := { cls := .type "cell", data := .cell v }
noncomputable def lamE (w : World) : Expr := match stmtAt w 116 2 with
  | .Assign _ e _ => e
  | _ => default
noncomputable def lamArgs (w : World) : Arguments := match lamE w with
  | .Lambda a _ _ _ => a
  | _ => default
noncomputable def lamBody (w : World) : Expr := match lamE w with
  | .Lambda _ b _ _ => b
  | _ => default
noncomputable def lamScope (w : World) : Scope := match lamE w with
  | .Lambda _ _ s _ => s
  | _ => default
def lamQ : Str := ⟨⟨[95, 108, 97, 119, 95, 108, 101, 120, 101, 114, 46, 60, 108, 111, 99, 97, 108, 115, 62, 46, 60, 108, 97, 109, 98, 100, 97, 62]⟩⟩
noncomputable def lamFd (w : World) (ce co tu : Nat) : FuncData := { name := ⟨⟨[60, 108, 97, 109, 98, 100, 97, 62]⟩⟩, qualname := lamQ, params := lamArgs w, body := .expr (lamBody w), scope := lamScope w, globals := 3, closure := [(⟨⟨n_signs⟩⟩, ce)], defaults := .none, kwdefaults := .none, pyModule := .str ⟨⟨[108, 97, 119, 95, 114, 119, 48, 48, 49, 50, 95, 48, 49]⟩⟩ 423, code := .ref co, closureTuple := .ref tu }
noncomputable def lamO (w : World) (ce co tu : Nat) : Obj := { cls := .type "function", data := .func (lamFd w ce co tu) }
def instO (di : Nat) : Obj := { cls := .ref 93, dict := some di }
def tabO (co : Nat) : Obj := { cls := .none, data := .fields ⟨[.int 72 0, .int 17 0, .ref co]⟩ }
end Mine
namespace Mine
/-- the lambda's code object; its tokens and the addresses of its parts are told -/
def lamCodeO (t a5 a6 a7 a8 a9 : Nat) : Obj := { cls := .type "code", data := .fields ⟨[.str ⟨⟨[60, 108, 97, 109, 98, 100, 97, 62]⟩⟩ t, .str lamQ (t + 1), .str ⟨⟨[47, 99, 108, 97, 105, 109, 47, 99, 117, 116, 46, 112, 121]⟩⟩ (t + 2), .int 72 0, .int 1 0, .int 0 0, .int 0 0, .int 19 0, .ref a5, .bool true, .int 276 0, .ref a6, .none, .ref a7, .ref a8, .ref a9, .int (.ofNat (t + 5)) 0, .int 72 0, .str ⟨⟨[47, 99, 108, 97, 105, 109, 47, 99, 117, 116, 46, 112, 121]⟩⟩ (t + 6)]⟩ }
end Mine
namespace Mine
def wsS : Str := ⟨⟨[10, 9, 13, 32]⟩⟩
/-- the stand's dict -/
noncomputable def standD (w : World) (k : Nat → Nat) (pb lam : Nat) : Obj := { cls := .type "dict", data := .dict ⟨[ent w n_lineno (k 0) (.int 1 (k 1)), ent w n_instream (k 2) .none, ent w n_whitespace (k 3) (.str wsS (k 4)), ent w n_pushback (k 5) (.ref pb), ent w n_read (k 6) (.ref lam)]⟩ 5 }
/-- the lexer's dict, lineno told -/
noncomputable def lexD (w : World) (k : Nat → Nat) (line : Int) (st pb : Nat) : Obj := { cls := .type "dict", data := .dict ⟨[ent w n_lineno (k 0) (.int line (k 1)), ent w n_instream (k 2) (.ref st), ent w n_whitespace (k 3) (.str wsS (k 4)), ent w n_pushback (k 5) (.ref pb)]⟩ 4 }
end Mine
end
section
open PySem PySem.W PySem.Calls PyProof.Rows
set_option Elab.async false
set_option maxRecDepth 100000
namespace Mine
theorem lexer_first (w : World) (A : Around) (h₀ : Heap) (hA : Fit 50 A (kt1 w) h₀) (R : Result → Shared → Prop) (B t0 : Nat) (g : Array GenState) (d : Drawn) (os : OsState) (x : List Nat) (tn : Nat) {mods : List Nat} (hx : ∀ c ∈ x, c < 128) (hsz : x.length ≤ 16777000)
   (D : Rep (kt1 w) h₀ mods h₀ B [(111, obAt w 111)] [] 0)
   (hR : ∀ h1 t' S st sd lam lx ld pb pb2 ce co tu c5 c6 c7 c8 c9 tc ep Q k1 k2, Q.map (·.1) = x.reverse.map (fun c => (⟨⟨[c]⟩⟩ : Str)) →
     After h₀ h1 mods [(111, tabO co), (co, lamCodeO tc c5 c6 c7 c8 c9), (S, listO (strValues Q) ep), (ce, cellO (some (.ref S))), (sd, standD w k1 pb2 lam), (st, instO sd), (lam, lamO w ce co tu), (ld, lexD w k2 1 st pb), (lx, instO ld), (pb, listO [] 0)] → R (.ok (.ret (.ref lx))) ⟨h1, g, d, t', os⟩) :
   codeAny (PP w) A (.call (.ref 116) ⟨[.str ⟨⟨x⟩⟩ tn], []⟩) R ⟨h₀, g, d, t0, os⟩ := by
  obtain ⟨b1, b2, hw⟩ := parF_ex w
  refine code_ent (D.kt_ (a := 116) (o := obAt w 116) (by kernel_rfl)) (fd := fdAt w 116) (by kernel_rfl) (by have := hA.room; omega) ?_
  change Means _ _ _ _ _ _ ⟨h₀, g, d, t0 + 0, os⟩
  cases b1 <;> (
    (refine segW (t0 := t0) (i := 0) 100000 [0, 2, 2, 0, 0, 2, 1] (Code.call (Value.builtin "str.__getitem__") { pos := [Value.str { cps := { toList := x : Array Nat } : Str } tn, Value.ref (B + 2)] : Args }) D (by assumption) (by assumption) ?_; intro o11; refine ⟨by kernel_rfl, by kernel_rfl, by kernel_rfl, by kernel_rfl, by kernel_rfl, fun h11 D11 => ?_⟩)
    refine callW_of rfl ?_
    rw [mark_none]
    refine r_slice x x.reverse tn (B + 2) none none (some (-1, t0 + 2)) rfl (picked_rev x _) (by rw [List.length_reverse]; omega) (fun h => absurd h (by simp)) (D11.give [0, 0, 0, 1] (by kernel_rfl)) fun t1 t' => ?_
    obtain ⟨B2, E2⟩ := D11.pickE [0, 1, 2] [(111, obAt w 111), (B, fobj [ent w n_text t0 (.str ⟨⟨x⟩⟩ tn)] 1), (B + 1, cellO none)] (by kernel_rfl)
    change Means _ _ _ _ (outκ o11) (outK o11 _) ⟨h11, g, d, t' + 0, os⟩
    (refine segW (t0 := t') (i := 0) 100000 [] (Code.call (Value.type "list") { pos := [Value.str { cps := { toList := List.reverse x : Array Nat } : Str } t1] : Args }) E2 (by assumption) (by assumption) ?_; intro o12; refine ⟨by kernel_rfl, by kernel_rfl, by kernel_rfl, by kernel_rfl, by kernel_rfl, fun h12 D12 => ?_⟩)
    refine callW_of rfl ?_
    rw [mark_none]
    refine r_liststr (Fit.inner hA D12 _ (by kernel_rfl) (by kernel_rfl)) x.reverse t1 (fun c hc => hx c (List.mem_reverse.mp hc)) (by rw [List.length_reverse]; exact hsz) (D12.give [] (by kernel_rfl)) fun g2 S t2 ep Q hQ a2 => ?_
    obtain ⟨B3, E3⟩ := D12.backP [] [0, 1, 2, 3] [(S, listO (strValues Q) ep), (111, obAt w 111), (B, fobj [ent w n_text t0 (.str ⟨⟨x⟩⟩ tn)] 1), (B + 1, cellO none)] (by kernel_rfl) a2 (by kernel_rfl)
    change Means _ _ _ _ (outκ o12) (outK o12 _) ⟨g2, g, d, t2 + 0, os⟩
    (refine segF (t0 := t2) (i := 0) 100000 [4, 4, 0, 0, 0, 1, 0, 0, 0, 0, 0, 0, 1, 0, 0, 0, 0, 0, 0, 0, 0, 0, 0, 0, 0, 0, 0, 0, 0, 0, 0, 0, 0, 6, 0, 6, 0, 0, 0, 0, 2, 0, 0, 7, 7, 7, 7, 7, 6, 0, 0, 0, 1, 6, 0, 6, 0, 6, 0, 0, 0, 6, 0, 5, 5, 5, 7, 7, 6, 0, 0, 0, 1, 6, 0, 6, 0, 6, 0, 0, 0, 6, 0, 5, 5, 5, 7, 6, 0, 0, 0, 1, 6, 0, 6, 0, 6, 0, 0, 0, 6, 0, 5, 5, 5, 7, 6, 0, 0, 0, 1, 6, 0, 6, 0, 6, 0, 0, 0, 6, 0, 5, 5, 5, 3, 3, 0, 2, 2, 2, 2, 0, 0, 0, 3, 6, 0, 0, 0, 1, 6, 0, 6, 0, 6, 0, 0, 0, 6, 0, 5, 5, 5, 0, 3, 0, 0, 1, 0, 0, 0, 0, 0, 0, 1, 0, 0, 0, 0, 0, 0, 0, 0, 0, 0, 0, 0, 0, 0, 0, 0, 0, 0, 0, 0, 18, 0, 18, 0, 0, 0, 0, 2, 0, 0, 19, 19, 19, 19, 19, 18, 0, 0, 0, 1, 18, 0, 18, 0, 18, 0, 0, 0, 18, 0, 17, 17, 17, 19, 19, 18, 0, 0, 0, 1, 18, 0, 18, 0, 18, 0, 0, 0, 18, 0, 17, 17, 17, 19, 18, 0, 0, 0, 1, 18, 0, 18, 0, 18, 0, 0, 0, 18, 0, 17, 17, 17, 19, 18, 0, 0, 0, 1, 18, 0, 18, 0, 18, 0, 0, 0, 18, 0, 17, 17, 17] (Fin.done (Flow.ret (Value.ref (B3 + 13)))) E3 (by assumption) (by assumption) ?_; intro o13; refine ⟨by kernel_rfl, by kernel_rfl, by kernel_rfl, fun h13 D13 => ?_⟩)
    exact hR _ _ S (B3 + 1) B3 (B3 + 11) (B3 + 13) (B3 + 12) (B3 + 15) (B3 + 3) (B + 1) (B3 + 10) (B3 + 4) (B3 + 5) (B3 + 6) (B3 + 7) (B3 + 8) (B3 + 9) (t2 + 13) ep Q (fun n => match n with | 0 => t2 + 4 | 1 => t2 + 2 | 2 => t2 + 6 | 3 => t2 + 9 | 4 => t2 + 7 | 5 => t2 + 11 | _ => t2 + 21) (fun n => match n with | 0 => t2 + 26 | 1 => t2 + 24 | 2 => t2 + 28 | 3 => t2 + 31 | 4 => t2 + 29 | _ => t2 + 33) hQ (D13.finP [1, 14, 0, 3, 4, 5, 15, 16, 17, 19] (by kernel_rfl)))
end Mine
end
section
open PySem PySem.W PySem.Calls PyProof.Rows
set_option Elab.async false
set_option maxRecDepth 100000
namespace Mine
theorem lexer_again (w : World) (A : Around) (h₀ : Heap) (hA : Fit 50 A (kt1 w) h₀) (R : Result → Shared → Prop) (B t0 : Nat) (g : Array GenState) (d : Drawn) (os : OsState) (x : List Nat) (tn co tc c5 c6 c7 c8 c9 : Nat) {mods : List Nat} (hx : ∀ c ∈ x, c < 128) (hsz : x.length ≤ 16777000)
   (D : Rep (kt1 w) h₀ mods h₀ B [(111, tabO co), (co, lamCodeO tc c5 c6 c7 c8 c9)] [] 0)
   (hR : ∀ h1 t' S st sd lam lx ld pb pb2 ce tu ep Q k1 k2, Q.map (·.1) = x.reverse.map (fun c => (⟨⟨[c]⟩⟩ : Str)) →
     After h₀ h1 mods [(111, tabO co), (co, lamCodeO tc c5 c6 c7 c8 c9), (S, listO (strValues Q) ep), (ce, cellO (some (.ref S))), (sd, standD w k1 pb2 lam), (st, instO sd), (lam, lamO w ce co tu), (ld, lexD w k2 1 st pb), (lx, instO ld), (pb, listO [] 0)] → R (.ok (.ret (.ref lx))) ⟨h1, g, d, t', os⟩) :
   codeAny (PP w) A (.call (.ref 116) ⟨[.str ⟨⟨x⟩⟩ tn], []⟩) R ⟨h₀, g, d, t0, os⟩ := by
  obtain ⟨b1, b2, hw⟩ := parF_ex w
  refine code_ent (D.kt_ (a := 116) (o := obAt w 116) (by kernel_rfl)) (fd := fdAt w 116) (by kernel_rfl) (by have := hA.room; omega) ?_
  change Means _ _ _ _ _ _ ⟨h₀, g, d, t0 + 0, os⟩
  cases b1 <;> (
    (refine segW (t0 := t0) (i := 0) 100000 [0, 3, 3, 0, 0, 3, 1] (Code.call (Value.builtin "str.__getitem__") { pos := [Value.str { cps := { toList := x : Array Nat } : Str } tn, Value.ref (B + 2)] : Args }) D (by assumption) (by assumption) ?_; intro o21; refine ⟨by kernel_rfl, by kernel_rfl, by kernel_rfl, by kernel_rfl, by kernel_rfl, fun h21 D21 => ?_⟩)
    refine callW_of rfl ?_
    rw [mark_none]
    refine r_slice x x.reverse tn (B + 2) none none (some (-1, t0 + 2)) rfl (picked_rev x _) (by rw [List.length_reverse]; omega) (fun h => absurd h (by simp)) (D21.give [0, 0, 0, 0, 1] (by kernel_rfl)) fun t1 t' => ?_
    obtain ⟨B2, E2⟩ := D21.pickE [0, 1, 2, 3] [(111, tabO co), (co, lamCodeO tc c5 c6 c7 c8 c9), (B, fobj [ent w n_text t0 (.str ⟨⟨x⟩⟩ tn)] 1), (B + 1, cellO none)] (by kernel_rfl)
    change Means _ _ _ _ (outκ o21) (outK o21 _) ⟨h21, g, d, t' + 0, os⟩
    (refine segW (t0 := t') (i := 0) 100000 [] (Code.call (Value.type "list") { pos := [Value.str { cps := { toList := List.reverse x : Array Nat } : Str } t1] : Args }) E2 (by assumption) (by assumption) ?_; intro o22; refine ⟨by kernel_rfl, by kernel_rfl, by kernel_rfl, by kernel_rfl, by kernel_rfl, fun h22 D22 => ?_⟩)
    refine callW_of rfl ?_
    rw [mark_none]
    refine r_liststr (Fit.inner hA D22 _ (by kernel_rfl) (by kernel_rfl)) x.reverse t1 (fun c hc => hx c (List.mem_reverse.mp hc)) (by rw [List.length_reverse]; exact hsz) (D22.give [] (by kernel_rfl)) fun g2 S t2 ep Q hQ a2 => ?_
    obtain ⟨B3, E3⟩ := D22.backP [] [0, 1, 2, 3, 4] [(S, listO (strValues Q) ep), (111, tabO co), (co, lamCodeO tc c5 c6 c7 c8 c9), (B, fobj [ent w n_text t0 (.str ⟨⟨x⟩⟩ tn)] 1), (B + 1, cellO none)] (by kernel_rfl) a2 (by kernel_rfl)
    change Means _ _ _ _ (outκ o22) (outK o22 _) ⟨g2, g, d, t2 + 0, os⟩
    (refine segF (t0 := t2) (i := 0) 100000 [5, 5, 0, 0, 0, 1, 0, 0, 0, 0, 0, 0, 1, 0, 0, 0, 0, 0, 0, 0, 0, 0, 0, 0, 0, 0, 0, 0, 0, 0, 0, 0, 0, 7, 0, 7, 0, 0, 0, 0, 2, 0, 0, 8, 8, 8, 8, 8, 7, 0, 0, 0, 1, 7, 0, 7, 0, 7, 0, 0, 0, 7, 0, 6, 6, 6, 8, 8, 7, 0, 0, 0, 1, 7, 0, 7, 0, 7, 0, 0, 0, 7, 0, 6, 6, 6, 8, 7, 0, 0, 0, 1, 7, 0, 7, 0, 7, 0, 0, 0, 7, 0, 6, 6, 6, 8, 7, 0, 0, 0, 1, 7, 0, 7, 0, 7, 0, 0, 0, 7, 0, 6, 6, 6, 4, 4, 0, 2, 0, 0, 0, 4, 7, 0, 0, 0, 1, 7, 0, 7, 0, 7, 0, 0, 0, 7, 0, 6, 6, 6, 0, 4, 0, 0, 1, 0, 0, 0, 0, 0, 0, 1, 0, 0, 0, 0, 0, 0, 0, 0, 0, 0, 0, 0, 0, 0, 0, 0, 0, 0, 0, 0, 13, 0, 13, 0, 0, 0, 0, 2, 0, 0, 14, 14, 14, 14, 14, 13, 0, 0, 0, 1, 13, 0, 13, 0, 13, 0, 0, 0, 13, 0, 12, 12, 12, 14, 14, 13, 0, 0, 0, 1, 13, 0, 13, 0, 13, 0, 0, 0, 13, 0, 12, 12, 12, 14, 13, 0, 0, 0, 1, 13, 0, 13, 0, 13, 0, 0, 0, 13, 0, 12, 12, 12, 14, 13, 0, 0, 0, 1, 13, 0, 13, 0, 13, 0, 0, 0, 13, 0, 12, 12, 12] (Fin.done (Flow.ret (Value.ref (B3 + 7)))) E3 (by assumption) (by assumption) ?_; intro o23; refine ⟨by kernel_rfl, by kernel_rfl, by kernel_rfl, fun h23 D23 => ?_⟩)
    exact hR _ _ S (B3 + 1) B3 (B3 + 5) (B3 + 7) (B3 + 6) (B3 + 9) (B3 + 3) (B + 1) (B3 + 4) ep Q (fun n => match n with | 0 => t2 + 4 | 1 => t2 + 2 | 2 => t2 + 6 | 3 => t2 + 9 | 4 => t2 + 7 | 5 => t2 + 11 | _ => t2 + 14) (fun n => match n with | 0 => t2 + 19 | 1 => t2 + 17 | 2 => t2 + 21 | 3 => t2 + 24 | 4 => t2 + 22 | _ => t2 + 26) hQ (D23.finP [1, 2, 0, 4, 5, 6, 10, 11, 12, 14] (by kernel_rfl)))
end Mine
end
section
open PySem PySem.W PySem.Calls PyProof.Rows
set_option Elab.async false
set_option maxRecDepth 100000
namespace Mine
theorem sv_len (Q : List (Str × Tok)) : (strValues Q).length = Q.length := by simp [strValues]
/-- the lambda on a list that holds something -/
theorem lam_pop (w : World) (A : Around) (h₀ : Heap) (hA : Fit 20 A (kt1 w) h₀) (R : Result → Shared → Prop) (B t0 : Nat) (g : Array GenState) (d : Drawn) (os : OsState) (S ce lam co tu tc c5 c6 c7 c8 c9 ep tz : Nat) (q : List Value) (c tq : Nat) {mods : List Nat} (hsz : q.length ≤ 16777000)
   (D : Rep (kt1 w) h₀ mods h₀ B [(co, lamCodeO tc c5 c6 c7 c8 c9), (ce, cellO (some (.ref S))), (lam, lamO w ce co tu), (S, listO (q ++ [.str ⟨⟨[c]⟩⟩ tq]) ep)] [] 0)
   (hR : ∀ h1 t', After h₀ h1 mods [(co, lamCodeO tc c5 c6 c7 c8 c9), (ce, cellO (some (.ref S))), (lam, lamO w ce co tu), (S, listO q (ep + 1))] → R (.ok (.ret (.str ⟨⟨[c]⟩⟩ tq))) ⟨h1, g, d, t', os⟩) :
   codeAny (PP w) A (.call (.ref lam) ⟨[.int 1 tz], []⟩) R ⟨h₀, g, d, t0, os⟩ := by
  obtain ⟨b1, b2, hw⟩ := parF_ex w
  refine code_ent (D.get (j := 2) rfl) (fd := lamFd w ce co tu) (by kernel_rfl) (by have := hA.room; omega) ?_
  change Means _ _ _ _ _ _ ⟨h₀, g, d, t0 + 0, os⟩
  cases b1 <;> (
    (refine segW (t0 := t0) (i := 0) 100000 [1, 5, 5, 2, 4, 4] ((.builtin "len" ⟨[.ref S], []⟩) ) D (by assumption) (by assumption) ?_; intro o11; refine ⟨by kernel_rfl, by kernel_rfl, by kernel_rfl, by kernel_rfl, by kernel_rfl, fun h11 D11 => ?_⟩)
    refine callW_of rfl ?_
    rw [mark_none]
    refine r_len S ep (q.length + 1) (q ++ [.str ⟨⟨[c]⟩⟩ tq]) (by rw [List.length_append, List.length_singleton]) (by omega) (D11.give [0, 0, 0, 1] (by kernel_rfl)) fun t1 t' => ?_
    obtain ⟨B2, E2⟩ := D11.pickE [0, 1, 2, 3, 4] [(co, lamCodeO tc c5 c6 c7 c8 c9), (ce, cellO (some (.ref S))), (lam, lamO w ce co tu), (S, listO (q ++ [.str ⟨⟨[c]⟩⟩ tq]) ep), (B, fobj [ent w [115, 105, 122, 101] t0 (Value.int 1 tz)] 1)] (by kernel_rfl)
    change Means _ _ _ _ (outκ o11) (outK o11 _) ⟨h11, g, d, t' + 0, os⟩
    (refine segW (t0 := t') (i := 0) 100000 [2, 4, 4, 4, 4] ((.call (.builtin "list.pop") ⟨[.ref S], []⟩) ) E2 (by assumption) (by assumption) ?_; intro o12; refine ⟨by kernel_rfl, by kernel_rfl, by kernel_rfl, by kernel_rfl, by kernel_rfl, fun h12 D12 => ?_⟩)
    refine callW_of rfl ?_
    rw [mark_none]
    refine r_pop S ep (q) (.str ⟨⟨[c]⟩⟩ tq) (by omega) (D12.give [0, 0, 0, 1] (by kernel_rfl)) fun g2 t2 a2 => ?_
    obtain ⟨B3, E3⟩ := D12.backP [0, 0, 0, 1] [1, 2, 3, 0] [(co, lamCodeO tc c5 c6 c7 c8 c9), (ce, cellO (some (.ref S))), (lam, lamO w ce co tu), (S, listO q (ep + 1))] (by kernel_rfl) a2 (by kernel_rfl)
    change Means _ _ _ _ (outκ o12) (outK o12 _) ⟨g2, g, d, t2 + 0, os⟩
    (refine segF (t0 := t2) (i := 0) 100000 [] ((Fin.done (Flow.ret (.str ⟨⟨[c]⟩⟩ tq))) ) E3 (by assumption) (by assumption) ?_; intro o13; refine ⟨by kernel_rfl, by kernel_rfl, by kernel_rfl, fun h13 D13 => ?_⟩)
    exact hR _ _ (D13.finP [0, 1, 2, 3] (by kernel_rfl)))
/-- the lambda at the end of the text -/
theorem lam_end (w : World) (A : Around) (h₀ : Heap) (hA : Fit 20 A (kt1 w) h₀) (R : Result → Shared → Prop) (B t0 : Nat) (g : Array GenState) (d : Drawn) (os : OsState) (S ce lam co tu tc c5 c6 c7 c8 c9 ep tz : Nat) {mods : List Nat}
   (D : Rep (kt1 w) h₀ mods h₀ B [(co, lamCodeO tc c5 c6 c7 c8 c9), (ce, cellO (some (.ref S))), (lam, lamO w ce co tu), (S, listO [] ep)] [] 0)
   (hR : ∀ h1 t1 t', After h₀ h1 mods [(co, lamCodeO tc c5 c6 c7 c8 c9), (ce, cellO (some (.ref S))), (lam, lamO w ce co tu), (S, listO [] ep)] → R (.ok (.ret (.str ⟨⟨[]⟩⟩ t1))) ⟨h1, g, d, t', os⟩) :
   codeAny (PP w) A (.call (.ref lam) ⟨[.int 1 tz], []⟩) R ⟨h₀, g, d, t0, os⟩ := by
  obtain ⟨b1, b2, hw⟩ := parF_ex w
  refine code_ent (D.get (j := 2) rfl) (fd := lamFd w ce co tu) (by kernel_rfl) (by have := hA.room; omega) ?_
  change Means _ _ _ _ _ _ ⟨h₀, g, d, t0 + 0, os⟩
  cases b1 <;> (
    (refine segF (t0 := t0) (i := 0) 100000 [1, 5, 5, 2, 4, 4, 1, 4, 1, 4, 4] (Fin.done (Flow.ret (Value.str { cps := { toList := [] : Array Nat } : Str } (t0 + 3)))) D (by assumption) (by assumption) ?_; intro o21; refine ⟨by kernel_rfl, by kernel_rfl, by kernel_rfl, fun h21 D21 => ?_⟩)
    exact hR _ _ _ (D21.finP [0, 1, 2, 3] (by kernel_rfl)))
end Mine
end
section
open PySem PySem.W PySem.Calls PyProof.Rows
set_option Elab.async false
set_option maxRecDepth 100000
namespace Mine
/-- where a lexer's objects lie -/
structure LX where
  lx : Nat
  ld : Nat
  st : Nat
  sd : Nat
  co : Nat
  ce : Nat
  lam : Nat
  tu : Nat
  tc : Nat
  c5 : Nat
  c6 : Nat
  c7 : Nat
  c8 : Nat
  c9 : Nat
  pb : Nat
  pb2 : Nat
  S : Nat
  k1 : Nat → Nat
/-- a lexer's objects: what changes is k2 (tokens), lineno, the signs left (reversed), what is pushed back -/
noncomputable def LX.led (a : LX) (w : World) (k2 : Nat → Nat) (line : Int) (q : List Value) (ep : Nat) (p : List Value) (pe : Nat) : Led :=
  [(a.lx, instO a.ld), (a.ld, lexD w k2 line a.st a.pb), (a.st, instO a.sd), (a.sd, standD w a.k1 a.pb2 a.lam), (a.co, lamCodeO a.tc a.c5 a.c6 a.c7 a.c8 a.c9), (a.ce, cellO (some (.ref a.S))), (a.lam, lamO w a.ce a.co a.tu), (a.S, listO q ep), (a.pb, listO p pe)]
/-- the signs of a text, with tokens -/
def sgn (Q : List (Nat × Nat)) : List Value := Q.reverse.map fun p => .str ⟨⟨[p.1]⟩⟩ p.2
theorem sgn_cons (c t : Nat) (Q : List (Nat × Nat)) : sgn ((c, t) :: Q) = sgn Q ++ [.str ⟨⟨[c]⟩⟩ t] := by simp [sgn]
theorem sgn_len (Q : List (Nat × Nat)) : (sgn Q).length = Q.length := by simp [sgn]
noncomputable def selfE (w : World) (t lx : Nat) : DictEntry := ent w [115, 101, 108, 102] t (.ref lx)
end Mine
end
section
open PySem PySem.W PySem.Calls PyProof.Rows
set_option Elab.async false
set_option maxRecDepth 100000
namespace Mine
theorem r_seq {w : World} {A : Around} {R : Result → Shared → Prop} {s : Shared} {prog : Program} (x y : List Nat) (t u : Nat) (b : Bool) (hb : (x == y) = b)
   (hR : R (.ok (.ret (.bool b))) s) : codeAny (model prog w) A (.call (.builtin "str.__eq__") ⟨[.str ⟨⟨x⟩⟩ t, .str ⟨⟨y⟩⟩ u], []⟩) R s := by
  refine code_meets F.slot_str_eq (typeIs_str _ _ _) F.entry_str_eq (F.args_str_eq_2 _ _) (gives_str_eq ⟨⟨x⟩⟩ ⟨⟨y⟩⟩ t u).meets ?_
  show R (.ok (.ret (.bool (x == y)))) s
  rw [hb]
  exact hR
theorem r_sin {w : World} {A : Around} {R : Result → Shared → Prop} {s : Shared} {prog : Program} (x y : Str) (t u : Nat) (b : Bool) (hb : (!(Builtin.Str.occurrences x y 0 x.length 1).isEmpty) = b)
   (hR : R (.ok (.ret (.bool b))) s) : codeAny (model prog w) A (.call (.builtin "str.__contains__") ⟨[.str x t, .str y u], []⟩) R s := by
  refine code_meets F.slot_str_contains (typeIs_str _ _ _) F.entry_str_contains (F.args_str_contains_2 _ _) (gives_str_contains x y t u).meets ?_
  show R (.ok (.ret (.bool (!(Builtin.Str.occurrences x y 0 x.length 1).isEmpty)))) s
  rw [hb]
  exact hR
/-- one turn of the search -/
def occStep (x y : Str) (lim hi : Nat) (i : Nat) (r : Array Nat × Nat) : Array Nat × Nat :=
  if (decide (r.1.size < lim) && decide (r.2 ≤ i) && decide (i + y.length ≤ hi) && Builtin.Str.subAt x y i) = true then (r.1.push i, i + y.length) else (r.1, r.2)
theorem occ_fold (x y : Str) (lo hi lim : Nat) : Builtin.Str.occurrences x y lo hi lim = ((List.range' lo (hi + 1 - lo)).foldl (fun r i => occStep x y lim hi i r) (#[], lo)).1.toList := by
  unfold Builtin.Str.occurrences
  simp only [Id.run, Std.Legacy.Range.forIn_eq_forIn_range', Std.Legacy.Range.size, Nat.add_sub_cancel, Nat.div_one, bind, pure]
  have key : ∀ (l : List Nat) (r : Array Nat × Nat), (forIn (m := Id) l r fun i r => if (decide (r.1.size < lim) && decide (r.2 ≤ i) && decide (i + y.length ≤ hi) && Builtin.Str.subAt x y i) = true then ForInStep.yield (r.1.push i, i + y.length) else ForInStep.yield (r.1, r.2)) = l.foldl (fun r i => occStep x y lim hi i r) r := by
    intro l
    induction l with
    | nil => intro r; rfl
    | cons i l ih =>
      intro r
      rw [List.foldl_cons, ← ih]
      rw [List.forIn_cons]
      unfold occStep
      split <;> rfl
  exact congrArg (fun r : Array Nat × Nat => Array.toList r.1) (key _ _)
theorem sub_one (x : List Nat) (c i : Nat) : Builtin.Str.subAt ⟨⟨x⟩⟩ ⟨⟨[c]⟩⟩ i = (x[i]? == some c) := by
  unfold Builtin.Str.subAt
  show ((⟨x⟩ : Array Nat).extract i (i + 1) == ⟨[c]⟩) = _
  rw [List.extract_toArray, List.extract_eq_drop_take, Nat.add_sub_cancel_left]
  rw [List.take_one, List.head?_drop]
  cases x[i]? with
  | none => rfl
  | some a =>
    show ((⟨[a]⟩ : Array Nat) == ⟨[c]⟩) = (some a == some c)
    by_cases h : a = c
    · subst h; simp
    · simp [h]
/-- a sign that is not there is not found -/
theorem occ_none (x : List Nat) (c lim : Nat) (h : c ∉ x) : Builtin.Str.occurrences ⟨⟨x⟩⟩ ⟨⟨[c]⟩⟩ 0 x.length lim = [] := by
  rw [occ_fold]
  have key : ∀ (l : List Nat) (r : Array Nat × Nat), l.foldl (fun r i => occStep ⟨⟨x⟩⟩ ⟨⟨[c]⟩⟩ lim x.length i r) r = r := by
    intro l
    induction l with
    | nil => intro r; rfl
    | cons i l ih =>
      intro r
      rw [List.foldl_cons, ih]
      unfold occStep
      rw [sub_one]
      have : (x[i]? == some c) = false := by
        rw [beq_eq_false_iff_ne]
        intro e
        exact h (List.mem_of_getElem? e)
      rw [this, Bool.and_false, if_neg Bool.false_ne_true]
  rw [key]
theorem occ_ws (c : Nat) (h1 : c ≠ 10) (h2 : c ≠ 9) (h3 : c ≠ 13) (h4 : c ≠ 32) : (!(Builtin.Str.occurrences wsS ⟨⟨[c]⟩⟩ 0 wsS.length 1).isEmpty) = false := by
  have := occ_none [10, 9, 13, 32] c 1 (by simp [h1, h2, h3, h4])
  show (!(Builtin.Str.occurrences ⟨⟨[10, 9, 13, 32]⟩⟩ ⟨⟨[c]⟩⟩ 0 ([10, 9, 13, 32] : List Nat).length 1).isEmpty) = false
  rw [this]
  rfl
end Mine
end
section
open PySem PySem.W PySem.Calls PyProof.Rows
set_option Elab.async false
set_option maxRecDepth 100000
namespace Mine
theorem read_char (w : World) (A : Around) (h₀ : Heap) (hA : Fit 30 A (kt1 w) h₀) (R : Result → Shared → Prop) (B t0 : Nat) (g : Array GenState) (d : Drawn) (os : OsState) (a : LX) (k2 : Nat → Nat) (line : Int) (ep : Nat) (p : List Value) (pe : Nat) (q : List Value) (c tq : Nat) {mods : List Nat} (hsz : q.length ≤ 16777000) (hc : c ≠ 10)
   (D : Rep (kt1 w) h₀ mods h₀ B (a.led w k2 line (q ++ [.str ⟨⟨[c]⟩⟩ tq]) ep p pe) [] 0)
   (hR : ∀ h1 t', After h₀ h1 mods (a.led w k2 line q (ep + 1) p pe) → R (.ok (.ret (.str ⟨⟨[c]⟩⟩ tq))) ⟨h1, g, d, t', os⟩) :
   codeAny (PP w) A (.call (.ref 76) ⟨[.ref a.lx], []⟩) R ⟨h₀, g, d, t0, os⟩ := by
  obtain ⟨b1, b2, hw⟩ := parF_ex w
  refine code_ent (D.kt_ (a := 76) (o := obAt w 76) (by kernel_rfl)) (fd := fdAt w 76) (by kernel_rfl) (by have := hA.room; omega) ?_
  change Means _ _ _ _ _ _ ⟨h₀, g, d, t0 + 0, os⟩
  cases b1 <;> (
    (refine segL (t0 := t0) (i := 0) 100000 [0, 10, 10, 10, 1, 0, 0, 0, 1, 1, 0, 0, 0, 1, 1, 0, 2, 3, 0, 0, 0, 3, 0, 0, 0, 3, 0, 0, 0, 3, 0, 0, 0, 1, 3, 0, 0, 0, 3, 3, 0, 4, 7] (Code.call (Value.ref a.lam) { pos := [Value.int 1 (t0 + 3)] : Args }) D (by assumption) (by assumption) ?_; intro o11; refine ⟨by kernel_rfl, by kernel_rfl, by kernel_rfl, by kernel_rfl, fun h11 D11 => ?_⟩)
    refine lam_pop w _ _ (Fit.inner hA D11 _ (by kernel_rfl) (by kernel_rfl)) _ _ _ g d os a.S a.ce a.lam a.co a.tu a.tc a.c5 a.c6 a.c7 a.c8 a.c9 ep _ q c tq hsz (D11.give [0, 0, 0, 0, 1, 1, 1, 1] (by kernel_rfl)) fun g2 t2 a2 => ?_
    obtain ⟨B2, E2⟩ := D11.backP [0, 0, 0, 0, 1, 1, 1, 1] [4, 5, 6, 7, 0, 1, 2, 3, 8, 9] (a.led w k2 line q (ep + 1) p pe ++ [(B, fobj [selfE w t0 a.lx] 1)]) (by kernel_rfl) a2 (by kernel_rfl)
    change Means _ _ _ _ (outκ o11) (outK o11 _) ⟨g2, g, d, t2 + 0, os⟩
    (refine segW (t0 := t2) (i := 0) 100000 [10, 10, 10] (Code.call (Value.builtin "str.__eq__") { pos := [Value.str { cps := { toList := [c] : Array Nat } : Str } tq, Value.str { cps := { toList := [10] : Array Nat } : Str } (t2 + 1)] : Args }) E2 (by assumption) (by assumption) ?_; intro o12; refine ⟨by kernel_rfl, by kernel_rfl, by kernel_rfl, by kernel_rfl, by kernel_rfl, fun h12 D12 => ?_⟩)
    refine callW_of rfl ?_
    rw [mark_none]
    refine r_seq [c] [10] _ _ false (by simp [hc]) ?_
    obtain ⟨B3, E3⟩ := D12.pickE [0, 1, 2, 3, 4, 5, 6, 7, 8, 9] (a.led w k2 line q (ep + 1) p pe ++ [(B, fobj [selfE w t0 a.lx, ent w [99, 104] t2 (.str ⟨⟨[c]⟩⟩ tq)] 2)]) (by kernel_rfl)
    change Means _ _ _ _ (outκ o12) (outK o12 _) ⟨h12, g, d, _ + 0, os⟩
    (refine segF (t0 := Nat.succ (Nat.add t2 1)) (i := 0) 100000 [10] (Fin.done (Flow.ret (Value.str { cps := { toList := [c] : Array Nat } : Str } tq))) E3 (by assumption) (by assumption) ?_; intro o13; refine ⟨by kernel_rfl, by kernel_rfl, by kernel_rfl, fun h13 D13 => ?_⟩)
    exact hR _ _ (D13.finP [0, 1, 2, 3, 4, 5, 6, 7, 8] (by kernel_rfl)))
theorem read_feed (w : World) (A : Around) (h₀ : Heap) (hA : Fit 30 A (kt1 w) h₀) (R : Result → Shared → Prop) (B t0 : Nat) (g : Array GenState) (d : Drawn) (os : OsState) (a : LX) (k2 : Nat → Nat) (line : Int) (ep : Nat) (p : List Value) (pe : Nat) (q : List Value) (tq : Nat) {mods : List Nat} (hsz : q.length ≤ 16777000)
   (D : Rep (kt1 w) h₀ mods h₀ B (a.led w k2 line (q ++ [.str ⟨⟨[10]⟩⟩ tq]) ep p pe) [] 0)
   (hR : ∀ h1 t' k2', After h₀ h1 mods (a.led w k2' (line + 1) q (ep + 1) p pe) → R (.ok (.ret (.str ⟨⟨[10]⟩⟩ tq))) ⟨h1, g, d, t', os⟩) :
   codeAny (PP w) A (.call (.ref 76) ⟨[.ref a.lx], []⟩) R ⟨h₀, g, d, t0, os⟩ := by
  obtain ⟨b1, b2, hw⟩ := parF_ex w
  refine code_ent (D.kt_ (a := 76) (o := obAt w 76) (by kernel_rfl)) (fd := fdAt w 76) (by kernel_rfl) (by have := hA.room; omega) ?_
  change Means _ _ _ _ _ _ ⟨h₀, g, d, t0 + 0, os⟩
  cases b1 <;> (
    (refine segL (t0 := t0) (i := 0) 100000 [0, 10, 10, 10, 1, 0, 0, 0, 1, 1, 0, 0, 0, 1, 1, 0, 2, 3, 0, 0, 0, 3, 0, 0, 0, 3, 0, 0, 0, 3, 0, 0, 0, 1, 3, 0, 0, 0, 3, 3, 0, 4, 7] (Code.call (Value.ref a.lam) { pos := [Value.int 1 (t0 + 3)] : Args }) D (by assumption) (by assumption) ?_; intro o21; refine ⟨by kernel_rfl, by kernel_rfl, by kernel_rfl, by kernel_rfl, fun h21 D21 => ?_⟩)
    refine lam_pop w _ _ (Fit.inner hA D21 _ (by kernel_rfl) (by kernel_rfl)) _ _ _ g d os a.S a.ce a.lam a.co a.tu a.tc a.c5 a.c6 a.c7 a.c8 a.c9 ep _ q 10 tq hsz (D21.give [0, 0, 0, 0, 1, 1, 1, 1] (by kernel_rfl)) fun g2 t2 a2 => ?_
    obtain ⟨B2, E2⟩ := D21.backP [0, 0, 0, 0, 1, 1, 1, 1] [4, 5, 6, 7, 0, 1, 2, 3, 8, 9] (a.led w k2 line q (ep + 1) p pe ++ [(B, fobj [selfE w t0 a.lx] 1)]) (by kernel_rfl) a2 (by kernel_rfl)
    change Means _ _ _ _ (outκ o21) (outK o21 _) ⟨g2, g, d, t2 + 0, os⟩
    (refine segF (t0 := t2) (i := 0) 100000 [10, 10, 10, 1, 10, 1, 0, 0, 0, 1, 1, 0, 0, 0, 1, 1, 0, 2, 1, 1, 0, 0, 0, 1, 1, 0, 1, 0, 1, 0, 0, 0, 1, 0, 2, 2, 2, 10] (Fin.done (Flow.ret (Value.str { cps := { toList := [10] : Array Nat } : Str } tq))) E2 (by assumption) (by assumption) ?_; intro o22; refine ⟨by kernel_rfl, by kernel_rfl, by kernel_rfl, fun h22 D22 => ?_⟩)
    exact hR _ _ (fun n => match n with | 1 => t2 + 4 | n => k2 n) (D22.finP [0, 1, 2, 3, 4, 5, 6, 7, 8] (by kernel_rfl)))
theorem read_end (w : World) (A : Around) (h₀ : Heap) (hA : Fit 30 A (kt1 w) h₀) (R : Result → Shared → Prop) (B t0 : Nat) (g : Array GenState) (d : Drawn) (os : OsState) (a : LX) (k2 : Nat → Nat) (line : Int) (ep : Nat) (p : List Value) (pe : Nat) {mods : List Nat}
   (D : Rep (kt1 w) h₀ mods h₀ B (a.led w k2 line [] ep p pe) [] 0)
   (hR : ∀ h1 t' t1, After h₀ h1 mods (a.led w k2 line [] ep p pe) → R (.ok (.ret (.str ⟨⟨[]⟩⟩ t1))) ⟨h1, g, d, t', os⟩) :
   codeAny (PP w) A (.call (.ref 76) ⟨[.ref a.lx], []⟩) R ⟨h₀, g, d, t0, os⟩ := by
  obtain ⟨b1, b2, hw⟩ := parF_ex w
  refine code_ent (D.kt_ (a := 76) (o := obAt w 76) (by kernel_rfl)) (fd := fdAt w 76) (by kernel_rfl) (by have := hA.room; omega) ?_
  change Means _ _ _ _ _ _ ⟨h₀, g, d, t0 + 0, os⟩
  cases b1 <;> (
    (refine segL (t0 := t0) (i := 0) 100000 [0, 10, 10, 10, 1, 0, 0, 0, 1, 1, 0, 0, 0, 1, 1, 0, 2, 3, 0, 0, 0, 3, 0, 0, 0, 3, 0, 0, 0, 3, 0, 0, 0, 1, 3, 0, 0, 0, 3, 3, 0, 4, 7] (Code.call (Value.ref a.lam) { pos := [Value.int 1 (t0 + 3)] : Args }) D (by assumption) (by assumption) ?_; intro o31; refine ⟨by kernel_rfl, by kernel_rfl, by kernel_rfl, by kernel_rfl, fun h31 D31 => ?_⟩)
    refine lam_end w _ _ (Fit.inner hA D31 _ (by kernel_rfl) (by kernel_rfl)) _ _ _ g d os a.S a.ce a.lam a.co a.tu a.tc a.c5 a.c6 a.c7 a.c8 a.c9 ep _ (D31.give [0, 0, 0, 0, 1, 1, 1, 1] (by kernel_rfl)) fun g2 t1 t2 a2 => ?_
    obtain ⟨B2, E2⟩ := D31.backP [0, 0, 0, 0, 1, 1, 1, 1] [4, 5, 6, 7, 0, 1, 2, 3, 8, 9] (a.led w k2 line [] ep p pe ++ [(B, fobj [selfE w t0 a.lx] 1)]) (by kernel_rfl) a2 (by kernel_rfl)
    change Means _ _ _ _ (outκ o31) (outK o31 _) ⟨g2, g, d, t2 + 0, os⟩
    (refine segF (t0 := t2) (i := 0) 100000 [10, 10, 10, 1, 10] (Fin.done (Flow.ret (Value.str { cps := { toList := [] : Array Nat } : Str } t1))) E2 (by assumption) (by assumption) ?_; intro o32; refine ⟨by kernel_rfl, by kernel_rfl, by kernel_rfl, fun h32 D32 => ?_⟩)
    exact hR _ _ _ (D32.finP [0, 1, 2, 3, 4, 5, 6, 7, 8] (by kernel_rfl)))
end Mine
end
section
open PySem PySem.W PySem.Calls PyProof.Rows
set_option Elab.async false
set_option maxRecDepth 100000
namespace Mine
def nl (c : Nat) : Int := if c = 10 then 1 else 0
theorem read_any (w : World) (A : Around) (h₀ : Heap) (hA : Fit 30 A (kt1 w) h₀) (R : Result → Shared → Prop) (B t0 : Nat) (g : Array GenState) (d : Drawn) (os : OsState) (a : LX) (k2 : Nat → Nat) (line : Int) (ep : Nat) (p : List Value) (pe : Nat) (q : List Value) (c tq : Nat) {mods : List Nat} (hsz : q.length ≤ 16777000)
   (D : Rep (kt1 w) h₀ mods h₀ B (a.led w k2 line (q ++ [.str ⟨⟨[c]⟩⟩ tq]) ep p pe) [] 0)
   (hR : ∀ h1 t' k2', After h₀ h1 mods (a.led w k2' (line + nl c) q (ep + 1) p pe) → R (.ok (.ret (.str ⟨⟨[c]⟩⟩ tq))) ⟨h1, g, d, t', os⟩) :
   codeAny (PP w) A (.call (.ref 76) ⟨[.ref a.lx], []⟩) R ⟨h₀, g, d, t0, os⟩ := by
  by_cases hc : c = 10
  · subst hc
    exact read_feed w A h₀ hA R B t0 g d os a k2 line ep p pe q tq hsz D hR
  · refine read_char w A h₀ hA R B t0 g d os a k2 line ep p pe q c tq hsz hc D fun h1 t' z => hR h1 t' k2 ?_
    have : nl c = 0 := if_neg hc
    rw [this, Int.add_zero]
    exact z
def mthO (f self : Nat) : Obj := { cls := .type "method", data := .fields ⟨[.ref f, .ref self]⟩ }
def citE : Obj := { cls := .type "callable_iterator", data := .fields ⟨[.none, .none, .bool true]⟩ }
def citO (m t : Nat) : Obj := { cls := .type "callable_iterator", data := .fields ⟨[.ref m, .str ⟨⟨[]⟩⟩ t, .bool false]⟩ }
theorem slot_cit_next : Slot "callable_iterator" "__next__" "callable_iterator.__next__" :=
  .of (owner := "callable_iterator") (n := "__next__") (by rw [typeLookup_type, builtinLookup_eq_fast]; kernel_rfl) (by decide +kernel) (by decide +kernel) (by decide +kernel)
    (by first | exact .inl (by decide +kernel) | exact .inr (by decide +kernel)) (by rw [isSubtype_type]; kernel_rfl)
theorem entry_cit_next : entryFor table "callable_iterator.__next__" = some Builtin.«callable_iterator.__next__» := entryFor_of_tree (by kernel_rfl)
theorem args_cit_next (a : Value) : argsOk "callable_iterator.__next__" ⟨[a], []⟩ := by
  have ho := signature?_of (id := "callable_iterator.__next__") (n := "__next__".toList.reverse) (o := "callable_iterator".toList.reverse) (by kernel_rfl) (by rfl)
  unfold argsOk; rw [ho]; kernel_rfl
theorem wp_fin {prog : Program} {w : World} {A : Around} {m : Sem Value} {Q : Value → Shared → Prop} {E : Value → Shared → Prop} {s : Shared}
    (h : Means (model prog w) A (fun fin s' => match fin with | .done (.ret r) => Q r s' | _ => False) E .base (m >>= fun r => pure (.done (.ret r))) s) : wpAny (model prog w) A m Q E s :=
  wpAny_unmap (f := fun r => PySem.Fin.done (.ret r)) h.out
theorem cit_next (w : World) (A : Around) (h₀ : Heap) (hA : Fit 40 A (kt1 w) h₀) (R : Result → Shared → Prop) (B t0 : Nat) (g : Array GenState) (d : Drawn) (os : OsState) (a : LX) (k2 : Nat → Nat) (line : Int) (ep : Nat) (p : List Value) (pe : Nat) (q : List Value) (c tq m it ts : Nat) {mods : List Nat} (hsz : q.length ≤ 16777000)
   (D : Rep (kt1 w) h₀ mods h₀ B (a.led w k2 line (q ++ [.str ⟨⟨[c]⟩⟩ tq]) ep p pe ++ [(m, mthO 76 a.lx), (it, citO m ts)]) [] 0)
   (hR : ∀ h1 t' k2', After h₀ h1 mods (a.led w k2' (line + nl c) q (ep + 1) p pe ++ [(m, mthO 76 a.lx), (it, citO m ts)]) → R (.ok (.ret (.str ⟨⟨[c]⟩⟩ tq))) ⟨h1, g, d, t', os⟩) :
   codeAny (PP w) A (.call (.builtin "callable_iterator.__next__") ⟨[.ref it], []⟩) R ⟨h₀, g, d, t0, os⟩ := by
  obtain ⟨b1, b2, hw⟩ := parF_ex w
  have hit : h₀.get? it = some (citO m ts) := D.get (j := 10) rfl
  have hA' := hA.in1
  refine code_slot slot_cit_next ⟨_, hit, rfl⟩ entry_cit_next (args_cit_next _) ?_
  show wpAny _ _ (PySem.field (.ref it) 2 >>= _) _ _ _
  refine wpAny_bind (wpAny_field hit rfl (x := .bool false) rfl ?_)
  show wpAny _ _ (PySem.field (.ref it) 0 >>= _) _ _ _
  refine wpAny_bind (wpAny_field hit rfl (x := .ref m) rfl ?_)
  refine wpAny_bind (wpAny_attempt ?_)
  refine wp_fin ?_
  refine Means.add0 ?_
  (refine segL (t0 := t0) (i := 0) 100000 [10, 0, 1, 10] (Code.call (Value.ref 76) { pos := [Value.ref a.lx] : Args }) D (by assumption) (by assumption) ?_; intro o11; refine ⟨by kernel_rfl, by kernel_rfl, by kernel_rfl, by kernel_rfl, fun h11 D11 => ?_⟩)
  refine read_any w _ _ (Fit.inner hA' D11 _ (by kernel_rfl) (by kernel_rfl)) _ _ _ g d os a k2 line ep p pe q c tq hsz (D11.give [1, 1, 1, 1, 1, 1, 1, 1, 1] (by kernel_rfl)) fun g2 t2 k3 a2 => ?_
  obtain ⟨B2, E2⟩ := D11.backP [1, 1, 1, 1, 1, 1, 1, 1, 1] [0, 1, 2, 3, 4, 5, 6, 7, 8, 9, 10] (a.led w k3 (line + nl c) q (ep + 1) p pe ++ [(m, mthO 76 a.lx), (it, citO m ts)]) (by kernel_rfl) a2 (by kernel_rfl)
  change Means _ _ _ _ (outκ o11) (outK o11 _) ⟨g2, g, d, t2 + 0, os⟩
  (refine segF (t0 := t2) (i := 0) 100000 [] (Fin.done (Flow.ret (Value.str { cps := { toList := [c] : Array Nat } : Str } tq))) E2 (by assumption) (by assumption) ?_; intro o12; refine ⟨by kernel_rfl, by kernel_rfl, by kernel_rfl, fun h12 D12 => ?_⟩)
  have hit2 : h12.get? it = some (citO m ts) := D12.get (j := 10) rfl
  show wpAny _ _ (PySem.field (.ref it) 2 >>= _) _ _ _
  refine wpAny_bind (wpAny_field hit2 rfl (x := .bool false) rfl ?_)
  show wpAny _ _ (PySem.field (.ref it) 1 >>= _) _ _ _
  refine wpAny_bind (wpAny_field hit2 rfl (x := .str ⟨⟨[]⟩⟩ ts) rfl ?_)
  refine wpAny_bind (wpAny_holding (wpAny_eqBool_str ?_))
  rw [show decide ((⟨⟨[]⟩⟩ : Str) = ⟨⟨[c]⟩⟩) = false by simp]
  show wpAny _ _ (ret (.str ⟨⟨[c]⟩⟩ tq)) _ _ _
  exact wpAny_pure (hR _ _ k3 (D12.finP [0, 1, 2, 3, 4, 5, 6, 7, 8, 9, 10] (by kernel_rfl)))
theorem cit_end (w : World) (A : Around) (h₀ : Heap) (hA : Fit 40 A (kt1 w) h₀) (R : Result → Shared → Prop) (B t0 : Nat) (g : Array GenState) (d : Drawn) (os : OsState) (a : LX) (k2 : Nat → Nat) (line : Int) (ep : Nat) (p : List Value) (pe : Nat) (m it ts : Nat) {mods : List Nat}
   (D : Rep (kt1 w) h₀ mods h₀ B (a.led w k2 line [] ep p pe ++ [(m, mthO 76 a.lx), (it, citO m ts)]) [] 0)
   (hR : ∀ h1 t' x y, After h₀ h1 mods (a.led w k2 line [] ep p pe ++ [(it, citE), (y, tupO []), (x, stopO y)]) → R (.error (.ref x)) ⟨h1, g, d, t', os⟩) :
   codeAny (PP w) A (.call (.builtin "callable_iterator.__next__") ⟨[.ref it], []⟩) R ⟨h₀, g, d, t0, os⟩ := by
  obtain ⟨b1, b2, hw⟩ := parF_ex w
  have hit : h₀.get? it = some (citO m ts) := D.get (j := 10) rfl
  have hA' := hA.in1
  refine code_slot slot_cit_next ⟨_, hit, rfl⟩ entry_cit_next (args_cit_next _) ?_
  show wpAny _ _ (PySem.field (.ref it) 2 >>= _) _ _ _
  refine wpAny_bind (wpAny_field hit rfl (x := .bool false) rfl ?_)
  show wpAny _ _ (PySem.field (.ref it) 0 >>= _) _ _ _
  refine wpAny_bind (wpAny_field hit rfl (x := .ref m) rfl ?_)
  refine wpAny_bind (wpAny_attempt ?_)
  refine wp_fin ?_
  refine Means.add0 ?_
  (refine segL (t0 := t0) (i := 0) 100000 [10, 0, 1, 10] (Code.call (Value.ref 76) { pos := [Value.ref a.lx] : Args }) D (by assumption) (by assumption) ?_; intro o21; refine ⟨by kernel_rfl, by kernel_rfl, by kernel_rfl, by kernel_rfl, fun h21 D21 => ?_⟩)
  refine read_end w _ _ (Fit.inner hA' D21 _ (by kernel_rfl) (by kernel_rfl)) _ _ _ g d os a k2 line ep p pe (D21.give [1, 1, 1, 1, 1, 1, 1, 1, 1] (by kernel_rfl)) fun g2 t2 t1 a2 => ?_
  obtain ⟨B2, E2⟩ := D21.backP [1, 1, 1, 1, 1, 1, 1, 1, 1] [0, 1, 2, 3, 4, 5, 6, 7, 8, 9, 10] (a.led w k2 line [] ep p pe ++ [(m, mthO 76 a.lx), (it, citO m ts)]) (by kernel_rfl) a2 (by kernel_rfl)
  change Means _ _ _ _ (outκ o21) (outK o21 _) ⟨g2, g, d, t2 + 0, os⟩
  (refine segF (t0 := t2) (i := 0) 100000 [] (Fin.done (Flow.ret (Value.str { cps := { toList := [] : Array Nat } : Str } t1))) E2 (by assumption) (by assumption) ?_; intro o22; refine ⟨by kernel_rfl, by kernel_rfl, by kernel_rfl, fun h22 D22 => ?_⟩)
  have hit2 : h22.get? it = some (citO m ts) := D22.get (j := 10) rfl
  show wpAny _ _ (PySem.field (.ref it) 2 >>= _) _ _ _
  refine wpAny_bind (wpAny_field hit2 rfl (x := .bool false) rfl ?_)
  show wpAny _ _ (PySem.field (.ref it) 1 >>= _) _ _ _
  refine wpAny_bind (wpAny_field hit2 rfl (x := .str ⟨⟨[]⟩⟩ ts) rfl ?_)
  refine wpAny_bind (wpAny_holding (wpAny_eqBool_str ?_))
  rw [show decide ((⟨⟨[]⟩⟩ : Str) = ⟨⟨[]⟩⟩) = true by simp]
  obtain ⟨B3, E3⟩ := D22.pickE [0, 1, 2, 3, 4, 5, 6, 7, 8, 9, 10] (a.led w k2 line [] ep p pe ++ [(m, mthO 76 a.lx), (it, citO m ts)]) (by kernel_rfl)
  refine means_base (s := ⟨h22, g, d, (t2 + outI o22) + 0, os⟩) ?_
  (refine segE (t0 := t2 + outI o22) (i := 0) 100000 [11, 10, 0, 11, 11, 11, 11, 11, 11] (Value.ref (B3 + 1)) E3 (by assumption) (by assumption) ?_; intro o23; refine ⟨by kernel_rfl, by kernel_rfl, by kernel_rfl, fun h23 D23 => ?_⟩)
  exact hR _ _ (B3 + 1) B3 (D23.finP [0, 1, 2, 3, 4, 5, 6, 7, 8, 10, 11, 12] (by kernel_rfl))
theorem cit_done (w : World) (A : Around) (h₀ : Heap) (hA : Fit 40 A (kt1 w) h₀) (R : Result → Shared → Prop) (B t0 : Nat) (g : Array GenState) (d : Drawn) (os : OsState) (it : Nat) {mods : List Nat}
   (D : Rep (kt1 w) h₀ mods h₀ B [(it, citE)] [] 0)
   (hR : ∀ h1 t' x y, After h₀ h1 mods [(it, citE), (y, tupO []), (x, stopO y)] → R (.error (.ref x)) ⟨h1, g, d, t', os⟩) :
   codeAny (PP w) A (.call (.builtin "callable_iterator.__next__") ⟨[.ref it], []⟩) R ⟨h₀, g, d, t0, os⟩ := by
  obtain ⟨b1, b2, hw⟩ := parF_ex w
  have hit : h₀.get? it = some citE := D.get (j := 0) rfl
  have hA' := hA.in1
  refine code_slot slot_cit_next ⟨_, hit, rfl⟩ entry_cit_next (args_cit_next _) ?_
  refine means_base (s := ⟨h₀, g, d, t0 + 0, os⟩) ?_
  (refine segE (t0 := t0) (i := 0) 100000 [1] (Value.ref (B + 1)) D (by assumption) (by assumption) ?_; intro o33; refine ⟨by kernel_rfl, by kernel_rfl, by kernel_rfl, fun h33 D33 => ?_⟩)
  exact hR _ _ (B + 1) B (D33.finP [0, 1, 2] (by kernel_rfl))
end Mine
end
section
open PySem PySem.W PySem.Calls PyProof.Rows
set_option Elab.async false
set_option maxRecDepth 100000
namespace Mine
def n_token := [116, 111, 107, 101, 110]
def n_fiter := [102, 105, 116, 101, 114]
def n_ch := [99, 104]
def q_gt := [95, 110, 101, 116, 114, 99, 108, 101, 120, 46, 103, 101, 116, 95, 116, 111, 107, 101, 110, 46, 60, 108, 111, 99, 97, 108, 115, 62, 46]
noncomputable def gtInner (w : World) : Stmt := match stmtAt w 83 3 with
  | .For _ _ (_ :: .If _ _ els _ :: _) _ _ => els.getD 2 default
  | _ => default
noncomputable def gtF (w : World) (a : LX) (s0 kt tt kf it kc : Nat) (tk : List Nat) (ch : Value) : Obj := fobj [selfE w s0 a.lx, ent w n_token kt (.str ⟨⟨tk⟩⟩ tt), ent w n_fiter kf (.ref it), ent w n_ch kc ch] 4
def isWs (c : Nat) : Bool := [10, 9, 13, 32].contains c
theorem gi_plain (w : World) (A : Around) (h₀ : Heap) (mods : List Nat) (hA : Fit 45 A (kt1 w) h₀) (R : Result → Shared → Prop) (g : Array GenState) (d : Drawn) (os : OsState) (a : LX) (p : List Value) (pe m it ts f s0 kt kf kc : Nat)
   (h : Heap) (B t0 tt ep : Nat) (k2 : Nat → Nat) (line : Int) (tk : List Nat) (ch : Value) (q : List Value) (c tq : Nat) (hsz : q.length ≤ 16777000) (htk : tk.length ≤ 16777000) (h1 : isWs c = false) (h2 : c ≠ 92)
   (D : Rep (kt1 w) h₀ mods h B (a.led w k2 line (q ++ [.str ⟨⟨[c]⟩⟩ tq]) ep p pe ++ [(m, mthO 76 a.lx), (it, citO m ts), (f, gtF w a s0 kt tt kf it kc tk ch)]) [] 0)
   (hR : ∀ h' B' t' tt' ep' k2', Rep (kt1 w) h₀ mods h' B' (a.led w k2' line q ep' p pe ++ [(m, mthO 76 a.lx), (it, citO m ts), (f, gtF w a s0 kt tt' kf it kc (tk ++ [c]) (.str ⟨⟨[c]⟩⟩ tq))]) [] 0 → codeAny (PP w) A (forOf (gtInner w) (.ref it) (envOf w 83 f q_gt)) R ⟨h', g, d, t', os⟩) :
   codeAny (PP w) A (forOf (gtInner w) (.ref it) (envOf w 83 f q_gt)) R ⟨h, g, d, t0, os⟩ := by
  obtain ⟨b1, b2, hw⟩ := parF_ex w
  have hA' := hA.under (forOf (gtInner w) (.ref it) (envOf w 83 f q_gt)) (m := 44) (by kernel_rfl)
  have hc1 : c ≠ 10 ∧ c ≠ 9 ∧ c ≠ 13 ∧ c ≠ 32 := by simpa [isWs] using h1
  obtain ⟨c1, c2, c3, c4⟩ := hc1
  have hn : nl c = 0 := if_neg c1
  refine code_start ?_
  change Means _ _ _ _ _ _ ⟨h, g, d, t0 + 0, os⟩
  (refine segW (t0 := t0) (i := 0) 100000 [11] (Code.call (Value.builtin "callable_iterator.__next__") { pos := [Value.ref it] : Args }) D (by assumption) (by assumption) ?_; intro o11; refine ⟨by kernel_rfl, by kernel_rfl, by kernel_rfl, by kernel_rfl, by kernel_rfl, fun h11 D11 => ?_⟩)
  refine callW_of rfl ?_
  rw [mark_none]
  refine cit_next w _ _ (Fit.inner hA' D11 _ (by kernel_rfl) (by kernel_rfl)) _ _ _ g d os a k2 line ep p pe q c tq m it ts hsz (D11.give [1, 1, 1, 1, 1, 1, 1, 1, 1, 1, 1] (by kernel_rfl)) fun g2 t2 k3 a2 => ?_
  rw [hn, Int.add_zero] at a2
  obtain ⟨B2, E2⟩ := D11.backP [1, 1, 1, 1, 1, 1, 1, 1, 1, 1, 1] [0, 1, 2, 3, 4, 5, 6, 7, 8, 9, 10, 11] (a.led w k3 line q (ep + 1) p pe ++ [(m, mthO 76 a.lx), (it, citO m ts), (f, gtF w a s0 kt tt kf it kc tk ch)]) (by kernel_rfl) a2 (by kernel_rfl)
  change Means _ _ _ _ (outκ o11) (outK o11 _) ⟨g2, g, d, t2 + 0, os⟩
  (refine segW (t0 := t2) (i := 0) 100000 [12, 12, 12, 12, 1, 0, 0, 0, 1, 1, 0, 0, 0, 1, 1, 0, 2] (Code.call (Value.builtin "str.__contains__") { pos := [Value.str { cps := { toList := [10, 9, 13, 32] : Array Nat } : Str } (k3 4), Value.str { cps := { toList := [c] : Array Nat } : Str } tq] : Args }) E2 (by assumption) (by assumption) ?_; intro o12; refine ⟨by kernel_rfl, by kernel_rfl, by kernel_rfl, by kernel_rfl, by kernel_rfl, fun h12 D12 => ?_⟩)
  refine callW_of rfl ?_
  rw [mark_none]
  refine r_sin _ _ _ _ false (occ_ws c c1 c2 c3 c4) ?_
  obtain ⟨B3, E3⟩ := D12.pickE [0, 1, 2, 3, 4, 5, 6, 7, 8, 9, 10, 11] (a.led w k3 line q (ep + 1) p pe ++ [(m, mthO 76 a.lx), (it, citO m ts), (f, gtF w a s0 kt tt kf it kc tk (.str ⟨⟨[c]⟩⟩ tq))]) (by kernel_rfl)
  change Means _ _ _ _ (outκ o12) (outK o12 _) ⟨h12, g, d, _ + 0, os⟩
  cases b1 <;> (
  (refine segW (t0 := Nat.succ (Nat.add t2 1)) (i := 0) 100000 [12] (Code.call (Value.builtin "str.__eq__") { pos := [Value.str { cps := { toList := [c] : Array Nat } : Str } tq, Value.str { cps := { toList := [92] : Array Nat } : Str } (t2 + 2)] : Args }) D12 (by assumption) (by assumption) ?_; intro o13; refine ⟨by kernel_rfl, by kernel_rfl, by kernel_rfl, by kernel_rfl, by kernel_rfl, fun h13 D13 => ?_⟩)
  refine callW_of rfl ?_
  rw [mark_none]
  refine r_seq [c] [92] _ _ false (by simp [h2]) ?_
  change Means _ _ _ _ (outκ o13) (outK o13 _) ⟨h13, g, d, _ + 0, os⟩
  obtain ⟨B4, E4⟩ := D13.pickE [0, 1, 2, 3, 4, 5, 6, 7, 8, 9, 10, 11] (a.led w k3 line q (ep + 1) p pe ++ [(m, mthO 76 a.lx), (it, citO m ts), (f, gtF w a s0 kt tt kf it kc tk (.str ⟨⟨[c]⟩⟩ tq))]) (by kernel_rfl)
  (refine segW (t0 := Nat.succ (Nat.add (Nat.succ (Nat.add t2 1)) 0)) (i := 0) 100000 [12, 12] (Code.call (Value.builtin "str.__add__") { pos := [Value.str { cps := { toList := tk : Array Nat } : Str } tt, Value.str { cps := { toList := [c] : Array Nat } : Str } tq] : Args }) E4 (by assumption) (by assumption) ?_; intro o14; refine ⟨by kernel_rfl, by kernel_rfl, by kernel_rfl, by kernel_rfl, by kernel_rfl, fun h14 D14 => ?_⟩)
  refine r_sadd tk [c] _ _ (by show tk.length + 1 ≤ _; omega) fun t4 u4 => ?_
  obtain ⟨B5, E5⟩ := D14.pickE [0, 1, 2, 3, 4, 5, 6, 7, 8, 9, 10, 11] (a.led w k3 line q (ep + 1) p pe ++ [(m, mthO 76 a.lx), (it, citO m ts), (f, gtF w a s0 kt tt kf it kc tk (.str ⟨⟨[c]⟩⟩ tq))]) (by kernel_rfl)
  change Means _ _ _ _ (outκ o14) (outK o14 _) ⟨h14, g, d, u4 + 0, os⟩
  (refine segF (t0 := u4) (i := 0) 100000 [12, 12] ((Fin.again (forOf (gtInner w) (.ref it) (envOf w 83 f q_gt))) ) E5 (by assumption) (by assumption) ?_; intro o15; refine ⟨by kernel_rfl, by kernel_rfl, by kernel_rfl, fun h15 D15 => ?_⟩)
  obtain ⟨B6, E6⟩ := D15.pickE [0, 1, 2, 3, 4, 5, 6, 7, 8, 9, 10, 11] (a.led w k3 line q (ep + 1) p pe ++ [(m, mthO 76 a.lx), (it, citO m ts), (f, gtF w a s0 kt t4 kf it kc (tk ++ [c]) (.str ⟨⟨[c]⟩⟩ tq))]) (by kernel_rfl)
  exact ⟨by kernel_rfl, hR _ _ _ _ _ _ E6⟩)
end Mine
end
section
open PySem PySem.W PySem.Calls PyProof.Rows
set_option Elab.async false
set_option maxRecDepth 100000
namespace Mine
theorem gi_esc (w : World) (A : Around) (h₀ : Heap) (mods : List Nat) (hA : Fit 45 A (kt1 w) h₀) (R : Result → Shared → Prop) (g : Array GenState) (d : Drawn) (os : OsState) (a : LX) (p : List Value) (pe m it ts f s0 kt kf kc : Nat)
   (h : Heap) (B t0 tt ep : Nat) (k2 : Nat → Nat) (line : Int) (tk : List Nat) (ch : Value) (q : List Value) (c tq tq2 : Nat) (hsz : q.length ≤ 16776000) (htk : tk.length ≤ 16777000) (h1 : c ≠ 10)
   (D : Rep (kt1 w) h₀ mods h B (a.led w k2 line (q ++ [.str ⟨⟨[c]⟩⟩ tq] ++ [.str ⟨⟨[92]⟩⟩ tq2]) ep p pe ++ [(m, mthO 76 a.lx), (it, citO m ts), (f, gtF w a s0 kt tt kf it kc tk ch)]) [] 0)
   (hR : ∀ h' B' t' tt' ep' k2', Rep (kt1 w) h₀ mods h' B' (a.led w k2' line q ep' p pe ++ [(m, mthO 76 a.lx), (it, citO m ts), (f, gtF w a s0 kt tt' kf it kc (tk ++ [c]) (.str ⟨⟨[c]⟩⟩ tq))]) [] 0 → codeAny (PP w) A (forOf (gtInner w) (.ref it) (envOf w 83 f q_gt)) R ⟨h', g, d, t', os⟩) :
   codeAny (PP w) A (forOf (gtInner w) (.ref it) (envOf w 83 f q_gt)) R ⟨h, g, d, t0, os⟩ := by
  obtain ⟨b1, b2, hw⟩ := parF_ex w
  have hA' := hA.under (forOf (gtInner w) (.ref it) (envOf w 83 f q_gt)) (m := 44) (by kernel_rfl)
  have hn : nl c = 0 := if_neg h1
  refine code_start ?_
  change Means _ _ _ _ _ _ ⟨h, g, d, t0 + 0, os⟩
  (refine segW (t0 := t0) (i := 0) 100000 [11] (Code.call (Value.builtin "callable_iterator.__next__") { pos := [Value.ref it] : Args }) D (by assumption) (by assumption) ?_; intro o11; refine ⟨by kernel_rfl, by kernel_rfl, by kernel_rfl, by kernel_rfl, by kernel_rfl, fun h11 D11 => ?_⟩)
  refine callW_of rfl ?_
  rw [mark_none]
  refine cit_next w _ _ (Fit.inner hA' D11 _ (by kernel_rfl) (by kernel_rfl)) _ _ _ g d os a k2 line ep p pe (q ++ [.str ⟨⟨[c]⟩⟩ tq]) 92 tq2 m it ts (by rw [List.length_append, List.length_singleton]; omega) (D11.give [1, 1, 1, 1, 1, 1, 1, 1, 1, 1, 1] (by kernel_rfl)) fun g2 t2 k3 a2 => ?_
  rw [show nl 92 = 0 from rfl, Int.add_zero] at a2
  obtain ⟨B2, E2⟩ := D11.backP [1, 1, 1, 1, 1, 1, 1, 1, 1, 1, 1] [0, 1, 2, 3, 4, 5, 6, 7, 8, 9, 10, 11] (a.led w k3 line (q ++ [.str ⟨⟨[c]⟩⟩ tq]) (ep + 1) p pe ++ [(m, mthO 76 a.lx), (it, citO m ts), (f, gtF w a s0 kt tt kf it kc tk ch)]) (by kernel_rfl) a2 (by kernel_rfl)
  change Means _ _ _ _ (outκ o11) (outK o11 _) ⟨g2, g, d, t2 + 0, os⟩
  cases b1 <;> (
  (refine segL (t0 := t2) (i := 0) 100000 [12, 12, 12, 12, 1, 0, 0, 0, 1, 1, 0, 0, 0, 1, 1, 0, 2, 1, 12, 1, 12, 1, 0, 0, 0, 1, 0, 0, 0, 1, 0, 0, 0, 0, 1, 2, 0] (Code.call (Value.ref 76) { pos := [Value.ref a.lx] : Args }) E2 (by assumption) (by assumption) ?_; intro o12; refine ⟨by kernel_rfl, by kernel_rfl, by kernel_rfl, by kernel_rfl, fun h12 D12 => ?_⟩)
  refine read_any w _ _ (Fit.inner hA' D12 _ (by kernel_rfl) (by kernel_rfl)) _ _ _ g d os a k3 line (ep + 1) p pe q c tq (by omega) (D12.give [1, 1, 1, 1, 1, 1, 1, 1, 1] (by kernel_rfl)) fun g3 t3 k4 a3 => ?_
  rw [hn, Int.add_zero] at a3
  obtain ⟨B3, E3⟩ := D12.backP [1, 1, 1, 1, 1, 1, 1, 1, 1] [0, 1, 2, 3, 4, 5, 6, 7, 8, 9, 10, 11] (a.led w k4 line q (ep + 2) p pe ++ [(m, mthO 76 a.lx), (it, citO m ts), (f, gtF w a s0 kt tt kf it kc tk (.str ⟨⟨[92]⟩⟩ tq2))]) (by kernel_rfl) a3 (by kernel_rfl)
  change Means _ _ _ _ (outκ o12) (outK o12 _) ⟨g3, g, d, t3 + 0, os⟩
  (refine segW (t0 := t3) (i := 0) 100000 [12, 12, 12, 12] (Code.call (Value.builtin "str.__add__") { pos := [Value.str { cps := { toList := tk : Array Nat } : Str } tt, Value.str { cps := { toList := [c] : Array Nat } : Str } tq] : Args }) E3 (by assumption) (by assumption) ?_; intro o14; refine ⟨by kernel_rfl, by kernel_rfl, by kernel_rfl, by kernel_rfl, by kernel_rfl, fun h14 D14 => ?_⟩)
  refine r_sadd tk [c] _ _ (by show tk.length + 1 ≤ _; omega) fun t4 u4 => ?_
  obtain ⟨B5, E5⟩ := D14.pickE [0, 1, 2, 3, 4, 5, 6, 7, 8, 9, 10, 11] (a.led w k4 line q (ep + 2) p pe ++ [(m, mthO 76 a.lx), (it, citO m ts), (f, gtF w a s0 kt tt kf it kc tk (.str ⟨⟨[c]⟩⟩ tq))]) (by kernel_rfl)
  change Means _ _ _ _ (outκ o14) (outK o14 _) ⟨h14, g, d, u4 + 0, os⟩
  (refine segF (t0 := u4) (i := 0) 100000 [12, 12] ((Fin.again (forOf (gtInner w) (.ref it) (envOf w 83 f q_gt))) ) E5 (by assumption) (by assumption) ?_; intro o15; refine ⟨by kernel_rfl, by kernel_rfl, by kernel_rfl, fun h15 D15 => ?_⟩)
  obtain ⟨B6, E6⟩ := D15.pickE [0, 1, 2, 3, 4, 5, 6, 7, 8, 9, 10, 11] (a.led w k4 line q (ep + 2) p pe ++ [(m, mthO 76 a.lx), (it, citO m ts), (f, gtF w a s0 kt t4 kf it kc (tk ++ [c]) (.str ⟨⟨[c]⟩⟩ tq))]) (by kernel_rfl)
  exact ⟨by kernel_rfl, hR _ _ _ _ _ _ E6⟩)
theorem gi_ws (w : World) (A : Around) (h₀ : Heap) (mods : List Nat) (hA : Fit 45 A (kt1 w) h₀) (R : Result → Shared → Prop) (g : Array GenState) (d : Drawn) (os : OsState) (a : LX) (p : List Value) (pe m it ts f s0 kt kf kc : Nat)
   (h : Heap) (B t0 tt ep : Nat) (k2 : Nat → Nat) (line : Int) (tk : List Nat) (ch : Value) (q : List Value) (c tq : Nat) (hsz : q.length ≤ 16777000) (h1 : isWs c = true)
   (D : Rep (kt1 w) h₀ mods h B (a.led w k2 line (q ++ [.str ⟨⟨[c]⟩⟩ tq]) ep p pe ++ [(m, mthO 76 a.lx), (it, citO m ts), (f, gtF w a s0 kt tt kf it kc tk ch)]) [] 0)
   (hR : ∀ h' B' t' ep' k2', Rep (kt1 w) h₀ mods h' B' (a.led w k2' (line + nl c) q ep' p pe) [] 0 → R (.ok (.ret (.str ⟨⟨tk⟩⟩ tt))) ⟨h', g, d, t', os⟩) :
   codeAny (PP w) A (forOf (gtInner w) (.ref it) (envOf w 83 f q_gt)) R ⟨h, g, d, t0, os⟩ := by
  obtain ⟨b1, b2, hw⟩ := parF_ex w
  have hA' := hA.under (forOf (gtInner w) (.ref it) (envOf w 83 f q_gt)) (m := 44) (by kernel_rfl)
  have hc : c = 10 ∨ c = 9 ∨ c = 13 ∨ c = 32 := by simpa [isWs] using h1
  refine code_start ?_
  change Means _ _ _ _ _ _ ⟨h, g, d, t0 + 0, os⟩
  (refine segW (t0 := t0) (i := 0) 100000 [11] (Code.call (Value.builtin "callable_iterator.__next__") { pos := [Value.ref it] : Args }) D (by assumption) (by assumption) ?_; intro o21; refine ⟨by kernel_rfl, by kernel_rfl, by kernel_rfl, by kernel_rfl, by kernel_rfl, fun h21 D21 => ?_⟩)
  refine callW_of rfl ?_
  rw [mark_none]
  refine cit_next w _ _ (Fit.inner hA' D21 _ (by kernel_rfl) (by kernel_rfl)) _ _ _ g d os a k2 line ep p pe q c tq m it ts hsz (D21.give [1, 1, 1, 1, 1, 1, 1, 1, 1, 1, 1] (by kernel_rfl)) fun g2 t2 k3 a2 => ?_
  obtain ⟨B2, E2⟩ := D21.backP [1, 1, 1, 1, 1, 1, 1, 1, 1, 1, 1] [0, 1, 2, 3, 4, 5, 6, 7, 8, 9, 10, 11] (a.led w k3 (line + nl c) q (ep + 1) p pe ++ [(m, mthO 76 a.lx), (it, citO m ts), (f, gtF w a s0 kt tt kf it kc tk ch)]) (by kernel_rfl) a2 (by kernel_rfl)
  change Means _ _ _ _ (outκ o21) (outK o21 _) ⟨g2, g, d, t2 + 0, os⟩
  rcases hc with rfl | rfl | rfl | rfl <;> cases b1 <;> (
  (refine segF (t0 := t2) (i := 0) 100000 [12, 12, 12, 12, 1, 0, 0, 0, 1, 1, 0, 0, 0, 1, 1, 0, 2, 1, 12] (Fin.done (Flow.ret (Value.str { cps := { toList := tk : Array Nat } : Str } tt))) E2 (by assumption) (by assumption) ?_; intro o22; refine ⟨by kernel_rfl, by kernel_rfl, by kernel_rfl, fun h22 D22 => ?_⟩)
  obtain ⟨B6, E6⟩ := D22.pickE [0, 1, 2, 3, 4, 5, 6, 7, 8] (a.led w k3 (line + nl _) q (ep + 1) p pe) (by kernel_rfl)
  exact hR _ _ _ _ _ E6)
theorem gi_end (w : World) (A : Around) (h₀ : Heap) (mods : List Nat) (hA : Fit 45 A (kt1 w) h₀) (R : Result → Shared → Prop) (g : Array GenState) (d : Drawn) (os : OsState) (a : LX) (p : List Value) (pe m it ts f s0 kt kf kc : Nat)
   (h : Heap) (B t0 tt ep : Nat) (k2 : Nat → Nat) (line : Int) (tk : List Nat) (ch : Value)
   (D : Rep (kt1 w) h₀ mods h B (a.led w k2 line [] ep p pe ++ [(m, mthO 76 a.lx), (it, citO m ts), (f, gtF w a s0 kt tt kf it kc tk ch)]) [] 0)
   (hR : ∀ h' B' t', Rep (kt1 w) h₀ mods h' B' (a.led w k2 line [] ep p pe ++ [(it, citE), (f, gtF w a s0 kt tt kf it kc tk ch)]) [] 0 → R (.ok .next) ⟨h', g, d, t', os⟩) :
   codeAny (PP w) A (forOf (gtInner w) (.ref it) (envOf w 83 f q_gt)) R ⟨h, g, d, t0, os⟩ := by
  obtain ⟨b1, b2, hw⟩ := parF_ex w
  have hA' := hA.under (forOf (gtInner w) (.ref it) (envOf w 83 f q_gt)) (m := 44) (by kernel_rfl)
  refine code_start ?_
  change Means _ _ _ _ _ _ ⟨h, g, d, t0 + 0, os⟩
  (refine segW (t0 := t0) (i := 0) 100000 [11] (Code.call (Value.builtin "callable_iterator.__next__") { pos := [Value.ref it] : Args }) D (by assumption) (by assumption) ?_; intro o31; refine ⟨by kernel_rfl, by kernel_rfl, by kernel_rfl, by kernel_rfl, by kernel_rfl, fun h31 D31 => ?_⟩)
  refine callW_of rfl ?_
  rw [mark_none]
  refine cit_end w _ _ (Fit.inner hA' D31 _ (by kernel_rfl) (by kernel_rfl)) _ _ _ g d os a k2 line ep p pe m it ts (D31.give [1, 1, 1, 1, 1, 1, 1, 1, 1, 1, 1] (by kernel_rfl)) fun g2 t2 x y a2 => ?_
  obtain ⟨B2, E2⟩ := D31.backP [1, 1, 1, 1, 1, 1, 1, 1, 1, 1, 1] [0, 1, 2, 3, 4, 5, 6, 7, 8, 9, 10, 11, 12] (a.led w k2 line [] ep p pe ++ [(it, citE), (y, tupO []), (x, stopO y), (f, gtF w a s0 kt tt kf it kc tk ch)]) (by kernel_rfl) a2 (by kernel_rfl)
  change Means _ _ _ _ (outκ o31) (outK o31 _) ⟨g2, g, d, t2 + 0, os⟩
  (refine segF (t0 := t2) (i := 0) 100000 [12] ((Fin.again (Code.block [] (envOf w 83 f q_gt))) ) E2 (by assumption) (by assumption) ?_; intro o32; refine ⟨by kernel_rfl, by kernel_rfl, by kernel_rfl, fun h32 D32 => ?_⟩)
  obtain ⟨B3, E3⟩ := D32.pickE [0, 1, 2, 3, 4, 5, 6, 7, 8, 9, 12] (a.led w k2 line [] ep p pe ++ [(it, citE), (f, gtF w a s0 kt tt kf it kc tk ch)]) (by kernel_rfl)
  have hA2 := hA.under (Code.block [] (envOf w 83 f q_gt)) (m := 0) (by kernel_rfl)
  refine ⟨by kernel_rfl, code_start ?_⟩
  change Means _ _ _ _ _ _ ⟨h32, g, d, (t2 + outI o32) + 0, os⟩
  (refine segF (t0 := t2 + outI o32) (i := 0) 100000 [] (Fin.done Flow.next) E3 (by assumption) (by assumption) ?_; intro o33; refine ⟨by kernel_rfl, by kernel_rfl, by kernel_rfl, fun h33 D33 => ?_⟩)
  obtain ⟨B4, E4⟩ := D33.pickE [0, 1, 2, 3, 4, 5, 6, 7, 8, 9, 10] (a.led w k2 line [] ep p pe ++ [(it, citE), (f, gtF w a s0 kt tt kf it kc tk ch)]) (by kernel_rfl)
  exact hR _ _ _ E4
end Mine
end
section
open PySem PySem.W PySem.Calls PyProof.Rows
set_option Elab.async false
set_option maxRecDepth 100000
namespace Mine
/-- a sign of a word, behind a backslash or bare -/
def flatI (its : List (Bool × Nat)) : List Nat := its.flatMap fun i => if i.1 then [92, i.2] else [i.2]
def okI (i : Bool × Nat) : Prop := isWs i.2 = false ∧ i.2 ≠ 92 ∧ i.2 ≠ 34
theorem okI_10 {i : Bool × Nat} (h : okI i) : i.2 ≠ 10 := by
  intro e
  have := h.1
  rw [e] at this
  exact absurd this (by decide)
theorem flatI_cons (i : Bool × Nat) (its : List (Bool × Nat)) : flatI (i :: its) = (if i.1 then [92, i.2] else [i.2]) ++ flatI its := rfl
theorem cons_of {Q : List (Nat × Nat)} {c : Nat} {y : List Nat} (h : Q.map (·.1) = c :: y) : ∃ t Q', Q = (c, t) :: Q' ∧ Q'.map (·.1) = y := by
  cases Q with
  | nil => cases h
  | cons p Q =>
    rw [List.map_cons] at h
    obtain ⟨h1, h2⟩ := List.cons.inj h
    exact ⟨p.2, Q, by rw [← h1], h2⟩
section
variable {w : World} {A : Around} {h₀ : Heap} {mods : List Nat} {R : Result → Shared → Prop} {g : Array GenState} {d : Drawn} {os : OsState}
theorem gi_row (hA : Fit 45 A (kt1 w) h₀) (a : LX) (p : List Value) (pe m it ts f s0 kt kf kc : Nat) (c : Nat) (y : List Nat) (hc : isWs c = true) :
   ∀ (its : List (Bool × Nat)) (h : Heap) (B t0 tt ep : Nat) (k2 : Nat → Nat) (line : Int) (tk : List Nat) (ch : Value) (Q : List (Nat × Nat)), Q.map (·.1) = flatI its ++ c :: y → Q.length ≤ 16776000 → tk.length + its.length ≤ 16777000 → (∀ i ∈ its, okI i) →
   Rep (kt1 w) h₀ mods h B (a.led w k2 line (sgn Q) ep p pe ++ [(m, mthO 76 a.lx), (it, citO m ts), (f, gtF w a s0 kt tt kf it kc tk ch)]) [] 0 →
   (∀ h' B' t' ep' k2' tt' Q', Q'.map (·.1) = y → Rep (kt1 w) h₀ mods h' B' (a.led w k2' (line + nl c) (sgn Q') ep' p pe) [] 0 → R (.ok (.ret (.str ⟨⟨tk ++ its.map (·.2)⟩⟩ tt'))) ⟨h', g, d, t', os⟩) →
   codeAny (PP w) A (forOf (gtInner w) (.ref it) (envOf w 83 f q_gt)) R ⟨h, g, d, t0, os⟩ := by
  intro its
  induction its with
  | nil =>
    intro h B t0 tt ep k2 line tk ch Q hQ hsz htk hok D hR
    obtain ⟨t, Q', rfl, hQ'⟩ := cons_of (show Q.map (·.1) = c :: y from hQ)
    rw [List.length_cons] at hsz
    rw [sgn_cons] at D
    refine gi_ws w A h₀ mods hA R g d os a p pe m it ts f s0 kt kf kc h B t0 tt ep k2 line tk ch (sgn Q') c t (by rw [sgn_len]; omega) hc D fun h' B' t' ep' k2' D' => ?_
    have := hR h' B' t' ep' k2' tt Q' hQ' D'
    rw [List.map_nil, List.append_nil] at this
    exact this
  | cons i its ih =>
    intro h B t0 tt ep k2 line tk ch Q hQ hsz htk hok D hR
    have ho := hok i List.mem_cons_self
    rw [List.length_cons] at htk
    have go : ∀ (h' : Heap) (B' t' tt' ep' : Nat) (k2' : Nat → Nat) (t : Nat) (Q' : List (Nat × Nat)), Q'.map (·.1) = flatI its ++ c :: y → Q'.length ≤ Q.length → Rep (kt1 w) h₀ mods h' B' (a.led w k2' line (sgn Q') ep' p pe ++ [(m, mthO 76 a.lx), (it, citO m ts), (f, gtF w a s0 kt tt' kf it kc (tk ++ [i.2]) (.str ⟨⟨[i.2]⟩⟩ t))]) [] 0 → codeAny (PP w) A (forOf (gtInner w) (.ref it) (envOf w 83 f q_gt)) R ⟨h', g, d, t', os⟩ := by
      intro h' B' t' tt' ep' k2' t Q' hQ' hl D'
      refine ih h' B' t' tt' ep' k2' line (tk ++ [i.2]) _ Q' hQ' (by omega) (by rw [List.length_append, List.length_singleton]; omega) (fun x hx => hok x (List.mem_cons_of_mem _ hx)) D' fun h3 B3 t3 ep3 k3 tt3 Q3 hQ3 D3 => ?_
      have := hR h3 B3 t3 ep3 k3 tt3 Q3 hQ3 D3
      rw [List.map_cons] at this
      rw [List.append_assoc]
      exact this
    obtain ⟨e, c1⟩ := i
    cases e with
    | false =>
      obtain ⟨t, Q', rfl, hQ'⟩ := cons_of (show Q.map (·.1) = c1 :: (flatI its ++ c :: y) from hQ)
      rw [List.length_cons] at hsz
      rw [sgn_cons] at D
      exact gi_plain w A h₀ mods hA R g d os a p pe m it ts f s0 kt kf kc h B t0 tt ep k2 line tk ch (sgn Q') c1 t (by rw [sgn_len]; omega) (by omega) ho.1 ho.2.1 D fun h' B' t' tt' ep' k2' D' => go h' B' t' tt' ep' k2' t Q' hQ' (by rw [List.length_cons]; omega) D'
    | true =>
      obtain ⟨t2, Q', rfl, hQ'⟩ := cons_of (show Q.map (·.1) = 92 :: c1 :: (flatI its ++ c :: y) from hQ)
      obtain ⟨t, Q', rfl, hQ2⟩ := cons_of hQ'
      rw [List.length_cons, List.length_cons] at hsz
      rw [sgn_cons, sgn_cons] at D
      exact gi_esc w A h₀ mods hA R g d os a p pe m it ts f s0 kt kf kc h B t0 tt ep k2 line tk ch (sgn Q') c1 t t2 (by rw [sgn_len]; omega) (by omega) (okI_10 ho) D fun h' B' t' tt' ep' k2' D' => go h' B' t' tt' ep' k2' t Q' hQ2 (by rw [List.length_cons, List.length_cons]; omega) D'
theorem gi_last (hA : Fit 45 A (kt1 w) h₀) (a : LX) (p : List Value) (pe m it ts f s0 kt kf kc : Nat) :
   ∀ (its : List (Bool × Nat)) (h : Heap) (B t0 tt ep : Nat) (k2 : Nat → Nat) (line : Int) (tk : List Nat) (ch : Value) (Q : List (Nat × Nat)), Q.map (·.1) = flatI its → Q.length ≤ 16776000 → tk.length + its.length ≤ 16777000 → (∀ i ∈ its, okI i) →
   Rep (kt1 w) h₀ mods h B (a.led w k2 line (sgn Q) ep p pe ++ [(m, mthO 76 a.lx), (it, citO m ts), (f, gtF w a s0 kt tt kf it kc tk ch)]) [] 0 →
   (∀ h' B' t' ep' k2' tt' ch', Rep (kt1 w) h₀ mods h' B' (a.led w k2' line [] ep' p pe ++ [(it, citE), (f, gtF w a s0 kt tt' kf it kc (tk ++ its.map (·.2)) ch')]) [] 0 → R (.ok .next) ⟨h', g, d, t', os⟩) →
   codeAny (PP w) A (forOf (gtInner w) (.ref it) (envOf w 83 f q_gt)) R ⟨h, g, d, t0, os⟩ := by
  intro its
  induction its with
  | nil =>
    intro h B t0 tt ep k2 line tk ch Q hQ hsz htk hok D hR
    have : Q = [] := List.map_eq_nil_iff.mp hQ
    subst this
    refine gi_end w A h₀ mods hA R g d os a p pe m it ts f s0 kt kf kc h B t0 tt ep k2 line tk ch D fun h' B' t' D' => ?_
    refine hR h' B' t' ep k2 tt ch ?_
    rw [List.map_nil, List.append_nil]
    exact D'
  | cons i its ih =>
    intro h B t0 tt ep k2 line tk ch Q hQ hsz htk hok D hR
    have ho := hok i List.mem_cons_self
    rw [List.length_cons] at htk
    have go : ∀ (h' : Heap) (B' t' tt' ep' : Nat) (k2' : Nat → Nat) (t : Nat) (Q' : List (Nat × Nat)), Q'.map (·.1) = flatI its → Q'.length ≤ Q.length → Rep (kt1 w) h₀ mods h' B' (a.led w k2' line (sgn Q') ep' p pe ++ [(m, mthO 76 a.lx), (it, citO m ts), (f, gtF w a s0 kt tt' kf it kc (tk ++ [i.2]) (.str ⟨⟨[i.2]⟩⟩ t))]) [] 0 → codeAny (PP w) A (forOf (gtInner w) (.ref it) (envOf w 83 f q_gt)) R ⟨h', g, d, t', os⟩ := by
      intro h' B' t' tt' ep' k2' t Q' hQ' hl D'
      refine ih h' B' t' tt' ep' k2' line (tk ++ [i.2]) _ Q' hQ' (by omega) (by rw [List.length_append, List.length_singleton]; omega) (fun x hx => hok x (List.mem_cons_of_mem _ hx)) D' fun h3 B3 t3 ep3 k3 tt3 ch3 D3 => ?_
      refine hR h3 B3 t3 ep3 k3 tt3 ch3 ?_
      rw [List.map_cons]
      rw [List.append_assoc] at D3
      exact D3
    obtain ⟨e, c1⟩ := i
    cases e with
    | false =>
      obtain ⟨t, Q', rfl, hQ'⟩ := cons_of (show Q.map (·.1) = c1 :: (flatI its) from hQ)
      rw [List.length_cons] at hsz
      rw [sgn_cons] at D
      exact gi_plain w A h₀ mods hA R g d os a p pe m it ts f s0 kt kf kc h B t0 tt ep k2 line tk ch (sgn Q') c1 t (by rw [sgn_len]; omega) (by omega) ho.1 ho.2.1 D fun h' B' t' tt' ep' k2' D' => go h' B' t' tt' ep' k2' t Q' hQ' (by rw [List.length_cons]; omega) D'
    | true =>
      obtain ⟨t2, Q', rfl, hQ'⟩ := cons_of (show Q.map (·.1) = 92 :: c1 :: (flatI its) from hQ)
      obtain ⟨t, Q', rfl, hQ2⟩ := cons_of hQ'
      rw [List.length_cons, List.length_cons] at hsz
      rw [sgn_cons, sgn_cons] at D
      exact gi_esc w A h₀ mods hA R g d os a p pe m it ts f s0 kt kf kc h B t0 tt ep k2 line tk ch (sgn Q') c1 t t2 (by rw [sgn_len]; omega) (by omega) (okI_10 ho) D fun h' B' t' tt' ep' k2' D' => go h' B' t' tt' ep' k2' t Q' hQ2 (by rw [List.length_cons, List.length_cons]; omega) D'
end
end Mine
end
section
open PySem PySem.W PySem.Calls PyProof.Rows
set_option Elab.async false
set_option maxRecDepth 100000
namespace Mine
noncomputable def gtO (w : World) (a : LX) (s0 kt tt kf it : Nat) (tk : List Nat) (dl : List DictEntry) (n : Nat) : Obj := fobj (selfE w s0 a.lx :: ent w n_token kt (.str ⟨⟨tk⟩⟩ tt) :: ent w n_fiter kf (.ref it) :: dl) n
/-- the frame ahead of the first sign, and behind -/
def gtD (w : World) (dl : List DictEntry) (n : Nat) : Prop := (dl = [] ∧ n = 3) ∨ ∃ k v, dl = [ent w n_ch k v] ∧ n = 4
theorem go_ws (w : World) (A : Around) (h₀ : Heap) (mods : List Nat) (hA : Fit 48 A (kt1 w) h₀) (R : Result → Shared → Prop) (g : Array GenState) (d : Drawn) (os : OsState) (a : LX) (p : List Value) (pe m it ts f s0 kt kf : Nat)
   (h : Heap) (B t0 tt ep : Nat) (k2 : Nat → Nat) (line : Int) (tk : List Nat) (dl : List DictEntry) (n : Nat) (hd : gtD w dl n) (q : List Value) (c tq : Nat) (hsz : q.length ≤ 16777000) (h1 : isWs c = true)
   (D : Rep (kt1 w) h₀ mods h B (a.led w k2 line (q ++ [.str ⟨⟨[c]⟩⟩ tq]) ep p pe ++ [(m, mthO 76 a.lx), (it, citO m ts), (f, gtO w a s0 kt tt kf it tk dl n)]) [] 0)
   (hR : ∀ h' B' t' ep' k2' dl' n', gtD w dl' n' → Rep (kt1 w) h₀ mods h' B' (a.led w k2' (line + nl c) q ep' p pe ++ [(m, mthO 76 a.lx), (it, citO m ts), (f, gtO w a s0 kt tt kf it tk dl' n')]) [] 0 → codeAny (PP w) A (forOf (stmtAt w 83 3) (.ref it) (envOf w 83 f q_gt)) R ⟨h', g, d, t', os⟩) :
   codeAny (PP w) A (forOf (stmtAt w 83 3) (.ref it) (envOf w 83 f q_gt)) R ⟨h, g, d, t0, os⟩ := by
  obtain ⟨b1, b2, hw⟩ := parF_ex w
  have hA' := hA.under (forOf (stmtAt w 83 3) (.ref it) (envOf w 83 f q_gt)) (m := 47) (by kernel_rfl)
  have hc : c = 10 ∨ c = 9 ∨ c = 13 ∨ c = 32 := by simpa [isWs] using h1
  refine code_start ?_
  change Means _ _ _ _ _ _ ⟨h, g, d, t0 + 0, os⟩
  (refine segW (t0 := t0) (i := 0) 100000 [11] (Code.call (Value.builtin "callable_iterator.__next__") { pos := [Value.ref it] : Args }) D (by assumption) (by assumption) ?_; intro o21; refine ⟨by kernel_rfl, by kernel_rfl, by kernel_rfl, by kernel_rfl, by kernel_rfl, fun h21 D21 => ?_⟩)
  refine callW_of rfl ?_
  rw [mark_none]
  refine cit_next w _ _ (Fit.inner hA' D21 _ (by kernel_rfl) (by kernel_rfl)) _ _ _ g d os a k2 line ep p pe q c tq m it ts hsz (D21.give [1, 1, 1, 1, 1, 1, 1, 1, 1, 1, 1] (by kernel_rfl)) fun g2 t2 k3 a2 => ?_
  obtain ⟨B2, E2⟩ := D21.backP [1, 1, 1, 1, 1, 1, 1, 1, 1, 1, 1] [0, 1, 2, 3, 4, 5, 6, 7, 8, 9, 10, 11] (a.led w k3 (line + nl c) q (ep + 1) p pe ++ [(m, mthO 76 a.lx), (it, citO m ts), (f, gtO w a s0 kt tt kf it tk dl n)]) (by kernel_rfl) a2 (by kernel_rfl)
  change Means _ _ _ _ (outκ o21) (outK o21 _) ⟨g2, g, d, t2 + 0, os⟩
  rcases hd with ⟨rfl, rfl⟩ | ⟨k, v, rfl, rfl⟩
  · rcases hc with rfl | rfl | rfl | rfl
    · cases b1 <;> (
      (refine segF (t0 := t2) (i := 0) 100000 [12, 12, 12, 12, 1, 0, 0, 0, 1, 1, 0, 0, 0, 1, 1, 0, 2, 1] ((Fin.again (forOf (stmtAt w 83 3) (.ref it) (envOf w 83 f q_gt))) ) E2 (by assumption) (by assumption) ?_; intro o101; refine ⟨by kernel_rfl, by kernel_rfl, by kernel_rfl, fun h101 D101 => ?_⟩)
      obtain ⟨B6, E6⟩ := D101.pickE [0, 1, 2, 3, 4, 5, 6, 7, 8, 9, 10, 11] (a.led w k3 (line + nl 10) q (ep + 1) p pe ++ [(m, mthO 76 a.lx), (it, citO m ts), (f, gtO w a s0 kt tt kf it tk [ent w n_ch t2 (.str ⟨⟨[10]⟩⟩ tq)] 4)]) (by kernel_rfl)
      exact ⟨by kernel_rfl, hR _ _ _ _ _ _ _ (.inr ⟨_, _, rfl, rfl⟩) E6⟩)
    · cases b1 <;> (
      (refine segF (t0 := t2) (i := 0) 100000 [12, 12, 12, 12, 1, 0, 0, 0, 1, 1, 0, 0, 0, 1, 1, 0, 2, 1] ((Fin.again (forOf (stmtAt w 83 3) (.ref it) (envOf w 83 f q_gt))) ) E2 (by assumption) (by assumption) ?_; intro o102; refine ⟨by kernel_rfl, by kernel_rfl, by kernel_rfl, fun h102 D102 => ?_⟩)
      obtain ⟨B6, E6⟩ := D102.pickE [0, 1, 2, 3, 4, 5, 6, 7, 8, 9, 10, 11] (a.led w k3 (line + nl 9) q (ep + 1) p pe ++ [(m, mthO 76 a.lx), (it, citO m ts), (f, gtO w a s0 kt tt kf it tk [ent w n_ch t2 (.str ⟨⟨[9]⟩⟩ tq)] 4)]) (by kernel_rfl)
      exact ⟨by kernel_rfl, hR _ _ _ _ _ _ _ (.inr ⟨_, _, rfl, rfl⟩) E6⟩)
    · cases b1 <;> (
      (refine segF (t0 := t2) (i := 0) 100000 [12, 12, 12, 12, 1, 0, 0, 0, 1, 1, 0, 0, 0, 1, 1, 0, 2, 1] ((Fin.again (forOf (stmtAt w 83 3) (.ref it) (envOf w 83 f q_gt))) ) E2 (by assumption) (by assumption) ?_; intro o103; refine ⟨by kernel_rfl, by kernel_rfl, by kernel_rfl, fun h103 D103 => ?_⟩)
      obtain ⟨B6, E6⟩ := D103.pickE [0, 1, 2, 3, 4, 5, 6, 7, 8, 9, 10, 11] (a.led w k3 (line + nl 13) q (ep + 1) p pe ++ [(m, mthO 76 a.lx), (it, citO m ts), (f, gtO w a s0 kt tt kf it tk [ent w n_ch t2 (.str ⟨⟨[13]⟩⟩ tq)] 4)]) (by kernel_rfl)
      exact ⟨by kernel_rfl, hR _ _ _ _ _ _ _ (.inr ⟨_, _, rfl, rfl⟩) E6⟩)
    · cases b1 <;> (
      (refine segF (t0 := t2) (i := 0) 100000 [12, 12, 12, 12, 1, 0, 0, 0, 1, 1, 0, 0, 0, 1, 1, 0, 2, 1] ((Fin.again (forOf (stmtAt w 83 3) (.ref it) (envOf w 83 f q_gt))) ) E2 (by assumption) (by assumption) ?_; intro o104; refine ⟨by kernel_rfl, by kernel_rfl, by kernel_rfl, fun h104 D104 => ?_⟩)
      obtain ⟨B6, E6⟩ := D104.pickE [0, 1, 2, 3, 4, 5, 6, 7, 8, 9, 10, 11] (a.led w k3 (line + nl 32) q (ep + 1) p pe ++ [(m, mthO 76 a.lx), (it, citO m ts), (f, gtO w a s0 kt tt kf it tk [ent w n_ch t2 (.str ⟨⟨[32]⟩⟩ tq)] 4)]) (by kernel_rfl)
      exact ⟨by kernel_rfl, hR _ _ _ _ _ _ _ (.inr ⟨_, _, rfl, rfl⟩) E6⟩)
  · rcases hc with rfl | rfl | rfl | rfl
    · cases b1 <;> (
      (refine segF (t0 := t2) (i := 0) 100000 [12, 12, 12, 12, 1, 0, 0, 0, 1, 1, 0, 0, 0, 1, 1, 0, 2, 1] ((Fin.again (forOf (stmtAt w 83 3) (.ref it) (envOf w 83 f q_gt))) ) E2 (by assumption) (by assumption) ?_; intro o105; refine ⟨by kernel_rfl, by kernel_rfl, by kernel_rfl, fun h105 D105 => ?_⟩)
      obtain ⟨B6, E6⟩ := D105.pickE [0, 1, 2, 3, 4, 5, 6, 7, 8, 9, 10, 11] (a.led w k3 (line + nl 10) q (ep + 1) p pe ++ [(m, mthO 76 a.lx), (it, citO m ts), (f, gtO w a s0 kt tt kf it tk [ent w n_ch k (.str ⟨⟨[10]⟩⟩ tq)] 4)]) (by kernel_rfl)
      exact ⟨by kernel_rfl, hR _ _ _ _ _ _ _ (.inr ⟨_, _, rfl, rfl⟩) E6⟩)
    · cases b1 <;> (
      (refine segF (t0 := t2) (i := 0) 100000 [12, 12, 12, 12, 1, 0, 0, 0, 1, 1, 0, 0, 0, 1, 1, 0, 2, 1] ((Fin.again (forOf (stmtAt w 83 3) (.ref it) (envOf w 83 f q_gt))) ) E2 (by assumption) (by assumption) ?_; intro o106; refine ⟨by kernel_rfl, by kernel_rfl, by kernel_rfl, fun h106 D106 => ?_⟩)
      obtain ⟨B6, E6⟩ := D106.pickE [0, 1, 2, 3, 4, 5, 6, 7, 8, 9, 10, 11] (a.led w k3 (line + nl 9) q (ep + 1) p pe ++ [(m, mthO 76 a.lx), (it, citO m ts), (f, gtO w a s0 kt tt kf it tk [ent w n_ch k (.str ⟨⟨[9]⟩⟩ tq)] 4)]) (by kernel_rfl)
      exact ⟨by kernel_rfl, hR _ _ _ _ _ _ _ (.inr ⟨_, _, rfl, rfl⟩) E6⟩)
    · cases b1 <;> (
      (refine segF (t0 := t2) (i := 0) 100000 [12, 12, 12, 12, 1, 0, 0, 0, 1, 1, 0, 0, 0, 1, 1, 0, 2, 1] ((Fin.again (forOf (stmtAt w 83 3) (.ref it) (envOf w 83 f q_gt))) ) E2 (by assumption) (by assumption) ?_; intro o107; refine ⟨by kernel_rfl, by kernel_rfl, by kernel_rfl, fun h107 D107 => ?_⟩)
      obtain ⟨B6, E6⟩ := D107.pickE [0, 1, 2, 3, 4, 5, 6, 7, 8, 9, 10, 11] (a.led w k3 (line + nl 13) q (ep + 1) p pe ++ [(m, mthO 76 a.lx), (it, citO m ts), (f, gtO w a s0 kt tt kf it tk [ent w n_ch k (.str ⟨⟨[13]⟩⟩ tq)] 4)]) (by kernel_rfl)
      exact ⟨by kernel_rfl, hR _ _ _ _ _ _ _ (.inr ⟨_, _, rfl, rfl⟩) E6⟩)
    · cases b1 <;> (
      (refine segF (t0 := t2) (i := 0) 100000 [12, 12, 12, 12, 1, 0, 0, 0, 1, 1, 0, 0, 0, 1, 1, 0, 2, 1] ((Fin.again (forOf (stmtAt w 83 3) (.ref it) (envOf w 83 f q_gt))) ) E2 (by assumption) (by assumption) ?_; intro o108; refine ⟨by kernel_rfl, by kernel_rfl, by kernel_rfl, fun h108 D108 => ?_⟩)
      obtain ⟨B6, E6⟩ := D108.pickE [0, 1, 2, 3, 4, 5, 6, 7, 8, 9, 10, 11] (a.led w k3 (line + nl 32) q (ep + 1) p pe ++ [(m, mthO 76 a.lx), (it, citO m ts), (f, gtO w a s0 kt tt kf it tk [ent w n_ch k (.str ⟨⟨[32]⟩⟩ tq)] 4)]) (by kernel_rfl)
      exact ⟨by kernel_rfl, hR _ _ _ _ _ _ _ (.inr ⟨_, _, rfl, rfl⟩) E6⟩)
end Mine
end
section
open PySem PySem.W PySem.Calls PyProof.Rows
set_option Elab.async false
set_option maxRecDepth 100000
namespace Mine
theorem go_done (w : World) (A : Around) (h₀ : Heap) (mods : List Nat) (hA : Fit 48 A (kt1 w) h₀) (R : Result → Shared → Prop) (g : Array GenState) (d : Drawn) (os : OsState) (it f : Nat) (fo : Obj)
   (h : Heap) (B t0 : Nat) (X : Led)
   (D : Rep (kt1 w) h₀ mods h B [(it, citE), (f, fo)] X 0)
   (hR : ∀ h' B' t', Rep (kt1 w) h₀ mods h' B' [(f, fo)] X 0 → R (.ok .next) ⟨h', g, d, t', os⟩) :
   codeAny (PP w) A (forOf (stmtAt w 83 3) (.ref it) (envOf w 83 f q_gt)) R ⟨h, g, d, t0, os⟩ := by
  obtain ⟨b1, b2, hw⟩ := parF_ex w
  have hA' := hA.under (forOf (stmtAt w 83 3) (.ref it) (envOf w 83 f q_gt)) (m := 47) (by kernel_rfl)
  refine code_start ?_
  change Means _ _ _ _ _ _ ⟨h, g, d, t0 + 0, os⟩
  (refine segW (t0 := t0) (i := 0) 100000 [1] (Code.call (Value.builtin "callable_iterator.__next__") { pos := [Value.ref it] : Args }) D (by assumption) (by assumption) ?_; intro o31; refine ⟨by kernel_rfl, by kernel_rfl, by kernel_rfl, by kernel_rfl, by kernel_rfl, fun h31 D31 => ?_⟩)
  refine callW_of rfl ?_
  rw [mark_none]
  refine cit_done w _ _ (Fit.inner hA' D31 _ (by kernel_rfl) (by kernel_rfl)) _ _ _ g d os it (D31.give [1] (by kernel_rfl)) fun g2 t2 x y a2 => ?_
  obtain ⟨B2, E2⟩ := D31.backP [1] [0, 1, 2, 3] [(it, citE), (y, tupO []), (x, stopO y), (f, fo)] (by kernel_rfl) a2 (by kernel_rfl)
  change Means _ _ _ _ (outκ o31) (outK o31 _) ⟨g2, g, d, t2 + 0, os⟩
  (refine segF (t0 := t2) (i := 0) 100000 [3] ((Fin.again (Code.block [] (envOf w 83 f q_gt))) ) E2 (by assumption) (by assumption) ?_; intro o32; refine ⟨by kernel_rfl, by kernel_rfl, by kernel_rfl, fun h32 D32 => ?_⟩)
  obtain ⟨B3, E3⟩ := D32.pickE [3] [(f, fo)] (by kernel_rfl)
  have hA2 := hA.under (Code.block [] (envOf w 83 f q_gt)) (m := 0) (by kernel_rfl)
  refine ⟨by kernel_rfl, code_start ?_⟩
  change Means _ _ _ _ _ _ ⟨h32, g, d, (t2 + outI o32) + 0, os⟩
  (refine segF (t0 := t2 + outI o32) (i := 0) 100000 [] (Fin.done Flow.next) E3 (by assumption) (by assumption) ?_; intro o33; refine ⟨by kernel_rfl, by kernel_rfl, by kernel_rfl, fun h33 D33 => ?_⟩)
  obtain ⟨B4, E4⟩ := D33.pickE [0] [(f, fo)] (by kernel_rfl)
  exact hR _ _ _ E4
set_option maxHeartbeats 2000000 in
set_option maxHeartbeats 2000000 in
theorem go_plain (w : World) (A : Around) (h₀ : Heap) (mods : List Nat) (hA : Fit 48 A (kt1 w) h₀) (R : Result → Shared → Prop) (g : Array GenState) (d : Drawn) (os : OsState) (a : LX) (p : List Value) (pe m it ts f s0 kt kf : Nat)
   (h : Heap) (B t0 tt ep : Nat) (k2 : Nat → Nat) (line : Int) (dl : List DictEntry) (n : Nat) (hd : gtD w dl n) (q : List Value) (c tq : Nat) (hsz : q.length ≤ 16776000) (h1 : okI (false, c))
   (Pr : List Nat → Int → List Value → Prop) (Pn : List Nat → Prop)
   (hI : ∀ (A' : Around) (R' : Result → Shared → Prop) (h' : Heap) (B' t' tt' ep' : Nat) (k2' : Nat → Nat) (kc : Nat), Fit 45 A' (kt1 w) h₀ → Rep (kt1 w) h₀ mods h' B' (a.led w k2' line q ep' p pe ++ [(m, mthO 76 a.lx), (it, citO m ts), (f, gtF w a s0 kt tt' kf it kc [c] (.str ⟨⟨[c]⟩⟩ tq))]) [] 0 →
     (∀ h2 B2 t2 ep2 k3 line2 q2 tk tt2, Rep (kt1 w) h₀ mods h2 B2 (a.led w k3 line2 q2 ep2 p pe) [] 0 → Pr tk line2 q2 → R' (.ok (.ret (.str ⟨⟨tk⟩⟩ tt2))) ⟨h2, g, d, t2, os⟩) → (∀ h2 B2 t2 ep2 k3 tt2 tk ch, Rep (kt1 w) h₀ mods h2 B2 (a.led w k3 line [] ep2 p pe ++ [(it, citE), (f, gtF w a s0 kt tt2 kf it kc tk ch)]) [] 0 → Pn tk → R' (.ok .next) ⟨h2, g, d, t2, os⟩) →
     codeAny (PP w) A' (forOf (gtInner w) (.ref it) (envOf w 83 f q_gt)) R' ⟨h', g, d, t', os⟩)
   (D : Rep (kt1 w) h₀ mods h B (a.led w k2 line (q ++ [.str ⟨⟨[c]⟩⟩ tq]) ep p pe ++ [(m, mthO 76 a.lx), (it, citO m ts), (f, gtO w a s0 kt tt kf it [] dl n)]) [] 0)
   (hR : ∀ h2 B2 t2 ep2 k3 line2 q2 tk tt2, Rep (kt1 w) h₀ mods h2 B2 (a.led w k3 line2 q2 ep2 p pe) [] 0 → Pr tk line2 q2 → R (.ok (.ret (.str ⟨⟨tk⟩⟩ tt2))) ⟨h2, g, d, t2, os⟩)
   (hN : ∀ h2 B2 t2 ep2 k3 tt2 kc tk ch, Rep (kt1 w) h₀ mods h2 B2 (a.led w k3 line [] ep2 p pe ++ [(f, gtF w a s0 kt tt2 kf it kc tk ch)]) [] 0 → Pn tk → R (.ok .next) ⟨h2, g, d, t2, os⟩) :
   codeAny (PP w) A (forOf (stmtAt w 83 3) (.ref it) (envOf w 83 f q_gt)) R ⟨h, g, d, t0, os⟩ := by
  obtain ⟨b1, b2, hw⟩ := parF_ex w
  have hA' := hA.under (forOf (stmtAt w 83 3) (.ref it) (envOf w 83 f q_gt)) (m := 47) (by kernel_rfl)
  have hc1 : c ≠ 10 ∧ c ≠ 9 ∧ c ≠ 13 ∧ c ≠ 32 := by simpa [isWs] using h1.1
  obtain ⟨c1, c2, c3, c4⟩ := hc1
  have hn : nl c = 0 := if_neg c1
  refine code_start ?_
  change Means _ _ _ _ _ _ ⟨h, g, d, t0 + 0, os⟩
  (refine segW (t0 := t0) (i := 0) 100000 [11] (Code.call (Value.builtin "callable_iterator.__next__") { pos := [Value.ref it] : Args }) D (by assumption) (by assumption) ?_; intro o11; refine ⟨by kernel_rfl, by kernel_rfl, by kernel_rfl, by kernel_rfl, by kernel_rfl, fun h11 D11 => ?_⟩)
  refine callW_of rfl ?_
  rw [mark_none]
  refine cit_next w _ _ (Fit.inner hA' D11 _ (by kernel_rfl) (by kernel_rfl)) _ _ _ g d os a k2 line ep p pe q c tq m it ts (by omega) (D11.give [1, 1, 1, 1, 1, 1, 1, 1, 1, 1, 1] (by kernel_rfl)) fun g2 t2 k3 a2 => ?_
  rw [hn, Int.add_zero] at a2
  obtain ⟨B2, E2⟩ := D11.backP [1, 1, 1, 1, 1, 1, 1, 1, 1, 1, 1] [0, 1, 2, 3, 4, 5, 6, 7, 8, 9, 10, 11] (a.led w k3 line q (ep + 1) p pe ++ [(m, mthO 76 a.lx), (it, citO m ts), (f, gtO w a s0 kt tt kf it [] dl n)]) (by kernel_rfl) a2 (by kernel_rfl)
  change Means _ _ _ _ (outκ o11) (outK o11 _) ⟨g2, g, d, t2 + 0, os⟩
  rcases hd with ⟨rfl, rfl⟩ | ⟨k, v, rfl, rfl⟩
  · (refine segW (t0 := t2) (i := 0) 100000 [12, 12, 12, 12, 1, 0, 0, 0, 1, 1, 0, 0, 0, 1, 1, 0, 2] (Code.call (Value.builtin "str.__contains__") { pos := [Value.str { cps := { toList := [10, 9, 13, 32] : Array Nat } : Str } (k3 4), Value.str { cps := { toList := [c] : Array Nat } : Str } tq] : Args }) E2 (by assumption) (by assumption) ?_; intro o1102; refine ⟨by kernel_rfl, by kernel_rfl, by kernel_rfl, by kernel_rfl, by kernel_rfl, fun h1102 D1102 => ?_⟩)
    refine callW_of rfl ?_
    rw [mark_none]
    refine r_sin _ _ _ _ false (occ_ws c c1 c2 c3 c4) ?_
    obtain ⟨B3, E3⟩ := D1102.pickE [0, 1, 2, 3, 4, 5, 6, 7, 8, 9, 10, 11] (a.led w k3 line q (ep + 1) p pe ++ [(m, mthO 76 a.lx), (it, citO m ts), (f, gtF w a s0 kt tt kf it t2 [] (.str ⟨⟨[c]⟩⟩ tq))]) (by kernel_rfl)
    change Means _ _ _ _ (outκ o1102) (outK o1102 _) ⟨h1102, g, d, _ + 0, os⟩
    cases b1 <;> (
      (refine segW (t0 := Nat.succ (Nat.add t2 1)) (i := 0) 100000 [12] (Code.call (Value.builtin "str.__eq__") { pos := [Value.str { cps := { toList := [c] : Array Nat } : Str } tq, Value.str { cps := { toList := [34] : Array Nat } : Str } (t2 + 2)] : Args }) D1102 (by assumption) (by assumption) ?_; intro o1103; refine ⟨by kernel_rfl, by kernel_rfl, by kernel_rfl, by kernel_rfl, by kernel_rfl, fun h1103 D1103 => ?_⟩)
      refine callW_of rfl ?_
      rw [mark_none]
      refine r_seq [c] [34] _ _ false (by simp [h1.2.2]) ?_
      obtain ⟨B4, E4⟩ := D1103.pickE [0, 1, 2, 3, 4, 5, 6, 7, 8, 9, 10, 11] (a.led w k3 line q (ep + 1) p pe ++ [(m, mthO 76 a.lx), (it, citO m ts), (f, gtF w a s0 kt tt kf it t2 [] (.str ⟨⟨[c]⟩⟩ tq))]) (by kernel_rfl)
      change Means _ _ _ _ (outκ o1103) (outK o1103 _) ⟨h1103, g, d, _ + 0, os⟩
      (refine segW (t0 := Nat.succ (Nat.add (Nat.succ (Nat.add t2 1)) 0)) (i := 0) 100000 [12] (Code.call (Value.builtin "str.__eq__") { pos := [Value.str { cps := { toList := [c] : Array Nat } : Str } tq, Value.str { cps := { toList := [92] : Array Nat } : Str } (t2 + 3)] : Args }) E4 (by assumption) (by assumption) ?_; intro o1107; refine ⟨by kernel_rfl, by kernel_rfl, by kernel_rfl, by kernel_rfl, by kernel_rfl, fun h1107 D1107 => ?_⟩)
      refine callW_of rfl ?_
      rw [mark_none]
      refine r_seq [c] [92] _ _ false (by simp [h1.2.1]) ?_
      obtain ⟨B9, E9⟩ := D1107.pickE [0, 1, 2, 3, 4, 5, 6, 7, 8, 9, 10, 11] (a.led w k3 line q (ep + 1) p pe ++ [(m, mthO 76 a.lx), (it, citO m ts), (f, gtF w a s0 kt tt kf it t2 [] (.str ⟨⟨[c]⟩⟩ tq))]) (by kernel_rfl)
      change Means _ _ _ _ (outκ o1107) (outK o1107 _) ⟨h1107, g, d, _ + 0, os⟩
      (refine segW (t0 := Nat.succ (Nat.add (Nat.succ (Nat.add (Nat.succ (Nat.add t2 1)) 0)) 0)) (i := 0) 100000 [12, 12] (Code.call (Value.builtin "str.__add__") { pos := [Value.str { cps := { toList := [] : Array Nat } : Str } tt, Value.str { cps := { toList := [c] : Array Nat } : Str } tq] : Args }) E9 (by assumption) (by assumption) ?_; intro o1104; refine ⟨by kernel_rfl, by kernel_rfl, by kernel_rfl, by kernel_rfl, by kernel_rfl, fun h1104 D1104 => ?_⟩)
      refine r_sadd [] [c] _ _ (by show 0 + 1 ≤ _; omega) fun t4 u4 => ?_
      obtain ⟨B5, E5⟩ := D1104.pickE [0, 1, 2, 3, 4, 5, 6, 7, 8, 9, 10, 11] (a.led w k3 line q (ep + 1) p pe ++ [(m, mthO 76 a.lx), (it, citO m ts), (f, gtF w a s0 kt tt kf it t2 [] (.str ⟨⟨[c]⟩⟩ tq))]) (by kernel_rfl)
      change Means _ _ _ _ (outκ o1104) (outK o1104 _) ⟨h1104, g, d, u4 + 0, os⟩
      (refine segL (t0 := u4) (i := 0) 100000 [12, 12, 12, 11, 11, 1, 11, 11] ((forOf (gtInner w) (.ref it) (envOf w 83 f q_gt)) ) E5 (by assumption) (by assumption) ?_; intro o1105; refine ⟨by kernel_rfl, by kernel_rfl, by kernel_rfl, by kernel_rfl, fun h1105 D1105 => ?_⟩)
      obtain ⟨B6, E6⟩ := D1105.pickE [0, 1, 2, 3, 4, 5, 6, 7, 8, 9, 10, 11] (a.led w k3 line q (ep + 1) p pe ++ [(m, mthO 76 a.lx), (it, citO m ts), (f, gtF w a s0 kt t4 kf it t2 [c] (.str ⟨⟨[c]⟩⟩ tq))]) (by kernel_rfl)
      refine hI _ _ _ _ _ _ _ _ _ (Fit.ar (hA'.less (m := 47) (by kernel_rfl)) _ (by kernel_rfl) (by kernel_rfl)) E6 (fun h7 B7 t7 ep7 k7 line7 q7 tk7 tt7 E7 hP => ?_) (fun h7 B7 t7 ep2 k5 tt2 tk ch E7 hP => ?_)
      · change Means _ _ _ _ (outκ o1105) (outK o1105 _) ⟨h7, g, d, t7 + 0, os⟩
        (refine segF (t0 := t7) (i := 0) 100000 [] (Fin.done (Flow.ret (Value.str { cps := { toList := tk7 : Array Nat } : Str } tt7))) E7 (by assumption) (by assumption) ?_; intro o1108; refine ⟨by kernel_rfl, by kernel_rfl, by kernel_rfl, fun h1108 D1108 => ?_⟩)
        obtain ⟨B8, E8⟩ := D1108.pickE [0, 1, 2, 3, 4, 5, 6, 7, 8] (a.led w k7 line7 q7 ep7 p pe) (by kernel_rfl)
        exact hR _ _ _ _ _ _ _ _ _ E8 hP
      · change Means _ _ _ _ (outκ o1105) (outK o1105 _) ⟨h7, g, d, t7 + 0, os⟩
        (refine segF (t0 := t7) (i := 0) 100000 [] ((Fin.again (forOf (stmtAt w 83 3) (.ref it) (envOf w 83 f q_gt))) ) E7 (by assumption) (by assumption) ?_; intro o1106; refine ⟨by kernel_rfl, by kernel_rfl, by kernel_rfl, fun h1106 D1106 => ?_⟩)
        obtain ⟨B8, E8⟩ := D1106.partE [9, 10] [0, 1, 2, 3, 4, 5, 6, 7, 8] [(it, citE), (f, gtF w a s0 kt tt2 kf it t2 tk ch)] (a.led w k5 line [] ep2 p pe) (by kernel_rfl) (by kernel_rfl)
        refine ⟨by kernel_rfl, go_done w A h₀ mods hA _ g d os it f _ _ _ _ _ E8 fun h9 B9 t9 E9 => ?_⟩
        exact hN _ _ _ _ _ _ _ _ _ (E9.perm (by rw [List.append_nil]; exact List.perm_append_comm)) hP)
  · (refine segW (t0 := t2) (i := 0) 100000 [12, 12, 12, 12, 1, 0, 0, 0, 1, 1, 0, 0, 0, 1, 1, 0, 2] (Code.call (Value.builtin "str.__contains__") { pos := [Value.str { cps := { toList := [10, 9, 13, 32] : Array Nat } : Str } (k3 4), Value.str { cps := { toList := [c] : Array Nat } : Str } tq] : Args }) E2 (by assumption) (by assumption) ?_; intro o1202; refine ⟨by kernel_rfl, by kernel_rfl, by kernel_rfl, by kernel_rfl, by kernel_rfl, fun h1202 D1202 => ?_⟩)
    refine callW_of rfl ?_
    rw [mark_none]
    refine r_sin _ _ _ _ false (occ_ws c c1 c2 c3 c4) ?_
    obtain ⟨B3, E3⟩ := D1202.pickE [0, 1, 2, 3, 4, 5, 6, 7, 8, 9, 10, 11] (a.led w k3 line q (ep + 1) p pe ++ [(m, mthO 76 a.lx), (it, citO m ts), (f, gtF w a s0 kt tt kf it k [] (.str ⟨⟨[c]⟩⟩ tq))]) (by kernel_rfl)
    change Means _ _ _ _ (outκ o1202) (outK o1202 _) ⟨h1202, g, d, _ + 0, os⟩
    cases b1 <;> (
      (refine segW (t0 := Nat.succ (Nat.add t2 1)) (i := 0) 100000 [12] (Code.call (Value.builtin "str.__eq__") { pos := [Value.str { cps := { toList := [c] : Array Nat } : Str } tq, Value.str { cps := { toList := [34] : Array Nat } : Str } (t2 + 2)] : Args }) D1202 (by assumption) (by assumption) ?_; intro o1203; refine ⟨by kernel_rfl, by kernel_rfl, by kernel_rfl, by kernel_rfl, by kernel_rfl, fun h1203 D1203 => ?_⟩)
      refine callW_of rfl ?_
      rw [mark_none]
      refine r_seq [c] [34] _ _ false (by simp [h1.2.2]) ?_
      obtain ⟨B4, E4⟩ := D1203.pickE [0, 1, 2, 3, 4, 5, 6, 7, 8, 9, 10, 11] (a.led w k3 line q (ep + 1) p pe ++ [(m, mthO 76 a.lx), (it, citO m ts), (f, gtF w a s0 kt tt kf it k [] (.str ⟨⟨[c]⟩⟩ tq))]) (by kernel_rfl)
      change Means _ _ _ _ (outκ o1203) (outK o1203 _) ⟨h1203, g, d, _ + 0, os⟩
      (refine segW (t0 := Nat.succ (Nat.add (Nat.succ (Nat.add t2 1)) 0)) (i := 0) 100000 [12] (Code.call (Value.builtin "str.__eq__") { pos := [Value.str { cps := { toList := [c] : Array Nat } : Str } tq, Value.str { cps := { toList := [92] : Array Nat } : Str } (t2 + 3)] : Args }) E4 (by assumption) (by assumption) ?_; intro o1207; refine ⟨by kernel_rfl, by kernel_rfl, by kernel_rfl, by kernel_rfl, by kernel_rfl, fun h1207 D1207 => ?_⟩)
      refine callW_of rfl ?_
      rw [mark_none]
      refine r_seq [c] [92] _ _ false (by simp [h1.2.1]) ?_
      obtain ⟨B9, E9⟩ := D1207.pickE [0, 1, 2, 3, 4, 5, 6, 7, 8, 9, 10, 11] (a.led w k3 line q (ep + 1) p pe ++ [(m, mthO 76 a.lx), (it, citO m ts), (f, gtF w a s0 kt tt kf it k [] (.str ⟨⟨[c]⟩⟩ tq))]) (by kernel_rfl)
      change Means _ _ _ _ (outκ o1207) (outK o1207 _) ⟨h1207, g, d, _ + 0, os⟩
      (refine segW (t0 := Nat.succ (Nat.add (Nat.succ (Nat.add (Nat.succ (Nat.add t2 1)) 0)) 0)) (i := 0) 100000 [12, 12] (Code.call (Value.builtin "str.__add__") { pos := [Value.str { cps := { toList := [] : Array Nat } : Str } tt, Value.str { cps := { toList := [c] : Array Nat } : Str } tq] : Args }) E9 (by assumption) (by assumption) ?_; intro o1204; refine ⟨by kernel_rfl, by kernel_rfl, by kernel_rfl, by kernel_rfl, by kernel_rfl, fun h1204 D1204 => ?_⟩)
      refine r_sadd [] [c] _ _ (by show 0 + 1 ≤ _; omega) fun t4 u4 => ?_
      obtain ⟨B5, E5⟩ := D1204.pickE [0, 1, 2, 3, 4, 5, 6, 7, 8, 9, 10, 11] (a.led w k3 line q (ep + 1) p pe ++ [(m, mthO 76 a.lx), (it, citO m ts), (f, gtF w a s0 kt tt kf it k [] (.str ⟨⟨[c]⟩⟩ tq))]) (by kernel_rfl)
      change Means _ _ _ _ (outκ o1204) (outK o1204 _) ⟨h1204, g, d, u4 + 0, os⟩
      (refine segL (t0 := u4) (i := 0) 100000 [12, 12, 12, 11, 11, 1, 11, 11] ((forOf (gtInner w) (.ref it) (envOf w 83 f q_gt)) ) E5 (by assumption) (by assumption) ?_; intro o1205; refine ⟨by kernel_rfl, by kernel_rfl, by kernel_rfl, by kernel_rfl, fun h1205 D1205 => ?_⟩)
      obtain ⟨B6, E6⟩ := D1205.pickE [0, 1, 2, 3, 4, 5, 6, 7, 8, 9, 10, 11] (a.led w k3 line q (ep + 1) p pe ++ [(m, mthO 76 a.lx), (it, citO m ts), (f, gtF w a s0 kt t4 kf it k [c] (.str ⟨⟨[c]⟩⟩ tq))]) (by kernel_rfl)
      refine hI _ _ _ _ _ _ _ _ _ (Fit.ar (hA'.less (m := 47) (by kernel_rfl)) _ (by kernel_rfl) (by kernel_rfl)) E6 (fun h7 B7 t7 ep7 k7 line7 q7 tk7 tt7 E7 hP => ?_) (fun h7 B7 t7 ep2 k5 tt2 tk ch E7 hP => ?_)
      · change Means _ _ _ _ (outκ o1205) (outK o1205 _) ⟨h7, g, d, t7 + 0, os⟩
        (refine segF (t0 := t7) (i := 0) 100000 [] (Fin.done (Flow.ret (Value.str { cps := { toList := tk7 : Array Nat } : Str } tt7))) E7 (by assumption) (by assumption) ?_; intro o1208; refine ⟨by kernel_rfl, by kernel_rfl, by kernel_rfl, fun h1208 D1208 => ?_⟩)
        obtain ⟨B8, E8⟩ := D1208.pickE [0, 1, 2, 3, 4, 5, 6, 7, 8] (a.led w k7 line7 q7 ep7 p pe) (by kernel_rfl)
        exact hR _ _ _ _ _ _ _ _ _ E8 hP
      · change Means _ _ _ _ (outκ o1205) (outK o1205 _) ⟨h7, g, d, t7 + 0, os⟩
        (refine segF (t0 := t7) (i := 0) 100000 [] ((Fin.again (forOf (stmtAt w 83 3) (.ref it) (envOf w 83 f q_gt))) ) E7 (by assumption) (by assumption) ?_; intro o1206; refine ⟨by kernel_rfl, by kernel_rfl, by kernel_rfl, fun h1206 D1206 => ?_⟩)
        obtain ⟨B8, E8⟩ := D1206.partE [9, 10] [0, 1, 2, 3, 4, 5, 6, 7, 8] [(it, citE), (f, gtF w a s0 kt tt2 kf it k tk ch)] (a.led w k5 line [] ep2 p pe) (by kernel_rfl) (by kernel_rfl)
        refine ⟨by kernel_rfl, go_done w A h₀ mods hA _ g d os it f _ _ _ _ _ E8 fun h9 B9 t9 E9 => ?_⟩
        exact hN _ _ _ _ _ _ _ _ _ (E9.perm (by rw [List.append_nil]; exact List.perm_append_comm)) hP)
set_option maxHeartbeats 2000000 in
theorem go_esc (w : World) (A : Around) (h₀ : Heap) (mods : List Nat) (hA : Fit 48 A (kt1 w) h₀) (R : Result → Shared → Prop) (g : Array GenState) (d : Drawn) (os : OsState) (a : LX) (p : List Value) (pe m it ts f s0 kt kf : Nat)
   (h : Heap) (B t0 tt ep : Nat) (k2 : Nat → Nat) (line : Int) (dl : List DictEntry) (n : Nat) (hd : gtD w dl n) (q : List Value) (c tq tq2 : Nat) (hsz : q.length ≤ 16776000) (h1 : okI (true, c))
   (Pr : List Nat → Int → List Value → Prop) (Pn : List Nat → Prop)
   (hI : ∀ (A' : Around) (R' : Result → Shared → Prop) (h' : Heap) (B' t' tt' ep' : Nat) (k2' : Nat → Nat) (kc : Nat), Fit 45 A' (kt1 w) h₀ → Rep (kt1 w) h₀ mods h' B' (a.led w k2' line q ep' p pe ++ [(m, mthO 76 a.lx), (it, citO m ts), (f, gtF w a s0 kt tt' kf it kc [c] (.str ⟨⟨[c]⟩⟩ tq))]) [] 0 →
     (∀ h2 B2 t2 ep2 k3 line2 q2 tk tt2, Rep (kt1 w) h₀ mods h2 B2 (a.led w k3 line2 q2 ep2 p pe) [] 0 → Pr tk line2 q2 → R' (.ok (.ret (.str ⟨⟨tk⟩⟩ tt2))) ⟨h2, g, d, t2, os⟩) → (∀ h2 B2 t2 ep2 k3 tt2 tk ch, Rep (kt1 w) h₀ mods h2 B2 (a.led w k3 line [] ep2 p pe ++ [(it, citE), (f, gtF w a s0 kt tt2 kf it kc tk ch)]) [] 0 → Pn tk → R' (.ok .next) ⟨h2, g, d, t2, os⟩) →
     codeAny (PP w) A' (forOf (gtInner w) (.ref it) (envOf w 83 f q_gt)) R' ⟨h', g, d, t', os⟩)
   (D : Rep (kt1 w) h₀ mods h B (a.led w k2 line (q ++ [.str ⟨⟨[c]⟩⟩ tq] ++ [.str ⟨⟨[92]⟩⟩ tq2]) ep p pe ++ [(m, mthO 76 a.lx), (it, citO m ts), (f, gtO w a s0 kt tt kf it [] dl n)]) [] 0)
   (hR : ∀ h2 B2 t2 ep2 k3 line2 q2 tk tt2, Rep (kt1 w) h₀ mods h2 B2 (a.led w k3 line2 q2 ep2 p pe) [] 0 → Pr tk line2 q2 → R (.ok (.ret (.str ⟨⟨tk⟩⟩ tt2))) ⟨h2, g, d, t2, os⟩)
   (hN : ∀ h2 B2 t2 ep2 k3 tt2 kc tk ch, Rep (kt1 w) h₀ mods h2 B2 (a.led w k3 line [] ep2 p pe ++ [(f, gtF w a s0 kt tt2 kf it kc tk ch)]) [] 0 → Pn tk → R (.ok .next) ⟨h2, g, d, t2, os⟩) :
   codeAny (PP w) A (forOf (stmtAt w 83 3) (.ref it) (envOf w 83 f q_gt)) R ⟨h, g, d, t0, os⟩ := by
  obtain ⟨b1, b2, hw⟩ := parF_ex w
  have hA' := hA.under (forOf (stmtAt w 83 3) (.ref it) (envOf w 83 f q_gt)) (m := 47) (by kernel_rfl)
  have hc1 : c ≠ 10 ∧ c ≠ 9 ∧ c ≠ 13 ∧ c ≠ 32 := by simpa [isWs] using h1.1
  obtain ⟨c1, c2, c3, c4⟩ := hc1
  have hn : nl c = 0 := if_neg c1
  refine code_start ?_
  change Means _ _ _ _ _ _ ⟨h, g, d, t0 + 0, os⟩
  (refine segW (t0 := t0) (i := 0) 100000 [11] (Code.call (Value.builtin "callable_iterator.__next__") { pos := [Value.ref it] : Args }) D (by assumption) (by assumption) ?_; intro o11; refine ⟨by kernel_rfl, by kernel_rfl, by kernel_rfl, by kernel_rfl, by kernel_rfl, fun h11 D11 => ?_⟩)
  refine callW_of rfl ?_
  rw [mark_none]
  refine cit_next w _ _ (Fit.inner hA' D11 _ (by kernel_rfl) (by kernel_rfl)) _ _ _ g d os a k2 line ep p pe (q ++ [.str ⟨⟨[c]⟩⟩ tq]) 92 tq2 m it ts (by rw [List.length_append, List.length_singleton]; omega) (D11.give [1, 1, 1, 1, 1, 1, 1, 1, 1, 1, 1] (by kernel_rfl)) fun g2 t2 k3 a2 => ?_
  rw [show nl 92 = 0 from rfl, Int.add_zero] at a2
  obtain ⟨B2, E2⟩ := D11.backP [1, 1, 1, 1, 1, 1, 1, 1, 1, 1, 1] [0, 1, 2, 3, 4, 5, 6, 7, 8, 9, 10, 11] (a.led w k3 line (q ++ [.str ⟨⟨[c]⟩⟩ tq]) (ep + 1) p pe ++ [(m, mthO 76 a.lx), (it, citO m ts), (f, gtO w a s0 kt tt kf it [] dl n)]) (by kernel_rfl) a2 (by kernel_rfl)
  change Means _ _ _ _ (outκ o11) (outK o11 _) ⟨g2, g, d, t2 + 0, os⟩
  rcases hd with ⟨rfl, rfl⟩ | ⟨k, v, rfl, rfl⟩
  · cases b1 <;> (
      (refine segL (t0 := t2) (i := 0) 100000 [12, 12, 12, 12, 1, 0, 0, 0, 1, 1, 0, 0, 0, 1, 1, 0, 2, 1, 12, 1, 12, 1, 12, 1, 0, 0, 0, 1, 0, 0, 0, 1, 0, 0, 0, 0, 1, 2, 0] (Code.call (Value.ref 76) { pos := [Value.ref a.lx] : Args }) E2 (by assumption) (by assumption) ?_; intro o2102; refine ⟨by kernel_rfl, by kernel_rfl, by kernel_rfl, by kernel_rfl, fun h2102 D2102 => ?_⟩)
      refine read_any w _ _ (Fit.inner hA' D2102 _ (by kernel_rfl) (by kernel_rfl)) _ _ _ g d os a k3 line (ep + 1) p pe q c tq (by omega) (D2102.give [1, 1, 1, 1, 1, 1, 1, 1, 1] (by kernel_rfl)) fun g3 t3 k4 a3 => ?_
      rw [hn, Int.add_zero] at a3
      obtain ⟨B3, E3⟩ := D2102.backP [1, 1, 1, 1, 1, 1, 1, 1, 1] [0, 1, 2, 3, 4, 5, 6, 7, 8, 9, 10, 11] (a.led w k4 line q (ep + 2) p pe ++ [(m, mthO 76 a.lx), (it, citO m ts), (f, gtF w a s0 kt tt kf it t2 [] (.str ⟨⟨[92]⟩⟩ tq2))]) (by kernel_rfl) a3 (by kernel_rfl)
      change Means _ _ _ _ (outκ o2102) (outK o2102 _) ⟨g3, g, d, t3 + 0, os⟩
      (refine segW (t0 := t3) (i := 0) 100000 [12, 12, 12, 12] (Code.call (Value.builtin "str.__add__") { pos := [Value.str { cps := { toList := [] : Array Nat } : Str } tt, Value.str { cps := { toList := [c] : Array Nat } : Str } tq] : Args }) E3 (by assumption) (by assumption) ?_; intro o2104; refine ⟨by kernel_rfl, by kernel_rfl, by kernel_rfl, by kernel_rfl, by kernel_rfl, fun h2104 D2104 => ?_⟩)
      refine r_sadd [] [c] _ _ (by show 0 + 1 ≤ _; omega) fun t4 u4 => ?_
      obtain ⟨B5, E5⟩ := D2104.pickE [0, 1, 2, 3, 4, 5, 6, 7, 8, 9, 10, 11] (a.led w k4 line q (ep + 2) p pe ++ [(m, mthO 76 a.lx), (it, citO m ts), (f, gtF w a s0 kt tt kf it t2 [] (.str ⟨⟨[c]⟩⟩ tq))]) (by kernel_rfl)
      change Means _ _ _ _ (outκ o2104) (outK o2104 _) ⟨h2104, g, d, u4 + 0, os⟩
      (refine segL (t0 := u4) (i := 0) 100000 [12, 12, 12, 11, 11, 1, 11, 11] ((forOf (gtInner w) (.ref it) (envOf w 83 f q_gt)) ) E5 (by assumption) (by assumption) ?_; intro o2105; refine ⟨by kernel_rfl, by kernel_rfl, by kernel_rfl, by kernel_rfl, fun h2105 D2105 => ?_⟩)
      obtain ⟨B6, E6⟩ := D2105.pickE [0, 1, 2, 3, 4, 5, 6, 7, 8, 9, 10, 11] (a.led w k4 line q (ep + 2) p pe ++ [(m, mthO 76 a.lx), (it, citO m ts), (f, gtF w a s0 kt t4 kf it t2 [c] (.str ⟨⟨[c]⟩⟩ tq))]) (by kernel_rfl)
      refine hI _ _ _ _ _ _ _ _ _ (Fit.ar (hA'.less (m := 47) (by kernel_rfl)) _ (by kernel_rfl) (by kernel_rfl)) E6 (fun h7 B7 t7 ep7 k7 line7 q7 tk7 tt7 E7 hP => ?_) (fun h7 B7 t7 ep2 k5 tt2 tk ch E7 hP => ?_)
      · change Means _ _ _ _ (outκ o2105) (outK o2105 _) ⟨h7, g, d, t7 + 0, os⟩
        (refine segF (t0 := t7) (i := 0) 100000 [] (Fin.done (Flow.ret (Value.str { cps := { toList := tk7 : Array Nat } : Str } tt7))) E7 (by assumption) (by assumption) ?_; intro o2108; refine ⟨by kernel_rfl, by kernel_rfl, by kernel_rfl, fun h2108 D2108 => ?_⟩)
        obtain ⟨B8, E8⟩ := D2108.pickE [0, 1, 2, 3, 4, 5, 6, 7, 8] (a.led w k7 line7 q7 ep7 p pe) (by kernel_rfl)
        exact hR _ _ _ _ _ _ _ _ _ E8 hP
      · change Means _ _ _ _ (outκ o2105) (outK o2105 _) ⟨h7, g, d, t7 + 0, os⟩
        (refine segF (t0 := t7) (i := 0) 100000 [] ((Fin.again (forOf (stmtAt w 83 3) (.ref it) (envOf w 83 f q_gt))) ) E7 (by assumption) (by assumption) ?_; intro o2106; refine ⟨by kernel_rfl, by kernel_rfl, by kernel_rfl, fun h2106 D2106 => ?_⟩)
        obtain ⟨B8, E8⟩ := D2106.partE [9, 10] [0, 1, 2, 3, 4, 5, 6, 7, 8] [(it, citE), (f, gtF w a s0 kt tt2 kf it t2 tk ch)] (a.led w k5 line [] ep2 p pe) (by kernel_rfl) (by kernel_rfl)
        refine ⟨by kernel_rfl, go_done w A h₀ mods hA _ g d os it f _ _ _ _ _ E8 fun h9 B9 t9 E9 => ?_⟩
        exact hN _ _ _ _ _ _ _ _ _ (E9.perm (by rw [List.append_nil]; exact List.perm_append_comm)) hP)
  · cases b1 <;> (
      (refine segL (t0 := t2) (i := 0) 100000 [12, 12, 12, 12, 1, 0, 0, 0, 1, 1, 0, 0, 0, 1, 1, 0, 2, 1, 12, 1, 12, 1, 12, 1, 0, 0, 0, 1, 0, 0, 0, 1, 0, 0, 0, 0, 1, 2, 0] (Code.call (Value.ref 76) { pos := [Value.ref a.lx] : Args }) E2 (by assumption) (by assumption) ?_; intro o2202; refine ⟨by kernel_rfl, by kernel_rfl, by kernel_rfl, by kernel_rfl, fun h2202 D2202 => ?_⟩)
      refine read_any w _ _ (Fit.inner hA' D2202 _ (by kernel_rfl) (by kernel_rfl)) _ _ _ g d os a k3 line (ep + 1) p pe q c tq (by omega) (D2202.give [1, 1, 1, 1, 1, 1, 1, 1, 1] (by kernel_rfl)) fun g3 t3 k4 a3 => ?_
      rw [hn, Int.add_zero] at a3
      obtain ⟨B3, E3⟩ := D2202.backP [1, 1, 1, 1, 1, 1, 1, 1, 1] [0, 1, 2, 3, 4, 5, 6, 7, 8, 9, 10, 11] (a.led w k4 line q (ep + 2) p pe ++ [(m, mthO 76 a.lx), (it, citO m ts), (f, gtF w a s0 kt tt kf it k [] (.str ⟨⟨[92]⟩⟩ tq2))]) (by kernel_rfl) a3 (by kernel_rfl)
      change Means _ _ _ _ (outκ o2202) (outK o2202 _) ⟨g3, g, d, t3 + 0, os⟩
      (refine segW (t0 := t3) (i := 0) 100000 [12, 12, 12, 12] (Code.call (Value.builtin "str.__add__") { pos := [Value.str { cps := { toList := [] : Array Nat } : Str } tt, Value.str { cps := { toList := [c] : Array Nat } : Str } tq] : Args }) E3 (by assumption) (by assumption) ?_; intro o2204; refine ⟨by kernel_rfl, by kernel_rfl, by kernel_rfl, by kernel_rfl, by kernel_rfl, fun h2204 D2204 => ?_⟩)
      refine r_sadd [] [c] _ _ (by show 0 + 1 ≤ _; omega) fun t4 u4 => ?_
      obtain ⟨B5, E5⟩ := D2204.pickE [0, 1, 2, 3, 4, 5, 6, 7, 8, 9, 10, 11] (a.led w k4 line q (ep + 2) p pe ++ [(m, mthO 76 a.lx), (it, citO m ts), (f, gtF w a s0 kt tt kf it k [] (.str ⟨⟨[c]⟩⟩ tq))]) (by kernel_rfl)
      change Means _ _ _ _ (outκ o2204) (outK o2204 _) ⟨h2204, g, d, u4 + 0, os⟩
      (refine segL (t0 := u4) (i := 0) 100000 [12, 12, 12, 11, 11, 1, 11, 11] ((forOf (gtInner w) (.ref it) (envOf w 83 f q_gt)) ) E5 (by assumption) (by assumption) ?_; intro o2205; refine ⟨by kernel_rfl, by kernel_rfl, by kernel_rfl, by kernel_rfl, fun h2205 D2205 => ?_⟩)
      obtain ⟨B6, E6⟩ := D2205.pickE [0, 1, 2, 3, 4, 5, 6, 7, 8, 9, 10, 11] (a.led w k4 line q (ep + 2) p pe ++ [(m, mthO 76 a.lx), (it, citO m ts), (f, gtF w a s0 kt t4 kf it k [c] (.str ⟨⟨[c]⟩⟩ tq))]) (by kernel_rfl)
      refine hI _ _ _ _ _ _ _ _ _ (Fit.ar (hA'.less (m := 47) (by kernel_rfl)) _ (by kernel_rfl) (by kernel_rfl)) E6 (fun h7 B7 t7 ep7 k7 line7 q7 tk7 tt7 E7 hP => ?_) (fun h7 B7 t7 ep2 k5 tt2 tk ch E7 hP => ?_)
      · change Means _ _ _ _ (outκ o2205) (outK o2205 _) ⟨h7, g, d, t7 + 0, os⟩
        (refine segF (t0 := t7) (i := 0) 100000 [] (Fin.done (Flow.ret (Value.str { cps := { toList := tk7 : Array Nat } : Str } tt7))) E7 (by assumption) (by assumption) ?_; intro o2208; refine ⟨by kernel_rfl, by kernel_rfl, by kernel_rfl, fun h2208 D2208 => ?_⟩)
        obtain ⟨B8, E8⟩ := D2208.pickE [0, 1, 2, 3, 4, 5, 6, 7, 8] (a.led w k7 line7 q7 ep7 p pe) (by kernel_rfl)
        exact hR _ _ _ _ _ _ _ _ _ E8 hP
      · change Means _ _ _ _ (outκ o2205) (outK o2205 _) ⟨h7, g, d, t7 + 0, os⟩
        (refine segF (t0 := t7) (i := 0) 100000 [] ((Fin.again (forOf (stmtAt w 83 3) (.ref it) (envOf w 83 f q_gt))) ) E7 (by assumption) (by assumption) ?_; intro o2206; refine ⟨by kernel_rfl, by kernel_rfl, by kernel_rfl, fun h2206 D2206 => ?_⟩)
        obtain ⟨B8, E8⟩ := D2206.partE [9, 10] [0, 1, 2, 3, 4, 5, 6, 7, 8] [(it, citE), (f, gtF w a s0 kt tt2 kf it k tk ch)] (a.led w k5 line [] ep2 p pe) (by kernel_rfl) (by kernel_rfl)
        refine ⟨by kernel_rfl, go_done w A h₀ mods hA _ g d os it f _ _ _ _ _ E8 fun h9 B9 t9 E9 => ?_⟩
        exact hN _ _ _ _ _ _ _ _ _ (E9.perm (by rw [List.append_nil]; exact List.perm_append_comm)) hP)
end Mine
end
section
open PySem PySem.W PySem.Calls PyProof.Rows
set_option Elab.async false
set_option maxRecDepth 100000
namespace Mine
theorem go_end (w : World) (A : Around) (h₀ : Heap) (mods : List Nat) (hA : Fit 48 A (kt1 w) h₀) (R : Result → Shared → Prop) (g : Array GenState) (d : Drawn) (os : OsState) (a : LX) (p : List Value) (pe m it ts f : Nat) (fo : Obj)
   (h : Heap) (B t0 ep : Nat) (k2 : Nat → Nat) (line : Int)
   (D : Rep (kt1 w) h₀ mods h B (a.led w k2 line [] ep p pe ++ [(m, mthO 76 a.lx), (it, citO m ts), (f, fo)]) [] 0)
   (hR : ∀ h' B' t', Rep (kt1 w) h₀ mods h' B' (a.led w k2 line [] ep p pe ++ [(f, fo)]) [] 0 → R (.ok .next) ⟨h', g, d, t', os⟩) :
   codeAny (PP w) A (forOf (stmtAt w 83 3) (.ref it) (envOf w 83 f q_gt)) R ⟨h, g, d, t0, os⟩ := by
  obtain ⟨b1, b2, hw⟩ := parF_ex w
  have hA' := hA.under (forOf (stmtAt w 83 3) (.ref it) (envOf w 83 f q_gt)) (m := 44) (by kernel_rfl)
  refine code_start ?_
  change Means _ _ _ _ _ _ ⟨h, g, d, t0 + 0, os⟩
  (refine segW (t0 := t0) (i := 0) 100000 [11] (Code.call (Value.builtin "callable_iterator.__next__") { pos := [Value.ref it] : Args }) D (by assumption) (by assumption) ?_; intro o31; refine ⟨by kernel_rfl, by kernel_rfl, by kernel_rfl, by kernel_rfl, by kernel_rfl, fun h31 D31 => ?_⟩)
  refine callW_of rfl ?_
  rw [mark_none]
  refine cit_end w _ _ (Fit.inner hA' D31 _ (by kernel_rfl) (by kernel_rfl)) _ _ _ g d os a k2 line ep p pe m it ts (D31.give [1, 1, 1, 1, 1, 1, 1, 1, 1, 1, 1] (by kernel_rfl)) fun g2 t2 x y a2 => ?_
  obtain ⟨B2, E2⟩ := D31.backP [1, 1, 1, 1, 1, 1, 1, 1, 1, 1, 1] [0, 1, 2, 3, 4, 5, 6, 7, 8, 9, 10, 11, 12] (a.led w k2 line [] ep p pe ++ [(it, citE), (y, tupO []), (x, stopO y), (f, fo)]) (by kernel_rfl) a2 (by kernel_rfl)
  change Means _ _ _ _ (outκ o31) (outK o31 _) ⟨g2, g, d, t2 + 0, os⟩
  (refine segF (t0 := t2) (i := 0) 100000 [12] ((Fin.again (Code.block [] (envOf w 83 f q_gt))) ) E2 (by assumption) (by assumption) ?_; intro o32; refine ⟨by kernel_rfl, by kernel_rfl, by kernel_rfl, fun h32 D32 => ?_⟩)
  obtain ⟨B3, E3⟩ := D32.pickE [0, 1, 2, 3, 4, 5, 6, 7, 8, 12] (a.led w k2 line [] ep p pe ++ [(f, fo)]) (by kernel_rfl)
  have hA2 := hA.under (Code.block [] (envOf w 83 f q_gt)) (m := 0) (by kernel_rfl)
  refine ⟨by kernel_rfl, code_start ?_⟩
  change Means _ _ _ _ _ _ ⟨h32, g, d, (t2 + outI o32) + 0, os⟩
  (refine segF (t0 := t2 + outI o32) (i := 0) 100000 [] (Fin.done Flow.next) E3 (by assumption) (by assumption) ?_; intro o33; refine ⟨by kernel_rfl, by kernel_rfl, by kernel_rfl, fun h33 D33 => ?_⟩)
  obtain ⟨B4, E4⟩ := D33.pickE [0, 1, 2, 3, 4, 5, 6, 7, 8, 9] (a.led w k2 line [] ep p pe ++ [(f, fo)]) (by kernel_rfl)
  exact hR _ _ _ E4
def nls (l : List Nat) : Int := (l.map nl).sum
theorem nls_cons (c : Nat) (l : List Nat) : nls (c :: l) = nl c + nls l := by simp [nls]
theorem nls_app (l m : List Nat) : nls (l ++ m) = nls l + nls m := by simp [nls]
section
variable {w : World} {A : Around} {h₀ : Heap} {mods : List Nat} {R : Result → Shared → Prop} {g : Array GenState} {d : Drawn} {os : OsState}
/-- blanks ahead of anything -/
theorem go_blanks (hA : Fit 48 A (kt1 w) h₀) (a : LX) (p : List Value) (pe m it ts f s0 kt kf tt : Nat) (y : List Nat) :
   ∀ (wl : List Nat) (h : Heap) (B t0 ep : Nat) (k2 : Nat → Nat) (line : Int) (dl : List DictEntry) (n : Nat) (Q : List (Nat × Nat)), gtD w dl n → (∀ c ∈ wl, isWs c = true) → Q.map (·.1) = wl ++ y → Q.length ≤ 16776000 →
   Rep (kt1 w) h₀ mods h B (a.led w k2 line (sgn Q) ep p pe ++ [(m, mthO 76 a.lx), (it, citO m ts), (f, gtO w a s0 kt tt kf it [] dl n)]) [] 0 →
   (∀ h' B' t' ep' k2' dl' n' Q', gtD w dl' n' → Q'.map (·.1) = y → Q'.length ≤ 16776000 → Rep (kt1 w) h₀ mods h' B' (a.led w k2' (line + nls wl) (sgn Q') ep' p pe ++ [(m, mthO 76 a.lx), (it, citO m ts), (f, gtO w a s0 kt tt kf it [] dl' n')]) [] 0 → codeAny (PP w) A (forOf (stmtAt w 83 3) (.ref it) (envOf w 83 f q_gt)) R ⟨h', g, d, t', os⟩) →
   codeAny (PP w) A (forOf (stmtAt w 83 3) (.ref it) (envOf w 83 f q_gt)) R ⟨h, g, d, t0, os⟩ := by
  intro wl
  induction wl with
  | nil =>
    intro h B t0 ep k2 line dl n Q hd hw hQ hsz D hR
    refine hR h B t0 ep k2 dl n Q hd hQ hsz ?_
    rw [show nls [] = 0 from rfl, Int.add_zero]
    exact D
  | cons c wl ih =>
    intro h B t0 ep k2 line dl n Q hd hw hQ hsz D hR
    obtain ⟨t, Q', rfl, hQ'⟩ := cons_of (show Q.map (·.1) = c :: (wl ++ y) from hQ)
    rw [List.length_cons] at hsz
    rw [sgn_cons] at D
    refine go_ws w A h₀ mods hA R g d os a p pe m it ts f s0 kt kf h B t0 tt ep k2 line [] dl n hd (sgn Q') c t (by rw [sgn_len]; omega) (hw c List.mem_cons_self) D fun h' B' t' ep' k2' dl' n' hd' D' => ?_
    refine ih h' B' t' ep' k2' _ dl' n' Q' hd' (fun x hx => hw x (List.mem_cons_of_mem _ hx)) hQ' (by omega) D' fun h3 B3 t3 ep3 k3 dl3 n3 Q3 hd3 hQ3 hz3 D3 => ?_
    refine hR h3 B3 t3 ep3 k3 dl3 n3 Q3 hd3 hQ3 hz3 ?_
    rw [nls_cons, ← Int.add_assoc]
    exact D3
/-- a row's word, and the blank behind it -/
theorem go_row (hA : Fit 48 A (kt1 w) h₀) (a : LX) (p : List Value) (pe m it ts f s0 kt kf tt : Nat) (c : Nat) (y : List Nat) (hc : isWs c = true) (i : Bool × Nat) (its : List (Bool × Nat))
   (h : Heap) (B t0 ep : Nat) (k2 : Nat → Nat) (line : Int) (dl : List DictEntry) (n : Nat) (Q : List (Nat × Nat)) (hd : gtD w dl n) (hQ : Q.map (·.1) = flatI (i :: its) ++ c :: y) (hsz : Q.length ≤ 16776000) (hi : its.length ≤ 16776000) (hok : ∀ x ∈ i :: its, okI x)
   (D : Rep (kt1 w) h₀ mods h B (a.led w k2 line (sgn Q) ep p pe ++ [(m, mthO 76 a.lx), (it, citO m ts), (f, gtO w a s0 kt tt kf it [] dl n)]) [] 0)
   (hR : ∀ h' B' t' ep' k2' tt' Q', Q'.map (·.1) = y → Q'.length ≤ 16776000 → Rep (kt1 w) h₀ mods h' B' (a.led w k2' (line + nl c) (sgn Q') ep' p pe) [] 0 → R (.ok (.ret (.str ⟨⟨(i :: its).map (·.2)⟩⟩ tt'))) ⟨h', g, d, t', os⟩) :
   codeAny (PP w) A (forOf (stmtAt w 83 3) (.ref it) (envOf w 83 f q_gt)) R ⟨h, g, d, t0, os⟩ := by
  have ho := hok i List.mem_cons_self
  have hk2 : ∀ x ∈ its, okI x := fun x hx => hok x (List.mem_cons_of_mem _ hx)
  obtain ⟨e, c1⟩ := i
  cases e with
  | false =>
    obtain ⟨t, Q', rfl, hQ'⟩ := cons_of (show Q.map (·.1) = c1 :: (flatI its ++ c :: y) from hQ)
    rw [List.length_cons] at hsz
    rw [sgn_cons] at D
    refine go_plain w A h₀ mods hA R g d os a p pe m it ts f s0 kt kf h B t0 tt ep k2 line dl n hd (sgn Q') c1 t (by rw [sgn_len]; omega) ho (fun tk l q => tk = c1 :: its.map (·.2) ∧ l = line + nl c ∧ ∃ Q2 : List (Nat × Nat), q = sgn Q2 ∧ Q2.map (·.1) = y) (fun _ => False) ?_ D ?_ ?_
    · intro A' R' h' B' t' tt' ep' k2' kc hA' D' hret _
      refine gi_row hA' a p pe m it ts f s0 kt kf kc c y hc its h' B' t' tt' ep' k2' line [c1] _ Q' hQ' (by omega) (by show 1 + its.length ≤ _; omega) hk2 D' fun h2 B2 t2 ep2 k3 tt2 Q2 hQ2 D2 => ?_
      exact hret h2 B2 t2 ep2 k3 _ _ _ tt2 D2 ⟨rfl, rfl, Q2, rfl, hQ2⟩
    · rintro h2 B2 t2 ep2 k3 _ _ _ tt2 D2 ⟨rfl, rfl, Q2, rfl, hQ2⟩
      have hl : Q2.length = y.length := by rw [← hQ2, List.length_map]
      have hl2 : Q'.length = (flatI its ++ c :: y).length := by rw [← hQ', List.length_map]
      rw [List.length_append, List.length_cons] at hl2
      exact hR h2 B2 t2 ep2 k3 tt2 Q2 hQ2 (by omega) D2
    · intro h2 B2 t2 ep2 k3 tt2 kc tk ch _ hf
      exact hf.elim
  | true =>
    obtain ⟨t2, Q', rfl, hQ'⟩ := cons_of (show Q.map (·.1) = 92 :: c1 :: (flatI its ++ c :: y) from hQ)
    obtain ⟨t, Q', rfl, hQ2⟩ := cons_of hQ'
    rw [List.length_cons, List.length_cons] at hsz
    rw [sgn_cons, sgn_cons] at D
    refine go_esc w A h₀ mods hA R g d os a p pe m it ts f s0 kt kf h B t0 tt ep k2 line dl n hd (sgn Q') c1 t t2 (by rw [sgn_len]; omega) ho (fun tk l q => tk = c1 :: its.map (·.2) ∧ l = line + nl c ∧ ∃ Q2 : List (Nat × Nat), q = sgn Q2 ∧ Q2.map (·.1) = y) (fun _ => False) ?_ D ?_ ?_
    · intro A' R' h' B' t' tt' ep' k2' kc hA' D' hret _
      refine gi_row hA' a p pe m it ts f s0 kt kf kc c y hc its h' B' t' tt' ep' k2' line [c1] _ Q' hQ2 (by omega) (by show 1 + its.length ≤ _; omega) hk2 D' fun h2 B2 t2 ep2 k3 tt2 Q2 hQ2 D2 => ?_
      exact hret h2 B2 t2 ep2 k3 _ _ _ tt2 D2 ⟨rfl, rfl, Q2, rfl, hQ2⟩
    · rintro h2 B2 t2 ep2 k3 _ _ _ tt2 D2 ⟨rfl, rfl, Q2, rfl, hQ3⟩
      have hl : Q2.length = y.length := by rw [← hQ3, List.length_map]
      have hl2 : Q'.length = (flatI its ++ c :: y).length := by rw [← hQ2, List.length_map]
      rw [List.length_append, List.length_cons] at hl2
      exact hR h2 B2 t2 ep2 k3 tt2 Q2 hQ3 (by omega) D2
    · intro h2 B2 t2 ep2 k3 tt2 kc tk ch _ hf
      exact hf.elim
/-- the last word, at the text's end -/
theorem go_last (hA : Fit 48 A (kt1 w) h₀) (a : LX) (p : List Value) (pe m it ts f s0 kt kf tt : Nat) (i : Bool × Nat) (its : List (Bool × Nat))
   (h : Heap) (B t0 ep : Nat) (k2 : Nat → Nat) (line : Int) (dl : List DictEntry) (n : Nat) (Q : List (Nat × Nat)) (hd : gtD w dl n) (hQ : Q.map (·.1) = flatI (i :: its)) (hsz : Q.length ≤ 16776000) (hi : its.length ≤ 16776000) (hok : ∀ x ∈ i :: its, okI x)
   (D : Rep (kt1 w) h₀ mods h B (a.led w k2 line (sgn Q) ep p pe ++ [(m, mthO 76 a.lx), (it, citO m ts), (f, gtO w a s0 kt tt kf it [] dl n)]) [] 0)
   (hR : ∀ h' B' t' ep' k2' tt' kc ch, Rep (kt1 w) h₀ mods h' B' (a.led w k2' line [] ep' p pe ++ [(f, gtF w a s0 kt tt' kf it kc ((i :: its).map (·.2)) ch)]) [] 0 → R (.ok .next) ⟨h', g, d, t', os⟩) :
   codeAny (PP w) A (forOf (stmtAt w 83 3) (.ref it) (envOf w 83 f q_gt)) R ⟨h, g, d, t0, os⟩ := by
  have ho := hok i List.mem_cons_self
  have hk2 : ∀ x ∈ its, okI x := fun x hx => hok x (List.mem_cons_of_mem _ hx)
  obtain ⟨e, c1⟩ := i
  cases e with
  | false =>
    obtain ⟨t, Q', rfl, hQ'⟩ := cons_of (show Q.map (·.1) = c1 :: flatI its from hQ)
    rw [List.length_cons] at hsz
    rw [sgn_cons] at D
    refine go_plain w A h₀ mods hA R g d os a p pe m it ts f s0 kt kf h B t0 tt ep k2 line dl n hd (sgn Q') c1 t (by rw [sgn_len]; omega) ho (fun tk l q => False) (fun tk => tk = c1 :: its.map (·.2)) ?_ D ?_ ?_
    · intro A' R' h' B' t' tt' ep' k2' kc hA' D' _ hnx
      refine gi_last hA' a p pe m it ts f s0 kt kf kc its h' B' t' tt' ep' k2' line [c1] _ Q' hQ' (by omega) (by show 1 + its.length ≤ _; omega) hk2 D' fun h2 B2 t2 ep2 k3 tt2 ch2 D2 => ?_
      exact hnx h2 B2 t2 ep2 k3 tt2 _ ch2 D2 rfl
    · intro h2 B2 t2 ep2 k3 _ _ _ tt2 _ hf
      exact hf.elim
    · rintro h2 B2 t2 ep2 k3 tt2 kc _ ch D2 rfl
      exact hR h2 B2 t2 ep2 k3 tt2 kc ch D2
  | true =>
    obtain ⟨t2, Q', rfl, hQ'⟩ := cons_of (show Q.map (·.1) = 92 :: c1 :: flatI its from hQ)
    obtain ⟨t, Q', rfl, hQ2⟩ := cons_of hQ'
    rw [List.length_cons, List.length_cons] at hsz
    rw [sgn_cons, sgn_cons] at D
    refine go_esc w A h₀ mods hA R g d os a p pe m it ts f s0 kt kf h B t0 tt ep k2 line dl n hd (sgn Q') c1 t t2 (by rw [sgn_len]; omega) ho (fun tk l q => False) (fun tk => tk = c1 :: its.map (·.2)) ?_ D ?_ ?_
    · intro A' R' h' B' t' tt' ep' k2' kc hA' D' _ hnx
      refine gi_last hA' a p pe m it ts f s0 kt kf kc its h' B' t' tt' ep' k2' line [c1] _ Q' hQ2 (by omega) (by show 1 + its.length ≤ _; omega) hk2 D' fun h2 B2 t2 ep2 k3 tt2 ch2 D2 => ?_
      exact hnx h2 B2 t2 ep2 k3 tt2 _ ch2 D2 rfl
    · intro h2 B2 t2 ep2 k3 _ _ _ tt2 _ hf
      exact hf.elim
    · rintro h2 B2 t2 ep2 k3 tt2 kc _ ch D2 rfl
      exact hR h2 B2 t2 ep2 k3 tt2 kc ch D2
end
end Mine
end
section
open PySem PySem.W PySem.Calls PyProof.Rows
set_option Elab.async false
set_option maxRecDepth 100000
namespace Mine
/-- get_token up to its loop -/
theorem gt_head (w : World) (A : Around) (h₀ : Heap) (hA : Fit 60 A (kt1 w) h₀) (R : Result → Shared → Prop) (B t0 : Nat) (g : Array GenState) (d : Drawn) (os : OsState) (a : LX) (k2 : Nat → Nat) (line : Int) (ep pe : Nat) (q : List Value) {mods : List Nat}
   (hL : ∀ (A' : Around) (R' : Result → Shared → Prop) (h' : Heap) (B' t' f m it ts s0 kt kf tt : Nat), Fit 48 A' (kt1 w) h₀ →
     Rep (kt1 w) h₀ mods h' B' (a.led w k2 line q ep [] pe ++ [(m, mthO 76 a.lx), (it, citO m ts), (f, gtO w a s0 kt tt kf it [] [] 3)]) [] 0 →
     (∀ h2 B2 t2 k3 line3 q3 ep3 tk tt2, Rep (kt1 w) h₀ mods h2 B2 (a.led w k3 line3 q3 ep3 [] pe) [] 0 → (∀ h3 t3, After h₀ h3 mods (a.led w k3 line3 q3 ep3 [] pe) → R (.ok (.ret (.str ⟨⟨tk⟩⟩ tt2))) ⟨h3, g, d, t3, os⟩) → R' (.ok (.ret (.str ⟨⟨tk⟩⟩ tt2))) ⟨h2, g, d, t2, os⟩) →
     (∀ h2 B2 t2 k3 line3 q3 ep3 tk tt2 dl n, gtD w dl n → Rep (kt1 w) h₀ mods h2 B2 (a.led w k3 line3 q3 ep3 [] pe ++ [(f, gtO w a s0 kt tt2 kf it tk dl n)]) [] 0 → (∀ h3 t3, After h₀ h3 mods (a.led w k3 line3 q3 ep3 [] pe) → R (.ok (.ret (.str ⟨⟨tk⟩⟩ tt2))) ⟨h3, g, d, t3, os⟩) → R' (.ok .next) ⟨h2, g, d, t2, os⟩) →
     codeAny (PP w) A' (forOf (stmtAt w 83 3) (.ref it) (envOf w 83 f q_gt)) R' ⟨h', g, d, t', os⟩)
   (D : Rep (kt1 w) h₀ mods h₀ B (a.led w k2 line q ep [] pe) [] 0) :
   codeAny (PP w) A (.call (.ref 83) ⟨[.ref a.lx], []⟩) R ⟨h₀, g, d, t0, os⟩ := by
  obtain ⟨b1, b2, hw⟩ := parF_ex w
  refine code_ent (D.kt_ (a := 83) (o := obAt w 83) (by kernel_rfl)) (fd := fdAt w 83) (by kernel_rfl) (by have := hA.room; omega) ?_
  change Means _ _ _ _ _ _ ⟨h₀, g, d, t0 + 0, os⟩
  cases b1 <;> (
    (refine segL (t0 := t0) (i := 0) 100000 [0, 10, 10, 10, 1, 0, 0, 0, 1, 1, 0, 0, 0, 1, 1, 0, 2, 9, 9, 1, 9, 1, 9, 9, 10, 10, 0, 0, 10, 1, 0, 0, 0, 1, 1, 0, 0, 0, 0, 0, 0, 1, 1, 0, 2, 0, 0, 0, 1, 0, 1, 11, 10, 10, 10, 12, 12, 1, 12, 12] ((forOf (stmtAt w 83 3) (.ref (B + 2)) (envOf w 83 B q_gt)) ) D (by assumption) (by assumption) ?_; intro o11; refine ⟨by kernel_rfl, by kernel_rfl, by kernel_rfl, by kernel_rfl, fun h11 D11 => ?_⟩)
    obtain ⟨B2, E2⟩ := D11.pickE [0, 1, 2, 3, 4, 5, 6, 7, 8, 10, 11, 9] (a.led w k2 line q ep [] pe ++ [(B + 1, mthO 76 a.lx), (B + 2, citO (B + 1) (t0 + 7)), (B, gtO w a t0 (t0 + 5) (t0 + 4) (t0 + 8) (B + 2) [] [] 3)]) (by kernel_rfl)
    refine hL _ _ _ _ _ _ _ _ _ _ _ _ _ (Fit.ar hA _ (by kernel_rfl) (by kernel_rfl)) E2 (fun h2 B3 t2 k3 line3 q3 ep3 tk tt2 E3 hR => ?_) (fun h2 B3 t2 k3 line3 q3 ep3 tk tt2 dl n hd E3 hR => ?_)
    · change Means _ _ _ _ (outκ o11) (outK o11 _) ⟨h2, g, d, t2 + 0, os⟩
      (refine segF (t0 := t2) (i := 0) 100000 [] (Fin.done (Flow.ret (Value.str { cps := { toList := tk : Array Nat } : Str } tt2))) E3 (by assumption) (by assumption) ?_; intro o12; refine ⟨by kernel_rfl, by kernel_rfl, by kernel_rfl, fun h12 D12 => ?_⟩)
      exact hR _ _ (D12.finP [0, 1, 2, 3, 4, 5, 6, 7, 8] (by kernel_rfl))
    · change Means _ _ _ _ (outκ o11) (outK o11 _) ⟨h2, g, d, t2 + 0, os⟩
      rcases hd with ⟨rfl, rfl⟩ | ⟨k, v, rfl, rfl⟩ <;> (
      (refine segF (t0 := t2) (i := 0) 100000 [10] (Fin.done (Flow.ret (Value.str { cps := { toList := tk : Array Nat } : Str } tt2))) E3 (by assumption) (by assumption) ?_; intro o13; refine ⟨by kernel_rfl, by kernel_rfl, by kernel_rfl, fun h13 D13 => ?_⟩)
      exact hR _ _ (D13.finP [0, 1, 2, 3, 4, 5, 6, 7, 8] (by kernel_rfl))))
/-- a row's word -/
theorem gt_row (w : World) (A : Around) (h₀ : Heap) (hA : Fit 60 A (kt1 w) h₀) (R : Result → Shared → Prop) (B t0 : Nat) (g : Array GenState) (d : Drawn) (os : OsState) (a : LX) (k2 : Nat → Nat) (line : Int) (ep pe : Nat) (Q : List (Nat × Nat)) {mods : List Nat}
   (wl : List Nat) (i : Bool × Nat) (its : List (Bool × Nat)) (c : Nat) (y : List Nat) (hwl : ∀ x ∈ wl, isWs x = true) (hc : isWs c = true) (hok : ∀ x ∈ i :: its, okI x) (hQ : Q.map (·.1) = wl ++ (flatI (i :: its) ++ c :: y)) (hsz : Q.length ≤ 16776000) (hi : its.length ≤ 16776000)
   (D : Rep (kt1 w) h₀ mods h₀ B (a.led w k2 line (sgn Q) ep [] pe) [] 0)
   (hR : ∀ h1 t' k2' ep' t1 Q', Q'.map (·.1) = y → Q'.length ≤ 16776000 → After h₀ h1 mods (a.led w k2' (line + nls wl + nl c) (sgn Q') ep' [] pe) → R (.ok (.ret (.str ⟨⟨(i :: its).map (·.2)⟩⟩ t1))) ⟨h1, g, d, t', os⟩) :
   codeAny (PP w) A (.call (.ref 83) ⟨[.ref a.lx], []⟩) R ⟨h₀, g, d, t0, os⟩ := by
  refine gt_head w A h₀ hA R B t0 g d os a k2 line ep pe (sgn Q) ?_ D
  intro A' R' h' B' t' f m it ts s0 kt kf tt hA' D' hret hnx
  refine go_blanks hA' a [] pe m it ts f s0 kt kf tt _ wl h' B' t' ep k2 line [] 3 Q (.inl ⟨rfl, rfl⟩) hwl hQ hsz D' fun h2 B2 t2 ep2 k3 dl n Q2 hd hQ2 hz2 D2 => ?_
  refine go_row hA' a [] pe m it ts f s0 kt kf tt c y hc i its h2 B2 t2 ep2 k3 _ dl n Q2 hd hQ2 hz2 hi hok D2 fun h3 B3 t3 ep3 k4 tt3 Q3 hQ3 hz3 D3 => ?_
  exact hret h3 B3 t3 k4 _ _ ep3 _ tt3 D3 fun h4 t4 z => hR h4 t4 k4 ep3 tt3 Q3 hQ3 hz3 z
/-- the last word -/
theorem gt_last (w : World) (A : Around) (h₀ : Heap) (hA : Fit 60 A (kt1 w) h₀) (R : Result → Shared → Prop) (B t0 : Nat) (g : Array GenState) (d : Drawn) (os : OsState) (a : LX) (k2 : Nat → Nat) (line : Int) (ep pe : Nat) (Q : List (Nat × Nat)) {mods : List Nat}
   (wl : List Nat) (i : Bool × Nat) (its : List (Bool × Nat)) (hwl : ∀ x ∈ wl, isWs x = true) (hok : ∀ x ∈ i :: its, okI x) (hQ : Q.map (·.1) = wl ++ flatI (i :: its)) (hsz : Q.length ≤ 16776000) (hi : its.length ≤ 16776000)
   (D : Rep (kt1 w) h₀ mods h₀ B (a.led w k2 line (sgn Q) ep [] pe) [] 0)
   (hR : ∀ h1 t' k2' ep' t1, After h₀ h1 mods (a.led w k2' (line + nls wl) [] ep' [] pe) → R (.ok (.ret (.str ⟨⟨(i :: its).map (·.2)⟩⟩ t1))) ⟨h1, g, d, t', os⟩) :
   codeAny (PP w) A (.call (.ref 83) ⟨[.ref a.lx], []⟩) R ⟨h₀, g, d, t0, os⟩ := by
  refine gt_head w A h₀ hA R B t0 g d os a k2 line ep pe (sgn Q) ?_ D
  intro A' R' h' B' t' f m it ts s0 kt kf tt hA' D' hret hnx
  refine go_blanks hA' a [] pe m it ts f s0 kt kf tt _ wl h' B' t' ep k2 line [] 3 Q (.inl ⟨rfl, rfl⟩) hwl hQ hsz D' fun h2 B2 t2 ep2 k3 dl n Q2 hd hQ2 hz2 D2 => ?_
  refine go_last hA' a [] pe m it ts f s0 kt kf tt i its h2 B2 t2 ep2 k3 _ dl n Q2 hd hQ2 hz2 hi hok D2 fun h3 B3 t3 ep3 k4 tt3 kc ch D3 => ?_
  exact hnx h3 B3 t3 k4 _ _ ep3 _ tt3 _ _ (.inr ⟨kc, ch, rfl, rfl⟩) D3 fun h4 t4 z => hR h4 t4 k4 ep3 tt3 z
/-- nothing left -/
theorem gt_none (w : World) (A : Around) (h₀ : Heap) (hA : Fit 60 A (kt1 w) h₀) (R : Result → Shared → Prop) (B t0 : Nat) (g : Array GenState) (d : Drawn) (os : OsState) (a : LX) (k2 : Nat → Nat) (line : Int) (ep pe : Nat) {mods : List Nat}
   (D : Rep (kt1 w) h₀ mods h₀ B (a.led w k2 line [] ep [] pe) [] 0)
   (hR : ∀ h1 t' k2' ep' t1, After h₀ h1 mods (a.led w k2' line [] ep' [] pe) → R (.ok (.ret (.str ⟨⟨[]⟩⟩ t1))) ⟨h1, g, d, t', os⟩) :
   codeAny (PP w) A (.call (.ref 83) ⟨[.ref a.lx], []⟩) R ⟨h₀, g, d, t0, os⟩ := by
  refine gt_head w A h₀ hA R B t0 g d os a k2 line ep pe [] ?_ D
  intro A' R' h' B' t' f m it ts s0 kt kf tt hA' D' hret hnx
  refine go_end w A' h₀ mods hA' R' g d os a [] pe m it ts f _ h' B' t' ep k2 line D' fun h3 B3 t3 D3 => ?_
  exact hnx h3 B3 t3 k2 _ _ ep [] tt _ _ (.inl ⟨rfl, rfl⟩) D3 fun h4 t4 z => hR h4 t4 k2 ep tt z
/-- what was pushed back -/
theorem gt_push (w : World) (A : Around) (h₀ : Heap) (hA : Fit 60 A (kt1 w) h₀) (R : Result → Shared → Prop) (B t0 : Nat) (g : Array GenState) (d : Drawn) (os : OsState) (a : LX) (k2 : Nat → Nat) (line : Int) (ep pe : Nat) (q : List Value) (x : List Nat) (tx : Nat) {mods : List Nat}
   (D : Rep (kt1 w) h₀ mods h₀ B (a.led w k2 line q ep [.str ⟨⟨x⟩⟩ tx] pe) [] 0)
   (hR : ∀ h1 t' pe', After h₀ h1 mods (a.led w k2 line q ep [] pe') → R (.ok (.ret (.str ⟨⟨x⟩⟩ tx))) ⟨h1, g, d, t', os⟩) :
   codeAny (PP w) A (.call (.ref 83) ⟨[.ref a.lx], []⟩) R ⟨h₀, g, d, t0, os⟩ := by
  obtain ⟨b1, b2, hw⟩ := parF_ex w
  refine code_ent (D.kt_ (a := 83) (o := obAt w 83) (by kernel_rfl)) (fd := fdAt w 83) (by kernel_rfl) (by have := hA.room; omega) ?_
  change Means _ _ _ _ _ _ ⟨h₀, g, d, t0 + 0, os⟩
  cases b1 <;> (
    (refine segF (t0 := t0) (i := 0) 100000 [0, 10, 10, 10, 1, 0, 0, 0, 1, 1, 0, 0, 0, 1, 1, 0, 2, 9, 9, 1, 9, 1, 9, 9, 10, 1, 0, 0, 0, 1, 1, 0, 0, 0, 1, 1, 0, 2, 9, 9, 9, 9, 1, 9, 9, 9, 9, 9] (Fin.done (Flow.ret (Value.str { cps := { toList := x : Array Nat } : Str } tx))) D (by assumption) (by assumption) ?_; intro o21; refine ⟨by kernel_rfl, by kernel_rfl, by kernel_rfl, fun h21 D21 => ?_⟩)
    exact hR _ _ (pe + 1) (D21.finP [0, 1, 2, 3, 4, 5, 6, 7, 8] (by kernel_rfl)))
/-- push_token -/
theorem push_tok (w : World) (A : Around) (h₀ : Heap) (hA : Fit 60 A (kt1 w) h₀) (R : Result → Shared → Prop) (B t0 : Nat) (g : Array GenState) (d : Drawn) (os : OsState) (a : LX) (k2 : Nat → Nat) (line : Int) (ep pe : Nat) (q : List Value) (x : List Nat) (tx : Nat) {mods : List Nat}
   (D : Rep (kt1 w) h₀ mods h₀ B (a.led w k2 line q ep [] pe) [] 0)
   (hR : ∀ h1 t' pe', After h₀ h1 mods (a.led w k2 line q ep [.str ⟨⟨x⟩⟩ tx] pe') → R (.ok (.ret .none)) ⟨h1, g, d, t', os⟩) :
   codeAny (PP w) A (.call (.ref 90) ⟨[.ref a.lx, .str ⟨⟨x⟩⟩ tx], []⟩) R ⟨h₀, g, d, t0, os⟩ := by
  obtain ⟨b1, b2, hw⟩ := parF_ex w
  refine code_ent (D.kt_ (a := 90) (o := obAt w 90) (by kernel_rfl)) (fd := fdAt w 90) (by kernel_rfl) (by have := hA.room; omega) ?_
  change Means _ _ _ _ _ _ ⟨h₀, g, d, t0 + 0, os⟩
  cases b1 <;> (
    (refine segF (t0 := t0) (i := 0) 100000 [0, 10, 10, 10, 10, 10, 1, 0, 0, 0, 1, 1, 0, 0, 0, 1, 1, 0, 2, 9, 9, 9, 9, 10, 1, 9, 9, 9, 9] (Fin.done (Flow.ret Value.none)) D (by assumption) (by assumption) ?_; intro o31; refine ⟨by kernel_rfl, by kernel_rfl, by kernel_rfl, fun h31 D31 => ?_⟩)
    exact hR _ _ (pe + 1) (D31.finP [0, 1, 2, 3, 4, 5, 6, 7, 8] (by kernel_rfl)))
end Mine
end
section
open PySem PySem.W PySem.Calls PyProof.Rows
set_option Elab.async false
set_option maxRecDepth 100000
namespace Mine
section
variable {w : World} {A : Around} {h₀ : Heap} {R : Result → Shared → Prop} {B t0 : Nat} {g : Array GenState} {d : Drawn} {os : OsState} {mods : List Nat} {prog : Program} {kt : Nat → Option Obj}
theorem After.same {X : Led} {r : Nat} {L : Led} (D : Rep kt h₀ mods h₀ B L X r) : After h₀ h₀ mods L := (D.sub (L' := L) (X' := []) (by rw [List.append_nil]; exact List.sublist_append_left L X)).done L [] (List.Perm.refl _)
theorem r_clen (la ep : Nat) (l : List Value) (hsz : l.length ≤ 16777216) (D : Rep kt h₀ mods h₀ B [(la, listO l ep)] [] 0)
   (hR : ∀ t1 t', R (.ok (.ret (.int (.ofNat l.length) t1))) ⟨h₀, g, d, t', os⟩) :
   callW (model prog w) A none (.call (.builtin "len") ⟨[.ref la], []⟩) R ⟨h₀, g, d, t0, os⟩ := by
  have hl : h₀.get? la = some (listO l ep) := D.get (j := 0) rfl
  refine callW_call (Q := fun v s' => R (.ok (.ret v)) s') (E := fun e s' => R (.error e) s') ?_ (fun _ _ h => h) (fun _ _ h => h)
  exact call_len_list (items := ⟨l⟩) ⟨_, hl, rfl, ep, rfl⟩ (by show (l.length : Int) < 2 ^ 63; omega) (hR _ _)
theorem r_mod (a b : Int) (t u : Nat) (hb : b ≠ 0) {s : Shared} (hR : ∀ t1 t', R (.ok (.ret (.int (a.fmod b) t1))) ⟨s.heap, s.gens, s.drawn, t', s.os⟩) :
   callW (model prog w) A none (.call (.builtin "int.__mod__") ⟨[.int a t, .int b u], []⟩) R s := by
  refine callW_call (Q := fun v s' => R (.ok (.ret v)) s') (E := fun e s' => R (.error e) s') ?_ (fun _ _ h => h) (fun _ _ h => h)
  exact wpAny_mono (call_int_mod (Q := fun v s' => R (.ok (.ret v)) s') hb (hR _ _)) (fun v s' h => h.2) fun _ _ h => h
theorem r_lget' (la ep t : Nat) (k : Int) (l : List Value) (x : Value) (h0 : 0 ≤ k) (hx : l[k.toNat]? = some x) (hi : k < 2 ^ 63) (D : Rep kt h₀ mods h₀ B [(la, listO l ep)] [] 0)
   (hR : R (.ok (.ret x)) ⟨h₀, g, d, t0, os⟩) :
   codeAny (model prog w) A (.call (.builtin "list.__getitem__") ⟨[.ref la, .int k t], []⟩) R ⟨h₀, g, d, t0, os⟩ := by
  have hl : h₀.get? la = some (listO l ep) := D.get (j := 0) rfl
  refine code_slot F.slot_list_getitem ⟨_, hl, rfl⟩ F.entry_list_getitem (F.args_list_getitem_2 _ _) ?_
  show wpAny _ _ (Builtin.List.listSubscript? (.int k t) >>= _) _ _ _
  refine wpAny_bind (wpAny_listSubscript_int (fitsIndex_of h0 hi) ?_)
  obtain ⟨j, rfl⟩ := Int.eq_ofNat_of_zero_le h0
  clear hi
  show wpAny _ _ ((seqItemAt la j >>= fun r => pure (r.map (j, ·))) >>= _) _ _ _
  have hx' : (⟨l⟩ : Array Value)[j]? = some x := by rw [List.getElem?_toArray]; exact hx
  refine wpAny_bind (wpAny_bind (wpAny_seqItemAt (items := ⟨l⟩) hl rfl (wpAny_pure ?_)))
  rw [hx']
  exact wpAny_pure hR
theorem r_lget (la ep i t : Nat) (l : List Value) (x : Value) (hx : l[i]? = some x) (hi : i < 16777216) (D : Rep kt h₀ mods h₀ B [(la, listO l ep)] [] 0)
   (hR : R (.ok (.ret x)) ⟨h₀, g, d, t0, os⟩) :
   codeAny (model prog w) A (.call (.builtin "list.__getitem__") ⟨[.ref la, .int (.ofNat i) t], []⟩) R ⟨h₀, g, d, t0, os⟩ :=
  r_lget' la ep t (.ofNat i) l x (Int.natCast_nonneg i) hx (by have : (Int.ofNat i) = (i : Int) := rfl; omega) D hR
def ritO (x left : Int) : Obj := { cls := .type "range_iterator", data := .fields ⟨[.int x 0, .int left 0, .int 1 0]⟩ }
theorem r_rnext (it : Nat) (x left : Int) (h1 : 0 < left) (D : Rep kt h₀ mods h₀ B [(it, ritO x left)] [] 0)
   (hR : ∀ h1 t1 t', After h₀ h1 mods [(it, ritO (x + 1) (left - 1))] → R (.ok (.ret (.int x t1))) ⟨h1, g, d, t', os⟩) :
   codeAny (model prog w) A (.call (.builtin "range_iterator.__next__") ⟨[.ref it], []⟩) R ⟨h₀, g, d, t0, os⟩ := by
  have hit : h₀.get? it = some (ritO x left) := D.get (j := 0) rfl
  refine code_meets F.slot_range_iterator_next ⟨_, hit, rfl⟩ F.entry_range_iterator_next (F.args_range_iterator_next_1 _) (AutoRange.range_iterator___next___range_iterator_1 it x left 1 (by omega)) ⟨hit, ?_⟩
  have D1 := D.update (j := 0) (p := (it, ritO x left)) (f := Obj.mapFields fun x_1 => x_1.setIfInBounds 0 (rawInt (x + 1))) rfl rfl
  have D2 := D1.update (j := 0) (p := (it, Obj.mapFields (fun x_1 => x_1.setIfInBounds 0 (rawInt (x + 1))) (ritO x left))) (f := Obj.mapFields fun x => x.setIfInBounds 1 (rawInt (left - 1))) rfl rfl
  exact hR _ _ _ (D2.fin [1] rfl)
theorem r_rend (hA : Fit 0 A kt h₀) (it : Nat) (x : Int) (D : Rep kt h₀ mods h₀ B [(it, ritO x 0)] [] 0)
   (hR : ∀ h1 t' a a2, After h₀ h1 mods [(a2, tupO []), (a, stopO a2)] → R (.error (.ref a)) ⟨h1, g, d, t', os⟩) :
   codeAny (model prog w) A (.call (.builtin "range_iterator.__next__") ⟨[.ref it], []⟩) R ⟨h₀, g, d, t0, os⟩ := by
  obtain ⟨b1, b2, hw⟩ := parF_ex w
  have hA' := hA.in1
  have hit : h₀.get? it = some (ritO x 0) := D.get (j := 0) rfl
  refine code_slot F.slot_range_iterator_next ⟨_, hit, rfl⟩ F.entry_range_iterator_next (F.args_range_iterator_next_1 _) ?_
  refine means_base (s := ⟨h₀, g, d, t0 + 0, os⟩) ?_
  (refine segE (t0 := t0) (i := 0) 100000 [1, 1, 1] (Value.ref (B + 1)) D (by assumption) (by assumption) ?_; intro o41; refine ⟨by kernel_rfl, by kernel_rfl, by kernel_rfl, fun h41 D41 => ?_⟩)
  exact hR _ _ (B + 1) B (D41.finP [1, 2] (by kernel_rfl))
def rngO (a b : Int) (ta tb tc : Nat) : Obj := { cls := .type "range", data := .fields ⟨[.int a ta, .int b tb, .int 1 tc]⟩ }
theorem rsize (a b : Int) (n : Nat) (h : b - a = n) : Builtin.Range.rangeSize a b 1 = n := by
  unfold Builtin.Range.rangeSize
  rw [if_pos (by decide)]
  split
  · rw [Int.ediv_one]; omega
  · omega
theorem r_riter (ra : Nat) (a b : Int) (ta tb tc n : Nat) (h : b - a = n) (ha : -1000000 ≤ a) (hb : b ≤ 16777216) (D : Rep kt h₀ mods h₀ B [(ra, rngO a b ta tb tc)] [] 0)
   (hR : ∀ h1 it t', After h₀ h1 mods [(ra, rngO a b ta tb tc), (it, ritO a n)] → R (.ok (.ret (.ref it))) ⟨h1, g, d, t', os⟩) :
   codeAny (model prog w) A (.call (.builtin "range.__iter__") ⟨[.ref ra], []⟩) R ⟨h₀, g, d, t0, os⟩ := by
  have hr : h₀.get? ra = some (rngO a b ta tb tc) := D.get (j := 0) rfl
  have hs : Builtin.Range.small a b 1 = true := by
    unfold Builtin.Range.small Builtin.Range.rangeFitsLong
    rw [rsize a b n h]
    simp
    omega
  unfold Builtin.Range.small at hs
  refine code_meets F.slot_range_iter ⟨_, hr, rfl⟩ F.entry_range_iter (F.args_range_iter_1 _) (AutoRange.range___iter___range_1 ra a b 1 ta tb tc (fun e => by rw [hs] at e; cases e)) ⟨hr, ?_⟩
  simp only [hs, if_true]
  rw [rsize a b n h]
  have D1 := D.alloc (o := ritO a n) rfl
  have hB : h₀.objs.size = B := D.size
  rw [hB]
  exact hR _ _ _ (D1.fin [1, 1] rfl)
end
end Mine
end
section
open PySem PySem.W PySem.Calls PyProof.Rows
set_option Elab.async false
set_option maxRecDepth 100000
namespace Mine
section
variable {w : World} {A : Around} {h₀ : Heap} {R : Result → Shared → Prop} {B t0 : Nat} {g : Array GenState} {d : Drawn} {os : OsState} {mods : List Nat} {prog : Program} {kt : Nat → Option Obj}
theorem r_modN (a b : Nat) (t u : Nat) (hb : 0 < b) {s : Shared} (hR : ∀ t1 t', R (.ok (.ret (.int (.ofNat (a % b)) t1))) ⟨s.heap, s.gens, s.drawn, t', s.os⟩) :
   callW (model prog w) A none (.call (.builtin "int.__mod__") ⟨[.int (.ofNat a) t, .int (.ofNat b) u], []⟩) R s := by
  refine r_mod (.ofNat a) (.ofNat b) t u (by have : (Int.ofNat b) = (b : Int) := rfl; omega) ?_
  have e : (Int.ofNat a).fmod (.ofNat b) = .ofNat (a % b) := by
    rw [Int.fmod_eq_emod_of_nonneg _ (by show (0 : Int) ≤ ((b : Nat) : Int); omega)]
    rfl
  rw [e]
  exact hR
theorem r_fdivN (a b : Nat) (t u : Nat) (hb : 0 < b) (hs : b < 1073741824) {s : Shared} (hR : ∀ t1 t', R (.ok (.ret (.int (.ofNat (a / b)) t1))) ⟨s.heap, s.gens, s.drawn, t', s.os⟩) :
   callW (model prog w) A none (.call (.builtin "int.__floordiv__") ⟨[.int (.ofNat a) t, .int (.ofNat b) u], []⟩) R s := by
  have e : (Int.ofNat a).fdiv (.ofNat b) = .ofNat (a / b) := by
    rw [Int.fdiv_eq_ediv_of_nonneg _ (by show (0 : Int) ≤ ((b : Nat) : Int); omega)]
    rfl
  refine callW_call (Q := fun v s' => R (.ok (.ret v)) s') (E := fun e s' => R (.error e) s') ?_ (fun _ _ h => h) (fun _ _ h => h)
  refine wpAny_mono (call_int_floordiv (Q := fun v s' => R (.ok (.ret v)) s') (by show Int.ofNat b ≠ 0; have : (Int.ofNat b) = (b : Int) := rfl; omega) ?_ (.inl (PyProof.noPylong_small (by show b < 1073741824; exact hs)))) (fun v s' h => h.2) fun _ _ h => h
  rw [e]
  exact hR _ _
theorem r_smul (c : Nat) (k t u : Nat) (hk : k ≤ 16777000) {s : Shared} (hR : ∀ t1 t', R (.ok (.ret (.str ⟨⟨List.replicate k c⟩⟩ t1))) ⟨s.heap, s.gens, s.drawn, t', s.os⟩) :
   codeAny (model prog w) A (.call (.builtin "str.__mul__") ⟨[.str ⟨⟨[c]⟩⟩ t, .int (.ofNat k) u], []⟩) R s := by
  have ek : (Int.ofNat k) = (k : Int) := rfl
  refine code_meets F.slot_str_mul (typeIs_str _ _ _) F.entry_str_mul (F.args_str_mul_2 _ _) (gives_str_mul ⟨⟨[c]⟩⟩ (.ofNat k) t u ?_ ?_ ?_).meets ?_
  · rw [ek, Bool.or_eq_false_iff]
    exact ⟨decide_eq_false (by omega), decide_eq_false (by omega)⟩
  · intro h1 h2
    rw [ek] at h1 ⊢
    show ¬ (1 : Int) > (2 ^ 63 - 1) / k
    have : (1 : Int) ≤ (2 ^ 63 - 1) / k := Int.le_ediv_of_mul_le (by omega) (by omega)
    omega
  · intro h1 h2
    show Builtin.Str.tooLong (1 * k) = false
    rw [Nat.one_mul]
    exact decide_eq_false (by rw [sizeLine_eq]; omega)
  · rw [ek]
    match k, hk, hR with
    | 0, hk, hR =>
      rw [if_pos (by omega)]
      exact ⟨by rw [sizeLine_eq]; exact Nat.zero_le _, hR _ _⟩
    | 1, hk, hR =>
      rw [if_neg (by omega), if_pos (by rfl)]
      exact hR _ _
    | k + 2, hk, hR =>
      rw [if_neg (by omega)]
      have h1 : (((k + 2 : Nat) : Int) == 1 || (⟨⟨[c]⟩⟩ : Str).length == 0) = false := by
        rw [Bool.or_eq_false_iff]
        exact ⟨beq_eq_false_iff_ne.mpr (by omega), rfl⟩
      rw [h1, if_neg Bool.false_ne_true]
      have key : ∀ (n : Nat) (a : List Nat), (List.replicate n (⟨[c]⟩ : Array Nat)).foldl (· ++ ·) ⟨a⟩ = ⟨a ++ List.replicate n c⟩ := by
        intro n
        induction n with
        | zero => intro a; simp
        | succ n ih =>
          intro a
          rw [List.replicate_succ, List.foldl_cons, List.append_toArray, ih, List.append_assoc, List.replicate_succ]
          rfl
      have e : (⟨(List.replicate ((k + 2 : Nat) : Int).toNat (⟨⟨[c]⟩⟩ : Str).cps).foldl (· ++ ·) #[]⟩ : Str) = ⟨⟨List.replicate (k + 2) c⟩⟩ := by
        rw [Int.toNat_natCast]
        exact congrArg Str.mk (key (k + 2) [])
      rw [e]
      exact ⟨by show (List.replicate (k + 2) c).length ≤ _; rw [List.length_replicate, sizeLine_eq]; omega, hR _ _⟩
end
end Mine
end
section
open PySem PySem.W PySem.Calls PyProof.Rows
set_option Elab.async false
set_option maxRecDepth 100000
namespace Mine
def n_month := [109, 111, 110, 116, 104]
def n_herd := [104, 101, 114, 100]
def n_cells := [99, 101, 108, 108, 115]
def n_lines := [108, 105, 110, 101, 115]
def n_letter := [108, 101, 116, 116, 101, 114]
def n_place := [112, 108, 97, 99, 101]
def n_dots := [100, 111, 116, 115]
def n_name := [110, 97, 109, 101]
def n_cell := [99, 101, 108, 108]
def q_lm := [95, 108, 97, 119, 95, 109, 97, 105, 108, 46, 60, 108, 111, 99, 97, 108, 115, 62, 46]
noncomputable def eLM (w : World) : Expr := match stmtAt w 121 2 with
  | .For _ _ b _ _ => match b.getD 2 default with
    | .If _ (.Assign _ (.Call _ (e :: _) _ _) _ :: _) _ _ => e
    | _ => default
  | _ => default
theorem lm_loop (w : World) (A : Around) (h₀ : Heap) (mods : List Nat) (hA : Fit 5 A (kt1 w) h₀) (R : Result → Shared → Prop) (g : Array GenState) (d : Drawn) (os : OsState) (it acc di fr t : Nat) (X : Led) :
   ∀ (rest pre : List Nat) (P : List (Str × Tok)) (h : Heap) (B t0 ep : Nat) (dl : List DictEntry) (dn : Nat), (dl = [] ∧ dn = 0 ∨ ∃ k v, dl = [ent w n_letter k v] ∧ dn = 1) → P.length + rest.length ≤ 16777000 →
   Rep (kt1 w) h₀ mods h B [(acc, listO (strValues P) ep), (it, iterO "str_ascii_iterator" (.str ⟨⟨pre ++ rest⟩⟩ t) pre.length), (di, dictO dl dn)] X 0 →
   (∀ h1 B' t' ep' Q dl' dn', (dl' = [] ∧ dn' = 0 ∨ ∃ k v, dl' = [ent w n_letter k v] ∧ dn' = 1) → Q.map (·.1) = rest.map (fun c => (⟨⟨[92, c]⟩⟩ : Str)) → Rep (kt1 w) h₀ mods h1 B' [(acc, listO (strValues (P ++ Q)) ep'), (di, dictO dl' dn')] X 0 → R (.ok .next) ⟨h1, g, d, t', os⟩) →
   codeAny (PP w) A (compL w 121 (eLM w) (.ref it) (.ref acc) di q_lm fr) R ⟨h, g, d, t0, os⟩ := by
  obtain ⟨b1, b2, hw⟩ := parF_ex w
  have hA' := hA.under (compL w 121 (eLM w) (.ref it) (.ref acc) di q_lm fr) (m := 0) (by kernel_rfl)
  intro rest
  induction rest with
  | nil =>
    intro pre P h B t0 ep dl dn hdl hsz D hR
    refine code_start ?_
    change Means _ _ _ _ _ _ ⟨h, g, d, t0 + 0, os⟩
    (refine segW (t0 := t0) (i := 0) 100000 [2] (Code.call (Value.builtin "str_ascii_iterator.__next__") { pos := [Value.ref it] : Args }) D (by assumption) (by assumption) ?_; intro o11; refine ⟨by kernel_rfl, by kernel_rfl, by kernel_rfl, by kernel_rfl, by kernel_rfl, fun h11 D11 => ?_⟩)
    refine callW_of rfl ?_
    rw [mark_none]
    refine r_send (Fit.inner hA' D11 _ (by kernel_rfl) (by kernel_rfl)) it t pre.length (pre ++ []) (by simp) (D11.give [0, 1] (by kernel_rfl)) fun g1 t' x y a1 => ?_
    obtain ⟨B2, E1⟩ := D11.backP [0, 1] [0, 1, 2, 3] [(y, tupO []), (x, stopO y), (acc, listO (strValues P) ep), (di, dictO dl dn)] (by kernel_rfl) a1 (by kernel_rfl)
    change Means _ _ _ _ (outκ o11) (outK o11 _) ⟨g1, g, d, t' + 0, os⟩
    (refine segF (t0 := t') (i := 0) 100000 [2] (Fin.done Flow.next) E1 (by assumption) (by assumption) ?_; intro o12; refine ⟨by kernel_rfl, by kernel_rfl, by kernel_rfl, fun h12 D12 => ?_⟩)
    obtain ⟨B3, E2⟩ := D12.pickE [2, 3] [(acc, listO (strValues (P ++ [])) ep), (di, dictO dl dn)] (by rw [List.append_nil]; kernel_rfl)
    exact hR _ _ _ _ [] _ _ hdl rfl E2
  | cons c rest ih =>
    intro pre P h B t0 ep dl dn hdl hsz D hR
    refine code_start ?_
    change Means _ _ _ _ _ _ ⟨h, g, d, t0 + 0, os⟩
    (refine segW (t0 := t0) (i := 0) 100000 [2] (Code.call (Value.builtin "str_ascii_iterator.__next__") { pos := [Value.ref it] : Args }) D (by assumption) (by assumption) ?_; intro o21; refine ⟨by kernel_rfl, by kernel_rfl, by kernel_rfl, by kernel_rfl, by kernel_rfl, fun h21 D21 => ?_⟩)
    refine callW_of rfl ?_
    rw [mark_none]
    refine r_snext (Fit.inner hA' D21 _ (by kernel_rfl) (by kernel_rfl)) it t pre.length (pre ++ c :: rest) c (by simp) (D21.give [0, 1] (by kernel_rfl)) fun g1 t1 t' a1 => ?_
    obtain ⟨B2, E1⟩ := D21.backP [0, 1] [1, 0, 2] [(acc, listO (strValues P) ep), (it, iterO "str_ascii_iterator" (.str ⟨⟨pre ++ c :: rest⟩⟩ t) (pre.length + 1)), (di, dictO dl dn)] (by kernel_rfl) a1 (by kernel_rfl)
    change Means _ _ _ _ (outκ o21) (outK o21 _) ⟨g1, g, d, t' + 0, os⟩
    have e1 : pre ++ c :: rest = (pre ++ [c]) ++ rest := by simp
    have e2 : pre.length + 1 = (pre ++ [c]).length := by simp
    have hSP := sv_len P
    rw [List.length_cons] at hsz
    rcases hdl with ⟨rfl, rfl⟩ | ⟨k, v, rfl, rfl⟩
    · cases b1 <;> (
      (refine segW (t0 := t') (i := 0) 100000 [3, 3, 3, 1] (Code.call (Value.builtin "list.append") { pos := [Value.ref acc, Value.str { cps := { toList := [92, c] : Array Nat } : Str } (t' + 2)] : Args }) E1 (by assumption) (by assumption) ?_; intro o1001; refine ⟨by kernel_rfl, by kernel_rfl, by kernel_rfl, by kernel_rfl, by kernel_rfl, fun h1001 D1001 => ?_⟩)
      refine callW_of rfl ?_
      rw [mark_none]
      refine r_append acc ep (strValues P) _ (by omega) (D1001.give [1] (by kernel_rfl)) fun g3 t3 a3 => ?_
      obtain ⟨B4, E3⟩ := D1001.backP [1] [0, 1, 2] [(acc, listO (strValues P ++ [.str ⟨⟨[92, c]⟩⟩ (t' + 2)]) (ep + 1)), (it, iterO "str_ascii_iterator" (.str ⟨⟨pre ++ c :: rest⟩⟩ t) (pre.length + 1)), (di, dictO [ent w n_letter t' (.str ⟨⟨[c]⟩⟩ t1)] 1)] (by kernel_rfl) a3 (by kernel_rfl)
      change Means _ _ _ _ (outκ o1001) (outK o1001 _) ⟨g3, g, d, t3 + 0, os⟩
      (refine segF (t0 := t3) (i := 0) 100000 [] ((Fin.again (compL w 121 (eLM w) (.ref it) (.ref acc) di q_lm fr)) ) E3 (by assumption) (by assumption) ?_; intro o1003; refine ⟨by kernel_rfl, by kernel_rfl, by kernel_rfl, fun h1003 D1003 => ?_⟩)
      obtain ⟨B5, E4⟩ := D1003.pickE [0, 1, 2] [(acc, listO (strValues P ++ [.str ⟨⟨[92, c]⟩⟩ (t' + 2)]) (ep + 1)), (it, iterO "str_ascii_iterator" (.str ⟨⟨pre ++ c :: rest⟩⟩ t) (pre.length + 1)), (di, dictO [ent w n_letter t' (.str ⟨⟨[c]⟩⟩ t1)] 1)] (by kernel_rfl)
      have e3 : strValues P ++ [.str ⟨⟨[92, c]⟩⟩ (t' + 2)] = strValues (P ++ [(⟨⟨[92, c]⟩⟩, t' + 2)]) := by simp [strValues]
      rw [e1, e2, e3] at E4
      refine ⟨by kernel_rfl, ih (pre ++ [c]) (P ++ [(⟨⟨[92, c]⟩⟩, t' + 2)]) _ _ _ _ _ _ (.inr ⟨_, _, rfl, rfl⟩) (by rw [List.length_append, List.length_singleton]; omega) E4 fun h1 B' t9 ep' Q dl' dn' hd2 hQ E => ?_⟩
      refine hR h1 B' t9 ep' ((⟨⟨[92, c]⟩⟩, t' + 2) :: Q) dl' dn' hd2 (by rw [List.map_cons, List.map_cons, hQ]) ?_
      rw [List.append_assoc] at E
      exact E)
    · cases b1 <;> (
      (refine segW (t0 := t') (i := 0) 100000 [3, 3, 3, 1] (Code.call (Value.builtin "list.append") { pos := [Value.ref acc, Value.str { cps := { toList := [92, c] : Array Nat } : Str } (t' + 2)] : Args }) E1 (by assumption) (by assumption) ?_; intro o2001; refine ⟨by kernel_rfl, by kernel_rfl, by kernel_rfl, by kernel_rfl, by kernel_rfl, fun h2001 D2001 => ?_⟩)
      refine callW_of rfl ?_
      rw [mark_none]
      refine r_append acc ep (strValues P) _ (by omega) (D2001.give [1] (by kernel_rfl)) fun g3 t3 a3 => ?_
      obtain ⟨B4, E3⟩ := D2001.backP [1] [0, 1, 2] [(acc, listO (strValues P ++ [.str ⟨⟨[92, c]⟩⟩ (t' + 2)]) (ep + 1)), (it, iterO "str_ascii_iterator" (.str ⟨⟨pre ++ c :: rest⟩⟩ t) (pre.length + 1)), (di, dictO [ent w n_letter k (.str ⟨⟨[c]⟩⟩ t1)] 1)] (by kernel_rfl) a3 (by kernel_rfl)
      change Means _ _ _ _ (outκ o2001) (outK o2001 _) ⟨g3, g, d, t3 + 0, os⟩
      (refine segF (t0 := t3) (i := 0) 100000 [] ((Fin.again (compL w 121 (eLM w) (.ref it) (.ref acc) di q_lm fr)) ) E3 (by assumption) (by assumption) ?_; intro o2003; refine ⟨by kernel_rfl, by kernel_rfl, by kernel_rfl, fun h2003 D2003 => ?_⟩)
      obtain ⟨B5, E4⟩ := D2003.pickE [0, 1, 2] [(acc, listO (strValues P ++ [.str ⟨⟨[92, c]⟩⟩ (t' + 2)]) (ep + 1)), (it, iterO "str_ascii_iterator" (.str ⟨⟨pre ++ c :: rest⟩⟩ t) (pre.length + 1)), (di, dictO [ent w n_letter k (.str ⟨⟨[c]⟩⟩ t1)] 1)] (by kernel_rfl)
      have e3 : strValues P ++ [.str ⟨⟨[92, c]⟩⟩ (t' + 2)] = strValues (P ++ [(⟨⟨[92, c]⟩⟩, t' + 2)]) := by simp [strValues]
      rw [e1, e2, e3] at E4
      refine ⟨by kernel_rfl, ih (pre ++ [c]) (P ++ [(⟨⟨[92, c]⟩⟩, t' + 2)]) _ _ _ _ _ _ (.inr ⟨_, _, rfl, rfl⟩) (by rw [List.length_append, List.length_singleton]; omega) E4 fun h1 B' t9 ep' Q dl' dn' hd2 hQ E => ?_⟩
      refine hR h1 B' t9 ep' ((⟨⟨[92, c]⟩⟩, t' + 2) :: Q) dl' dn' hd2 (by rw [List.map_cons, List.map_cons, hQ]) ?_
      rw [List.append_assoc] at E
      exact E)
theorem lm_start (w : World) (A : Around) (h₀ : Heap) (mods : List Nat) (hA : Fit 5 A (kt1 w) h₀) (R : Result → Shared → Prop) (g : Array GenState) (d : Drawn) (os : OsState) (it acc di fr t : Nat) (bb : List Nat) (X : Led) (h : Heap) (B t0 : Nat) (hsz : bb.length ≤ 16777000)
   (D : Rep (kt1 w) h₀ mods h B [(acc, listO [] 0), (it, iterO "str_ascii_iterator" (.str ⟨⟨bb⟩⟩ t) 0), (di, dictO [] 0)] X 0)
   (hR : ∀ h1 B' t' ep' Q dl dn, (dl = [] ∧ dn = 0 ∨ ∃ k v, dl = [ent w n_letter k v] ∧ dn = 1) → Q.map (·.1) = bb.map (fun c => (⟨⟨[92, c]⟩⟩ : Str)) → Rep (kt1 w) h₀ mods h1 B' [(acc, listO (strValues Q) ep'), (di, dictO dl dn)] X 0 → R (.ok .next) ⟨h1, g, d, t', os⟩) :
   codeAny (PP w) A (compS w 121 (eLM w) (.ref it) (.ref acc) di q_lm fr) R ⟨h, g, d, t0, os⟩ := by
  obtain ⟨b1, b2, hw⟩ := parF_ex w
  have hA' := hA.under (compS w 121 (eLM w) (.ref it) (.ref acc) di q_lm fr) (m := 0) (by kernel_rfl)
  refine code_start ?_
  change Means _ _ _ _ _ _ ⟨h, g, d, t0 + 0, os⟩
  cases b2
  · cases b1 <;> (
    (refine segF (t0 := t0) (i := 0) 100000 [2, 2, 1, 2, 2] ((Fin.again (compL w 121 (eLM w) (.ref it) (.ref acc) di q_lm fr)) ) D (by assumption) (by assumption) ?_; intro o1; refine ⟨by kernel_rfl, by kernel_rfl, by kernel_rfl, fun h1 D1 => ?_⟩)
    obtain ⟨B2, E1⟩ := D1.pickE [0, 1, 2] [(acc, listO (strValues []) 0), (it, iterO "str_ascii_iterator" (.str ⟨⟨[] ++ bb⟩⟩ t) ([] : List Nat).length), (di, dictO [] 0)] (by kernel_rfl)
    exact ⟨by kernel_rfl, lm_loop w A h₀ mods hA R g d os it acc di fr t X bb [] [] _ _ _ _ _ _ (.inl ⟨rfl, rfl⟩) (by rw [List.length_nil]; omega) E1 hR⟩)
  · (refine segF (t0 := t0) (i := 0) 100000 [] ((Fin.again (compL w 121 (eLM w) (.ref it) (.ref acc) di q_lm fr)) ) D (by assumption) (by assumption) ?_; intro o2; refine ⟨by kernel_rfl, by kernel_rfl, by kernel_rfl, fun h2 D2 => ?_⟩)
    obtain ⟨B2, E1⟩ := D2.pickE [0, 1, 2] [(acc, listO (strValues []) 0), (it, iterO "str_ascii_iterator" (.str ⟨⟨[] ++ bb⟩⟩ t) ([] : List Nat).length), (di, dictO [] 0)] (by kernel_rfl)
    exact ⟨by kernel_rfl, lm_loop w A h₀ mods hA R g d os it acc di fr t X bb [] [] _ _ _ _ _ _ (.inl ⟨rfl, rfl⟩) (by rw [List.length_nil]; omega) E1 hR⟩
end Mine
end
section
open PySem PySem.W PySem.Calls PyProof.Rows
set_option Elab.async false
set_option maxRecDepth 100000
namespace Mine
theorem Rep.partX {kt : Nat → Option Obj} {h₀ h : Heap} {mods : List Nat} {B : Nat} {L X : Led} {r : Nat} (D : Rep kt h₀ mods h B L X r) (ix jx : List Nat) (L' X' : Led) (e : Mine.pick ix L = L') (e' : Mine.pick jx L = X') (nd : (ix ++ jx).Nodup := by decide) : ∃ B', Rep kt h₀ mods h B' L' (X' ++ X) 0 := by
  have D1 := D.pick (ix ++ jx) nd
  rw [pick_app, e, e'] at D1
  exact ⟨_, D1.perm (by rw [List.append_assoc])⟩
theorem Rep.unpartX {kt : Nat → Option Obj} {h₀ h : Heap} {mods : List Nat} {B : Nat} {L X X' : Led} {r : Nat} (D : Rep kt h₀ mods h B L (X' ++ X) r) : Rep kt h₀ mods h B (L ++ X') X r := D.perm (by rw [List.append_assoc])
structure Cow where
  ad : Nat
  dots : Nat
  td : Nat
  name : List Nat
  tn : Nat
def Cow.obj (c : Cow) : Obj := tupO [.int (.ofNat c.dots) c.td, .str ⟨⟨c.name⟩⟩ c.tn]
def Cow.row (c : Cow) : Nat × Obj := (c.ad, c.obj)
def herdL (H : List Cow) : Led := H.map Cow.row
def herdV (H : List Cow) : List Value := H.map fun c => .ref c.ad
def cellV (C : List (Nat × Nat)) : List Value := C.map fun p => .int (.ofNat p.1) p.2
def escN (c : Nat) (x : List Nat) : List Nat := if c % 2 = 1 then x.flatMap (fun l => [92, l]) else x
def endR (e : Nat) : List Nat := match e with
  | 0 => [10]
  | 1 => [13]
  | 2 => [13, 10]
  | _ => [9, 10, 13]
def endN (e : Nat) : Int := match e with
  | 0 => 1
  | 1 => 1
  | 2 => 1
  | _ => 2
def rowM (c k : Nat) (x : List Nat) : List Nat := List.replicate k 46 ++ escN c x ++ endR (c / 2 % 4)
theorem escN_len (c : Nat) (x : List Nat) : (escN c x).length ≤ 2 * x.length := by
  unfold escN
  split
  · have : ∀ y : List Nat, (y.flatMap (fun l => [92, l])).length = 2 * y.length := by
      intro y
      induction y with
      | nil => rfl
      | cons a y ih => rw [List.flatMap_cons, List.length_append, ih, List.length_cons]; show 2 + 2 * y.length = 2 * (y.length + 1); omega
    rw [this]
    exact Nat.le_refl _
  · omega
theorem endR_len (e : Nat) : (endR e).length ≤ 3 := by unfold endR; split <;> decide
theorem strCat_esc (x : List Nat) : strCat (x.map fun c => (⟨⟨[92, c]⟩⟩ : Str)) = x.flatMap fun l => [92, l] := by
  unfold strCat
  rw [List.flatMap_map]
theorem menuS (a e : Nat) (he : e < 4) : ([.str ⟨⟨[10]⟩⟩ a, .str ⟨⟨[13]⟩⟩ (a + 1), .str ⟨⟨[13, 10]⟩⟩ (a + 2), .str ⟨⟨[9, 10, 13]⟩⟩ (a + 3)] : List Value)[e]? = some (.str ⟨⟨endR e⟩⟩ (a + e)) := by
  match e, he with
  | 0, _ => rfl
  | 1, _ => rfl
  | 2, _ => rfl
  | 3, _ => rfl
theorem menuN (a e : Nat) (he : e < 4) : ([.int 1 a, .int 1 (a + 1), .int 1 (a + 2), .int 2 (a + 3)] : List Value)[e]? = some (.int (endN e) (a + e)) := by
  match e, he with
  | 0, _ => rfl
  | 1, _ => rfl
  | 2, _ => rfl
  | 3, _ => rfl
noncomputable def lmF (w : World) (k : Nat → Nat) (mo tm hd ch : Nat) (tx : List Nat) (tt : Nat) (ln : Int) (tl : Nat) (dl : List DictEntry) (n : Nat) : Obj :=
  fobj (ent w n_month (k 0) (.int (.ofNat mo) tm) :: ent w n_herd (k 1) (.ref hd) :: ent w n_cells (k 2) (.ref ch) :: ent w n_text (k 3) (.str ⟨⟨tx⟩⟩ tt) :: ent w n_lines (k 4) (.int ln tl) :: dl) n
noncomputable def lmD (w : World) (k1 k2 k3 k4 : Nat) (v1 v2 v3 v4 : Value) : List DictEntry := [ent w n_place k1 v1, ent w n_dots k2 v2, ent w n_name k3 v3, ent w n_cell k4 v4]
set_option maxHeartbeats 4000000 in
set_option maxHeartbeats 4000000 in
set_option maxHeartbeats 4000000 in
set_option maxHeartbeats 4000000 in
set_option maxHeartbeats 4000000 in
theorem lm_turn1 (w : World) (A : Around) (h₀ : Heap) (mods : List Nat) (hA : Fit 40 A (kt1 w) h₀) (R : Result → Shared → Prop) (g : Array GenState) (d : Drawn) (os : OsState) (hd ch f it mo tm e1 e2 j : Nat) (H : List Cow) (C : List (Nat × Nat)) (k : Nat → Nat) (c : Cow) (p : Nat × Nat) (X : Led)
   (hj : H[j]? = some c) (hp : C[(mo + j) % 16]? = some p) (hz : H.length ≤ 10000) (hc1 : c.dots ≤ 1000) (hc2 : c.name.length ≤ 1000) (hc3 : ∀ x ∈ c.name, x < 128)
   (h : Heap) (B t0 tt tl : Nat) (tx : List Nat) (ln : Int) (left : Nat) (hx : tx.length ≤ 16700000)
   (D : Rep (kt1 w) h₀ mods h B [(hd, listO (herdV H) e1), (ch, listO (cellV C) e2), (f, lmF w k mo tm hd ch tx tt ln tl [] 5), (it, ritO j (left + 1 : Nat)), (c.ad, c.obj)] X 0)
   (hR : ∀ h' B' t' tt' tl' k1 k2 k3 k4 v1 v2 v3 v4, Rep (kt1 w) h₀ mods h' B' [(hd, listO (herdV H) e1), (ch, listO (cellV C) e2), (f, lmF w k mo tm hd ch (tx ++ rowM p.1 c.dots c.name) tt' (ln + endN (p.1 / 2 % 4)) tl' (lmD w k1 k2 k3 k4 v1 v2 v3 v4) 9), (it, ritO (j + 1 : Nat) (left : Nat)), (c.ad, c.obj)] X 0 → codeAny (PP w) A (forOf (stmtAt w 121 2) (.ref it) (envOf w 121 f q_lm)) R ⟨h', g, d, t', os⟩) :
   codeAny (PP w) A (forOf (stmtAt w 121 2) (.ref it) (envOf w 121 f q_lm)) R ⟨h, g, d, t0, os⟩ := by
  obtain ⟨b1, b2, hw⟩ := parF_ex w
  have hA' := hA.under (forOf (stmtAt w 121 2) (.ref it) (envOf w 121 f q_lm)) (m := 39) (by kernel_rfl)
  have hj2 : j < H.length := (List.getElem?_eq_some_iff.mp hj).1
  have hen : ∀ e, (endR e).length ≤ 3 := endR_len
  have hes := escN_len p.1 c.name
  refine code_start ?_
  change Means _ _ _ _ _ _ ⟨h, g, d, t0 + 0, os⟩
  (refine segW (t0 := t0) (i := 0) 100000 [4] (Code.call (Value.builtin "range_iterator.__next__") { pos := [Value.ref it] : Args }) D (by assumption) (by assumption) ?_; intro o11; refine ⟨by kernel_rfl, by kernel_rfl, by kernel_rfl, by kernel_rfl, by kernel_rfl, fun h11 D11 => ?_⟩)
  refine callW_of rfl ?_
  rw [mark_none]
  refine r_rnext it j (left + 1 : Nat) (by omega) (D11.give [0, 0, 0, 1] (by kernel_rfl)) fun g1 t1 t' a1 => ?_
  rw [show (j : Int) + 1 = (j + 1 : Nat) by omega, show ((left + 1 : Nat) : Int) - 1 = (left : Nat) by omega] at a1
  obtain ⟨B2, E2⟩ := D11.backP [0, 0, 0, 1] [1, 2, 3, 0, 4] [(hd, listO (herdV H) e1), (ch, listO (cellV C) e2), (f, lmF w k mo tm hd ch tx tt ln tl [] 5), (it, ritO (j + 1 : Nat) (left : Nat)), (c.ad, c.obj)] (by kernel_rfl) a1 (by kernel_rfl)
  change Means _ _ _ _ (outκ o11) (outK o11 (.ok (.ret (.int (.ofNat j) t1)))) ⟨g1, g, d, t' + 0, os⟩
  (refine segW (t0 := t') (i := 0) 100000 [3, 3, 3, 3, 1, 1, 1] (Code.call (Value.builtin "list.__getitem__") { pos := [Value.ref hd, Value.int (Int.ofNat j) t1] : Args }) E2 (by assumption) (by assumption) ?_; intro o12; refine ⟨by kernel_rfl, by kernel_rfl, by kernel_rfl, by kernel_rfl, by kernel_rfl, fun h12 D12 => ?_⟩)
  refine callW_of rfl ?_
  rw [mark_none]
  refine r_lget hd e1 j t1 (herdV H) (.ref c.ad) (by simp [herdV, hj]) (by omega) (D12.give [1] (by kernel_rfl)) ?_
  refine Means.add0 ?_
  cases b1 <;> (
  (refine segW (t0 := t' + outI o12) (i := 0) 100000 [5, 5, 5, 1, 5, 6, 6, 1, 6, 6, 6, 5, 6, 6, 6, 1, 6, 6, 6, 5, 6, 6, 6, 1, 6, 6, 6, 5, 6, 6, 8, 3, 3, 3, 3, 3, 3, 3, 1] (Code.call (Value.builtin "int.__mod__") { pos := [Value.int (Int.ofNat (mo + j)) (t' + 3), Value.int 16 (t' + 4)] : Args }) D12 (by assumption) (by assumption) ?_; intro o13; refine ⟨by kernel_rfl, by kernel_rfl, by kernel_rfl, by kernel_rfl, by kernel_rfl, fun h13 D13 => ?_⟩)
  refine r_modN (mo + j) 16 _ _ (by decide) fun t2 t3 => ?_
  refine Means.add0 ?_
  (refine segW (t0 := t3) (i := 0) 100000 [2, 2, 2] (Code.call (Value.builtin "list.__getitem__") { pos := [Value.ref ch, Value.int (Int.ofNat ((mo + j) % 16)) t2] : Args }) D13 (by assumption) (by assumption) ?_; intro o14; refine ⟨by kernel_rfl, by kernel_rfl, by kernel_rfl, by kernel_rfl, by kernel_rfl, fun h14 D14 => ?_⟩)
  refine callW_of rfl ?_
  rw [mark_none]
  refine r_lget ch e2 ((mo + j) % 16) t2 (cellV C) (.int (.ofNat p.1) p.2) (by simp [cellV, hp]) (by omega) (D14.give [0, 1] (by kernel_rfl)) ?_
  refine Means.add0 ?_
  (refine segW (t0 := t3 + outI o14) (i := 0) 100000 [3, 3, 3] (Code.call (Value.builtin "int.__mod__") { pos := [Value.int (Int.ofNat p.fst) p.snd, Value.int 2 (t3 + 1)] : Args }) D14 (by assumption) (by assumption) ?_; intro o15; refine ⟨by kernel_rfl, by kernel_rfl, by kernel_rfl, by kernel_rfl, by kernel_rfl, fun h15 D15 => ?_⟩)
  refine r_modN p.1 2 _ _ (by decide) fun t4 t5 => ?_
  have he : p.1 % 2 = 0 ∨ p.1 % 2 = 1 := by omega
  rcases he with he | he
  · have hn : escN p.1 c.name = c.name := if_neg (by omega)
    rw [he]
    refine Means.add0 ?_
    obtain ⟨B3, E3⟩ := D15.pickE [0, 1, 2, 3, 4] [(hd, listO (herdV H) e1), (ch, listO (cellV C) e2), (f, lmF w k mo tm hd ch tx tt ln tl (lmD w t' (t' + 1) (t' + 2) t3 (.int (.ofNat j) t1) (.int (.ofNat c.dots) c.td) (.str ⟨⟨c.name⟩⟩ c.tn) (.int (.ofNat p.1) p.2)) 9), (it, ritO (j + 1 : Nat) (left : Nat)), (c.ad, c.obj)] (by kernel_rfl)
    (refine segW (t0 := t5) (i := 0) 100000 [1, 3, 3, 1] (Code.call (Value.builtin "str.__mul__") { pos := [Value.str { cps := { toList := [46] : Array Nat } : Str } (t5 + 1), Value.int (Int.ofNat c.dots) c.td] : Args }) E3 (by assumption) (by assumption) ?_; intro o41; refine ⟨by kernel_rfl, by kernel_rfl, by kernel_rfl, by kernel_rfl, by kernel_rfl, fun h41 D41 => ?_⟩)
    refine callW_of rfl ?_
    rw [mark_none]
    refine r_smul 46 c.dots _ c.td (by omega) fun u6 u7 => ?_
    refine Means.add0 ?_
    (refine segW (t0 := u7) (i := 0) 100000 [3] (Code.call (Value.builtin "str.__add__") { pos := [Value.str { cps := { toList := List.replicate c.dots 46 : Array Nat } : Str } u6, Value.str { cps := { toList := c.name : Array Nat } : Str } c.tn] : Args }) D41 (by assumption) (by assumption) ?_; intro o42; refine ⟨by kernel_rfl, by kernel_rfl, by kernel_rfl, by kernel_rfl, by kernel_rfl, fun h42 D42 => ?_⟩)
    refine r_sadd (List.replicate c.dots 46) (c.name) _ _ (by rw [List.length_replicate]; omega) fun u8 u9 => ?_
    refine Means.add0 ?_
    (refine segW (t0 := u9) (i := 0) 100000 [3] (Code.call (Value.builtin "int.__floordiv__") { pos := [Value.int (Int.ofNat p.fst) p.snd, Value.int 2 (u9 + 4)] : Args }) D42 (by assumption) (by assumption) ?_; intro o43; refine ⟨by kernel_rfl, by kernel_rfl, by kernel_rfl, by kernel_rfl, by kernel_rfl, fun h43 D43 => ?_⟩)
    refine r_fdivN p.1 2 _ _ (by decide) (by decide) fun u10 u11 => ?_
    refine Means.add0 ?_
    (refine segW (t0 := u11) (i := 0) 100000 [] (Code.call (Value.builtin "int.__mod__") { pos := [Value.int (Int.ofNat (p.fst / 2)) u10, Value.int 4 u11] : Args }) D43 (by assumption) (by assumption) ?_; intro o44; refine ⟨by kernel_rfl, by kernel_rfl, by kernel_rfl, by kernel_rfl, by kernel_rfl, fun h44 D44 => ?_⟩)
    refine r_modN (p.1 / 2) 4 _ _ (by decide) fun u12 u13 => ?_
    refine Means.add0 ?_
    (refine segW (t0 := u13) (i := 0) 100000 [6, 6, 6] (Code.call (Value.builtin "list.__getitem__") { pos := [Value.ref B3, Value.int (Int.ofNat (p.fst / 2 % 4)) u12] : Args }) D44 (by assumption) (by assumption) ?_; intro o45; refine ⟨by kernel_rfl, by kernel_rfl, by kernel_rfl, by kernel_rfl, by kernel_rfl, fun h45 D45 => ?_⟩)
    refine callW_of rfl ?_
    rw [mark_none]
    refine r_lget B3 0 (p.1 / 2 % 4) u12 _ (.str ⟨⟨endR (p.1 / 2 % 4)⟩⟩ (u9 + p.1 / 2 % 4)) (menuS u9 _ (Nat.mod_lt _ (by decide))) (by omega) (D45.give [0, 0, 0, 0, 0, 1] (by kernel_rfl)) ?_
    refine Means.add0 ?_
    (refine segW (t0 := u13 + outI o45) (i := 0) 100000 [1] (Code.call (Value.builtin "str.__add__") { pos := [Value.str { cps := { toList := List.replicate c.dots 46 ++ c.name : Array Nat } : Str } u8, Value.str { cps := { toList := endR (p.fst / 2 % 4) : Array Nat } : Str } (u9 + p.fst / 2 % 4)] : Args }) D45 (by assumption) (by assumption) ?_; intro o46; refine ⟨by kernel_rfl, by kernel_rfl, by kernel_rfl, by kernel_rfl, by kernel_rfl, fun h46 D46 => ?_⟩)
    refine r_sadd (List.replicate c.dots 46 ++ c.name) (endR (p.1 / 2 % 4)) _ _ (by have := hen (p.1 / 2 % 4); rw [List.length_append, List.length_replicate]; omega) fun v8 v9 => ?_
    refine Means.add0 ?_
    (refine segW (t0 := v9) (i := 0) 100000 [] (Code.call (Value.builtin "str.__add__") { pos := [Value.str { cps := { toList := tx : Array Nat } : Str } tt, Value.str { cps := { toList := List.replicate c.dots 46 ++ c.name ++ endR (p.fst / 2 % 4) : Array Nat } : Str } v8] : Args }) D46 (by assumption) (by assumption) ?_; intro o47; refine ⟨by kernel_rfl, by kernel_rfl, by kernel_rfl, by kernel_rfl, by kernel_rfl, fun h47 D47 => ?_⟩)
    refine r_sadd tx (List.replicate c.dots 46 ++ c.name ++ endR (p.1 / 2 % 4)) _ _ (by have := hen (p.1 / 2 % 4); rw [List.length_append, List.length_append, List.length_replicate]; omega) fun w8 w9 => ?_
    refine Means.add0 ?_
    obtain ⟨B7, E7⟩ := D47.pickE [0, 1, 2, 3, 4] [(hd, listO (herdV H) e1), (ch, listO (cellV C) e2), (f, lmF w k mo tm hd ch tx tt ln tl (lmD w t' (t' + 1) (t' + 2) t3 (.int (.ofNat j) t1) (.int (.ofNat c.dots) c.td) (.str ⟨⟨c.name⟩⟩ c.tn) (.int (.ofNat p.1) p.2)) 9), (it, ritO (j + 1 : Nat) (left : Nat)), (c.ad, c.obj)] (by kernel_rfl)
    (refine segW (t0 := w9) (i := 0) 100000 [3, 3, 3, 3] (Code.call (Value.builtin "int.__floordiv__") { pos := [Value.int (Int.ofNat p.fst) p.snd, Value.int 2 (w9 + 5)] : Args }) E7 (by assumption) (by assumption) ?_; intro o48; refine ⟨by kernel_rfl, by kernel_rfl, by kernel_rfl, by kernel_rfl, by kernel_rfl, fun h48 D48 => ?_⟩)
    refine r_fdivN p.1 2 _ _ (by decide) (by decide) fun x10 x11 => ?_
    refine Means.add0 ?_
    (refine segW (t0 := x11) (i := 0) 100000 [] (Code.call (Value.builtin "int.__mod__") { pos := [Value.int (Int.ofNat (p.fst / 2)) x10, Value.int 4 x11] : Args }) D48 (by assumption) (by assumption) ?_; intro o49; refine ⟨by kernel_rfl, by kernel_rfl, by kernel_rfl, by kernel_rfl, by kernel_rfl, fun h49 D49 => ?_⟩)
    refine r_modN (p.1 / 2) 4 _ _ (by decide) fun x12 x13 => ?_
    refine Means.add0 ?_
    (refine segW (t0 := x13) (i := 0) 100000 [6, 6, 6] (Code.call (Value.builtin "list.__getitem__") { pos := [Value.ref B7, Value.int (Int.ofNat (p.fst / 2 % 4)) x12] : Args }) D49 (by assumption) (by assumption) ?_; intro o410; refine ⟨by kernel_rfl, by kernel_rfl, by kernel_rfl, by kernel_rfl, by kernel_rfl, fun h410 D410 => ?_⟩)
    refine callW_of rfl ?_
    rw [mark_none]
    refine r_lget B7 0 (p.1 / 2 % 4) x12 _ (.int (endN (p.1 / 2 % 4)) (w9 + 1 + p.1 / 2 % 4)) (menuN (w9 + 1) _ (Nat.mod_lt _ (by decide))) (by omega) (D410.give [0, 0, 0, 0, 0, 1] (by kernel_rfl)) ?_
    refine Means.add0 ?_
    (refine segF (t0 := x13 + outI o410) (i := 0) 100000 [1, 1, 3, 3] ((Fin.again (forOf (stmtAt w 121 2) (.ref it) (envOf w 121 f q_lm))) ) D410 (by assumption) (by assumption) ?_; intro o411; refine ⟨by kernel_rfl, by kernel_rfl, by kernel_rfl, fun h411 D411 => ?_⟩)
    obtain ⟨B8, E8⟩ := D411.pickE [0, 1, 2, 3, 4] [(hd, listO (herdV H) e1), (ch, listO (cellV C) e2), (f, lmF w k mo tm hd ch (tx ++ (List.replicate c.dots 46 ++ c.name ++ endR (p.1 / 2 % 4))) w8 (ln + endN (p.1 / 2 % 4)) x13 (lmD w t' (t' + 1) (t' + 2) t3 (.int (.ofNat j) t1) (.int (.ofNat c.dots) c.td) (.str ⟨⟨c.name⟩⟩ c.tn) (.int (.ofNat p.1) p.2)) 9), (it, ritO (j + 1 : Nat) (left : Nat)), (c.ad, c.obj)] (by kernel_rfl)
    rw [show List.replicate c.dots 46 ++ c.name ++ endR (p.1 / 2 % 4) = rowM p.1 c.dots c.name from by unfold rowM; rw [hn]] at E8
    exact ⟨by kernel_rfl, hR _ _ _ _ _ _ _ _ _ _ _ _ _ E8⟩
  · have hn : escN p.1 c.name = c.name.flatMap (fun l => [92, l]) := if_pos he
    rw [he]
    refine Means.add0 ?_
    (refine segW (t0 := t5) (i := 0) 100000 [1, 3] (Code.call (Value.builtin "str.__iter__") { pos := [Value.str { cps := { toList := c.name : Array Nat } : Str } c.tn] : Args }) D15 (by assumption) (by assumption) ?_; intro o31; refine ⟨by kernel_rfl, by kernel_rfl, by kernel_rfl, by kernel_rfl, by kernel_rfl, fun h31 D31 => ?_⟩)
    refine callW_of rfl ?_
    rw [mark_none]
    refine r_siter (Fit.inner hA' D31 _ (by kernel_rfl) (by kernel_rfl)) c.name c.tn hc3 (D31.give [] (by kernel_rfl)) fun g2 si t6 a2 => ?_
    obtain ⟨B3, E3⟩ := D31.backP [] [1, 2, 3, 4, 5, 0] [(hd, listO (herdV H) e1), (ch, listO (cellV C) e2), (f, lmF w k mo tm hd ch tx tt ln tl (lmD w t' (t' + 1) (t' + 2) t3 (.int (.ofNat j) t1) (.int (.ofNat c.dots) c.td) (.str ⟨⟨c.name⟩⟩ c.tn) (.int (.ofNat p.1) p.2)) 9), (it, ritO (j + 1 : Nat) (left : Nat)), (c.ad, c.obj), (si, iterO "str_ascii_iterator" (.str ⟨⟨c.name⟩⟩ c.tn) 0)] (by kernel_rfl) a2 (by kernel_rfl)
    refine Means.add0 ?_
    (refine segL (t0 := t6) (i := 0) 100000 [6] ((compS w 121 (eLM w) (.ref si) (.ref B3) (B3 + 1) q_lm f) ) E3 (by assumption) (by assumption) ?_; intro o32; refine ⟨by kernel_rfl, by kernel_rfl, by kernel_rfl, by kernel_rfl, fun h32 D32 => ?_⟩)
    obtain ⟨B4, E4⟩ := D32.partX [6, 5, 7] [0, 1, 2, 3, 4] [(B3, listO [] 0), (si, iterO "str_ascii_iterator" (.str ⟨⟨c.name⟩⟩ c.tn) 0), (B3 + 1, dictO [] 0)] [(hd, listO (herdV H) e1), (ch, listO (cellV C) e2), (f, lmF w k mo tm hd ch tx tt ln tl (lmD w t' (t' + 1) (t' + 2) t3 (.int (.ofNat j) t1) (.int (.ofNat c.dots) c.td) (.str ⟨⟨c.name⟩⟩ c.tn) (.int (.ofNat p.1) p.2)) 9), (it, ritO (j + 1 : Nat) (left : Nat)), (c.ad, c.obj)] (by kernel_rfl) (by kernel_rfl)
    refine lm_start w _ h₀ mods (hA'.ar _ (by kernel_rfl) (by kernel_rfl)) _ g d os si B3 (B3 + 1) f c.tn c.name _ _ _ _ (by omega) E4 fun h5 B5 t7 ep5 Q dl dn hdl hQ E5 => ?_
    have E5 := E5.unpartX
    have hcat : strCat (Q.map (·.1)) = c.name.flatMap (fun l => [92, l]) := by rw [hQ, strCat_esc]
    refine Means.add0 ?_
    rcases hdl with ⟨rfl, rfl⟩ | ⟨kk, vv, rfl, rfl⟩ <;> (
    (first | (refine segW (t0 := t7) (i := 0) 100000 [2] (Code.call (Value.builtin "str.join") { pos := [Value.str { cps := { toList := [] : Array Nat } : Str } (t5 + 1), Value.ref B3] : Args }) E5 (by assumption) (by assumption) ?_; intro o33; refine ⟨by kernel_rfl!, by kernel_rfl!, by kernel_rfl!, by kernel_rfl!, by kernel_rfl!, fun h33 D33 => ?_⟩) | (refine segW (t0 := t7) (i := 0) 100000 [2, 2, 2] (Code.call (Value.builtin "str.join") { pos := [Value.str { cps := { toList := [] : Array Nat } : Str } (t5 + 1), Value.ref B3] : Args }) E5 (by assumption) (by assumption) ?_; intro o33; refine ⟨by kernel_rfl!, by kernel_rfl!, by kernel_rfl!, by kernel_rfl!, by kernel_rfl!, fun h33 D33 => ?_⟩))
    refine callW_of rfl ?_
    rw [mark_none]
    refine r_join B3 _ ep5 Q (by rw [hcat, ← hn]; omega) (D33.give [1] (by kernel_rfl)) fun t8 t9 => ?_
    rw [hcat, ← hn]
    refine Means.add0 ?_
    obtain ⟨B6, E6⟩ := D33.pickE [2, 3, 4, 5, 6] [(hd, listO (herdV H) e1), (ch, listO (cellV C) e2), (f, lmF w k mo tm hd ch tx tt ln tl (lmD w t' (t' + 1) (t' + 2) t3 (.int (.ofNat j) t1) (.int (.ofNat c.dots) c.td) (.str ⟨⟨c.name⟩⟩ c.tn) (.int (.ofNat p.1) p.2)) 9), (it, ritO (j + 1 : Nat) (left : Nat)), (c.ad, c.obj)] (by kernel_rfl)
    (refine segW (t0 := t9) (i := 0) 100000 [3, 3, 3, 3, 1] (Code.call (Value.builtin "str.__mul__") { pos := [Value.str { cps := { toList := [46] : Array Nat } : Str } (t9 + 1), Value.int (Int.ofNat c.dots) c.td] : Args }) E6 (by assumption) (by assumption) ?_; intro o51; refine ⟨by kernel_rfl, by kernel_rfl, by kernel_rfl, by kernel_rfl, by kernel_rfl, fun h51 D51 => ?_⟩)
    refine callW_of rfl ?_
    rw [mark_none]
    refine r_smul 46 c.dots _ c.td (by omega) fun u6 u7 => ?_
    refine Means.add0 ?_
    (refine segW (t0 := u7) (i := 0) 100000 [3] (Code.call (Value.builtin "str.__add__") { pos := [Value.str { cps := { toList := List.replicate c.dots 46 : Array Nat } : Str } u6, Value.str { cps := { toList := escN p.fst c.name : Array Nat } : Str } t8] : Args }) D51 (by assumption) (by assumption) ?_; intro o52; refine ⟨by kernel_rfl, by kernel_rfl, by kernel_rfl, by kernel_rfl, by kernel_rfl, fun h52 D52 => ?_⟩)
    refine r_sadd (List.replicate c.dots 46) (escN p.1 c.name) _ _ (by rw [List.length_replicate]; omega) fun u8 u9 => ?_
    refine Means.add0 ?_
    (refine segW (t0 := u9) (i := 0) 100000 [3] (Code.call (Value.builtin "int.__floordiv__") { pos := [Value.int (Int.ofNat p.fst) p.snd, Value.int 2 (u9 + 4)] : Args }) D52 (by assumption) (by assumption) ?_; intro o53; refine ⟨by kernel_rfl, by kernel_rfl, by kernel_rfl, by kernel_rfl, by kernel_rfl, fun h53 D53 => ?_⟩)
    refine r_fdivN p.1 2 _ _ (by decide) (by decide) fun u10 u11 => ?_
    refine Means.add0 ?_
    (refine segW (t0 := u11) (i := 0) 100000 [] (Code.call (Value.builtin "int.__mod__") { pos := [Value.int (Int.ofNat (p.fst / 2)) u10, Value.int 4 u11] : Args }) D53 (by assumption) (by assumption) ?_; intro o54; refine ⟨by kernel_rfl, by kernel_rfl, by kernel_rfl, by kernel_rfl, by kernel_rfl, fun h54 D54 => ?_⟩)
    refine r_modN (p.1 / 2) 4 _ _ (by decide) fun u12 u13 => ?_
    refine Means.add0 ?_
    (refine segW (t0 := u13) (i := 0) 100000 [6, 6, 6] (Code.call (Value.builtin "list.__getitem__") { pos := [Value.ref B6, Value.int (Int.ofNat (p.fst / 2 % 4)) u12] : Args }) D54 (by assumption) (by assumption) ?_; intro o55; refine ⟨by kernel_rfl, by kernel_rfl, by kernel_rfl, by kernel_rfl, by kernel_rfl, fun h55 D55 => ?_⟩)
    refine callW_of rfl ?_
    rw [mark_none]
    refine r_lget B6 0 (p.1 / 2 % 4) u12 _ (.str ⟨⟨endR (p.1 / 2 % 4)⟩⟩ (u9 + p.1 / 2 % 4)) (menuS u9 _ (Nat.mod_lt _ (by decide))) (by omega) (D55.give [0, 0, 0, 0, 0, 1] (by kernel_rfl)) ?_
    refine Means.add0 ?_
    (refine segW (t0 := u13 + outI o55) (i := 0) 100000 [1] (Code.call (Value.builtin "str.__add__") { pos := [Value.str { cps := { toList := List.replicate c.dots 46 ++ escN p.fst c.name : Array Nat } : Str } u8, Value.str { cps := { toList := endR (p.fst / 2 % 4) : Array Nat } : Str } (u9 + p.fst / 2 % 4)] : Args }) D55 (by assumption) (by assumption) ?_; intro o56; refine ⟨by kernel_rfl, by kernel_rfl, by kernel_rfl, by kernel_rfl, by kernel_rfl, fun h56 D56 => ?_⟩)
    refine r_sadd (List.replicate c.dots 46 ++ escN p.1 c.name) (endR (p.1 / 2 % 4)) _ _ (by have := hen (p.1 / 2 % 4); rw [List.length_append, List.length_replicate]; omega) fun v8 v9 => ?_
    refine Means.add0 ?_
    (refine segW (t0 := v9) (i := 0) 100000 [] (Code.call (Value.builtin "str.__add__") { pos := [Value.str { cps := { toList := tx : Array Nat } : Str } tt, Value.str { cps := { toList := List.replicate c.dots 46 ++ escN p.fst c.name ++ endR (p.fst / 2 % 4) : Array Nat } : Str } v8] : Args }) D56 (by assumption) (by assumption) ?_; intro o57; refine ⟨by kernel_rfl, by kernel_rfl, by kernel_rfl, by kernel_rfl, by kernel_rfl, fun h57 D57 => ?_⟩)
    refine r_sadd tx (List.replicate c.dots 46 ++ escN p.1 c.name ++ endR (p.1 / 2 % 4)) _ _ (by have := hen (p.1 / 2 % 4); rw [List.length_append, List.length_append, List.length_replicate]; omega) fun w8 w9 => ?_
    refine Means.add0 ?_
    obtain ⟨B7, E7⟩ := D57.pickE [0, 1, 2, 3, 4] [(hd, listO (herdV H) e1), (ch, listO (cellV C) e2), (f, lmF w k mo tm hd ch tx tt ln tl (lmD w t' (t' + 1) (t' + 2) t3 (.int (.ofNat j) t1) (.int (.ofNat c.dots) c.td) (.str ⟨⟨escN p.1 c.name⟩⟩ t8) (.int (.ofNat p.1) p.2)) 9), (it, ritO (j + 1 : Nat) (left : Nat)), (c.ad, c.obj)] (by kernel_rfl)
    (refine segW (t0 := w9) (i := 0) 100000 [3, 3, 3, 3] (Code.call (Value.builtin "int.__floordiv__") { pos := [Value.int (Int.ofNat p.fst) p.snd, Value.int 2 (w9 + 5)] : Args }) E7 (by assumption) (by assumption) ?_; intro o58; refine ⟨by kernel_rfl, by kernel_rfl, by kernel_rfl, by kernel_rfl, by kernel_rfl, fun h58 D58 => ?_⟩)
    refine r_fdivN p.1 2 _ _ (by decide) (by decide) fun x10 x11 => ?_
    refine Means.add0 ?_
    (refine segW (t0 := x11) (i := 0) 100000 [] (Code.call (Value.builtin "int.__mod__") { pos := [Value.int (Int.ofNat (p.fst / 2)) x10, Value.int 4 x11] : Args }) D58 (by assumption) (by assumption) ?_; intro o59; refine ⟨by kernel_rfl, by kernel_rfl, by kernel_rfl, by kernel_rfl, by kernel_rfl, fun h59 D59 => ?_⟩)
    refine r_modN (p.1 / 2) 4 _ _ (by decide) fun x12 x13 => ?_
    refine Means.add0 ?_
    (refine segW (t0 := x13) (i := 0) 100000 [6, 6, 6] (Code.call (Value.builtin "list.__getitem__") { pos := [Value.ref B7, Value.int (Int.ofNat (p.fst / 2 % 4)) x12] : Args }) D59 (by assumption) (by assumption) ?_; intro o510; refine ⟨by kernel_rfl, by kernel_rfl, by kernel_rfl, by kernel_rfl, by kernel_rfl, fun h510 D510 => ?_⟩)
    refine callW_of rfl ?_
    rw [mark_none]
    refine r_lget B7 0 (p.1 / 2 % 4) x12 _ (.int (endN (p.1 / 2 % 4)) (w9 + 1 + p.1 / 2 % 4)) (menuN (w9 + 1) _ (Nat.mod_lt _ (by decide))) (by omega) (D510.give [0, 0, 0, 0, 0, 1] (by kernel_rfl)) ?_
    refine Means.add0 ?_
    (refine segF (t0 := x13 + outI o510) (i := 0) 100000 [1, 1, 3, 3] ((Fin.again (forOf (stmtAt w 121 2) (.ref it) (envOf w 121 f q_lm))) ) D510 (by assumption) (by assumption) ?_; intro o511; refine ⟨by kernel_rfl, by kernel_rfl, by kernel_rfl, fun h511 D511 => ?_⟩)
    obtain ⟨B8, E8⟩ := D511.pickE [0, 1, 2, 3, 4] [(hd, listO (herdV H) e1), (ch, listO (cellV C) e2), (f, lmF w k mo tm hd ch (tx ++ (List.replicate c.dots 46 ++ escN p.1 c.name ++ endR (p.1 / 2 % 4))) w8 (ln + endN (p.1 / 2 % 4)) x13 (lmD w t' (t' + 1) (t' + 2) t3 (.int (.ofNat j) t1) (.int (.ofNat c.dots) c.td) (.str ⟨⟨escN p.1 c.name⟩⟩ t8) (.int (.ofNat p.1) p.2)) 9), (it, ritO (j + 1 : Nat) (left : Nat)), (c.ad, c.obj)] (by kernel_rfl)
    rw [show List.replicate c.dots 46 ++ escN p.1 c.name ++ endR (p.1 / 2 % 4) = rowM p.1 c.dots c.name from rfl] at E8
    exact ⟨by kernel_rfl, hR _ _ _ _ _ _ _ _ _ _ _ _ _ E8⟩)
  )
set_option maxHeartbeats 4000000 in
theorem lm_turn2 (w : World) (A : Around) (h₀ : Heap) (mods : List Nat) (hA : Fit 40 A (kt1 w) h₀) (R : Result → Shared → Prop) (g : Array GenState) (d : Drawn) (os : OsState) (hd ch f it mo tm e1 e2 j : Nat) (H : List Cow) (C : List (Nat × Nat)) (k : Nat → Nat) (c : Cow) (p : Nat × Nat) (X : Led)
   (hj : H[j]? = some c) (hp : C[(mo + j) % 16]? = some p) (hz : H.length ≤ 10000) (hc1 : c.dots ≤ 1000) (hc2 : c.name.length ≤ 1000) (hc3 : ∀ x ∈ c.name, x < 128)
   (h : Heap) (B t0 tt tl : Nat) (tx : List Nat) (ln : Int) (left : Nat) (k1 k2 k3 k4 : Nat) (v1 v2 v3 v4 : Value) (hx : tx.length ≤ 16700000)
   (D : Rep (kt1 w) h₀ mods h B [(hd, listO (herdV H) e1), (ch, listO (cellV C) e2), (f, lmF w k mo tm hd ch tx tt ln tl (lmD w k1 k2 k3 k4 v1 v2 v3 v4) 9), (it, ritO j (left + 1 : Nat)), (c.ad, c.obj)] X 0)
   (hR : ∀ h' B' t' tt' tl' k1 k2 k3 k4 v1 v2 v3 v4, Rep (kt1 w) h₀ mods h' B' [(hd, listO (herdV H) e1), (ch, listO (cellV C) e2), (f, lmF w k mo tm hd ch (tx ++ rowM p.1 c.dots c.name) tt' (ln + endN (p.1 / 2 % 4)) tl' (lmD w k1 k2 k3 k4 v1 v2 v3 v4) 9), (it, ritO (j + 1 : Nat) (left : Nat)), (c.ad, c.obj)] X 0 → codeAny (PP w) A (forOf (stmtAt w 121 2) (.ref it) (envOf w 121 f q_lm)) R ⟨h', g, d, t', os⟩) :
   codeAny (PP w) A (forOf (stmtAt w 121 2) (.ref it) (envOf w 121 f q_lm)) R ⟨h, g, d, t0, os⟩ := by
  obtain ⟨b1, b2, hw⟩ := parF_ex w
  have hA' := hA.under (forOf (stmtAt w 121 2) (.ref it) (envOf w 121 f q_lm)) (m := 39) (by kernel_rfl)
  have hj2 : j < H.length := (List.getElem?_eq_some_iff.mp hj).1
  have hen : ∀ e, (endR e).length ≤ 3 := endR_len
  have hes := escN_len p.1 c.name
  refine code_start ?_
  change Means _ _ _ _ _ _ ⟨h, g, d, t0 + 0, os⟩
  (refine segW (t0 := t0) (i := 0) 100000 [4] (Code.call (Value.builtin "range_iterator.__next__") { pos := [Value.ref it] : Args }) D (by assumption) (by assumption) ?_; intro o11; refine ⟨by kernel_rfl, by kernel_rfl, by kernel_rfl, by kernel_rfl, by kernel_rfl, fun h11 D11 => ?_⟩)
  refine callW_of rfl ?_
  rw [mark_none]
  refine r_rnext it j (left + 1 : Nat) (by omega) (D11.give [0, 0, 0, 1] (by kernel_rfl)) fun g1 t1 t' a1 => ?_
  rw [show (j : Int) + 1 = (j + 1 : Nat) by omega, show ((left + 1 : Nat) : Int) - 1 = (left : Nat) by omega] at a1
  obtain ⟨B2, E2⟩ := D11.backP [0, 0, 0, 1] [1, 2, 3, 0, 4] [(hd, listO (herdV H) e1), (ch, listO (cellV C) e2), (f, lmF w k mo tm hd ch tx tt ln tl (lmD w k1 k2 k3 k4 v1 v2 v3 v4) 9), (it, ritO (j + 1 : Nat) (left : Nat)), (c.ad, c.obj)] (by kernel_rfl) a1 (by kernel_rfl)
  change Means _ _ _ _ (outκ o11) (outK o11 (.ok (.ret (.int (.ofNat j) t1)))) ⟨g1, g, d, t' + 0, os⟩
  (refine segW (t0 := t') (i := 0) 100000 [3, 3, 3, 3, 1, 1, 1] (Code.call (Value.builtin "list.__getitem__") { pos := [Value.ref hd, Value.int (Int.ofNat j) t1] : Args }) E2 (by assumption) (by assumption) ?_; intro o12; refine ⟨by kernel_rfl, by kernel_rfl, by kernel_rfl, by kernel_rfl, by kernel_rfl, fun h12 D12 => ?_⟩)
  refine callW_of rfl ?_
  rw [mark_none]
  refine r_lget hd e1 j t1 (herdV H) (.ref c.ad) (by simp [herdV, hj]) (by omega) (D12.give [1] (by kernel_rfl)) ?_
  refine Means.add0 ?_
  cases b1 <;> (
  (refine segW (t0 := t' + outI o12) (i := 0) 100000 [5, 5, 5, 1, 5, 6, 6, 1, 6, 6, 6, 5, 6, 6, 6, 1, 6, 6, 6, 5, 6, 6, 6, 1, 6, 6, 6, 5, 6, 6, 8, 3, 3, 3, 3, 3, 3, 3, 1] (Code.call (Value.builtin "int.__mod__") { pos := [Value.int (Int.ofNat (mo + j)) (t' + 3), Value.int 16 (t' + 4)] : Args }) D12 (by assumption) (by assumption) ?_; intro o13; refine ⟨by kernel_rfl, by kernel_rfl, by kernel_rfl, by kernel_rfl, by kernel_rfl, fun h13 D13 => ?_⟩)
  refine r_modN (mo + j) 16 _ _ (by decide) fun t2 t3 => ?_
  refine Means.add0 ?_
  (refine segW (t0 := t3) (i := 0) 100000 [2, 2, 2] (Code.call (Value.builtin "list.__getitem__") { pos := [Value.ref ch, Value.int (Int.ofNat ((mo + j) % 16)) t2] : Args }) D13 (by assumption) (by assumption) ?_; intro o14; refine ⟨by kernel_rfl, by kernel_rfl, by kernel_rfl, by kernel_rfl, by kernel_rfl, fun h14 D14 => ?_⟩)
  refine callW_of rfl ?_
  rw [mark_none]
  refine r_lget ch e2 ((mo + j) % 16) t2 (cellV C) (.int (.ofNat p.1) p.2) (by simp [cellV, hp]) (by omega) (D14.give [0, 1] (by kernel_rfl)) ?_
  refine Means.add0 ?_
  (refine segW (t0 := t3 + outI o14) (i := 0) 100000 [3, 3, 3] (Code.call (Value.builtin "int.__mod__") { pos := [Value.int (Int.ofNat p.fst) p.snd, Value.int 2 (t3 + 1)] : Args }) D14 (by assumption) (by assumption) ?_; intro o15; refine ⟨by kernel_rfl, by kernel_rfl, by kernel_rfl, by kernel_rfl, by kernel_rfl, fun h15 D15 => ?_⟩)
  refine r_modN p.1 2 _ _ (by decide) fun t4 t5 => ?_
  have he : p.1 % 2 = 0 ∨ p.1 % 2 = 1 := by omega
  rcases he with he | he
  · have hn : escN p.1 c.name = c.name := if_neg (by omega)
    rw [he]
    refine Means.add0 ?_
    obtain ⟨B3, E3⟩ := D15.pickE [0, 1, 2, 3, 4] [(hd, listO (herdV H) e1), (ch, listO (cellV C) e2), (f, lmF w k mo tm hd ch tx tt ln tl (lmD w k1 k2 k3 k4 (.int (.ofNat j) t1) (.int (.ofNat c.dots) c.td) (.str ⟨⟨c.name⟩⟩ c.tn) (.int (.ofNat p.1) p.2)) 9), (it, ritO (j + 1 : Nat) (left : Nat)), (c.ad, c.obj)] (by kernel_rfl)
    (refine segW (t0 := t5) (i := 0) 100000 [1, 3, 3, 1] (Code.call (Value.builtin "str.__mul__") { pos := [Value.str { cps := { toList := [46] : Array Nat } : Str } (t5 + 1), Value.int (Int.ofNat c.dots) c.td] : Args }) E3 (by assumption) (by assumption) ?_; intro o41; refine ⟨by kernel_rfl, by kernel_rfl, by kernel_rfl, by kernel_rfl, by kernel_rfl, fun h41 D41 => ?_⟩)
    refine callW_of rfl ?_
    rw [mark_none]
    refine r_smul 46 c.dots _ c.td (by omega) fun u6 u7 => ?_
    refine Means.add0 ?_
    (refine segW (t0 := u7) (i := 0) 100000 [3] (Code.call (Value.builtin "str.__add__") { pos := [Value.str { cps := { toList := List.replicate c.dots 46 : Array Nat } : Str } u6, Value.str { cps := { toList := c.name : Array Nat } : Str } c.tn] : Args }) D41 (by assumption) (by assumption) ?_; intro o42; refine ⟨by kernel_rfl, by kernel_rfl, by kernel_rfl, by kernel_rfl, by kernel_rfl, fun h42 D42 => ?_⟩)
    refine r_sadd (List.replicate c.dots 46) (c.name) _ _ (by rw [List.length_replicate]; omega) fun u8 u9 => ?_
    refine Means.add0 ?_
    (refine segW (t0 := u9) (i := 0) 100000 [3] (Code.call (Value.builtin "int.__floordiv__") { pos := [Value.int (Int.ofNat p.fst) p.snd, Value.int 2 (u9 + 4)] : Args }) D42 (by assumption) (by assumption) ?_; intro o43; refine ⟨by kernel_rfl, by kernel_rfl, by kernel_rfl, by kernel_rfl, by kernel_rfl, fun h43 D43 => ?_⟩)
    refine r_fdivN p.1 2 _ _ (by decide) (by decide) fun u10 u11 => ?_
    refine Means.add0 ?_
    (refine segW (t0 := u11) (i := 0) 100000 [] (Code.call (Value.builtin "int.__mod__") { pos := [Value.int (Int.ofNat (p.fst / 2)) u10, Value.int 4 u11] : Args }) D43 (by assumption) (by assumption) ?_; intro o44; refine ⟨by kernel_rfl, by kernel_rfl, by kernel_rfl, by kernel_rfl, by kernel_rfl, fun h44 D44 => ?_⟩)
    refine r_modN (p.1 / 2) 4 _ _ (by decide) fun u12 u13 => ?_
    refine Means.add0 ?_
    (refine segW (t0 := u13) (i := 0) 100000 [6, 6, 6] (Code.call (Value.builtin "list.__getitem__") { pos := [Value.ref B3, Value.int (Int.ofNat (p.fst / 2 % 4)) u12] : Args }) D44 (by assumption) (by assumption) ?_; intro o45; refine ⟨by kernel_rfl, by kernel_rfl, by kernel_rfl, by kernel_rfl, by kernel_rfl, fun h45 D45 => ?_⟩)
    refine callW_of rfl ?_
    rw [mark_none]
    refine r_lget B3 0 (p.1 / 2 % 4) u12 _ (.str ⟨⟨endR (p.1 / 2 % 4)⟩⟩ (u9 + p.1 / 2 % 4)) (menuS u9 _ (Nat.mod_lt _ (by decide))) (by omega) (D45.give [0, 0, 0, 0, 0, 1] (by kernel_rfl)) ?_
    refine Means.add0 ?_
    (refine segW (t0 := u13 + outI o45) (i := 0) 100000 [1] (Code.call (Value.builtin "str.__add__") { pos := [Value.str { cps := { toList := List.replicate c.dots 46 ++ c.name : Array Nat } : Str } u8, Value.str { cps := { toList := endR (p.fst / 2 % 4) : Array Nat } : Str } (u9 + p.fst / 2 % 4)] : Args }) D45 (by assumption) (by assumption) ?_; intro o46; refine ⟨by kernel_rfl, by kernel_rfl, by kernel_rfl, by kernel_rfl, by kernel_rfl, fun h46 D46 => ?_⟩)
    refine r_sadd (List.replicate c.dots 46 ++ c.name) (endR (p.1 / 2 % 4)) _ _ (by have := hen (p.1 / 2 % 4); rw [List.length_append, List.length_replicate]; omega) fun v8 v9 => ?_
    refine Means.add0 ?_
    (refine segW (t0 := v9) (i := 0) 100000 [] (Code.call (Value.builtin "str.__add__") { pos := [Value.str { cps := { toList := tx : Array Nat } : Str } tt, Value.str { cps := { toList := List.replicate c.dots 46 ++ c.name ++ endR (p.fst / 2 % 4) : Array Nat } : Str } v8] : Args }) D46 (by assumption) (by assumption) ?_; intro o47; refine ⟨by kernel_rfl, by kernel_rfl, by kernel_rfl, by kernel_rfl, by kernel_rfl, fun h47 D47 => ?_⟩)
    refine r_sadd tx (List.replicate c.dots 46 ++ c.name ++ endR (p.1 / 2 % 4)) _ _ (by have := hen (p.1 / 2 % 4); rw [List.length_append, List.length_append, List.length_replicate]; omega) fun w8 w9 => ?_
    refine Means.add0 ?_
    obtain ⟨B7, E7⟩ := D47.pickE [0, 1, 2, 3, 4] [(hd, listO (herdV H) e1), (ch, listO (cellV C) e2), (f, lmF w k mo tm hd ch tx tt ln tl (lmD w k1 k2 k3 k4 (.int (.ofNat j) t1) (.int (.ofNat c.dots) c.td) (.str ⟨⟨c.name⟩⟩ c.tn) (.int (.ofNat p.1) p.2)) 9), (it, ritO (j + 1 : Nat) (left : Nat)), (c.ad, c.obj)] (by kernel_rfl)
    (refine segW (t0 := w9) (i := 0) 100000 [3, 3, 3, 3] (Code.call (Value.builtin "int.__floordiv__") { pos := [Value.int (Int.ofNat p.fst) p.snd, Value.int 2 (w9 + 5)] : Args }) E7 (by assumption) (by assumption) ?_; intro o48; refine ⟨by kernel_rfl, by kernel_rfl, by kernel_rfl, by kernel_rfl, by kernel_rfl, fun h48 D48 => ?_⟩)
    refine r_fdivN p.1 2 _ _ (by decide) (by decide) fun x10 x11 => ?_
    refine Means.add0 ?_
    (refine segW (t0 := x11) (i := 0) 100000 [] (Code.call (Value.builtin "int.__mod__") { pos := [Value.int (Int.ofNat (p.fst / 2)) x10, Value.int 4 x11] : Args }) D48 (by assumption) (by assumption) ?_; intro o49; refine ⟨by kernel_rfl, by kernel_rfl, by kernel_rfl, by kernel_rfl, by kernel_rfl, fun h49 D49 => ?_⟩)
    refine r_modN (p.1 / 2) 4 _ _ (by decide) fun x12 x13 => ?_
    refine Means.add0 ?_
    (refine segW (t0 := x13) (i := 0) 100000 [6, 6, 6] (Code.call (Value.builtin "list.__getitem__") { pos := [Value.ref B7, Value.int (Int.ofNat (p.fst / 2 % 4)) x12] : Args }) D49 (by assumption) (by assumption) ?_; intro o410; refine ⟨by kernel_rfl, by kernel_rfl, by kernel_rfl, by kernel_rfl, by kernel_rfl, fun h410 D410 => ?_⟩)
    refine callW_of rfl ?_
    rw [mark_none]
    refine r_lget B7 0 (p.1 / 2 % 4) x12 _ (.int (endN (p.1 / 2 % 4)) (w9 + 1 + p.1 / 2 % 4)) (menuN (w9 + 1) _ (Nat.mod_lt _ (by decide))) (by omega) (D410.give [0, 0, 0, 0, 0, 1] (by kernel_rfl)) ?_
    refine Means.add0 ?_
    (refine segF (t0 := x13 + outI o410) (i := 0) 100000 [1, 1, 3, 3] ((Fin.again (forOf (stmtAt w 121 2) (.ref it) (envOf w 121 f q_lm))) ) D410 (by assumption) (by assumption) ?_; intro o411; refine ⟨by kernel_rfl, by kernel_rfl, by kernel_rfl, fun h411 D411 => ?_⟩)
    obtain ⟨B8, E8⟩ := D411.pickE [0, 1, 2, 3, 4] [(hd, listO (herdV H) e1), (ch, listO (cellV C) e2), (f, lmF w k mo tm hd ch (tx ++ (List.replicate c.dots 46 ++ c.name ++ endR (p.1 / 2 % 4))) w8 (ln + endN (p.1 / 2 % 4)) x13 (lmD w k1 k2 k3 k4 (.int (.ofNat j) t1) (.int (.ofNat c.dots) c.td) (.str ⟨⟨c.name⟩⟩ c.tn) (.int (.ofNat p.1) p.2)) 9), (it, ritO (j + 1 : Nat) (left : Nat)), (c.ad, c.obj)] (by kernel_rfl)
    rw [show List.replicate c.dots 46 ++ c.name ++ endR (p.1 / 2 % 4) = rowM p.1 c.dots c.name from by unfold rowM; rw [hn]] at E8
    exact ⟨by kernel_rfl, hR _ _ _ _ _ _ _ _ _ _ _ _ _ E8⟩
  · have hn : escN p.1 c.name = c.name.flatMap (fun l => [92, l]) := if_pos he
    rw [he]
    refine Means.add0 ?_
    (refine segW (t0 := t5) (i := 0) 100000 [1, 3] (Code.call (Value.builtin "str.__iter__") { pos := [Value.str { cps := { toList := c.name : Array Nat } : Str } c.tn] : Args }) D15 (by assumption) (by assumption) ?_; intro o31; refine ⟨by kernel_rfl, by kernel_rfl, by kernel_rfl, by kernel_rfl, by kernel_rfl, fun h31 D31 => ?_⟩)
    refine callW_of rfl ?_
    rw [mark_none]
    refine r_siter (Fit.inner hA' D31 _ (by kernel_rfl) (by kernel_rfl)) c.name c.tn hc3 (D31.give [] (by kernel_rfl)) fun g2 si t6 a2 => ?_
    obtain ⟨B3, E3⟩ := D31.backP [] [1, 2, 3, 4, 5, 0] [(hd, listO (herdV H) e1), (ch, listO (cellV C) e2), (f, lmF w k mo tm hd ch tx tt ln tl (lmD w k1 k2 k3 k4 (.int (.ofNat j) t1) (.int (.ofNat c.dots) c.td) (.str ⟨⟨c.name⟩⟩ c.tn) (.int (.ofNat p.1) p.2)) 9), (it, ritO (j + 1 : Nat) (left : Nat)), (c.ad, c.obj), (si, iterO "str_ascii_iterator" (.str ⟨⟨c.name⟩⟩ c.tn) 0)] (by kernel_rfl) a2 (by kernel_rfl)
    refine Means.add0 ?_
    (refine segL (t0 := t6) (i := 0) 100000 [6] ((compS w 121 (eLM w) (.ref si) (.ref B3) (B3 + 1) q_lm f) ) E3 (by assumption) (by assumption) ?_; intro o32; refine ⟨by kernel_rfl, by kernel_rfl, by kernel_rfl, by kernel_rfl, fun h32 D32 => ?_⟩)
    obtain ⟨B4, E4⟩ := D32.partX [6, 5, 7] [0, 1, 2, 3, 4] [(B3, listO [] 0), (si, iterO "str_ascii_iterator" (.str ⟨⟨c.name⟩⟩ c.tn) 0), (B3 + 1, dictO [] 0)] [(hd, listO (herdV H) e1), (ch, listO (cellV C) e2), (f, lmF w k mo tm hd ch tx tt ln tl (lmD w k1 k2 k3 k4 (.int (.ofNat j) t1) (.int (.ofNat c.dots) c.td) (.str ⟨⟨c.name⟩⟩ c.tn) (.int (.ofNat p.1) p.2)) 9), (it, ritO (j + 1 : Nat) (left : Nat)), (c.ad, c.obj)] (by kernel_rfl) (by kernel_rfl)
    refine lm_start w _ h₀ mods (hA'.ar _ (by kernel_rfl) (by kernel_rfl)) _ g d os si B3 (B3 + 1) f c.tn c.name _ _ _ _ (by omega) E4 fun h5 B5 t7 ep5 Q dl dn hdl hQ E5 => ?_
    have E5 := E5.unpartX
    have hcat : strCat (Q.map (·.1)) = c.name.flatMap (fun l => [92, l]) := by rw [hQ, strCat_esc]
    refine Means.add0 ?_
    rcases hdl with ⟨rfl, rfl⟩ | ⟨kk, vv, rfl, rfl⟩ <;> (
    (first | (refine segW (t0 := t7) (i := 0) 100000 [2] (Code.call (Value.builtin "str.join") { pos := [Value.str { cps := { toList := [] : Array Nat } : Str } (t5 + 1), Value.ref B3] : Args }) E5 (by assumption) (by assumption) ?_; intro o33; refine ⟨by kernel_rfl!, by kernel_rfl!, by kernel_rfl!, by kernel_rfl!, by kernel_rfl!, fun h33 D33 => ?_⟩) | (refine segW (t0 := t7) (i := 0) 100000 [2, 2, 2] (Code.call (Value.builtin "str.join") { pos := [Value.str { cps := { toList := [] : Array Nat } : Str } (t5 + 1), Value.ref B3] : Args }) E5 (by assumption) (by assumption) ?_; intro o33; refine ⟨by kernel_rfl!, by kernel_rfl!, by kernel_rfl!, by kernel_rfl!, by kernel_rfl!, fun h33 D33 => ?_⟩))
    refine callW_of rfl ?_
    rw [mark_none]
    refine r_join B3 _ ep5 Q (by rw [hcat, ← hn]; omega) (D33.give [1] (by kernel_rfl)) fun t8 t9 => ?_
    rw [hcat, ← hn]
    refine Means.add0 ?_
    obtain ⟨B6, E6⟩ := D33.pickE [2, 3, 4, 5, 6] [(hd, listO (herdV H) e1), (ch, listO (cellV C) e2), (f, lmF w k mo tm hd ch tx tt ln tl (lmD w k1 k2 k3 k4 (.int (.ofNat j) t1) (.int (.ofNat c.dots) c.td) (.str ⟨⟨c.name⟩⟩ c.tn) (.int (.ofNat p.1) p.2)) 9), (it, ritO (j + 1 : Nat) (left : Nat)), (c.ad, c.obj)] (by kernel_rfl)
    (refine segW (t0 := t9) (i := 0) 100000 [3, 3, 3, 3, 1] (Code.call (Value.builtin "str.__mul__") { pos := [Value.str { cps := { toList := [46] : Array Nat } : Str } (t9 + 1), Value.int (Int.ofNat c.dots) c.td] : Args }) E6 (by assumption) (by assumption) ?_; intro o51; refine ⟨by kernel_rfl, by kernel_rfl, by kernel_rfl, by kernel_rfl, by kernel_rfl, fun h51 D51 => ?_⟩)
    refine callW_of rfl ?_
    rw [mark_none]
    refine r_smul 46 c.dots _ c.td (by omega) fun u6 u7 => ?_
    refine Means.add0 ?_
    (refine segW (t0 := u7) (i := 0) 100000 [3] (Code.call (Value.builtin "str.__add__") { pos := [Value.str { cps := { toList := List.replicate c.dots 46 : Array Nat } : Str } u6, Value.str { cps := { toList := escN p.fst c.name : Array Nat } : Str } t8] : Args }) D51 (by assumption) (by assumption) ?_; intro o52; refine ⟨by kernel_rfl, by kernel_rfl, by kernel_rfl, by kernel_rfl, by kernel_rfl, fun h52 D52 => ?_⟩)
    refine r_sadd (List.replicate c.dots 46) (escN p.1 c.name) _ _ (by rw [List.length_replicate]; omega) fun u8 u9 => ?_
    refine Means.add0 ?_
    (refine segW (t0 := u9) (i := 0) 100000 [3] (Code.call (Value.builtin "int.__floordiv__") { pos := [Value.int (Int.ofNat p.fst) p.snd, Value.int 2 (u9 + 4)] : Args }) D52 (by assumption) (by assumption) ?_; intro o53; refine ⟨by kernel_rfl, by kernel_rfl, by kernel_rfl, by kernel_rfl, by kernel_rfl, fun h53 D53 => ?_⟩)
    refine r_fdivN p.1 2 _ _ (by decide) (by decide) fun u10 u11 => ?_
    refine Means.add0 ?_
    (refine segW (t0 := u11) (i := 0) 100000 [] (Code.call (Value.builtin "int.__mod__") { pos := [Value.int (Int.ofNat (p.fst / 2)) u10, Value.int 4 u11] : Args }) D53 (by assumption) (by assumption) ?_; intro o54; refine ⟨by kernel_rfl, by kernel_rfl, by kernel_rfl, by kernel_rfl, by kernel_rfl, fun h54 D54 => ?_⟩)
    refine r_modN (p.1 / 2) 4 _ _ (by decide) fun u12 u13 => ?_
    refine Means.add0 ?_
    (refine segW (t0 := u13) (i := 0) 100000 [6, 6, 6] (Code.call (Value.builtin "list.__getitem__") { pos := [Value.ref B6, Value.int (Int.ofNat (p.fst / 2 % 4)) u12] : Args }) D54 (by assumption) (by assumption) ?_; intro o55; refine ⟨by kernel_rfl, by kernel_rfl, by kernel_rfl, by kernel_rfl, by kernel_rfl, fun h55 D55 => ?_⟩)
    refine callW_of rfl ?_
    rw [mark_none]
    refine r_lget B6 0 (p.1 / 2 % 4) u12 _ (.str ⟨⟨endR (p.1 / 2 % 4)⟩⟩ (u9 + p.1 / 2 % 4)) (menuS u9 _ (Nat.mod_lt _ (by decide))) (by omega) (D55.give [0, 0, 0, 0, 0, 1] (by kernel_rfl)) ?_
    refine Means.add0 ?_
    (refine segW (t0 := u13 + outI o55) (i := 0) 100000 [1] (Code.call (Value.builtin "str.__add__") { pos := [Value.str { cps := { toList := List.replicate c.dots 46 ++ escN p.fst c.name : Array Nat } : Str } u8, Value.str { cps := { toList := endR (p.fst / 2 % 4) : Array Nat } : Str } (u9 + p.fst / 2 % 4)] : Args }) D55 (by assumption) (by assumption) ?_; intro o56; refine ⟨by kernel_rfl, by kernel_rfl, by kernel_rfl, by kernel_rfl, by kernel_rfl, fun h56 D56 => ?_⟩)
    refine r_sadd (List.replicate c.dots 46 ++ escN p.1 c.name) (endR (p.1 / 2 % 4)) _ _ (by have := hen (p.1 / 2 % 4); rw [List.length_append, List.length_replicate]; omega) fun v8 v9 => ?_
    refine Means.add0 ?_
    (refine segW (t0 := v9) (i := 0) 100000 [] (Code.call (Value.builtin "str.__add__") { pos := [Value.str { cps := { toList := tx : Array Nat } : Str } tt, Value.str { cps := { toList := List.replicate c.dots 46 ++ escN p.fst c.name ++ endR (p.fst / 2 % 4) : Array Nat } : Str } v8] : Args }) D56 (by assumption) (by assumption) ?_; intro o57; refine ⟨by kernel_rfl, by kernel_rfl, by kernel_rfl, by kernel_rfl, by kernel_rfl, fun h57 D57 => ?_⟩)
    refine r_sadd tx (List.replicate c.dots 46 ++ escN p.1 c.name ++ endR (p.1 / 2 % 4)) _ _ (by have := hen (p.1 / 2 % 4); rw [List.length_append, List.length_append, List.length_replicate]; omega) fun w8 w9 => ?_
    refine Means.add0 ?_
    obtain ⟨B7, E7⟩ := D57.pickE [0, 1, 2, 3, 4] [(hd, listO (herdV H) e1), (ch, listO (cellV C) e2), (f, lmF w k mo tm hd ch tx tt ln tl (lmD w k1 k2 k3 k4 (.int (.ofNat j) t1) (.int (.ofNat c.dots) c.td) (.str ⟨⟨escN p.1 c.name⟩⟩ t8) (.int (.ofNat p.1) p.2)) 9), (it, ritO (j + 1 : Nat) (left : Nat)), (c.ad, c.obj)] (by kernel_rfl)
    (refine segW (t0 := w9) (i := 0) 100000 [3, 3, 3, 3] (Code.call (Value.builtin "int.__floordiv__") { pos := [Value.int (Int.ofNat p.fst) p.snd, Value.int 2 (w9 + 5)] : Args }) E7 (by assumption) (by assumption) ?_; intro o58; refine ⟨by kernel_rfl, by kernel_rfl, by kernel_rfl, by kernel_rfl, by kernel_rfl, fun h58 D58 => ?_⟩)
    refine r_fdivN p.1 2 _ _ (by decide) (by decide) fun x10 x11 => ?_
    refine Means.add0 ?_
    (refine segW (t0 := x11) (i := 0) 100000 [] (Code.call (Value.builtin "int.__mod__") { pos := [Value.int (Int.ofNat (p.fst / 2)) x10, Value.int 4 x11] : Args }) D58 (by assumption) (by assumption) ?_; intro o59; refine ⟨by kernel_rfl, by kernel_rfl, by kernel_rfl, by kernel_rfl, by kernel_rfl, fun h59 D59 => ?_⟩)
    refine r_modN (p.1 / 2) 4 _ _ (by decide) fun x12 x13 => ?_
    refine Means.add0 ?_
    (refine segW (t0 := x13) (i := 0) 100000 [6, 6, 6] (Code.call (Value.builtin "list.__getitem__") { pos := [Value.ref B7, Value.int (Int.ofNat (p.fst / 2 % 4)) x12] : Args }) D59 (by assumption) (by assumption) ?_; intro o510; refine ⟨by kernel_rfl, by kernel_rfl, by kernel_rfl, by kernel_rfl, by kernel_rfl, fun h510 D510 => ?_⟩)
    refine callW_of rfl ?_
    rw [mark_none]
    refine r_lget B7 0 (p.1 / 2 % 4) x12 _ (.int (endN (p.1 / 2 % 4)) (w9 + 1 + p.1 / 2 % 4)) (menuN (w9 + 1) _ (Nat.mod_lt _ (by decide))) (by omega) (D510.give [0, 0, 0, 0, 0, 1] (by kernel_rfl)) ?_
    refine Means.add0 ?_
    (refine segF (t0 := x13 + outI o510) (i := 0) 100000 [1, 1, 3, 3] ((Fin.again (forOf (stmtAt w 121 2) (.ref it) (envOf w 121 f q_lm))) ) D510 (by assumption) (by assumption) ?_; intro o511; refine ⟨by kernel_rfl, by kernel_rfl, by kernel_rfl, fun h511 D511 => ?_⟩)
    obtain ⟨B8, E8⟩ := D511.pickE [0, 1, 2, 3, 4] [(hd, listO (herdV H) e1), (ch, listO (cellV C) e2), (f, lmF w k mo tm hd ch (tx ++ (List.replicate c.dots 46 ++ escN p.1 c.name ++ endR (p.1 / 2 % 4))) w8 (ln + endN (p.1 / 2 % 4)) x13 (lmD w k1 k2 k3 k4 (.int (.ofNat j) t1) (.int (.ofNat c.dots) c.td) (.str ⟨⟨escN p.1 c.name⟩⟩ t8) (.int (.ofNat p.1) p.2)) 9), (it, ritO (j + 1 : Nat) (left : Nat)), (c.ad, c.obj)] (by kernel_rfl)
    rw [show List.replicate c.dots 46 ++ escN p.1 c.name ++ endR (p.1 / 2 % 4) = rowM p.1 c.dots c.name from rfl] at E8
    exact ⟨by kernel_rfl, hR _ _ _ _ _ _ _ _ _ _ _ _ _ E8⟩)
  )
end Mine
end
section
open PySem PySem.W PySem.Calls PyProof.Rows
set_option Elab.async false
set_option maxRecDepth 100000
namespace Mine
def cellAt (C : List (Nat × Nat)) (i : Nat) : Nat := (C.getD (i % 16) (0, 0)).1
def mailT (mo : Nat) (C : List (Nat × Nat)) : Nat → List Cow → List Nat
  | _, [] => []
  | j, c :: r => rowM (cellAt C (mo + j)) c.dots c.name ++ mailT mo C (j + 1) r
def mailN (mo : Nat) (C : List (Nat × Nat)) : Nat → List Cow → Int
  | _, [] => 0
  | j, _ :: r => endN (cellAt C (mo + j) / 2 % 4) + mailN mo C (j + 1) r
def okCow (c : Cow) : Prop := c.dots ≤ 1000 ∧ c.name.length ≤ 1000 ∧ ∀ x ∈ c.name, x < 128
theorem rowM_len (c : Nat) (w : Cow) (h : okCow w) : (rowM c w.dots w.name).length ≤ 3003 := by
  unfold rowM
  have h1 := escN_len c w.name
  have h2 := endR_len (c / 2 % 4)
  have h3 := h.1
  have h4 := h.2.1
  rw [List.length_append, List.length_append, List.length_replicate]
  omega
def lmS (w : World) (dl : List DictEntry) (n : Nat) : Prop := (dl = [] ∧ n = 5) ∨ ∃ k1 k2 k3 k4 v1 v2 v3 v4, dl = lmD w k1 k2 k3 k4 v1 v2 v3 v4 ∧ n = 9
theorem herdL_app (a b : List Cow) : herdL (a ++ b) = herdL a ++ herdL b := by simp [herdL]
theorem lm_end (w : World) (A : Around) (h₀ : Heap) (mods : List Nat) (hA : Fit 40 A (kt1 w) h₀) (R : Result → Shared → Prop) (g : Array GenState) (d : Drawn) (os : OsState) (f it : Nat) (fo oh oc : Obj) (hd ch : Nat) (X : Led) (h : Heap) (B t0 : Nat) (x : Int)
   (D : Rep (kt1 w) h₀ mods h B [(hd, oh), (ch, oc), (f, fo), (it, ritO x 0)] X 0)
   (hR : ∀ h' B' t', Rep (kt1 w) h₀ mods h' B' [(hd, oh), (ch, oc), (f, fo)] X 0 → R (.ok .next) ⟨h', g, d, t', os⟩) :
   codeAny (PP w) A (forOf (stmtAt w 121 2) (.ref it) (envOf w 121 f q_lm)) R ⟨h, g, d, t0, os⟩ := by
  obtain ⟨b1, b2, hw⟩ := parF_ex w
  have hA' := hA.under (forOf (stmtAt w 121 2) (.ref it) (envOf w 121 f q_lm)) (m := 39) (by kernel_rfl)
  refine code_start ?_
  refine Means.add0 ?_
  (refine segW (t0 := t0) (i := 0) 100000 [4] (Code.call (Value.builtin "range_iterator.__next__") { pos := [Value.ref it] : Args }) D (by assumption) (by assumption) ?_; intro o11; refine ⟨by kernel_rfl, by kernel_rfl, by kernel_rfl, by kernel_rfl, by kernel_rfl, fun h11 D11 => ?_⟩)
  refine callW_of rfl ?_
  rw [mark_none]
  refine r_rend (Fit.inner hA' D11 _ (by kernel_rfl) (by kernel_rfl)) it x (D11.give [0, 0, 0, 1] (by kernel_rfl)) fun g1 t' a b a1 => ?_
  obtain ⟨B2, E2⟩ := D11.backP [0, 0, 0, 1] [0, 1, 2, 3, 4] [(b, tupO []), (a, stopO b), (hd, oh), (ch, oc), (f, fo)] (by kernel_rfl) a1 (by kernel_rfl)
  refine Means.add0 ?_
  (refine segF (t0 := t') (i := 0) 100000 [2] ((Fin.again (Code.block [] (envOf w 121 f q_lm))) ) E2 (by assumption) (by assumption) ?_; intro o12; refine ⟨by kernel_rfl, by kernel_rfl, by kernel_rfl, fun h12 D12 => ?_⟩)
  obtain ⟨B3, E3⟩ := D12.pickE [2, 3, 4] [(hd, oh), (ch, oc), (f, fo)] (by kernel_rfl)
  have hA2 := hA.under (Code.block [] (envOf w 121 f q_lm)) (m := 0) (by kernel_rfl)
  refine ⟨by kernel_rfl, code_start ?_⟩
  refine Means.add0 ?_
  (refine segF (t0 := t' + outI o12) (i := 0) 100000 [] (Fin.done Flow.next) E3 (by assumption) (by assumption) ?_; intro o13; refine ⟨by kernel_rfl, by kernel_rfl, by kernel_rfl, fun h13 D13 => ?_⟩)
  obtain ⟨B4, E4⟩ := D13.pickE [0, 1, 2] [(hd, oh), (ch, oc), (f, fo)] (by kernel_rfl)
  exact hR _ _ _ E4
section
variable {w : World} {A : Around} {h₀ : Heap} {mods : List Nat} {R : Result → Shared → Prop} {g : Array GenState} {d : Drawn} {os : OsState}
theorem lm_rows (hA : Fit 40 A (kt1 w) h₀) (hd ch f it mo tm e1 e2 : Nat) (H : List Cow) (C : List (Nat × Nat)) (k : Nat → Nat) (hC : C.length = 16) (hz : H.length ≤ 1000) (hok : ∀ c ∈ H, okCow c) :
   ∀ (rest pre : List Cow) (h : Heap) (B t0 tt tl : Nat) (tx : List Nat) (ln : Int) (dl : List DictEntry) (n : Nat), H = pre ++ rest → lmS w dl n → tx.length ≤ 3003 * pre.length →
   Rep (kt1 w) h₀ mods h B [(hd, listO (herdV H) e1), (ch, listO (cellV C) e2), (f, lmF w k mo tm hd ch tx tt ln tl dl n), (it, ritO pre.length (rest.length : Nat))] (herdL H) 0 →
   (∀ h' B' t' tt' tl' dl' n', lmS w dl' n' → Rep (kt1 w) h₀ mods h' B' [(hd, listO (herdV H) e1), (ch, listO (cellV C) e2), (f, lmF w k mo tm hd ch (tx ++ mailT mo C pre.length rest) tt' (ln + mailN mo C pre.length rest) tl' dl' n')] (herdL H) 0 → R (.ok .next) ⟨h', g, d, t', os⟩) →
   codeAny (PP w) A (forOf (stmtAt w 121 2) (.ref it) (envOf w 121 f q_lm)) R ⟨h, g, d, t0, os⟩ := by
  intro rest
  induction rest with
  | nil =>
    intro pre h B t0 tt tl tx ln dl n hH hs htx D hR
    refine lm_end w A h₀ mods hA R g d os f it _ _ _ hd ch _ h B t0 _ D fun h' B' t' D' => ?_
    refine hR h' B' t' tt tl dl n hs ?_
    rw [show mailT mo C pre.length [] = [] from rfl, show mailN mo C pre.length [] = 0 from rfl, List.append_nil, Int.add_zero]
    exact D'
  | cons c rest ih =>
    intro pre h B t0 tt tl tx ln dl n hH hs htx D hR
    have hpl : pre.length < H.length := by rw [hH, List.length_append, List.length_cons]; omega
    have hj : H[pre.length]? = some c := by rw [hH]; simp
    have hcm : c ∈ H := List.mem_of_getElem? hj
    have hco := hok c hcm
    obtain ⟨p, hp⟩ : ∃ p, C[(mo + pre.length) % 16]? = some p := by
      have : (mo + pre.length) % 16 < C.length := by rw [hC]; exact Nat.mod_lt _ (by decide)
      exact ⟨_, List.getElem?_eq_getElem this⟩
    have hca : cellAt C (mo + pre.length) = p.1 := by unfold cellAt; rw [List.getD_eq_getElem?_getD, hp]; rfl
    have hX : herdL H = herdL pre ++ c.row :: herdL rest := by rw [hH, herdL_app]; rfl
    have hperm : ∀ L : Led, (L ++ herdL H).Perm ((L ++ [c.row]) ++ (herdL pre ++ herdL rest)) := by
      intro L
      rw [hX, List.append_assoc]
      exact List.Perm.append_left L List.perm_middle
    have D1 := D.perm (hperm _)
    have hrl := rowM_len p.1 c hco
    have next : ∀ h' B' t' tt' tl' k1 k2 k3 k4 v1 v2 v3 v4, Rep (kt1 w) h₀ mods h' B' [(hd, listO (herdV H) e1), (ch, listO (cellV C) e2), (f, lmF w k mo tm hd ch (tx ++ rowM p.1 c.dots c.name) tt' (ln + endN (p.1 / 2 % 4)) tl' (lmD w k1 k2 k3 k4 v1 v2 v3 v4) 9), (it, ritO (pre.length + 1 : Nat) (rest.length : Nat)), (c.ad, c.obj)] (herdL pre ++ herdL rest) 0 → codeAny (PP w) A (forOf (stmtAt w 121 2) (.ref it) (envOf w 121 f q_lm)) R ⟨h', g, d, t', os⟩ := by
      intro h' B' t' tt' tl' k1 k2 k3 k4 v1 v2 v3 v4 D2
      have D3 := D2.perm (hperm [(hd, listO (herdV H) e1), (ch, listO (cellV C) e2), (f, lmF w k mo tm hd ch (tx ++ rowM p.1 c.dots c.name) tt' (ln + endN (p.1 / 2 % 4)) tl' (lmD w k1 k2 k3 k4 v1 v2 v3 v4) 9), (it, ritO (pre.length + 1 : Nat) (rest.length : Nat))]).symm
      have el : pre.length + 1 = (pre ++ [c]).length := by simp
      rw [el] at D3
      refine ih (pre ++ [c]) h' B' t' tt' tl' _ _ _ _ (by rw [hH, List.append_assoc]; rfl) (.inr ⟨_, _, _, _, _, _, _, _, rfl, rfl⟩) (by rw [List.length_append, ← el]; omega) D3 fun h3 B3 t3 tt3 tl3 dl3 n3 hs3 D4 => ?_
      refine hR h3 B3 t3 tt3 tl3 dl3 n3 hs3 ?_
      rw [← el] at D4
      rw [show mailT mo C pre.length (c :: rest) = rowM (cellAt C (mo + pre.length)) c.dots c.name ++ mailT mo C (pre.length + 1) rest from rfl, show mailN mo C pre.length (c :: rest) = endN (cellAt C (mo + pre.length) / 2 % 4) + mailN mo C (pre.length + 1) rest from rfl, hca, ← List.append_assoc, ← Int.add_assoc]
      exact D4
    rcases hs with ⟨rfl, rfl⟩ | ⟨k1, k2, k3, k4, v1, v2, v3, v4, rfl, rfl⟩
    · exact lm_turn1 w A h₀ mods hA R g d os hd ch f it mo tm e1 e2 pre.length H C k c p _ hj hp (by omega) hco.1 hco.2.1 hco.2.2 h B t0 tt tl tx ln rest.length (by omega) D1 next
    · exact lm_turn2 w A h₀ mods hA R g d os hd ch f it mo tm e1 e2 pre.length H C k c p _ hj hp (by omega) hco.1 hco.2.1 hco.2.2 h B t0 tt tl tx ln rest.length k1 k2 k3 k4 v1 v2 v3 v4 (by omega) D1 next
end
end Mine
end
section
open PySem PySem.W PySem.Calls PyProof.Rows
set_option Elab.async false
set_option maxRecDepth 100000
namespace Mine
theorem hexS_len (n : Nat) (h : n < 1048576) : (hexS n).length ≤ 6 := by
  have key : ∀ (k m : Nat), m < 16 ^ k → (hexL m).length ≤ k := by
    intro k
    induction k with
    | zero => intro m hm; have : m = 0 := by omega
              subst this; unfold hexL; simp
    | succ k ih =>
      intro m hm
      unfold hexL
      split
      · simp
      · rw [List.length_append, List.length_singleton]
        have := ih (m / 16) (by rw [Nat.pow_succ] at hm; omega)
        omega
  unfold hexS
  rw [List.length_map]
  have := key 5 n (by omega)
  omega
theorem law_mail (w : World) (A : Around) (h₀ : Heap) (hA : Fit 80 A (kt1 w) h₀) (R : Result → Shared → Prop) (B t0 : Nat) (g : Array GenState) (d : Drawn) (os : OsState) (mo tm hd ch : Nat) (H : List Cow) (C : List (Nat × Nat)) (e1 e2 : Nat) {mods : List Nat} (hC : C.length = 16) (hz : H.length ≤ 1000) (hok : ∀ c ∈ H, okCow c) (hmo : mo ≤ 1000)
   (D : Rep (kt1 w) h₀ mods h₀ B [(hd, listO (herdV H) e1), (ch, listO (cellV C) e2)] (herdL H) 0)
   (hR : ∀ h1 t' ra t1 t2, After h₀ h1 mods ([(ra, tupO [.str ⟨⟨mailT mo C 0 H ++ hexS (16 + mo) ++ [12] ++ [46]⟩⟩ t1, .int (1 + mailN mo C 0 H) t2]), (hd, listO (herdV H) e1), (ch, listO (cellV C) e2)] ++ herdL H) → R (.ok (.ret (.ref ra))) ⟨h1, g, d, t', os⟩) :
   codeAny (PP w) A (.call (.ref 121) ⟨[.int (.ofNat mo) tm, .ref hd, .ref ch], []⟩) R ⟨h₀, g, d, t0, os⟩ := by
  obtain ⟨b1, b2, hw⟩ := parF_ex w
  have hVl : (herdV H).length = H.length := by simp [herdV]
  have hx6 : (hexS (16 + mo)).length ≤ 6 := hexS_len _ (by omega)
  have hml : ∀ (rest : List Cow) j, (∀ c ∈ rest, okCow c) → (mailT mo C j rest).length ≤ 3003 * rest.length := by
    intro rest
    induction rest with
    | nil => intro j _; exact Nat.zero_le _
    | cons c rest ih =>
      intro j hk
      rw [show mailT mo C j (c :: rest) = rowM (cellAt C (mo + j)) c.dots c.name ++ mailT mo C (j + 1) rest from rfl, List.length_append, List.length_cons]
      have := rowM_len (cellAt C (mo + j)) c (hk c List.mem_cons_self)
      have := ih (j + 1) fun x hx => hk x (List.mem_cons_of_mem _ hx)
      omega
  have hml0 := hml H 0 hok
  refine code_ent (D.kt_ (a := 121) (o := obAt w 121) (by kernel_rfl)) (fd := fdAt w 121) (by kernel_rfl) (by have := hA.room; omega) ?_
  refine Means.add0 ?_
  cases b1 <;> (
    (refine segW (t0 := t0) (i := 0) 100000 [0, 3, 3, 3, 3, 3, 3, 3, 3, 3, 3, 0, 0, 0, 0, 3] (Code.call (Value.builtin "len") { pos := [Value.ref hd] : Args }) D (by assumption) (by assumption) ?_; intro o11; refine ⟨by kernel_rfl, by kernel_rfl, by kernel_rfl, by kernel_rfl, by kernel_rfl, fun h11 D11 => ?_⟩)
    refine r_clen hd e1 (herdV H) (by omega) (D11.give [1] (by kernel_rfl)) fun t1 t' => ?_
    rw [hVl]
    obtain ⟨B2, E2⟩ := D11.pickE [0, 1, 2] [(hd, listO (herdV H) e1), (ch, listO (cellV C) e2), (B, lmF w (fun n => match n with | 0 => t0 | 1 => t0 + 1 | 2 => t0 + 2 | 3 => t0 + 4 | _ => t0 + 6) mo tm hd ch [] (t0 + 3) 1 (t0 + 5) [] 5)] (by kernel_rfl)
    refine Means.add0 ?_
    (refine segW (t0 := t') (i := 0) 100000 [1, 1, 4, 4, 1, 4, 4, 4, 4] (Code.call (Value.builtin "range.__iter__") { pos := [Value.ref B2] : Args }) E2 (by assumption) (by assumption) ?_; intro o12; refine ⟨by kernel_rfl, by kernel_rfl, by kernel_rfl, by kernel_rfl, by kernel_rfl, fun h12 D12 => ?_⟩)
    refine callW_of rfl ?_
    rw [mark_none]
    refine r_riter B2 0 (H.length : Nat) t' t1 (t' + 1) H.length (by omega) (by omega) (by omega) (D12.give [0, 0, 0, 1] (by kernel_rfl)) fun g2 it t2 a2 => ?_
    obtain ⟨B3, E3⟩ := D12.backP [0, 0, 0, 1] [2, 3, 4, 1] [(hd, listO (herdV H) e1), (ch, listO (cellV C) e2), (B, lmF w (fun n => match n with | 0 => t0 | 1 => t0 + 1 | 2 => t0 + 2 | 3 => t0 + 4 | _ => t0 + 6) mo tm hd ch [] (t0 + 3) 1 (t0 + 5) [] 5), (it, ritO (0 : Nat) (H.length : Nat))] (by kernel_rfl) a2 (by kernel_rfl)
    refine Means.add0 ?_
    (refine segL (t0 := t2) (i := 0) 100000 [4] ((forOf (stmtAt w 121 2) (.ref it) (envOf w 121 B q_lm)) ) E3 (by assumption) (by assumption) ?_; intro o13; refine ⟨by kernel_rfl, by kernel_rfl, by kernel_rfl, by kernel_rfl, fun h13 D13 => ?_⟩)
    obtain ⟨B4, E4⟩ := D13.pickE [0, 1, 2, 3] [(hd, listO (herdV H) e1), (ch, listO (cellV C) e2), (B, lmF w (fun n => match n with | 0 => t0 | 1 => t0 + 1 | 2 => t0 + 2 | 3 => t0 + 4 | _ => t0 + 6) mo tm hd ch [] (t0 + 3) 1 (t0 + 5) [] 5), (it, ritO (([] : List Cow).length : Nat) (H.length : Nat))] (by kernel_rfl)
    refine lm_rows (hA.ar _ (by kernel_rfl) (by kernel_rfl)) hd ch B it mo tm e1 e2 H C _ hC hz hok H [] _ _ _ _ _ [] 1 _ _ rfl (.inl ⟨rfl, rfl⟩) (Nat.zero_le _) E4 fun h5 B5 t5 tt5 tl5 dl n hs E5 => ?_
    rw [show ([] : List Cow).length = 0 from rfl, List.nil_append] at E5
    generalize mailT mo C 0 H = T at E5 hml0 hR
    generalize mailN mo C 0 H = N at E5 hR
    refine Means.add0 ?_
    have hn : (-16 - (mo : Int)).natAbs = 16 + mo := by omega
    rcases hs with ⟨rfl, rfl⟩ | ⟨k1, k2, k3, k4, v1, v2, v3, v4, rfl, rfl⟩
    · (refine segL (t0 := t5) (i := 0) 100000 [3, 0, 1, 3, 1, 0] ((.call (.ref 102) ⟨[.int (-16 - (mo : Int)) (t5 + 2)], []⟩) ) E5 (by assumption) (by assumption) ?_; intro o104; refine ⟨by kernel_rfl, by kernel_rfl, by kernel_rfl, by kernel_rfl, fun h104 D104 => ?_⟩)
      refine law_word w _ _ (Fit.inner hA D104 _ (by kernel_rfl) (by kernel_rfl)) _ _ _ g d os (-16 - (mo : Int)) (t5 + 2) (by rw [hn]; unfold hexB; unfold hexS at hx6; rw [List.length_map] at hx6 ⊢; omega) (D104.give [] (by kernel_rfl)) fun g6 t6 t7 a6 => ?_
      rw [hn]
      obtain ⟨B6, E6⟩ := D104.backP [] [0, 1, 2] [(hd, listO (herdV H) e1), (ch, listO (cellV C) e2), (B, lmF w (fun n => match n with | 0 => t0 | 1 => t0 + 1 | 2 => t0 + 2 | 3 => t0 + 4 | _ => t0 + 6) mo tm hd ch T tt5 (1 + N) tl5 [] 5)] (by kernel_rfl) a6 (by kernel_rfl)
      refine Means.add0 ?_
      (refine segW (t0 := t7) (i := 0) 100000 [] (Code.call (Value.builtin "str.__add__") { pos := [Value.str { cps := { toList := T : Array Nat } : Str } tt5, Value.str { cps := { toList := hexS (16 + mo) : Array Nat } : Str } t6] : Args }) E6 (by assumption) (by assumption) ?_; intro o105; refine ⟨by kernel_rfl, by kernel_rfl, by kernel_rfl, by kernel_rfl, by kernel_rfl, fun h105 D105 => ?_⟩)
      refine r_sadd T (hexS (16 + mo)) _ _ (by omega) fun t8 t9 => ?_
      refine Means.add0 ?_
      (refine segW (t0 := t9) (i := 0) 100000 [0, 0, 1] (Code.call (Value.builtin "str.__add__") { pos := [Value.str { cps := { toList := T ++ hexS (16 + mo) : Array Nat } : Str } t8, Value.str { cps := { toList := [12] : Array Nat } : Str } (t9 + 1)] : Args }) D105 (by assumption) (by assumption) ?_; intro o106; refine ⟨by kernel_rfl, by kernel_rfl, by kernel_rfl, by kernel_rfl, by kernel_rfl, fun h106 D106 => ?_⟩)
      refine r_sadd (T ++ hexS (16 + mo)) [12] _ _ (by rw [List.length_append, List.length_singleton]; omega) fun u8 u9 => ?_
      refine Means.add0 ?_
      (refine segW (t0 := u9) (i := 0) 100000 [] (Code.call (Value.builtin "str.__add__") { pos := [Value.str { cps := { toList := T ++ hexS (16 + mo) ++ [12] : Array Nat } : Str } u8, Value.str { cps := { toList := [46] : Array Nat } : Str } u9] : Args }) D106 (by assumption) (by assumption) ?_; intro o107; refine ⟨by kernel_rfl, by kernel_rfl, by kernel_rfl, by kernel_rfl, by kernel_rfl, fun h107 D107 => ?_⟩)
      refine r_sadd (T ++ hexS (16 + mo) ++ [12]) [46] _ _ (by rw [List.length_append, List.length_append, List.length_singleton, List.length_singleton]; omega) fun v8 v9 => ?_
      refine Means.add0 ?_
      (refine segF (t0 := v9) (i := 0) 100000 [3] ((Fin.done (Flow.ret (.ref B6))) ) D107 (by assumption) (by assumption) ?_; intro o108; refine ⟨by kernel_rfl, by kernel_rfl, by kernel_rfl, fun h108 D108 => ?_⟩)
      have e9 := D108.partX [3] [0, 1] [(B6, tupO [.str ⟨⟨T ++ hexS (16 + mo) ++ [12] ++ [46]⟩⟩ v8, .int (1 + N) tl5])] [(hd, listO (herdV H) e1), (ch, listO (cellV C) e2)] (by kernel_rfl) (by kernel_rfl)
      obtain ⟨B9, E9⟩ := e9
      have a9 := E9.done _ [] (by rw [List.append_nil])
      exact hR _ _ _ _ _ a9
    · (refine segL (t0 := t5) (i := 0) 100000 [3, 0, 1, 3, 1, 0] ((.call (.ref 102) ⟨[.int (-16 - (mo : Int)) (t5 + 2)], []⟩) ) E5 (by assumption) (by assumption) ?_; intro o204; refine ⟨by kernel_rfl, by kernel_rfl, by kernel_rfl, by kernel_rfl, fun h204 D204 => ?_⟩)
      refine law_word w _ _ (Fit.inner hA D204 _ (by kernel_rfl) (by kernel_rfl)) _ _ _ g d os (-16 - (mo : Int)) (t5 + 2) (by rw [hn]; unfold hexB; unfold hexS at hx6; rw [List.length_map] at hx6 ⊢; omega) (D204.give [] (by kernel_rfl)) fun g6 t6 t7 a6 => ?_
      rw [hn]
      obtain ⟨B6, E6⟩ := D204.backP [] [0, 1, 2] [(hd, listO (herdV H) e1), (ch, listO (cellV C) e2), (B, lmF w (fun n => match n with | 0 => t0 | 1 => t0 + 1 | 2 => t0 + 2 | 3 => t0 + 4 | _ => t0 + 6) mo tm hd ch T tt5 (1 + N) tl5 (lmD w k1 k2 k3 k4 v1 v2 v3 v4) 9)] (by kernel_rfl) a6 (by kernel_rfl)
      refine Means.add0 ?_
      (refine segW (t0 := t7) (i := 0) 100000 [] (Code.call (Value.builtin "str.__add__") { pos := [Value.str { cps := { toList := T : Array Nat } : Str } tt5, Value.str { cps := { toList := hexS (16 + mo) : Array Nat } : Str } t6] : Args }) E6 (by assumption) (by assumption) ?_; intro o205; refine ⟨by kernel_rfl, by kernel_rfl, by kernel_rfl, by kernel_rfl, by kernel_rfl, fun h205 D205 => ?_⟩)
      refine r_sadd T (hexS (16 + mo)) _ _ (by omega) fun t8 t9 => ?_
      refine Means.add0 ?_
      (refine segW (t0 := t9) (i := 0) 100000 [0, 0, 1] (Code.call (Value.builtin "str.__add__") { pos := [Value.str { cps := { toList := T ++ hexS (16 + mo) : Array Nat } : Str } t8, Value.str { cps := { toList := [12] : Array Nat } : Str } (t9 + 1)] : Args }) D205 (by assumption) (by assumption) ?_; intro o206; refine ⟨by kernel_rfl, by kernel_rfl, by kernel_rfl, by kernel_rfl, by kernel_rfl, fun h206 D206 => ?_⟩)
      refine r_sadd (T ++ hexS (16 + mo)) [12] _ _ (by rw [List.length_append, List.length_singleton]; omega) fun u8 u9 => ?_
      refine Means.add0 ?_
      (refine segW (t0 := u9) (i := 0) 100000 [] (Code.call (Value.builtin "str.__add__") { pos := [Value.str { cps := { toList := T ++ hexS (16 + mo) ++ [12] : Array Nat } : Str } u8, Value.str { cps := { toList := [46] : Array Nat } : Str } u9] : Args }) D206 (by assumption) (by assumption) ?_; intro o207; refine ⟨by kernel_rfl, by kernel_rfl, by kernel_rfl, by kernel_rfl, by kernel_rfl, fun h207 D207 => ?_⟩)
      refine r_sadd (T ++ hexS (16 + mo) ++ [12]) [46] _ _ (by rw [List.length_append, List.length_append, List.length_singleton, List.length_singleton]; omega) fun v8 v9 => ?_
      refine Means.add0 ?_
      (refine segF (t0 := v9) (i := 0) 100000 [3] ((Fin.done (Flow.ret (.ref B6))) ) D207 (by assumption) (by assumption) ?_; intro o208; refine ⟨by kernel_rfl, by kernel_rfl, by kernel_rfl, fun h208 D208 => ?_⟩)
      have e9 := D208.partX [3] [0, 1] [(B6, tupO [.str ⟨⟨T ++ hexS (16 + mo) ++ [12] ++ [46]⟩⟩ v8, .int (1 + N) tl5])] [(hd, listO (herdV H) e1), (ch, listO (cellV C) e2)] (by kernel_rfl) (by kernel_rfl)
      obtain ⟨B9, E9⟩ := e9
      have a9 := E9.done _ [] (by rw [List.append_nil])
      exact hR _ _ _ _ _ a9
    )
end Mine
end
section
open PySem PySem.W PySem.Calls PyProof.Rows
set_option Elab.async false
set_option maxRecDepth 100000
namespace Mine
theorem fm_congr {α β : Type} {f g : α → Option β} : ∀ (l : List α), (∀ a ∈ l, f a = g a) → l.filterMap f = l.filterMap g := by
  intro l
  induction l with
  | nil => intro _; rfl
  | cons a l ih =>
    intro h
    rw [List.filterMap_cons, List.filterMap_cons, h a List.mem_cons_self, ih fun x hx => h x (List.mem_cons_of_mem _ hx)]
theorem pick_seg (x : List Nat) (a b : Nat) (hab : a ≤ b) (hb : b ≤ x.length) : (sliceRange (a : Nat) (b : Nat) 1).filterMap (fun k => x[k]?) = (x.drop a).take (b - a) := by
  have e : sliceRange (a : Nat) (b : Nat) 1 = (List.range (b - a)).map fun (k : Nat) => a + k := by
    unfold sliceRange
    have e1 : (if (1 : Int) > 0 then (if ((a : Nat) : Int) < (b : Nat) then (((b : Nat) : Int) - (a : Nat) + 1 - 1) / 1 else 0) else (if ((a : Nat) : Int) > (b : Nat) then (((a : Nat) : Int) - (b : Nat) - 1 - 1) / (-1) else 0)).toNat = b - a := by
      rw [if_pos (by decide)]
      split
      · rw [Int.ediv_one]; omega
      · omega
    simp only [] at e1 ⊢
    rw [e1]
    refine List.map_congr_left fun k _ => ?_
    omega
  rw [e, List.filterMap_map]
  have hl : ((x.drop a).take (b - a)).length = b - a := by rw [List.length_take, List.length_drop]; omega
  have hr := range_pick ((x.drop a).take (b - a))
  rw [hl] at hr
  refine Eq.trans (fm_congr _ fun k hk => ?_) hr
  have hk2 : k < b - a := List.mem_range.mp hk
  show x[a + k]? = _
  rw [List.getElem?_take_of_lt hk2, List.getElem?_drop]
theorem seg_len (a b : Nat) : (sliceRange (a : Nat) (b : Nat) 1).length = b - a := by
  unfold sliceRange
  rw [List.length_map, List.length_range, if_pos (by decide)]
  split
  · rw [Int.ediv_one]; omega
  · show (0 : Int).toNat = _; omega
/-- x[:k] -/
theorem picked_to (x : List Nat) (k t : Nat) : slicePicked ⟨⟨x⟩⟩ none (some (((k : Nat) : Int), t)) none = sliceRange (0 : Nat) (min k x.length : Nat) 1 := by
  have e : max 0 (min (if ((k : Nat) : Int) < 0 then ((k : Nat) : Int) + (x.length : Int) else ((k : Nat) : Int)) (x.length : Int)) = ((min k x.length : Nat) : Int) := by
    rw [if_neg (by omega)]
    omega
  show sliceRange 0 (max 0 (min (if ((k : Nat) : Int) < 0 then ((k : Nat) : Int) + (x.length : Int) else ((k : Nat) : Int)) (x.length : Int))) 1 = _
  rw [e]
  rfl
/-- x[k:] -/
theorem picked_from (x : List Nat) (k t : Nat) : slicePicked ⟨⟨x⟩⟩ (some (((k : Nat) : Int), t)) none none = sliceRange (min k x.length : Nat) (x.length : Nat) 1 := by
  have e : max 0 (min (if ((k : Nat) : Int) < 0 then ((k : Nat) : Int) + (x.length : Int) else ((k : Nat) : Int)) (x.length : Int)) = ((min k x.length : Nat) : Int) := by
    rw [if_neg (by omega)]
    omega
  show sliceRange (max 0 (min (if ((k : Nat) : Int) < 0 then ((k : Nat) : Int) + (x.length : Int) else ((k : Nat) : Int)) (x.length : Int))) (x.length : Int) 1 = _
  rw [e]
section
variable {w : World} {A : Around} {h₀ : Heap} {R : Result → Shared → Prop} {B t0 : Nat} {g : Array GenState} {d : Drawn} {os : OsState} {mods : List Nat} {prog : Program} {kt : Nat → Option Obj}
theorem r_sliceTo (x : List Nat) (k tn t a : Nat) (hx : x.length ≤ 16777216) (D : Rep kt h₀ mods h₀ B [(a, sliceO .none (.int (.ofNat k) t) .none)] [] 0)
   (hR : ∀ t1 t', R (.ok (.ret (.str ⟨⟨x.take k⟩⟩ t1))) ⟨h₀, g, d, t', os⟩) :
   codeAny (model prog w) A (.call (.builtin "str.__getitem__") ⟨[.str ⟨⟨x⟩⟩ tn, .ref a], []⟩) R ⟨h₀, g, d, t0, os⟩ := by
  refine r_slice x (x.take k) tn a none (some (((k : Nat) : Int), t)) none rfl ?_ (by rw [List.length_take]; omega) ?_ D hR
  · rw [picked_to, pick_seg x 0 _ (Nat.zero_le _) (Nat.min_le_right _ _), List.drop_zero, Nat.sub_zero]
    exact (List.take_eq_take_min ..).symm
  · intro h
    rw [picked_to, seg_len] at h
    have h2 : min k x.length - 0 = x.length := beq_iff_eq.mp (Bool.and_eq_true_iff.mp h).2
    exact List.take_of_length_le (by omega)
theorem r_sliceFrom (x : List Nat) (k tn t a : Nat) (hx : x.length ≤ 16777216) (D : Rep kt h₀ mods h₀ B [(a, sliceO (.int (.ofNat k) t) .none .none)] [] 0)
   (hR : ∀ t1 t', R (.ok (.ret (.str ⟨⟨x.drop k⟩⟩ t1))) ⟨h₀, g, d, t', os⟩) :
   codeAny (model prog w) A (.call (.builtin "str.__getitem__") ⟨[.str ⟨⟨x⟩⟩ tn, .ref a], []⟩) R ⟨h₀, g, d, t0, os⟩ := by
  have hd : x.drop (min k x.length) = x.drop k := by
    by_cases h : k ≤ x.length
    · rw [Nat.min_eq_left h]
    · rw [Nat.min_eq_right (by omega), List.drop_length, List.drop_of_length_le (by omega)]
  refine r_slice x (x.drop k) tn a (some (((k : Nat) : Int), t)) none none rfl ?_ (by rw [List.length_drop]; omega) ?_ D hR
  · rw [picked_from, pick_seg x _ _ (Nat.min_le_right _ _) (Nat.le_refl _), hd]
    exact List.take_of_length_le (by rw [List.length_drop]; omega)
  · intro h
    rw [picked_from, seg_len] at h
    have h2 : x.length - min k x.length = x.length := beq_iff_eq.mp (Bool.and_eq_true_iff.mp h).2
    by_cases hk : k = 0
    · rw [hk]; rfl
    · have : x.length = 0 := by omega
      rw [List.length_eq_zero_iff.mp this, List.drop_nil]
/-- how often a sign stands in a text -/
theorem occ_count (x : List Nat) (c : Nat) : (Builtin.Str.occurrences ⟨⟨x⟩⟩ ⟨⟨[c]⟩⟩ 0 x.length (x.length + 1)).length = x.count c := by
  rw [occ_fold]
  have key : ∀ (n : Nat), n ≤ x.length → ((List.range' 0 n).foldl (fun r i => occStep ⟨⟨x⟩⟩ ⟨⟨[c]⟩⟩ (x.length + 1) x.length i r) (#[], 0)).1.size = (x.take n).count c ∧ ((List.range' 0 n).foldl (fun r i => occStep ⟨⟨x⟩⟩ ⟨⟨[c]⟩⟩ (x.length + 1) x.length i r) (#[], 0)).2 ≤ n := by
    intro n
    induction n with
    | zero => intro _; exact ⟨rfl, Nat.le_refl _⟩
    | succ n ih =>
      intro hn
      obtain ⟨h1, h2⟩ := ih (by omega)
      rw [List.range'_concat, List.foldl_append]
      generalize hr : (List.range' 0 n).foldl (fun r i => occStep ⟨⟨x⟩⟩ ⟨⟨[c]⟩⟩ (x.length + 1) x.length i r) (#[], 0) = r at h1 h2
      rw [List.foldl_cons, List.foldl_nil, Nat.zero_add, Nat.one_mul]
      have hcl : (x.take n).count c ≤ n := Nat.le_trans (List.count_le_length ..) (by rw [List.length_take]; omega)
      have hsz : r.1.size < x.length + 1 := by omega
      have ht : x.take (n + 1) = x.take n ++ [x[n]] := by rw [List.take_succ_eq_append_getElem (by omega)]
      unfold occStep
      rw [sub_one, decide_eq_true hsz, decide_eq_true h2, decide_eq_true (show n + (⟨⟨[c]⟩⟩ : Str).length ≤ x.length from hn), Bool.true_and, Bool.true_and, Bool.true_and, ht, List.count_append, List.getElem?_eq_getElem (by omega)]
      by_cases hc : x[n] = c
      · rw [if_pos (by rw [hc]; simp)]
        refine ⟨?_, Nat.le_refl _⟩
        show (r.1.push n).size = _
        rw [Array.size_push, h1, hc]
        simp
      · rw [if_neg (by simp [hc])]
        refine ⟨?_, by show r.2 ≤ _; omega⟩
        rw [h1]
        simp [hc]
  have h := key x.length (Nat.le_refl _)
  rw [Nat.sub_zero, List.range'_concat, List.foldl_append]
  generalize hr : (List.range' 0 x.length).foldl (fun r i => occStep ⟨⟨x⟩⟩ ⟨⟨[c]⟩⟩ (x.length + 1) x.length i r) (#[], 0) = r at h
  rw [List.foldl_cons, List.foldl_nil, Nat.zero_add, Nat.one_mul]
  unfold occStep
  rw [decide_eq_false (show ¬ (x.length + (⟨⟨[c]⟩⟩ : Str).length ≤ x.length) from by show ¬ (x.length + 1 ≤ x.length); omega), Bool.and_false, Bool.false_and, if_neg Bool.false_ne_true]
  have h1 := h.1
  rw [List.take_length] at h1
  exact h1
theorem r_scount (x : List Nat) (c t u : Nat) {s : Shared} (hR : ∀ t1 t', R (.ok (.ret (.int (.ofNat (x.count c)) t1))) ⟨s.heap, s.gens, s.drawn, t', s.os⟩) :
   codeAny (model prog w) A (.call (.builtin "str.count") ⟨[.str ⟨⟨x⟩⟩ t, .str ⟨⟨[c]⟩⟩ u], []⟩) R s := by
  refine code_meets F.slot_str_count (typeIs_str _ _ _) F.entry_str_count (F.args_str_count_2 _ _) (gives_str_count ⟨⟨x⟩⟩ ⟨⟨[c]⟩⟩ t u).meets ?_
  have e : (((Builtin.Str.occurrences ⟨⟨x⟩⟩ ⟨⟨[c]⟩⟩ 0 (⟨⟨x⟩⟩ : Str).length ((⟨⟨x⟩⟩ : Str).length + 1)).length : Nat) : Int) = .ofNat (x.count c) := congrArg Int.ofNat (occ_count x c)
  rw [e]
  exact hR _ _
theorem r_igt (a b : Int) (t u : Nat) (v : Bool) (hv : decide (a > b) = v) {s : Shared} (hR : R (.ok (.ret (.bool v))) s) :
   codeAny (model prog w) A (.call (.builtin "int.__gt__") ⟨[.int a t, .int b u], []⟩) R s := by
  refine code_meets F.slot_int_gt (typeIs_int _ _ _) F.entry_int_gt (F.args_int_gt_2 _ _) (gives_int_gt a b t u).meets ?_
  show R (.ok (.ret (.bool (decide (a > b))))) s
  rw [hv]
  exact hR
end
end Mine
end
section
open PySem PySem.W PySem.Calls PyProof.Rows
set_option Elab.async false
set_option maxRecDepth 100000
namespace Mine
def q_law := [108, 97, 119, 46, 60, 108, 111, 99, 97, 108, 115, 62, 46]
def n_script := [115, 99, 114, 105, 112, 116]
def n_gap := [103, 97, 112]
def n_months := [109, 111, 110, 116, 104, 115]
def n_mail := [109, 97, 105, 108]
def n_lexer := [108, 101, 120, 101, 114]
noncomputable def lawBody (w : World) (i : Nat) : Stmt := match stmtAt w 131 5 with
  | .For _ _ b _ _ => b.getD i default
  | _ => default
/-- get_token answers so -/
def Gets (w : World) (a : LX) (Q : List (Nat × Nat)) (p : List Value) (line : Int) (x : List Nat) (P : List (Nat × Nat) → Prop) (line' : Int) : Prop :=
  ∀ (A : Around) (h₀ : Heap) (_ : Fit 60 A (kt1 w) h₀) (R : Result → Shared → Prop) (B t0 : Nat) (g : Array GenState) (d : Drawn) (os : OsState) (k2 : Nat → Nat) (ep pe : Nat) (mods : List Nat),
    Rep (kt1 w) h₀ mods h₀ B (a.led w k2 line (sgn Q) ep p pe) [] 0 →
    (∀ h1 t' k2' ep' pe' t1 Q', P Q' → After h₀ h1 mods (a.led w k2' line' (sgn Q') ep' [] pe') → R (.ok (.ret (.str ⟨⟨x⟩⟩ t1))) ⟨h1, g, d, t', os⟩) →
    codeAny (PP w) A (.call (.ref 83) ⟨[.ref a.lx], []⟩) R ⟨h₀, g, d, t0, os⟩
theorem hexB_big (n : Int) (h : n.natAbs < 1048576) : (hexB n.natAbs).length ≤ 16777000 := by
  have := hexS_len _ h
  unfold hexB
  unfold hexS at this
  rw [List.length_map] at this ⊢
  omega
noncomputable def laF (w : World) (k : Nat → Nat) (v0 v1 : Value) (gap : Int) (tg : Nat) (v3 : Value) (hl : Nat) (v5 v6 v7 : Value) (lx : Nat) (x : List Nat) (tx : Nat) (dl : List DictEntry) (n : Nat) : Obj :=
  fobj (ent w n_script (k 0) v0 :: ent w n_cells (k 1) v1 :: ent w n_gap (k 2) (.int gap tg) :: ent w n_months (k 3) v3 :: ent w n_herd (k 4) (.ref hl) :: ent w n_month (k 5) v5 :: ent w n_mail (k 6) v6 :: ent w n_lines (k 7) v7 :: ent w n_lexer (k 8) (.ref lx) :: ent w n_word (k 9) (.str ⟨⟨x⟩⟩ tx) :: dl) n
set_option maxHeartbeats 2000000 in
set_option maxHeartbeats 2000000 in
set_option maxHeartbeats 2000000 in
theorem la_turnN1 (w : World) (A : Around) (h₀ : Heap) (mods : List Nat) (hA : Fit 100 A (kt1 w) h₀) (R : Result → Shared → Prop) (g : Array GenState) (d : Drawn) (os : OsState) (a : LX) (k : Nat → Nat) (v0 v1 v3 v5 v6 v7 : Value) (gap : Int) (tg hl f : Nat)
   (dots : Nat) (name : List Nat) (hd1 : 1 ≤ dots) (hd2 : dots ≤ 1000) (hn1 : name.length ≤ 1000) (hn2 : 46 ∉ name)
   (h : Heap) (B t0 tx eh ep pe : Nat) (HL : List Value) (hHL : HL.length ≤ 16777000) (Q : List (Nat × Nat)) (line : Int) (k2 : Nat → Nat) (X : Led)
   (hg : ¬ (dots : Int) > gap) (x' : List Nat) (P : List (Nat × Nat) → Prop) (line' : Int) (hG : Gets w a Q [] line x' P line')
   (hR : ∀ h' B' t' tx' ep' pe' k2' eh' ca td tn kd vd Q', P Q' → Rep (kt1 w) h₀ mods h' B' (a.led w k2' line' (sgn Q') ep' [] pe' ++ [(hl, listO (HL ++ [.ref ca]) eh'), (f, laF w k v0 v1 gap tg v3 hl v5 v6 v7 a.lx x' tx' [ent w n_dots kd vd] 11), (ca, (Cow.mk ca dots td name tn).obj)]) X 0 → codeAny (PP w) A (whileOf (lawBody w 4) (envOf w 131 f q_law)) R ⟨h', g, d, t', os⟩)
   (D : Rep (kt1 w) h₀ mods h B (a.led w k2 line (sgn Q) ep [] pe ++ [(hl, listO HL eh), (f, laF w k v0 v1 gap tg v3 hl v5 v6 v7 a.lx (List.replicate dots 46 ++ name) tx [] 10)]) X 0) :
   codeAny (PP w) A (whileOf (lawBody w 4) (envOf w 131 f q_law)) R ⟨h, g, d, t0, os⟩ := by
  obtain ⟨b1, b2, hw⟩ := parF_ex w
  have hA' := hA.under (whileOf (lawBody w 4) (envOf w 131 f q_law)) (m := 99) (by kernel_rfl)
  refine code_start ?_
  refine Means.add0 ?_
  generalize hx : List.replicate dots 46 ++ name = x at D
  have hx1 : x.take 1 = [46] := by
    obtain ⟨k, rfl⟩ : ∃ k, dots = k + 1 := ⟨dots - 1, by omega⟩
    rw [← hx]; rfl
  have hxc : x.count 46 = dots := by
    rw [← hx, List.count_append, List.count_replicate_self, List.count_eq_zero.mpr hn2, Nat.add_zero]
  have hxd : x.drop dots = name := by rw [← hx, List.drop_left' (List.length_replicate ..)]
  have hxl : x.length ≤ 2000 := by rw [← hx, List.length_append, List.length_replicate]; omega
  (refine segW (t0 := t0) (i := 0) 100000 [11] (Code.call (Value.builtin "str.__getitem__") { pos := [Value.str { cps := { toList := x : Array Nat } : Str } tx, Value.ref B] : Args }) D (by assumption) (by assumption) ?_; intro o11; refine ⟨by kernel_rfl, by kernel_rfl, by kernel_rfl, by kernel_rfl, by kernel_rfl, fun h11 D11 => ?_⟩)
  refine callW_of rfl ?_
  rw [mark_none]
  refine r_sliceTo x 1 tx t0 _ (by omega) (D11.give [0, 0, 0, 0, 0, 0, 0, 0, 0, 0, 0, 1] (by kernel_rfl)) fun t1 t' => ?_
  rw [hx1]
  refine Means.add0 ?_
  cases b1 <;> (
    (refine segW (t0 := t') (i := 0) 100000 [1, 11] (Code.call (Value.builtin "str.count") { pos := [Value.str { cps := { toList := x : Array Nat } : Str } tx, Value.str { cps := { toList := [46] : Array Nat } : Str } (t' + 1)] : Args }) D11 (by assumption) (by assumption) ?_; intro o12; refine ⟨by kernel_rfl, by kernel_rfl, by kernel_rfl, by kernel_rfl, by kernel_rfl, fun h12 D12 => ?_⟩)
    refine callW_of rfl ?_
    rw [mark_none]
    refine r_scount x 46 _ _ fun t2 t3 => ?_
    rw [hxc]
    refine Means.add0 ?_
    (refine segW (t0 := t3) (i := 0) 100000 [11, 11, 11, 10, 10, 10, 10, 11, 11, 11] (Code.call (Value.builtin "str.__getitem__") { pos := [Value.str { cps := { toList := x : Array Nat } : Str } tx, Value.ref (B + 1)] : Args }) D12 (by assumption) (by assumption) ?_; intro o13; refine ⟨by kernel_rfl, by kernel_rfl, by kernel_rfl, by kernel_rfl, by kernel_rfl, fun h13 D13 => ?_⟩)
    refine callW_of rfl ?_
    rw [mark_none]
    refine r_sliceFrom x dots tx t2 _ (by omega) (D13.give [0, 0, 0, 0, 0, 0, 0, 0, 0, 0, 0, 0, 1] (by kernel_rfl)) fun t4 t5 => ?_
    rw [hxd]
    refine Means.add0 ?_
    (refine segW (t0 := t5) (i := 0) 100000 [] (Code.call (Value.builtin "list.append") { pos := [Value.ref hl, Value.ref (B + 2)] : Args }) D13 (by assumption) (by assumption) ?_; intro o14; refine ⟨by kernel_rfl, by kernel_rfl, by kernel_rfl, by kernel_rfl, by kernel_rfl, fun h14 D14 => ?_⟩)
    refine callW_of rfl ?_
    rw [mark_none]
    refine r_append hl eh HL (.ref (B + 2)) (by omega) (D14.give [0, 0, 0, 0, 0, 0, 0, 0, 0, 1] (by kernel_rfl)) fun g3 t6 a3 => ?_
    obtain ⟨B4, E4⟩ := D14.backP [0, 0, 0, 0, 0, 0, 0, 0, 0, 1] [1, 2, 3, 4, 5, 6, 7, 8, 9, 0, 10, 13] (a.led w k2 line (sgn Q) ep [] pe ++ [(hl, listO (HL ++ [.ref (B + 2)]) (eh + 1)), (f, laF w k v0 v1 gap tg v3 hl v5 v6 v7 a.lx x tx [ent w n_dots t3 (.int (.ofNat dots) t2)] 11), (B + 2, (Cow.mk (B + 2) dots t2 name t4).obj)]) (by kernel_rfl) a3 (by kernel_rfl)
    refine Means.add0 ?_
    (refine segW (t0 := t6) (i := 0) 100000 [11, 11] (Code.call (Value.builtin "int.__gt__") { pos := [Value.int (Int.ofNat dots) t2, Value.int gap tg] : Args }) E4 (by assumption) (by assumption) ?_; intro o15; refine ⟨by kernel_rfl, by kernel_rfl, by kernel_rfl, by kernel_rfl, by kernel_rfl, fun h15 D15 => ?_⟩)
    refine callW_of rfl ?_
    rw [mark_none]
    refine r_igt (.ofNat dots) gap t2 tg false (decide_eq_false hg) ?_
    refine Means.add0 ?_
    (refine segL (t0 := t6 + outI o15) (i := 0) 100000 [11, 1, 0, 0, 0, 1, 0, 0, 0, 1, 0, 0, 0, 0, 1, 2, 0] (Code.call (Value.ref 83) { pos := [Value.ref a.lx] : Args }) D15 (by assumption) (by assumption) ?_; intro o16; refine ⟨by kernel_rfl, by kernel_rfl, by kernel_rfl, by kernel_rfl, fun h16 D16 => ?_⟩)
    refine hG _ _ (Fit.inner hA' D16 _ (by kernel_rfl) (by kernel_rfl)) _ _ _ g d os k2 ep pe _ (D16.give [1, 1, 1, 1, 1, 1, 1, 1, 1] (by kernel_rfl)) fun g7 t8 k3 ep3 pe3 t9 Q3 hQ3 a7 => ?_
    obtain ⟨B7, E7⟩ := D16.backP [1, 1, 1, 1, 1, 1, 1, 1, 1] [0, 1, 2, 3, 4, 5, 6, 7, 8, 9, 10, 11] (a.led w k3 line' (sgn Q3) ep3 [] pe3 ++ [(hl, listO (HL ++ [.ref (B + 2)]) (eh + 1)), (f, laF w k v0 v1 gap tg v3 hl v5 v6 v7 a.lx x tx [ent w n_dots t3 (.int (.ofNat dots) t2)] 11), (B + 2, (Cow.mk (B + 2) dots t2 name t4).obj)]) (by kernel_rfl) a7 (by kernel_rfl)
    refine Means.add0 ?_
    (refine segF (t0 := t8) (i := 0) 100000 [11, 11] ((Fin.again (whileOf (lawBody w 4) (envOf w 131 f q_law))) ) E7 (by assumption) (by assumption) ?_; intro o17; refine ⟨by kernel_rfl, by kernel_rfl, by kernel_rfl, fun h17 D17 => ?_⟩)
    obtain ⟨B8, E8⟩ := D17.pickE [0, 1, 2, 3, 4, 5, 6, 7, 8, 9, 10, 11] (a.led w k3 line' (sgn Q3) ep3 [] pe3 ++ [(hl, listO (HL ++ [.ref (B + 2)]) (eh + 1)), (f, laF w k v0 v1 gap tg v3 hl v5 v6 v7 a.lx x' t9 [ent w n_dots t3 (.int (.ofNat dots) t2)] 11), (B + 2, (Cow.mk (B + 2) dots t2 name t4).obj)]) (by kernel_rfl)
    exact ⟨by kernel_rfl, hR _ _ _ _ _ _ _ _ _ _ _ _ _ _ hQ3 E8⟩)
set_option maxHeartbeats 2000000 in
theorem la_turnN2 (w : World) (A : Around) (h₀ : Heap) (mods : List Nat) (hA : Fit 100 A (kt1 w) h₀) (R : Result → Shared → Prop) (g : Array GenState) (d : Drawn) (os : OsState) (a : LX) (k : Nat → Nat) (v0 v1 v3 v5 v6 v7 : Value) (gap : Int) (tg hl f : Nat)
   (dots : Nat) (name : List Nat) (hd1 : 1 ≤ dots) (hd2 : dots ≤ 1000) (hn1 : name.length ≤ 1000) (hn2 : 46 ∉ name)
   (h : Heap) (B t0 tx eh ep pe : Nat) (HL : List Value) (hHL : HL.length ≤ 16777000) (Q : List (Nat × Nat)) (line : Int) (k2 : Nat → Nat) (X : Led) (kd : Nat) (vd : Value)
   (hg : ¬ (dots : Int) > gap) (x' : List Nat) (P : List (Nat × Nat) → Prop) (line' : Int) (hG : Gets w a Q [] line x' P line')
   (hR : ∀ h' B' t' tx' ep' pe' k2' eh' ca td tn kd vd Q', P Q' → Rep (kt1 w) h₀ mods h' B' (a.led w k2' line' (sgn Q') ep' [] pe' ++ [(hl, listO (HL ++ [.ref ca]) eh'), (f, laF w k v0 v1 gap tg v3 hl v5 v6 v7 a.lx x' tx' [ent w n_dots kd vd] 11), (ca, (Cow.mk ca dots td name tn).obj)]) X 0 → codeAny (PP w) A (whileOf (lawBody w 4) (envOf w 131 f q_law)) R ⟨h', g, d, t', os⟩)
   (D : Rep (kt1 w) h₀ mods h B (a.led w k2 line (sgn Q) ep [] pe ++ [(hl, listO HL eh), (f, laF w k v0 v1 gap tg v3 hl v5 v6 v7 a.lx (List.replicate dots 46 ++ name) tx [ent w n_dots kd vd] 11)]) X 0) :
   codeAny (PP w) A (whileOf (lawBody w 4) (envOf w 131 f q_law)) R ⟨h, g, d, t0, os⟩ := by
  obtain ⟨b1, b2, hw⟩ := parF_ex w
  have hA' := hA.under (whileOf (lawBody w 4) (envOf w 131 f q_law)) (m := 99) (by kernel_rfl)
  refine code_start ?_
  refine Means.add0 ?_
  generalize hx : List.replicate dots 46 ++ name = x at D
  have hx1 : x.take 1 = [46] := by
    obtain ⟨k, rfl⟩ : ∃ k, dots = k + 1 := ⟨dots - 1, by omega⟩
    rw [← hx]; rfl
  have hxc : x.count 46 = dots := by
    rw [← hx, List.count_append, List.count_replicate_self, List.count_eq_zero.mpr hn2, Nat.add_zero]
  have hxd : x.drop dots = name := by rw [← hx, List.drop_left' (List.length_replicate ..)]
  have hxl : x.length ≤ 2000 := by rw [← hx, List.length_append, List.length_replicate]; omega
  (refine segW (t0 := t0) (i := 0) 100000 [11] (Code.call (Value.builtin "str.__getitem__") { pos := [Value.str { cps := { toList := x : Array Nat } : Str } tx, Value.ref B] : Args }) D (by assumption) (by assumption) ?_; intro o11; refine ⟨by kernel_rfl, by kernel_rfl, by kernel_rfl, by kernel_rfl, by kernel_rfl, fun h11 D11 => ?_⟩)
  refine callW_of rfl ?_
  rw [mark_none]
  refine r_sliceTo x 1 tx t0 _ (by omega) (D11.give [0, 0, 0, 0, 0, 0, 0, 0, 0, 0, 0, 1] (by kernel_rfl)) fun t1 t' => ?_
  rw [hx1]
  refine Means.add0 ?_
  cases b1 <;> (
    (refine segW (t0 := t') (i := 0) 100000 [1, 11] (Code.call (Value.builtin "str.count") { pos := [Value.str { cps := { toList := x : Array Nat } : Str } tx, Value.str { cps := { toList := [46] : Array Nat } : Str } (t' + 1)] : Args }) D11 (by assumption) (by assumption) ?_; intro o12; refine ⟨by kernel_rfl, by kernel_rfl, by kernel_rfl, by kernel_rfl, by kernel_rfl, fun h12 D12 => ?_⟩)
    refine callW_of rfl ?_
    rw [mark_none]
    refine r_scount x 46 _ _ fun t2 t3 => ?_
    rw [hxc]
    refine Means.add0 ?_
    (refine segW (t0 := t3) (i := 0) 100000 [11, 11, 11, 10, 10, 10, 10, 11, 11, 11] (Code.call (Value.builtin "str.__getitem__") { pos := [Value.str { cps := { toList := x : Array Nat } : Str } tx, Value.ref (B + 1)] : Args }) D12 (by assumption) (by assumption) ?_; intro o13; refine ⟨by kernel_rfl, by kernel_rfl, by kernel_rfl, by kernel_rfl, by kernel_rfl, fun h13 D13 => ?_⟩)
    refine callW_of rfl ?_
    rw [mark_none]
    refine r_sliceFrom x dots tx t2 _ (by omega) (D13.give [0, 0, 0, 0, 0, 0, 0, 0, 0, 0, 0, 0, 1] (by kernel_rfl)) fun t4 t5 => ?_
    rw [hxd]
    refine Means.add0 ?_
    (refine segW (t0 := t5) (i := 0) 100000 [] (Code.call (Value.builtin "list.append") { pos := [Value.ref hl, Value.ref (B + 2)] : Args }) D13 (by assumption) (by assumption) ?_; intro o14; refine ⟨by kernel_rfl, by kernel_rfl, by kernel_rfl, by kernel_rfl, by kernel_rfl, fun h14 D14 => ?_⟩)
    refine callW_of rfl ?_
    rw [mark_none]
    refine r_append hl eh HL (.ref (B + 2)) (by omega) (D14.give [0, 0, 0, 0, 0, 0, 0, 0, 0, 1] (by kernel_rfl)) fun g3 t6 a3 => ?_
    obtain ⟨B4, E4⟩ := D14.backP [0, 0, 0, 0, 0, 0, 0, 0, 0, 1] [1, 2, 3, 4, 5, 6, 7, 8, 9, 0, 10, 13] (a.led w k2 line (sgn Q) ep [] pe ++ [(hl, listO (HL ++ [.ref (B + 2)]) (eh + 1)), (f, laF w k v0 v1 gap tg v3 hl v5 v6 v7 a.lx x tx [ent w n_dots kd (.int (.ofNat dots) t2)] 11), (B + 2, (Cow.mk (B + 2) dots t2 name t4).obj)]) (by kernel_rfl) a3 (by kernel_rfl)
    refine Means.add0 ?_
    (refine segW (t0 := t6) (i := 0) 100000 [11, 11] (Code.call (Value.builtin "int.__gt__") { pos := [Value.int (Int.ofNat dots) t2, Value.int gap tg] : Args }) E4 (by assumption) (by assumption) ?_; intro o15; refine ⟨by kernel_rfl, by kernel_rfl, by kernel_rfl, by kernel_rfl, by kernel_rfl, fun h15 D15 => ?_⟩)
    refine callW_of rfl ?_
    rw [mark_none]
    refine r_igt (.ofNat dots) gap t2 tg false (decide_eq_false hg) ?_
    refine Means.add0 ?_
    (refine segL (t0 := t6 + outI o15) (i := 0) 100000 [11, 1, 0, 0, 0, 1, 0, 0, 0, 1, 0, 0, 0, 0, 1, 2, 0] (Code.call (Value.ref 83) { pos := [Value.ref a.lx] : Args }) D15 (by assumption) (by assumption) ?_; intro o16; refine ⟨by kernel_rfl, by kernel_rfl, by kernel_rfl, by kernel_rfl, fun h16 D16 => ?_⟩)
    refine hG _ _ (Fit.inner hA' D16 _ (by kernel_rfl) (by kernel_rfl)) _ _ _ g d os k2 ep pe _ (D16.give [1, 1, 1, 1, 1, 1, 1, 1, 1] (by kernel_rfl)) fun g7 t8 k3 ep3 pe3 t9 Q3 hQ3 a7 => ?_
    obtain ⟨B7, E7⟩ := D16.backP [1, 1, 1, 1, 1, 1, 1, 1, 1] [0, 1, 2, 3, 4, 5, 6, 7, 8, 9, 10, 11] (a.led w k3 line' (sgn Q3) ep3 [] pe3 ++ [(hl, listO (HL ++ [.ref (B + 2)]) (eh + 1)), (f, laF w k v0 v1 gap tg v3 hl v5 v6 v7 a.lx x tx [ent w n_dots kd (.int (.ofNat dots) t2)] 11), (B + 2, (Cow.mk (B + 2) dots t2 name t4).obj)]) (by kernel_rfl) a7 (by kernel_rfl)
    refine Means.add0 ?_
    (refine segF (t0 := t8) (i := 0) 100000 [11, 11] ((Fin.again (whileOf (lawBody w 4) (envOf w 131 f q_law))) ) E7 (by assumption) (by assumption) ?_; intro o17; refine ⟨by kernel_rfl, by kernel_rfl, by kernel_rfl, fun h17 D17 => ?_⟩)
    obtain ⟨B8, E8⟩ := D17.pickE [0, 1, 2, 3, 4, 5, 6, 7, 8, 9, 10, 11] (a.led w k3 line' (sgn Q3) ep3 [] pe3 ++ [(hl, listO (HL ++ [.ref (B + 2)]) (eh + 1)), (f, laF w k v0 v1 gap tg v3 hl v5 v6 v7 a.lx x' t9 [ent w n_dots kd (.int (.ofNat dots) t2)] 11), (B + 2, (Cow.mk (B + 2) dots t2 name t4).obj)]) (by kernel_rfl)
    exact ⟨by kernel_rfl, hR _ _ _ _ _ _ _ _ _ _ _ _ _ _ hQ3 E8⟩)
set_option maxHeartbeats 2000000 in
theorem la_turnP1 (w : World) (A : Around) (h₀ : Heap) (mods : List Nat) (hA : Fit 100 A (kt1 w) h₀) (R : Result → Shared → Prop) (g : Array GenState) (d : Drawn) (os : OsState) (a : LX) (k : Nat → Nat) (v0 v1 v3 v5 v6 v7 : Value) (gap : Int) (tg hl f : Nat)
   (dots : Nat) (name : List Nat) (hd1 : 1 ≤ dots) (hd2 : dots ≤ 1000) (hn1 : name.length ≤ 1000) (hn2 : 46 ∉ name)
   (h : Heap) (B t0 tx eh ep pe : Nat) (HL : List Value) (hHL : HL.length ≤ 16777000) (Q : List (Nat × Nat)) (line : Int) (k2 : Nat → Nat) (X : Led)
   (hg : (dots : Int) > gap) (hg1 : 0 ≤ gap) (hn3 : ∀ c ∈ name, c < 128) (hcf : (16 * numZ 0 name + dots - gap).natAbs < 1048576)
   (hR : ∀ h' B' t' tx' ep' pe' k2' eh' ca td tn kd vd, Rep (kt1 w) h₀ mods h' B' (a.led w k2' line (sgn Q) ep' [] pe' ++ [(hl, listO (HL ++ [.ref ca]) eh'), (f, laF w k v0 v1 gap tg v3 hl v5 v6 v7 a.lx ([46] ++ hexS (16 * numZ 0 name + dots - gap).natAbs) tx' [ent w n_dots kd vd] 11), (ca, (Cow.mk ca dots td name tn).obj)]) X 0 → codeAny (PP w) A (whileOf (lawBody w 4) (envOf w 131 f q_law)) R ⟨h', g, d, t', os⟩)
   (D : Rep (kt1 w) h₀ mods h B (a.led w k2 line (sgn Q) ep [] pe ++ [(hl, listO HL eh), (f, laF w k v0 v1 gap tg v3 hl v5 v6 v7 a.lx (List.replicate dots 46 ++ name) tx [] 10)]) X 0) :
   codeAny (PP w) A (whileOf (lawBody w 4) (envOf w 131 f q_law)) R ⟨h, g, d, t0, os⟩ := by
  obtain ⟨b1, b2, hw⟩ := parF_ex w
  have hA' := hA.under (whileOf (lawBody w 4) (envOf w 131 f q_law)) (m := 99) (by kernel_rfl)
  refine code_start ?_
  refine Means.add0 ?_
  generalize hx : List.replicate dots 46 ++ name = x at D
  have hx1 : x.take 1 = [46] := by
    obtain ⟨k, rfl⟩ : ∃ k, dots = k + 1 := ⟨dots - 1, by omega⟩
    rw [← hx]; rfl
  have hxc : x.count 46 = dots := by
    rw [← hx, List.count_append, List.count_replicate_self, List.count_eq_zero.mpr hn2, Nat.add_zero]
  have hxd : x.drop dots = name := by rw [← hx, List.drop_left' (List.length_replicate ..)]
  have hxl : x.length ≤ 2000 := by rw [← hx, List.length_append, List.length_replicate]; omega
  (refine segW (t0 := t0) (i := 0) 100000 [11] (Code.call (Value.builtin "str.__getitem__") { pos := [Value.str { cps := { toList := x : Array Nat } : Str } tx, Value.ref B] : Args }) D (by assumption) (by assumption) ?_; intro o11; refine ⟨by kernel_rfl, by kernel_rfl, by kernel_rfl, by kernel_rfl, by kernel_rfl, fun h11 D11 => ?_⟩)
  refine callW_of rfl ?_
  rw [mark_none]
  refine r_sliceTo x 1 tx t0 _ (by omega) (D11.give [0, 0, 0, 0, 0, 0, 0, 0, 0, 0, 0, 1] (by kernel_rfl)) fun t1 t' => ?_
  rw [hx1]
  refine Means.add0 ?_
  cases b1 <;> (
    (refine segW (t0 := t') (i := 0) 100000 [1, 11] (Code.call (Value.builtin "str.count") { pos := [Value.str { cps := { toList := x : Array Nat } : Str } tx, Value.str { cps := { toList := [46] : Array Nat } : Str } (t' + 1)] : Args }) D11 (by assumption) (by assumption) ?_; intro o12; refine ⟨by kernel_rfl, by kernel_rfl, by kernel_rfl, by kernel_rfl, by kernel_rfl, fun h12 D12 => ?_⟩)
    refine callW_of rfl ?_
    rw [mark_none]
    refine r_scount x 46 _ _ fun t2 t3 => ?_
    rw [hxc]
    refine Means.add0 ?_
    (refine segW (t0 := t3) (i := 0) 100000 [11, 11, 11, 10, 10, 10, 10, 11, 11, 11] (Code.call (Value.builtin "str.__getitem__") { pos := [Value.str { cps := { toList := x : Array Nat } : Str } tx, Value.ref (B + 1)] : Args }) D12 (by assumption) (by assumption) ?_; intro o13; refine ⟨by kernel_rfl, by kernel_rfl, by kernel_rfl, by kernel_rfl, by kernel_rfl, fun h13 D13 => ?_⟩)
    refine callW_of rfl ?_
    rw [mark_none]
    refine r_sliceFrom x dots tx t2 _ (by omega) (D13.give [0, 0, 0, 0, 0, 0, 0, 0, 0, 0, 0, 0, 1] (by kernel_rfl)) fun t4 t5 => ?_
    rw [hxd]
    refine Means.add0 ?_
    (refine segW (t0 := t5) (i := 0) 100000 [] (Code.call (Value.builtin "list.append") { pos := [Value.ref hl, Value.ref (B + 2)] : Args }) D13 (by assumption) (by assumption) ?_; intro o14; refine ⟨by kernel_rfl, by kernel_rfl, by kernel_rfl, by kernel_rfl, by kernel_rfl, fun h14 D14 => ?_⟩)
    refine callW_of rfl ?_
    rw [mark_none]
    refine r_append hl eh HL (.ref (B + 2)) (by omega) (D14.give [0, 0, 0, 0, 0, 0, 0, 0, 0, 1] (by kernel_rfl)) fun g3 t6 a3 => ?_
    obtain ⟨B4, E4⟩ := D14.backP [0, 0, 0, 0, 0, 0, 0, 0, 0, 1] [1, 2, 3, 4, 5, 6, 7, 8, 9, 0, 10, 13] (a.led w k2 line (sgn Q) ep [] pe ++ [(hl, listO (HL ++ [.ref (B + 2)]) (eh + 1)), (f, laF w k v0 v1 gap tg v3 hl v5 v6 v7 a.lx x tx [ent w n_dots t3 (.int (.ofNat dots) t2)] 11), (B + 2, (Cow.mk (B + 2) dots t2 name t4).obj)]) (by kernel_rfl) a3 (by kernel_rfl)
    refine Means.add0 ?_
    (refine segW (t0 := t6) (i := 0) 100000 [11, 11] (Code.call (Value.builtin "int.__gt__") { pos := [Value.int (Int.ofNat dots) t2, Value.int gap tg] : Args }) E4 (by assumption) (by assumption) ?_; intro o15; refine ⟨by kernel_rfl, by kernel_rfl, by kernel_rfl, by kernel_rfl, by kernel_rfl, fun h15 D15 => ?_⟩)
    refine callW_of rfl ?_
    rw [mark_none]
    refine r_igt (.ofNat dots) gap t2 tg true (decide_eq_true hg) ?_
    refine Means.add0 ?_
    (refine segW (t0 := t6 + outI o15) (i := 0) 100000 [11, 1, 0, 0, 0, 1, 0, 0, 0, 1, 0, 0, 0, 0, 1, 2, 0, 0, 11, 11] (Code.call (Value.builtin "str.__getitem__") { pos := [Value.str { cps := { toList := x : Array Nat } : Str } tx, Value.ref B4] : Args }) D15 (by assumption) (by assumption) ?_; intro o21; refine ⟨by kernel_rfl, by kernel_rfl, by kernel_rfl, by kernel_rfl, by kernel_rfl, fun h21 D21 => ?_⟩)
    refine callW_of rfl ?_
    rw [mark_none]
    refine r_sliceFrom x dots tx t2 _ (by omega) (D21.give [0, 0, 0, 0, 0, 0, 0, 0, 0, 0, 0, 0, 1] (by kernel_rfl)) fun u4 u5 => ?_
    rw [hxd]
    obtain ⟨B5, E5⟩ := D21.pickE [0, 1, 2, 3, 4, 5, 6, 7, 8, 9, 10, 11] (a.led w k2 line (sgn Q) ep [] pe ++ [(hl, listO (HL ++ [.ref (B + 2)]) (eh + 1)), (f, laF w k v0 v1 gap tg v3 hl v5 v6 v7 a.lx x tx [ent w n_dots t3 (.int (.ofNat dots) t2)] 11), (B + 2, (Cow.mk (B + 2) dots t2 name t4).obj)]) (by kernel_rfl)
    refine Means.add0 ?_
    (refine segL (t0 := u5) (i := 0) 100000 [0] (Code.call (Value.ref 109) { pos := [Value.str { cps := { toList := name : Array Nat } : Str } u4] : Args }) E5 (by assumption) (by assumption) ?_; intro o22; refine ⟨by kernel_rfl, by kernel_rfl, by kernel_rfl, by kernel_rfl, fun h22 D22 => ?_⟩)
    refine law_number w _ _ (Fit.inner hA' D22 _ (by kernel_rfl) (by kernel_rfl)) _ _ _ g d os name _ hn3 (D22.give [] (by kernel_rfl)) fun g6 u6 u7 a6 => ?_
    generalize hnum : numZ 0 name = num at hcf hR
    obtain ⟨B6, E6⟩ := D22.backP [] [0, 1, 2, 3, 4, 5, 6, 7, 8, 9, 10, 11] (a.led w k2 line (sgn Q) ep [] pe ++ [(hl, listO (HL ++ [.ref (B + 2)]) (eh + 1)), (f, laF w k v0 v1 gap tg v3 hl v5 v6 v7 a.lx x tx [ent w n_dots t3 (.int (.ofNat dots) t2)] 11), (B + 2, (Cow.mk (B + 2) dots t2 name t4).obj)]) (by kernel_rfl) a6 (by kernel_rfl)
    refine Means.add0 ?_
    (refine segL (t0 := u7) (i := 0) 100000 [1, 11, 1, 11, 1, 0] ((.call (.ref 102) ⟨[.int (16 * num + (dots : Int) - gap) (u7 + 2)], []⟩) ) E6 (by assumption) (by assumption) ?_; intro o23; refine ⟨by kernel_rfl, by kernel_rfl, by kernel_rfl, by kernel_rfl, fun h23 D23 => ?_⟩)
    refine law_word w _ _ (Fit.inner hA' D23 _ (by kernel_rfl) (by kernel_rfl)) _ _ _ g d os (16 * num + (dots : Int) - gap) _ (hexB_big _ hcf) (D23.give [] (by kernel_rfl)) fun g7 u8 u9 a7 => ?_
    have hc6 := hexS_len _ hcf
    generalize (16 * num + (dots : Int) - gap).natAbs = cn at hc6 hR
    obtain ⟨B7, E7⟩ := D23.backP [] [0, 1, 2, 3, 4, 5, 6, 7, 8, 9, 10, 11] (a.led w k2 line (sgn Q) ep [] pe ++ [(hl, listO (HL ++ [.ref (B + 2)]) (eh + 1)), (f, laF w k v0 v1 gap tg v3 hl v5 v6 v7 a.lx x tx [ent w n_dots t3 (.int (.ofNat dots) t2)] 11), (B + 2, (Cow.mk (B + 2) dots t2 name t4).obj)]) (by kernel_rfl) a7 (by kernel_rfl)
    refine Means.add0 ?_
    (refine segW (t0 := u9) (i := 0) 100000 [] (Code.call (Value.builtin "str.__add__") { pos := [Value.str { cps := { toList := [46] : Array Nat } : Str } t6, Value.str { cps := { toList := hexS cn : Array Nat } : Str } u8] : Args }) E7 (by assumption) (by assumption) ?_; intro o24; refine ⟨by kernel_rfl, by kernel_rfl, by kernel_rfl, by kernel_rfl, by kernel_rfl, fun h24 D24 => ?_⟩)
    refine r_sadd [46] (hexS cn) _ _ (by show 1 + _ ≤ _; omega) fun v8 v9 => ?_
    refine Means.add0 ?_
    (refine segL (t0 := v9) (i := 0) 100000 [0] ((.call (.ref 90) ⟨[.ref a.lx, .str ⟨⟨[46] ++ hexS cn⟩⟩ v8], []⟩) ) D24 (by assumption) (by assumption) ?_; intro o25; refine ⟨by kernel_rfl, by kernel_rfl, by kernel_rfl, by kernel_rfl, fun h25 D25 => ?_⟩)
    refine push_tok w _ _ (Fit.inner hA' D25 _ (by kernel_rfl) (by kernel_rfl)) _ _ _ g d os a k2 line ep pe (sgn Q) ([46] ++ hexS cn) v8 (D25.give [1, 1, 1, 1, 1, 1, 1, 1, 1] (by kernel_rfl)) fun g8 w8 pe8 a8 => ?_
    obtain ⟨B8, E8⟩ := D25.backP [1, 1, 1, 1, 1, 1, 1, 1, 1] [0, 1, 2, 3, 4, 5, 6, 7, 8, 9, 10, 11] (a.led w k2 line (sgn Q) ep [.str ⟨⟨[46] ++ hexS cn⟩⟩ v8] pe8 ++ [(hl, listO (HL ++ [.ref (B + 2)]) (eh + 1)), (f, laF w k v0 v1 gap tg v3 hl v5 v6 v7 a.lx x tx [ent w n_dots t3 (.int (.ofNat dots) t2)] 11), (B + 2, (Cow.mk (B + 2) dots t2 name t4).obj)]) (by kernel_rfl) a8 (by kernel_rfl)
    refine Means.add0 ?_
    (refine segL (t0 := w8) (i := 0) 100000 [11, 1, 0, 0, 0, 1, 0, 0, 0, 1, 0, 0, 0, 0, 1, 2, 0] (Code.call (Value.ref 83) { pos := [Value.ref a.lx] : Args }) E8 (by assumption) (by assumption) ?_; intro o26; refine ⟨by kernel_rfl, by kernel_rfl, by kernel_rfl, by kernel_rfl, fun h26 D26 => ?_⟩)
    refine gt_push w _ _ (Fit.inner hA' D26 _ (by kernel_rfl) (by kernel_rfl)) _ _ _ g d os a k2 line ep pe8 (sgn Q) ([46] ++ hexS cn) v8 (D26.give [1, 1, 1, 1, 1, 1, 1, 1, 1] (by kernel_rfl)) fun g9 w9 pe9 a9 => ?_
    obtain ⟨B9, E9⟩ := D26.backP [1, 1, 1, 1, 1, 1, 1, 1, 1] [0, 1, 2, 3, 4, 5, 6, 7, 8, 9, 10, 11] (a.led w k2 line (sgn Q) ep [] pe9 ++ [(hl, listO (HL ++ [.ref (B + 2)]) (eh + 1)), (f, laF w k v0 v1 gap tg v3 hl v5 v6 v7 a.lx x tx [ent w n_dots t3 (.int (.ofNat dots) t2)] 11), (B + 2, (Cow.mk (B + 2) dots t2 name t4).obj)]) (by kernel_rfl) a9 (by kernel_rfl)
    refine Means.add0 ?_
    (refine segF (t0 := w9) (i := 0) 100000 [11, 11] ((Fin.again (whileOf (lawBody w 4) (envOf w 131 f q_law))) ) E9 (by assumption) (by assumption) ?_; intro o27; refine ⟨by kernel_rfl, by kernel_rfl, by kernel_rfl, fun h27 D27 => ?_⟩)
    obtain ⟨BB, EE⟩ := D27.pickE [0, 1, 2, 3, 4, 5, 6, 7, 8, 9, 10, 11] (a.led w k2 line (sgn Q) ep [] pe9 ++ [(hl, listO (HL ++ [.ref (B + 2)]) (eh + 1)), (f, laF w k v0 v1 gap tg v3 hl v5 v6 v7 a.lx ([46] ++ hexS cn) v8 [ent w n_dots t3 (.int (.ofNat dots) t2)] 11), (B + 2, (Cow.mk (B + 2) dots t2 name t4).obj)]) (by kernel_rfl)
    exact ⟨by kernel_rfl, hR _ _ _ _ _ _ _ _ _ _ _ _ _ EE⟩)
set_option maxHeartbeats 2000000 in
theorem la_turnP2 (w : World) (A : Around) (h₀ : Heap) (mods : List Nat) (hA : Fit 100 A (kt1 w) h₀) (R : Result → Shared → Prop) (g : Array GenState) (d : Drawn) (os : OsState) (a : LX) (k : Nat → Nat) (v0 v1 v3 v5 v6 v7 : Value) (gap : Int) (tg hl f : Nat)
   (dots : Nat) (name : List Nat) (hd1 : 1 ≤ dots) (hd2 : dots ≤ 1000) (hn1 : name.length ≤ 1000) (hn2 : 46 ∉ name)
   (h : Heap) (B t0 tx eh ep pe : Nat) (HL : List Value) (hHL : HL.length ≤ 16777000) (Q : List (Nat × Nat)) (line : Int) (k2 : Nat → Nat) (X : Led) (kd : Nat) (vd : Value)
   (hg : (dots : Int) > gap) (hg1 : 0 ≤ gap) (hn3 : ∀ c ∈ name, c < 128) (hcf : (16 * numZ 0 name + dots - gap).natAbs < 1048576)
   (hR : ∀ h' B' t' tx' ep' pe' k2' eh' ca td tn kd vd, Rep (kt1 w) h₀ mods h' B' (a.led w k2' line (sgn Q) ep' [] pe' ++ [(hl, listO (HL ++ [.ref ca]) eh'), (f, laF w k v0 v1 gap tg v3 hl v5 v6 v7 a.lx ([46] ++ hexS (16 * numZ 0 name + dots - gap).natAbs) tx' [ent w n_dots kd vd] 11), (ca, (Cow.mk ca dots td name tn).obj)]) X 0 → codeAny (PP w) A (whileOf (lawBody w 4) (envOf w 131 f q_law)) R ⟨h', g, d, t', os⟩)
   (D : Rep (kt1 w) h₀ mods h B (a.led w k2 line (sgn Q) ep [] pe ++ [(hl, listO HL eh), (f, laF w k v0 v1 gap tg v3 hl v5 v6 v7 a.lx (List.replicate dots 46 ++ name) tx [ent w n_dots kd vd] 11)]) X 0) :
   codeAny (PP w) A (whileOf (lawBody w 4) (envOf w 131 f q_law)) R ⟨h, g, d, t0, os⟩ := by
  obtain ⟨b1, b2, hw⟩ := parF_ex w
  have hA' := hA.under (whileOf (lawBody w 4) (envOf w 131 f q_law)) (m := 99) (by kernel_rfl)
  refine code_start ?_
  refine Means.add0 ?_
  generalize hx : List.replicate dots 46 ++ name = x at D
  have hx1 : x.take 1 = [46] := by
    obtain ⟨k, rfl⟩ : ∃ k, dots = k + 1 := ⟨dots - 1, by omega⟩
    rw [← hx]; rfl
  have hxc : x.count 46 = dots := by
    rw [← hx, List.count_append, List.count_replicate_self, List.count_eq_zero.mpr hn2, Nat.add_zero]
  have hxd : x.drop dots = name := by rw [← hx, List.drop_left' (List.length_replicate ..)]
  have hxl : x.length ≤ 2000 := by rw [← hx, List.length_append, List.length_replicate]; omega
  (refine segW (t0 := t0) (i := 0) 100000 [11] (Code.call (Value.builtin "str.__getitem__") { pos := [Value.str { cps := { toList := x : Array Nat } : Str } tx, Value.ref B] : Args }) D (by assumption) (by assumption) ?_; intro o11; refine ⟨by kernel_rfl, by kernel_rfl, by kernel_rfl, by kernel_rfl, by kernel_rfl, fun h11 D11 => ?_⟩)
  refine callW_of rfl ?_
  rw [mark_none]
  refine r_sliceTo x 1 tx t0 _ (by omega) (D11.give [0, 0, 0, 0, 0, 0, 0, 0, 0, 0, 0, 1] (by kernel_rfl)) fun t1 t' => ?_
  rw [hx1]
  refine Means.add0 ?_
  cases b1 <;> (
    (refine segW (t0 := t') (i := 0) 100000 [1, 11] (Code.call (Value.builtin "str.count") { pos := [Value.str { cps := { toList := x : Array Nat } : Str } tx, Value.str { cps := { toList := [46] : Array Nat } : Str } (t' + 1)] : Args }) D11 (by assumption) (by assumption) ?_; intro o12; refine ⟨by kernel_rfl, by kernel_rfl, by kernel_rfl, by kernel_rfl, by kernel_rfl, fun h12 D12 => ?_⟩)
    refine callW_of rfl ?_
    rw [mark_none]
    refine r_scount x 46 _ _ fun t2 t3 => ?_
    rw [hxc]
    refine Means.add0 ?_
    (refine segW (t0 := t3) (i := 0) 100000 [11, 11, 11, 10, 10, 10, 10, 11, 11, 11] (Code.call (Value.builtin "str.__getitem__") { pos := [Value.str { cps := { toList := x : Array Nat } : Str } tx, Value.ref (B + 1)] : Args }) D12 (by assumption) (by assumption) ?_; intro o13; refine ⟨by kernel_rfl, by kernel_rfl, by kernel_rfl, by kernel_rfl, by kernel_rfl, fun h13 D13 => ?_⟩)
    refine callW_of rfl ?_
    rw [mark_none]
    refine r_sliceFrom x dots tx t2 _ (by omega) (D13.give [0, 0, 0, 0, 0, 0, 0, 0, 0, 0, 0, 0, 1] (by kernel_rfl)) fun t4 t5 => ?_
    rw [hxd]
    refine Means.add0 ?_
    (refine segW (t0 := t5) (i := 0) 100000 [] (Code.call (Value.builtin "list.append") { pos := [Value.ref hl, Value.ref (B + 2)] : Args }) D13 (by assumption) (by assumption) ?_; intro o14; refine ⟨by kernel_rfl, by kernel_rfl, by kernel_rfl, by kernel_rfl, by kernel_rfl, fun h14 D14 => ?_⟩)
    refine callW_of rfl ?_
    rw [mark_none]
    refine r_append hl eh HL (.ref (B + 2)) (by omega) (D14.give [0, 0, 0, 0, 0, 0, 0, 0, 0, 1] (by kernel_rfl)) fun g3 t6 a3 => ?_
    obtain ⟨B4, E4⟩ := D14.backP [0, 0, 0, 0, 0, 0, 0, 0, 0, 1] [1, 2, 3, 4, 5, 6, 7, 8, 9, 0, 10, 13] (a.led w k2 line (sgn Q) ep [] pe ++ [(hl, listO (HL ++ [.ref (B + 2)]) (eh + 1)), (f, laF w k v0 v1 gap tg v3 hl v5 v6 v7 a.lx x tx [ent w n_dots kd (.int (.ofNat dots) t2)] 11), (B + 2, (Cow.mk (B + 2) dots t2 name t4).obj)]) (by kernel_rfl) a3 (by kernel_rfl)
    refine Means.add0 ?_
    (refine segW (t0 := t6) (i := 0) 100000 [11, 11] (Code.call (Value.builtin "int.__gt__") { pos := [Value.int (Int.ofNat dots) t2, Value.int gap tg] : Args }) E4 (by assumption) (by assumption) ?_; intro o15; refine ⟨by kernel_rfl, by kernel_rfl, by kernel_rfl, by kernel_rfl, by kernel_rfl, fun h15 D15 => ?_⟩)
    refine callW_of rfl ?_
    rw [mark_none]
    refine r_igt (.ofNat dots) gap t2 tg true (decide_eq_true hg) ?_
    refine Means.add0 ?_
    (refine segW (t0 := t6 + outI o15) (i := 0) 100000 [11, 1, 0, 0, 0, 1, 0, 0, 0, 1, 0, 0, 0, 0, 1, 2, 0, 0, 11, 11] (Code.call (Value.builtin "str.__getitem__") { pos := [Value.str { cps := { toList := x : Array Nat } : Str } tx, Value.ref B4] : Args }) D15 (by assumption) (by assumption) ?_; intro o21; refine ⟨by kernel_rfl, by kernel_rfl, by kernel_rfl, by kernel_rfl, by kernel_rfl, fun h21 D21 => ?_⟩)
    refine callW_of rfl ?_
    rw [mark_none]
    refine r_sliceFrom x dots tx t2 _ (by omega) (D21.give [0, 0, 0, 0, 0, 0, 0, 0, 0, 0, 0, 0, 1] (by kernel_rfl)) fun u4 u5 => ?_
    rw [hxd]
    obtain ⟨B5, E5⟩ := D21.pickE [0, 1, 2, 3, 4, 5, 6, 7, 8, 9, 10, 11] (a.led w k2 line (sgn Q) ep [] pe ++ [(hl, listO (HL ++ [.ref (B + 2)]) (eh + 1)), (f, laF w k v0 v1 gap tg v3 hl v5 v6 v7 a.lx x tx [ent w n_dots kd (.int (.ofNat dots) t2)] 11), (B + 2, (Cow.mk (B + 2) dots t2 name t4).obj)]) (by kernel_rfl)
    refine Means.add0 ?_
    (refine segL (t0 := u5) (i := 0) 100000 [0] (Code.call (Value.ref 109) { pos := [Value.str { cps := { toList := name : Array Nat } : Str } u4] : Args }) E5 (by assumption) (by assumption) ?_; intro o22; refine ⟨by kernel_rfl, by kernel_rfl, by kernel_rfl, by kernel_rfl, fun h22 D22 => ?_⟩)
    refine law_number w _ _ (Fit.inner hA' D22 _ (by kernel_rfl) (by kernel_rfl)) _ _ _ g d os name _ hn3 (D22.give [] (by kernel_rfl)) fun g6 u6 u7 a6 => ?_
    generalize hnum : numZ 0 name = num at hcf hR
    obtain ⟨B6, E6⟩ := D22.backP [] [0, 1, 2, 3, 4, 5, 6, 7, 8, 9, 10, 11] (a.led w k2 line (sgn Q) ep [] pe ++ [(hl, listO (HL ++ [.ref (B + 2)]) (eh + 1)), (f, laF w k v0 v1 gap tg v3 hl v5 v6 v7 a.lx x tx [ent w n_dots kd (.int (.ofNat dots) t2)] 11), (B + 2, (Cow.mk (B + 2) dots t2 name t4).obj)]) (by kernel_rfl) a6 (by kernel_rfl)
    refine Means.add0 ?_
    (refine segL (t0 := u7) (i := 0) 100000 [1, 11, 1, 11, 1, 0] ((.call (.ref 102) ⟨[.int (16 * num + (dots : Int) - gap) (u7 + 2)], []⟩) ) E6 (by assumption) (by assumption) ?_; intro o23; refine ⟨by kernel_rfl, by kernel_rfl, by kernel_rfl, by kernel_rfl, fun h23 D23 => ?_⟩)
    refine law_word w _ _ (Fit.inner hA' D23 _ (by kernel_rfl) (by kernel_rfl)) _ _ _ g d os (16 * num + (dots : Int) - gap) _ (hexB_big _ hcf) (D23.give [] (by kernel_rfl)) fun g7 u8 u9 a7 => ?_
    have hc6 := hexS_len _ hcf
    generalize (16 * num + (dots : Int) - gap).natAbs = cn at hc6 hR
    obtain ⟨B7, E7⟩ := D23.backP [] [0, 1, 2, 3, 4, 5, 6, 7, 8, 9, 10, 11] (a.led w k2 line (sgn Q) ep [] pe ++ [(hl, listO (HL ++ [.ref (B + 2)]) (eh + 1)), (f, laF w k v0 v1 gap tg v3 hl v5 v6 v7 a.lx x tx [ent w n_dots kd (.int (.ofNat dots) t2)] 11), (B + 2, (Cow.mk (B + 2) dots t2 name t4).obj)]) (by kernel_rfl) a7 (by kernel_rfl)
    refine Means.add0 ?_
    (refine segW (t0 := u9) (i := 0) 100000 [] (Code.call (Value.builtin "str.__add__") { pos := [Value.str { cps := { toList := [46] : Array Nat } : Str } t6, Value.str { cps := { toList := hexS cn : Array Nat } : Str } u8] : Args }) E7 (by assumption) (by assumption) ?_; intro o24; refine ⟨by kernel_rfl, by kernel_rfl, by kernel_rfl, by kernel_rfl, by kernel_rfl, fun h24 D24 => ?_⟩)
    refine r_sadd [46] (hexS cn) _ _ (by show 1 + _ ≤ _; omega) fun v8 v9 => ?_
    refine Means.add0 ?_
    (refine segL (t0 := v9) (i := 0) 100000 [0] ((.call (.ref 90) ⟨[.ref a.lx, .str ⟨⟨[46] ++ hexS cn⟩⟩ v8], []⟩) ) D24 (by assumption) (by assumption) ?_; intro o25; refine ⟨by kernel_rfl, by kernel_rfl, by kernel_rfl, by kernel_rfl, fun h25 D25 => ?_⟩)
    refine push_tok w _ _ (Fit.inner hA' D25 _ (by kernel_rfl) (by kernel_rfl)) _ _ _ g d os a k2 line ep pe (sgn Q) ([46] ++ hexS cn) v8 (D25.give [1, 1, 1, 1, 1, 1, 1, 1, 1] (by kernel_rfl)) fun g8 w8 pe8 a8 => ?_
    obtain ⟨B8, E8⟩ := D25.backP [1, 1, 1, 1, 1, 1, 1, 1, 1] [0, 1, 2, 3, 4, 5, 6, 7, 8, 9, 10, 11] (a.led w k2 line (sgn Q) ep [.str ⟨⟨[46] ++ hexS cn⟩⟩ v8] pe8 ++ [(hl, listO (HL ++ [.ref (B + 2)]) (eh + 1)), (f, laF w k v0 v1 gap tg v3 hl v5 v6 v7 a.lx x tx [ent w n_dots kd (.int (.ofNat dots) t2)] 11), (B + 2, (Cow.mk (B + 2) dots t2 name t4).obj)]) (by kernel_rfl) a8 (by kernel_rfl)
    refine Means.add0 ?_
    (refine segL (t0 := w8) (i := 0) 100000 [11, 1, 0, 0, 0, 1, 0, 0, 0, 1, 0, 0, 0, 0, 1, 2, 0] (Code.call (Value.ref 83) { pos := [Value.ref a.lx] : Args }) E8 (by assumption) (by assumption) ?_; intro o26; refine ⟨by kernel_rfl, by kernel_rfl, by kernel_rfl, by kernel_rfl, fun h26 D26 => ?_⟩)
    refine gt_push w _ _ (Fit.inner hA' D26 _ (by kernel_rfl) (by kernel_rfl)) _ _ _ g d os a k2 line ep pe8 (sgn Q) ([46] ++ hexS cn) v8 (D26.give [1, 1, 1, 1, 1, 1, 1, 1, 1] (by kernel_rfl)) fun g9 w9 pe9 a9 => ?_
    obtain ⟨B9, E9⟩ := D26.backP [1, 1, 1, 1, 1, 1, 1, 1, 1] [0, 1, 2, 3, 4, 5, 6, 7, 8, 9, 10, 11] (a.led w k2 line (sgn Q) ep [] pe9 ++ [(hl, listO (HL ++ [.ref (B + 2)]) (eh + 1)), (f, laF w k v0 v1 gap tg v3 hl v5 v6 v7 a.lx x tx [ent w n_dots kd (.int (.ofNat dots) t2)] 11), (B + 2, (Cow.mk (B + 2) dots t2 name t4).obj)]) (by kernel_rfl) a9 (by kernel_rfl)
    refine Means.add0 ?_
    (refine segF (t0 := w9) (i := 0) 100000 [11, 11] ((Fin.again (whileOf (lawBody w 4) (envOf w 131 f q_law))) ) E9 (by assumption) (by assumption) ?_; intro o27; refine ⟨by kernel_rfl, by kernel_rfl, by kernel_rfl, fun h27 D27 => ?_⟩)
    obtain ⟨BB, EE⟩ := D27.pickE [0, 1, 2, 3, 4, 5, 6, 7, 8, 9, 10, 11] (a.led w k2 line (sgn Q) ep [] pe9 ++ [(hl, listO (HL ++ [.ref (B + 2)]) (eh + 1)), (f, laF w k v0 v1 gap tg v3 hl v5 v6 v7 a.lx ([46] ++ hexS cn) v8 [ent w n_dots kd (.int (.ofNat dots) t2)] 11), (B + 2, (Cow.mk (B + 2) dots t2 name t4).obj)]) (by kernel_rfl)
    exact ⟨by kernel_rfl, hR _ _ _ _ _ _ _ _ _ _ _ _ _ EE⟩)
end Mine
end
section
open PySem PySem.W PySem.Calls PyProof.Rows
set_option Elab.async false
set_option maxRecDepth 100000
namespace Mine
/-- a row as it was sent -/
structure RowT where
  k : Nat
  name : List Nat
  esc : Bool
  e : Nat
def RowT.its (r : RowT) : List (Bool × Nat) := List.replicate r.k (false, 46) ++ r.name.map fun c => (r.esc, c)
def headS (e : Nat) : Nat := if e < 3 then 13 else 9
def tailS (e : Nat) : List Nat := if e < 3 then [10] else [13, 10, 13, 10]
def RowT.txt (r : RowT) : List Nat := flatI r.its ++ headS r.e :: tailS r.e
def rowsS (rs : List RowT) : List Nat := rs.flatMap RowT.txt
def RowT.ok (r : RowT) : Prop := 1 ≤ r.k ∧ r.k ≤ 1000 ∧ r.name.length ≤ 1000 ∧ ∀ c ∈ r.name, 65 ≤ c ∧ c ≤ 80
def calfN (gap : Int) (k : Nat) (name : List Nat) : Nat := (16 * numZ 0 name + (k : Int) - gap).natAbs
def procRow (gap : Int) (k : Nat) (name : List Nat) : List (Nat × List Nat) := (k, name) :: if (k : Int) > gap then [(1, hexS (calfN gap k name))] else []
def procRows (gap : Int) (rs : List RowT) : List (Nat × List Nat) := rs.flatMap fun r => procRow gap r.k r.name
theorem hexS_mem (n : Nat) : ∀ c ∈ hexS n, 65 ≤ c ∧ c ≤ 80 := by
  intro c hc
  obtain ⟨r, hr, rfl⟩ := List.mem_map.mp hc
  have := hexL_lt n r hr
  omega
def cowKN (c : Cow) : Nat × List Nat := (c.dots, c.name)
def laS (w : World) (dl : List DictEntry) (n : Nat) : Prop := (dl = [] ∧ n = 10) ∨ ∃ kd vd, dl = [ent w n_dots kd vd] ∧ n = 11
section
variable {w : World} {A : Around} {h₀ : Heap} {mods : List Nat} {R : Result → Shared → Prop} {g : Array GenState} {d : Drawn} {os : OsState}
theorem la_row1 (hA : Fit 100 A (kt1 w) h₀) (a : LX) (k : Nat → Nat) (v0 v1 v3 v5 v6 v7 : Value) (gap : Int) (tg hl f : Nat) (hg1 : 1 ≤ gap)
   (dots : Nat) (name : List Nat) (hd1 : 1 ≤ dots) (hd2 : dots ≤ 1000) (hn1 : name.length ≤ 1000) (hn : ∀ c ∈ name, 65 ≤ c ∧ c ≤ 80) (hcf : (dots : Int) > gap → calfN gap dots name < 1048576)
   (h : Heap) (B t0 tx eh ep pe : Nat) (HL : List Value) (hHL : HL.length ≤ 16776000) (Q : List (Nat × Nat)) (line : Int) (k2 : Nat → Nat) (X : Led) (dl : List DictEntry) (n : Nat) (hs : laS w dl n)
   (x' : List Nat) (P : List (Nat × Nat) → Prop) (line' : Int) (hG : ∀ Q2, Q2 = Q → Gets w a Q2 [] line x' P line')
   (D : Rep (kt1 w) h₀ mods h B (a.led w k2 line (sgn Q) ep [] pe ++ [(hl, listO HL eh), (f, laF w k v0 v1 gap tg v3 hl v5 v6 v7 a.lx (List.replicate dots 46 ++ name) tx dl n)]) X 0)
   (hR : ∀ h' B' t' tx' ep' pe' k2' eh' NC kd vd Q', NC.map cowKN = procRow gap dots name → P Q' → Rep (kt1 w) h₀ mods h' B' (a.led w k2' line' (sgn Q') ep' [] pe' ++ [(hl, listO (HL ++ herdV NC) eh'), (f, laF w k v0 v1 gap tg v3 hl v5 v6 v7 a.lx x' tx' [ent w n_dots kd vd] 11)]) (herdL NC ++ X) 0 → codeAny (PP w) A (whileOf (lawBody w 4) (envOf w 131 f q_law)) R ⟨h', g, d, t', os⟩) :
   codeAny (PP w) A (whileOf (lawBody w 4) (envOf w 131 f q_law)) R ⟨h, g, d, t0, os⟩ := by
  have hn2 : ∀ (y : List Nat), (∀ c ∈ y, 65 ≤ c ∧ c ≤ 80) → 46 ∉ y := fun y hy h => by have := hy 46 h; omega
  have hp1 : ∀ (L : Led) (p : Nat × Obj) (X : Led), ((L ++ [p]) ++ X).Perm (L ++ (p :: X)) := fun L p X => by rw [List.append_assoc]; exact List.Perm.refl _
  by_cases hg : (dots : Int) > gap
  · have hpr : procRow gap dots name = [(dots, name), (1, hexS (calfN gap dots name))] := by unfold procRow; rw [if_pos hg]
    have hcf' := hcf hg
    have hcx : ([46] : List Nat) ++ hexS (calfN gap dots name) = List.replicate 1 46 ++ hexS (calfN gap dots name) := rfl
    have hcl := hexS_len _ hcf'
    have step2 : ∀ h' B' t' tx' ep' pe' k2' eh' ca td tn kd vd, Rep (kt1 w) h₀ mods h' B' (a.led w k2' line (sgn Q) ep' [] pe' ++ [(hl, listO (HL ++ [.ref ca]) eh'), (f, laF w k v0 v1 gap tg v3 hl v5 v6 v7 a.lx ([46] ++ hexS (calfN gap dots name)) tx' [ent w n_dots kd vd] 11), (ca, (Cow.mk ca dots td name tn).obj)]) X 0 → codeAny (PP w) A (whileOf (lawBody w 4) (envOf w 131 f q_law)) R ⟨h', g, d, t', os⟩ := by
      intro h' B' t' tx' ep' pe' k2' eh' ca td tn kd vd D'
      have D2 := D'.perm (L' := a.led w k2' line (sgn Q) ep' [] pe' ++ [(hl, listO (HL ++ [.ref ca]) eh'), (f, laF w k v0 v1 gap tg v3 hl v5 v6 v7 a.lx (List.replicate 1 46 ++ hexS (calfN gap dots name)) tx' [ent w n_dots kd vd] 11)]) (X' := (Cow.mk ca dots td name tn).row :: X) (List.Perm.refl _)
      refine la_turnN2 w A h₀ mods hA R g d os a k v0 v1 v3 v5 v6 v7 gap tg hl f 1 (hexS (calfN gap dots name)) (Nat.le_refl _) (by decide) (by omega) (hn2 _ (hexS_mem _)) h' B' t' tx' eh' ep' pe' (HL ++ [.ref ca]) (by rw [List.length_append, List.length_singleton]; omega) Q line k2' _ kd vd (by omega) x' P line' (hG Q rfl) ?_ D2
      intro h3 B3 t3 tx3 ep3 pe3 k3 eh3 ca3 td3 tn3 kd3 vd3 Q3 hQ3 D3
      refine hR h3 B3 t3 tx3 ep3 pe3 k3 eh3 [Cow.mk ca dots td name tn, Cow.mk ca3 1 td3 (hexS (calfN gap dots name)) tn3] kd3 vd3 Q3 (by rw [hpr]; rfl) hQ3 ?_
      have e1 : HL ++ [Value.ref ca] ++ [Value.ref ca3] = HL ++ herdV [Cow.mk ca dots td name tn, Cow.mk ca3 1 td3 (hexS (calfN gap dots name)) tn3] := by rw [List.append_assoc]; rfl
      rw [e1] at D3
      refine D3.perm ?_
      refine (hp1 (a.led w k3 line' (sgn Q3) ep3 [] pe3 ++ [(hl, listO (HL ++ herdV [Cow.mk ca dots td name tn, Cow.mk ca3 1 td3 (hexS (calfN gap dots name)) tn3]) eh3), (f, laF w k v0 v1 gap tg v3 hl v5 v6 v7 a.lx x' tx3 [ent w n_dots kd3 vd3] 11)]) (ca3, (Cow.mk ca3 1 td3 (hexS (calfN gap dots name)) tn3).obj) _).trans ?_
      exact List.Perm.append_left _ (List.Perm.swap _ _ _)
    rcases hs with ⟨rfl, rfl⟩ | ⟨kd, vd, rfl, rfl⟩
    · exact la_turnP1 w A h₀ mods hA R g d os a k v0 v1 v3 v5 v6 v7 gap tg hl f dots name hd1 hd2 hn1 (hn2 _ hn) h B t0 tx eh ep pe HL (by omega) Q line k2 X hg (by omega) (fun c hc => by have := hn c hc; omega) hcf' step2 D
    · exact la_turnP2 w A h₀ mods hA R g d os a k v0 v1 v3 v5 v6 v7 gap tg hl f dots name hd1 hd2 hn1 (hn2 _ hn) h B t0 tx eh ep pe HL (by omega) Q line k2 X kd vd hg (by omega) (fun c hc => by have := hn c hc; omega) hcf' step2 D
  · have hpr : procRow gap dots name = [(dots, name)] := by unfold procRow; rw [if_neg hg]
    have step2 : ∀ h' B' t' tx' ep' pe' k2' eh' ca td tn kd vd Q', P Q' → Rep (kt1 w) h₀ mods h' B' (a.led w k2' line' (sgn Q') ep' [] pe' ++ [(hl, listO (HL ++ [.ref ca]) eh'), (f, laF w k v0 v1 gap tg v3 hl v5 v6 v7 a.lx x' tx' [ent w n_dots kd vd] 11), (ca, (Cow.mk ca dots td name tn).obj)]) X 0 → codeAny (PP w) A (whileOf (lawBody w 4) (envOf w 131 f q_law)) R ⟨h', g, d, t', os⟩ := by
      intro h' B' t' tx' ep' pe' k2' eh' ca td tn kd vd Q' hQ' D'
      refine hR h' B' t' tx' ep' pe' k2' eh' [Cow.mk ca dots td name tn] kd vd Q' (by rw [hpr]; rfl) hQ' ?_
      exact D'.perm (List.Perm.refl _)
    rcases hs with ⟨rfl, rfl⟩ | ⟨kd, vd, rfl, rfl⟩
    · exact la_turnN1 w A h₀ mods hA R g d os a k v0 v1 v3 v5 v6 v7 gap tg hl f dots name hd1 hd2 hn1 (hn2 _ hn) h B t0 tx eh ep pe HL (by omega) Q line k2 X hg x' P line' (hG Q rfl) step2 D
    · exact la_turnN2 w A h₀ mods hA R g d os a k v0 v1 v3 v5 v6 v7 gap tg hl f dots name hd1 hd2 hn1 (hn2 _ hn) h B t0 tx eh ep pe HL (by omega) Q line k2 X kd vd hg x' P line' (hG Q rfl) step2 D
end
end Mine
end
section
open PySem PySem.W PySem.Calls PyProof.Rows
set_option Elab.async false
set_option maxRecDepth 100000
namespace Mine
theorem la_wend (w : World) (A : Around) (h₀ : Heap) (mods : List Nat) (hA : Fit 100 A (kt1 w) h₀) (R : Result → Shared → Prop) (g : Array GenState) (d : Drawn) (os : OsState) (k : Nat → Nat) (v0 v1 v3 v5 v6 v7 : Value) (gap : Int) (tg hl f lx : Nat)
   (x : List Nat) (hx : x.take 1 = [66]) (hxl : x.length ≤ 16777000) (h : Heap) (B t0 tx : Nat) (X : Led) (dl : List DictEntry) (n : Nat) (hs : laS w dl n)
   (D : Rep (kt1 w) h₀ mods h B [(f, laF w k v0 v1 gap tg v3 hl v5 v6 v7 lx x tx dl n)] X 0)
   (hR : ∀ h' B' t', Rep (kt1 w) h₀ mods h' B' [(f, laF w k v0 v1 gap tg v3 hl v5 v6 v7 lx x tx dl n)] X 0 → R (.ok .next) ⟨h', g, d, t', os⟩) :
   codeAny (PP w) A (whileOf (lawBody w 4) (envOf w 131 f q_law)) R ⟨h, g, d, t0, os⟩ := by
  obtain ⟨b1, b2, hw⟩ := parF_ex w
  have hA' := hA.under (whileOf (lawBody w 4) (envOf w 131 f q_law)) (m := 99) (by kernel_rfl)
  refine code_start ?_
  refine Means.add0 ?_
  (refine segW (t0 := t0) (i := 0) 100000 [1] (Code.call (Value.builtin "str.__getitem__") { pos := [Value.str { cps := { toList := x : Array Nat } : Str } tx, Value.ref B] : Args }) D (by assumption) (by assumption) ?_; intro o11; refine ⟨by kernel_rfl, by kernel_rfl, by kernel_rfl, by kernel_rfl, by kernel_rfl, fun h11 D11 => ?_⟩)
  refine callW_of rfl ?_
  rw [mark_none]
  refine r_sliceTo x 1 tx t0 _ (by omega) (D11.give [0, 1] (by kernel_rfl)) fun t1 t' => ?_
  rw [hx]
  obtain ⟨B2, E2⟩ := D11.pickE [0] [(f, laF w k v0 v1 gap tg v3 hl v5 v6 v7 lx x tx dl n)] (by kernel_rfl)
  refine Means.add0 ?_
  cases b1 <;> (
    rcases hs with ⟨rfl, rfl⟩ | ⟨kd, vd, rfl, rfl⟩
    · (refine segF (t0 := t') (i := 0) 100000 [1] (Fin.done Flow.next) D11 (by assumption) (by assumption) ?_; intro o12; refine ⟨by kernel_rfl, by kernel_rfl, by kernel_rfl, fun h12 D12 => ?_⟩)
      obtain ⟨B3, E3⟩ := D12.pickE [0] [(f, laF w k v0 v1 gap tg v3 hl v5 v6 v7 lx x tx [] 10)] (by kernel_rfl)
      exact hR _ _ _ E3
    · (refine segF (t0 := t') (i := 0) 100000 [1] (Fin.done Flow.next) D11 (by assumption) (by assumption) ?_; intro o13; refine ⟨by kernel_rfl, by kernel_rfl, by kernel_rfl, fun h13 D13 => ?_⟩)
      obtain ⟨B3, E3⟩ := D13.pickE [0] [(f, laF w k v0 v1 gap tg v3 hl v5 v6 v7 lx x tx [ent w n_dots kd vd] 11)] (by kernel_rfl)
      exact hR _ _ _ E3)
theorem letter_ok (c : Nat) (h : 65 ≤ c ∧ c ≤ 80) (e : Bool) : okI (e, c) := by
  refine ⟨?_, by show c ≠ 92; omega, by show c ≠ 34; omega⟩
  unfold isWs
  simp
  omega
theorem its_ok (r : RowT) (h : r.ok) : ∀ x ∈ r.its, okI x := by
  intro x hx
  rcases List.mem_append.mp hx with hx | hx
  · rw [(List.mem_replicate.mp hx).2]
    exact ⟨by decide, by decide, by decide⟩
  · obtain ⟨c, hc, rfl⟩ := List.mem_map.mp hx
    exact letter_ok c (h.2.2.2 c hc) _
theorem its_word (r : RowT) : r.its.map (·.2) = List.replicate r.k 46 ++ r.name := by
  unfold RowT.its
  rw [List.map_append, List.map_replicate, List.map_map]
  congr 1
  exact List.map_id _
theorem nls_flat (its : List (Bool × Nat)) (h : ∀ x ∈ its, okI x) : nls (flatI its) = 0 := by
  induction its with
  | nil => rfl
  | cons i its ih =>
    rw [flatI_cons, nls_app, ih fun x hx => h x (List.mem_cons_of_mem _ hx)]
    have h10 := okI_10 (h i List.mem_cons_self)
    obtain ⟨e, c⟩ := i
    cases e with
    | false => show nls [c] + 0 = 0; rw [nls_cons, show nl c = 0 from if_neg h10]; rfl
    | true => show nls [92, c] + 0 = 0; rw [nls_cons, nls_cons, show nl c = 0 from if_neg h10]; rfl
theorem flatI_bare (x : List Nat) : flatI (x.map fun c => (false, c)) = x := by
  induction x with
  | nil => rfl
  | cons c x ih => rw [List.map_cons, flatI_cons, ih]; rfl
theorem gets_row (w : World) (a : LX) (Q : List (Nat × Nat)) (line : Int) (wl : List Nat) (r : RowT) (y : List Nat) (hr : r.ok) (hwl : ∀ c ∈ wl, isWs c = true) (hQ : Q.map (·.1) = wl ++ (r.txt ++ y)) (hsz : Q.length ≤ 16776000) :
   Gets w a Q [] line (List.replicate r.k 46 ++ r.name) (fun Q' => Q'.map (·.1) = tailS r.e ++ y ∧ Q'.length ≤ 16776000) (line + nls (wl ++ (r.txt ++ y)) - nls (tailS r.e ++ y)) := by
  intro A h₀ hA R B t0 g d os k2 ep pe mods D hR
  obtain ⟨i, its, hi⟩ : ∃ i its, r.its = i :: its := by
    obtain ⟨k, hk⟩ : ∃ k, r.k = k + 1 := ⟨r.k - 1, by have := hr.1; omega⟩
    exact ⟨(false, 46), List.replicate k (false, 46) ++ r.name.map fun c => (r.esc, c), by unfold RowT.its; rw [hk, List.replicate_succ]; rfl⟩
  have hok := its_ok r hr
  have hil : its.length ≤ 2000 := by
    have e : r.its.length = r.k + r.name.length := by unfold RowT.its; rw [List.length_append, List.length_replicate, List.length_map]
    rw [hi, List.length_cons] at e
    have h1 := hr.2.1
    have h2 := hr.2.2.1
    omega
  have hnl : line + nls (wl ++ (r.txt ++ y)) - nls (tailS r.e ++ y) = line + nls wl + nl (headS r.e) := by
    unfold RowT.txt
    rw [nls_app, nls_app, nls_app, nls_flat _ hok, nls_cons, nls_app]
    omega
  rw [hnl] at hR
  have hQ2 : Q.map (·.1) = wl ++ (flatI (i :: its) ++ headS r.e :: (tailS r.e ++ y)) := by
    rw [hQ, ← hi]
    unfold RowT.txt
    rw [List.append_assoc]
    rfl
  rw [hi] at hok
  refine gt_row w A h₀ hA R B t0 g d os a k2 line ep pe Q wl i its (headS r.e) (tailS r.e ++ y) hwl (by unfold headS; split <;> rfl) hok hQ2 hsz (by omega) D fun h1 t' k2' ep' t1 Q' hQ' hz' z => ?_
  have := hR h1 t' k2' ep' pe t1 Q' ⟨hQ', hz'⟩ z
  rw [← its_word, hi] at this
  exact this
theorem gets_last (w : World) (a : LX) (Q : List (Nat × Nat)) (line : Int) (wl fin : List Nat) (hf : fin ≠ []) (hok : ∀ c ∈ fin, okI (false, c)) (hwl : ∀ c ∈ wl, isWs c = true) (hQ : Q.map (·.1) = wl ++ fin) (hsz : Q.length ≤ 16776000) :
   Gets w a Q [] line fin (fun Q' => Q' = []) (line + nls (wl ++ fin)) := by
  intro A h₀ hA R B t0 g d os k2 ep pe mods D hR
  obtain ⟨c, fs, rfl⟩ : ∃ c fs, fin = c :: fs := by
    cases fin with
    | nil => exact absurd rfl hf
    | cons c fs => exact ⟨c, fs, rfl⟩
  have hok2 : ∀ x ∈ ((false, c) :: fs.map fun c => (false, c) : List (Bool × Nat)), okI x := by
    intro x hx
    rcases List.mem_cons.mp hx with rfl | hx
    · exact hok c List.mem_cons_self
    · obtain ⟨b, hb, rfl⟩ := List.mem_map.mp hx
      exact hok b (List.mem_cons_of_mem _ hb)
  have hfl := flatI_bare (c :: fs)
  rw [List.map_cons] at hfl
  have hnl : line + nls (wl ++ c :: fs) = line + nls wl := by
    rw [nls_app, ← hfl, nls_flat _ hok2, Int.add_zero]
  rw [hnl] at hR
  have hlen : fs.length ≤ 16776000 := by
    have : Q.length = (wl ++ c :: fs).length := by rw [← hQ, List.length_map]
    rw [List.length_append, List.length_cons] at this
    omega
  refine gt_last w A h₀ hA R B t0 g d os a k2 line ep pe Q wl (false, c) (fs.map fun c => (false, c)) hwl hok2 (by rw [hfl]; exact hQ) hsz (by rw [List.length_map]; exact hlen) D fun h1 t' k2' ep' t1 z => ?_
  have := hR h1 t' k2' ep' pe t1 [] rfl z
  rw [List.map_cons, List.map_map]
  have e : (fs.map ((fun x : Bool × Nat => x.2) ∘ fun c => (false, c))) = fs := List.map_id _
  rw [e]
  exact this
theorem tailS_ws (e : Nat) : ∀ c ∈ tailS e, isWs c = true := by
  unfold tailS
  split <;> decide
end Mine
end
section
open PySem PySem.W PySem.Calls PyProof.Rows
set_option Elab.async false
set_option maxRecDepth 100000
namespace Mine
theorem rowsS_cons (r : RowT) (rs : List RowT) : rowsS (r :: rs) = r.txt ++ rowsS rs := rfl
theorem procRow_len (gap : Int) (k : Nat) (name : List Nat) : (procRow gap k name).length ≤ 2 := by
  unfold procRow
  split <;> simp
section
variable {w : World} {A : Around} {h₀ : Heap} {mods : List Nat} {R : Result → Shared → Prop} {g : Array GenState} {d : Drawn} {os : OsState}
/-- the month's reading, from the first row's word on -/
theorem la_rows (hA : Fit 100 A (kt1 w) h₀) (a : LX) (k : Nat → Nat) (v0 v1 v3 v5 v6 v7 : Value) (gap : Int) (tg hl f : Nat) (hg1 : 1 ≤ gap)
   (fin : List Nat) (hf1 : fin.take 1 = [66]) (hf2 : fin.length ≤ 1000) (hfok : ∀ c ∈ fin, okI (false, c)) :
   ∀ (rs : List RowT) (r : RowT) (h : Heap) (B t0 tx eh ep pe : Nat) (HL : List Value) (Q : List (Nat × Nat)) (line : Int) (k2 : Nat → Nat) (X : Led) (dl : List DictEntry) (n : Nat) (wl : List Nat), laS w dl n →
   (∀ x ∈ r :: rs, x.ok ∧ ((x.k : Int) > gap → calfN gap x.k x.name < 1048576)) → (∀ c ∈ wl, isWs c = true) → HL.length + 2 * (rs.length + 1) ≤ 16770000 → Q.map (·.1) = wl ++ (rowsS rs ++ fin) → Q.length ≤ 16776000 →
   Rep (kt1 w) h₀ mods h B (a.led w k2 line (sgn Q) ep [] pe ++ [(hl, listO HL eh), (f, laF w k v0 v1 gap tg v3 hl v5 v6 v7 a.lx (List.replicate r.k 46 ++ r.name) tx dl n)]) X 0 →
   (∀ h' B' t' tx' ep' pe' k2' eh' NC kd vd, NC.map cowKN = procRows gap (r :: rs) → Rep (kt1 w) h₀ mods h' B' (a.led w k2' (line + nls (wl ++ (rowsS rs ++ fin))) [] ep' [] pe' ++ [(hl, listO (HL ++ herdV NC) eh'), (f, laF w k v0 v1 gap tg v3 hl v5 v6 v7 a.lx fin tx' [ent w n_dots kd vd] 11)]) (herdL NC ++ X) 0 → R (.ok .next) ⟨h', g, d, t', os⟩) →
   codeAny (PP w) A (whileOf (lawBody w 4) (envOf w 131 f q_law)) R ⟨h, g, d, t0, os⟩ := by
  have hfne : fin ≠ [] := fun e => by rw [e] at hf1; cases hf1
  have hpx : ∀ (NC NC2 : List Cow) (X : Led), (herdL NC2 ++ (herdL NC ++ X)).Perm (herdL (NC ++ NC2) ++ X) := fun NC NC2 X => by
    rw [herdL_app, ← List.append_assoc]
    exact List.Perm.append_right X List.perm_append_comm
  intro rs
  induction rs with
  | nil =>
    intro r h B t0 tx eh ep pe HL Q line k2 X dl n wl hs hok hwl hHL hQ hz D hR
    obtain ⟨hr, hcf⟩ := hok r List.mem_cons_self
    refine la_row1 hA a k v0 v1 v3 v5 v6 v7 gap tg hl f hg1 r.k r.name hr.1 hr.2.1 hr.2.2.1 hr.2.2.2 hcf h B t0 tx eh ep pe HL (by omega) Q line k2 X dl n hs fin (fun Q' => Q' = []) (line + nls (wl ++ fin)) (fun Q2 e => by rw [e]; exact gets_last w a Q line wl fin hfne hfok hwl hQ hz) D ?_
    intro h' B' t' tx' ep' pe' k2' eh' NC kd vd Q' hNC hQ' D'
    subst hQ'
    obtain ⟨B2, D2⟩ := D'.partX [10] [0, 1, 2, 3, 4, 5, 6, 7, 8, 9] [(f, laF w k v0 v1 gap tg v3 hl v5 v6 v7 a.lx fin tx' [ent w n_dots kd vd] 11)] (a.led w k2' (line + nls (wl ++ fin)) [] ep' [] pe' ++ [(hl, listO (HL ++ herdV NC) eh')]) rfl rfl
    refine la_wend w A h₀ mods hA R g d os k v0 v1 v3 v5 v6 v7 gap tg hl f a.lx fin hf1 (by omega) h' B2 t' tx' _ _ _ (.inr ⟨kd, vd, rfl, rfl⟩) D2 fun h3 B3 t3 D3 => ?_
    refine hR h3 B3 t3 tx' ep' pe' k2' eh' NC kd vd (by rw [hNC]; exact (List.append_nil _).symm) ?_
    refine D3.perm ?_
    show ([(f, laF w k v0 v1 gap tg v3 hl v5 v6 v7 a.lx fin tx' [ent w n_dots kd vd] 11)] ++ ((a.led w k2' (line + nls (wl ++ fin)) [] ep' [] pe' ++ [(hl, listO (HL ++ herdV NC) eh')]) ++ (herdL NC ++ X))).Perm _
    rw [← List.append_assoc]
    refine List.Perm.append_right _ ?_
    refine List.perm_append_comm.trans ?_
    rw [List.append_assoc]
    exact List.Perm.refl _
  | cons r2 rs ih =>
    intro r h B t0 tx eh ep pe HL Q line k2 X dl n wl hs hok hwl hHL hQ hz D hR
    obtain ⟨hr, hcf⟩ := hok r List.mem_cons_self
    obtain ⟨hr2, hcf2⟩ := hok r2 (List.mem_cons_of_mem _ List.mem_cons_self)
    rw [List.length_cons] at hHL
    rw [rowsS_cons, List.append_assoc] at hQ
    refine la_row1 hA a k v0 v1 v3 v5 v6 v7 gap tg hl f hg1 r.k r.name hr.1 hr.2.1 hr.2.2.1 hr.2.2.2 hcf h B t0 tx eh ep pe HL (by omega) Q line k2 X dl n hs (List.replicate r2.k 46 ++ r2.name) _ _ (fun Q2 e => by rw [e]; exact gets_row w a Q line wl r2 (rowsS rs ++ fin) hr2 hwl hQ hz) D ?_
    intro h' B' t' tx' ep' pe' k2' eh' NC kd vd Q' hNC hQ' D'
    have hNl : (herdV NC).length ≤ 2 := by
      have : (NC.map cowKN).length ≤ 2 := by rw [hNC]; exact procRow_len _ _ _
      rw [List.length_map] at this
      show (NC.map _).length ≤ 2
      rw [List.length_map]
      exact this
    refine ih r2 h' B' t' tx' eh' ep' pe' (HL ++ herdV NC) Q' _ k2' _ _ _ (tailS r2.e) (.inr ⟨kd, vd, rfl, rfl⟩) (fun x hx => hok x (List.mem_cons_of_mem _ hx)) (tailS_ws _) (by rw [List.length_append]; omega) hQ'.1 hQ'.2 D' ?_
    intro h3 B3 t3 tx3 ep3 pe3 k3 eh3 NC3 kd3 vd3 hNC3 D3
    refine hR h3 B3 t3 tx3 ep3 pe3 k3 eh3 (NC ++ NC3) kd3 vd3 (by rw [List.map_append, hNC, hNC3]; rfl) ?_
    have e1 : HL ++ herdV NC ++ herdV NC3 = HL ++ herdV (NC ++ NC3) := by rw [List.append_assoc]; unfold herdV; rw [List.map_append]
    have e2 : line + nls (wl ++ (r2.txt ++ (rowsS rs ++ fin))) - nls (tailS r2.e ++ (rowsS rs ++ fin)) + nls (tailS r2.e ++ (rowsS rs ++ fin)) = line + nls (wl ++ (rowsS (r2 :: rs) ++ fin)) := by
      rw [rowsS_cons, List.append_assoc]
      omega
    rw [e1, e2] at D3
    exact D3.perm (List.Perm.append_left _ (hpx NC NC3 X))
end
end Mine
end
section
open PySem PySem.W PySem.Calls PyProof.Rows
set_option Elab.async false
set_option maxRecDepth 100000
namespace Mine
theorem sub2_crlf (x : List Nat) : sub2 x = crlfA false x := by
  unfold sub2
  rw [sub2_eq x x.length _ 0 (by omega) (by omega) (by omega), List.drop_zero]
theorem crlfA_len (x : List Nat) : ∀ b, (crlfA b x).length ≤ 2 * x.length := by
  induction x with
  | nil => intro b; exact Nat.zero_le _
  | cons c x ih =>
    intro b
    have h1 := ih false
    have h2 := ih true
    rw [List.length_cons]
    unfold crlfA
    split
    · omega
    · split
      · simp only [List.length_cons]; omega
      · split
        · simp only [List.length_cons]; omega
        · simp only [List.length_cons]; omega
theorem dotsA_len (x : List Nat) : ∀ b, (dotsA b x).length ≤ 2 * x.length := by
  induction x with
  | nil => intro b; exact Nat.zero_le _
  | cons c x ih =>
    intro b
    rw [List.length_cons]
    unfold dotsA
    split
    · have := ih false; simp only [List.length_cons]; omega
    · have := ih (c == 10); simp only [List.length_cons]; omega
theorem crlf_plain (x y : List Nat) (h : ∀ c ∈ x, c ≠ 10 ∧ c ≠ 13) : crlfA false (x ++ y) = x ++ crlfA false y := by
  induction x with
  | nil => rfl
  | cons c x ih =>
    have hc := h c List.mem_cons_self
    show (if (false && c == 10) = true then _ else if c = 13 then _ else if c = 10 then _ else _) = _
    rw [Bool.false_and, if_neg Bool.false_ne_true, if_neg hc.2, if_neg hc.1]
    exact congrArg (c :: ·) (ih fun z hz => h z (List.mem_cons_of_mem _ hz))
theorem dots_plain (x y : List Nat) (h : ∀ c ∈ x, c ≠ 10) : dotsA false (x ++ y) = x ++ dotsA false y := by
  induction x with
  | nil => rfl
  | cons c x ih =>
    have hc := h c List.mem_cons_self
    show (if (false && c == 46) = true then _ else c :: dotsA (c == 10) (x ++ y)) = _
    rw [Bool.false_and, if_neg Bool.false_ne_true, show (c == 10) = false from beq_eq_false_iff_ne.mpr hc, ih fun z hz => h z (List.mem_cons_of_mem _ hz)]
    rfl
theorem crlf_end (e : Nat) (he : e < 4) (y : List Nat) (hy : ∀ r, y ≠ 10 :: r) : crlfA false (endR e ++ y) = (headS e :: tailS e) ++ crlfA false y := by
  match e, he with
  | 0, _ => rfl
  | 1, _ => show 13 :: 10 :: crlfA true y = _; rw [crlfA_head y hy]; rfl
  | 2, _ => rfl
  | 3, _ => show 9 :: 13 :: 10 :: 13 :: 10 :: crlfA true y = _; rw [crlfA_head y hy]; rfl
theorem dots_end (e : Nat) (y : List Nat) : dotsA false ((headS e :: tailS e) ++ y) = (headS e :: tailS e) ++ dotsA true y := by
  unfold headS tailS
  split <;> rfl
theorem flatI_app (a b : List (Bool × Nat)) : flatI (a ++ b) = flatI a ++ flatI b := by unfold flatI; rw [List.flatMap_append]
theorem flatI_dots (k : Nat) : flatI (List.replicate k (false, 46)) = List.replicate k 46 := by
  induction k with
  | zero => rfl
  | succ k ih => rw [List.replicate_succ, flatI_cons, ih, List.replicate_succ]; rfl
theorem flatI_name (c : Nat) (x : List Nat) : flatI (x.map fun l => (decide (c % 2 = 1), l)) = escN c x := by
  unfold escN
  by_cases h : c % 2 = 1
  · rw [if_pos h, decide_eq_true h]
    unfold flatI
    rw [List.flatMap_map]
    rfl
  · rw [if_neg h, decide_eq_false h, flatI_bare]
def rowOf (c k : Nat) (name : List Nat) : RowT := ⟨k + 1, name, decide (c % 2 = 1), c / 2 % 4⟩
def rowsOf (mo : Nat) (C : List (Nat × Nat)) : Nat → List Cow → List RowT
  | _, [] => []
  | j, c :: r => rowOf (cellAt C (mo + j)) c.dots c.name :: rowsOf mo C (j + 1) r
theorem esc_plain (c : Nat) (x : List Nat) (h : ∀ a ∈ x, 65 ≤ a ∧ a ≤ 80) : ∀ a ∈ escN c x, a ≠ 10 ∧ a ≠ 13 := by
  intro a ha
  unfold escN at ha
  split at ha
  · obtain ⟨l, hl, hm⟩ := List.mem_flatMap.mp ha
    have := h l hl
    simp at hm
    omega
  · have := h a ha
    omega
theorem row_txt (c k : Nat) (name : List Nat) : (rowOf c k name).txt = 46 :: (List.replicate k 46 ++ escN c name ++ (headS (c / 2 % 4) :: tailS (c / 2 % 4))) := by
  unfold RowT.txt RowT.its rowOf
  rw [flatI_app, flatI_dots, flatI_name, List.replicate_succ]
  rfl
/-- what is sent is the rows -/
theorem sent_mail (mo : Nat) (C : List (Nat × Nat)) (fin : List Nat) (hf1 : ∃ f, fin = 66 :: f) (hf : ∀ c ∈ fin, c ≠ 10 ∧ c ≠ 13) :
   ∀ (H : List Cow) (j : Nat), (∀ c ∈ H, 1 ≤ c.dots ∧ ∀ a ∈ c.name, 65 ≤ a ∧ a ≤ 80) → sent (mailT mo C j H ++ fin) = rowsS (rowsOf mo C j H) ++ fin := by
  obtain ⟨f, rfl⟩ := hf1
  have hhead : ∀ (H : List Cow) (j : Nat), (∀ c ∈ H, 1 ≤ c.dots ∧ ∀ a ∈ c.name, 65 ≤ a ∧ a ≤ 80) → ∀ r, mailT mo C j H ++ 66 :: f ≠ 10 :: r := by
    intro H j hH r e
    cases H with
    | nil => cases e
    | cons c H =>
      obtain ⟨k, hk⟩ : ∃ k, c.dots = k + 1 := ⟨c.dots - 1, by have := (hH c List.mem_cons_self).1; omega⟩
      have e2 : mailT mo C j (c :: H) = rowM (cellAt C (mo + j)) c.dots c.name ++ mailT mo C (j + 1) H := rfl
      rw [e2] at e
      unfold rowM at e
      rw [hk, List.replicate_succ] at e
      cases e
  intro H
  induction H with
  | nil =>
    intro j _
    show dotsA true (crlfA false (66 :: f)) = 66 :: f
    have h1 := crlf_plain (66 :: f) [] hf
    rw [List.append_nil] at h1
    rw [h1, show crlfA false [] = [] from rfl, List.append_nil]
    have h2 := dots_plain f [] fun c hc => (hf c (List.mem_cons_of_mem _ hc)).1
    rw [List.append_nil] at h2
    show 66 :: dotsA (66 == 10) f = _
    rw [show ((66 : Nat) == 10) = false from rfl, h2]
    show 66 :: (f ++ []) = _
    rw [List.append_nil]
  | cons c H ih =>
    intro j hH
    have hc := hH c List.mem_cons_self
    have hH' : ∀ x ∈ H, 1 ≤ x.dots ∧ ∀ a ∈ x.name, 65 ≤ a ∧ a ≤ 80 := fun x hx => hH x (List.mem_cons_of_mem _ hx)
    have ih' := ih (j + 1) hH'
    unfold sent at ih' ⊢
    obtain ⟨k, hk⟩ : ∃ k, c.dots = k + 1 := ⟨c.dots - 1, by omega⟩
    have e2 : mailT mo C j (c :: H) = rowM (cellAt C (mo + j)) c.dots c.name ++ mailT mo C (j + 1) H := rfl
    have e3 : rowsS (rowsOf mo C j (c :: H)) = (rowOf (cellAt C (mo + j)) c.dots c.name).txt ++ rowsS (rowsOf mo C (j + 1) H) := rfl
    rw [e2, e3, row_txt, List.append_assoc]
    unfold rowM
    generalize cellAt C (mo + j) = ce
    have hes := esc_plain ce c.name hc.2
    have hp : ∀ a ∈ List.replicate c.dots 46 ++ escN ce c.name, a ≠ 10 ∧ a ≠ 13 := by
      intro a ha
      rcases List.mem_append.mp ha with ha | ha
      · rw [(List.mem_replicate.mp ha).2]; decide
      · exact hes a ha
    rw [List.append_assoc (List.replicate c.dots 46 ++ escN ce c.name), crlf_plain _ _ hp, crlf_end _ (Nat.mod_lt _ (by decide)) _ (hhead H (j + 1) hH')]
    have hp2 : ∀ a ∈ List.replicate k 46 ++ escN ce c.name, a ≠ 10 := by
      intro a ha
      rcases List.mem_append.mp ha with ha | ha
      · rw [(List.mem_replicate.mp ha).2]; decide
      · exact (hes a ha).1
    rw [hk, List.replicate_succ]
    show 46 :: 46 :: dotsA false (List.replicate k 46 ++ escN ce c.name ++ ((headS (ce / 2 % 4) :: tailS (ce / 2 % 4)) ++ crlfA false (mailT mo C (j + 1) H ++ 66 :: f))) = _
    rw [dots_plain _ _ hp2, dots_end, ih']
    simp
theorem nls_rows (mo : Nat) (C : List (Nat × Nat)) (fin : List Nat) (hf : ∀ c ∈ fin, c ≠ 10) :
   ∀ (H : List Cow) (j : Nat), (∀ c ∈ H, ∀ a ∈ c.name, 65 ≤ a ∧ a ≤ 80) → nls (rowsS (rowsOf mo C j H) ++ fin) = mailN mo C j H := by
  have plain : ∀ (x : List Nat), (∀ c ∈ x, c ≠ 10) → nls x = 0 := by
    intro x
    induction x with
    | nil => intro _; rfl
    | cons c x ih =>
      intro h
      rw [nls_cons, ih fun z hz => h z (List.mem_cons_of_mem _ hz), show nl c = 0 from if_neg (h c List.mem_cons_self)]
      rfl
  intro H
  induction H with
  | nil => intro j _; exact plain fin hf
  | cons c H ih =>
    intro j hH
    have e3 : rowsS (rowsOf mo C j (c :: H)) = (rowOf (cellAt C (mo + j)) c.dots c.name).txt ++ rowsS (rowsOf mo C (j + 1) H) := rfl
    have e4 : mailN mo C j (c :: H) = endN (cellAt C (mo + j) / 2 % 4) + mailN mo C (j + 1) H := rfl
    rw [e3, e4, row_txt, List.append_assoc, nls_app, ih (j + 1) fun x hx => hH x (List.mem_cons_of_mem _ hx), nls_cons, nls_app, nls_app]
    generalize cellAt C (mo + j) = ce
    rw [plain _ fun a ha => (esc_plain ce c.name (hH c List.mem_cons_self) a ha).1, plain (List.replicate c.dots 46) fun a ha => by rw [(List.mem_replicate.mp ha).2]; decide]
    have he : ce / 2 % 4 < 4 := Nat.mod_lt _ (by decide)
    generalize ce / 2 % 4 = e at he
    have : nls (headS e :: tailS e) = endN e := by
      match e, he with
      | 0, _ => rfl
      | 1, _ => rfl
      | 2, _ => rfl
      | 3, _ => rfl
    rw [this]
    show (0 : Int) + (0 + 0 + endN e) + _ = _
    omega
end Mine
end
section
open PySem PySem.W PySem.Calls PyProof.Rows
set_option Elab.async false
set_option maxRecDepth 100000
namespace Mine
section
variable {w : World} {A : Around} {h₀ : Heap} {R : Result → Shared → Prop} {B t0 : Nat} {g : Array GenState} {d : Drawn} {os : OsState} {mods : List Nat} {prog : Program} {kt : Nat → Option Obj}
theorem r_sget (x : List Nat) (i t u c : Nat) (hi : i < 1000000) (hx : x[i]? = some c) {s : Shared} (hR : ∀ t1 t', R (.ok (.ret (.str ⟨⟨[c]⟩⟩ t1))) ⟨s.heap, s.gens, s.drawn, t', s.os⟩) :
   codeAny (model prog w) A (.call (.builtin "str.__getitem__") ⟨[.str ⟨⟨x⟩⟩ t, .int (.ofNat i) u], []⟩) R s := by
  have hl : i < x.length := (List.getElem?_eq_some_iff.mp hx).1
  have ei : (Int.ofNat i) = (i : Int) := rfl
  refine code_meets F.slot_str_getitem (typeIs_str _ _ _) F.entry_str_getitem (F.args_str_getitem_2 _ _) (gives_str_getitem ⟨⟨x⟩⟩ (.ofNat i) t u c ?_ ?_).meets ?_
  · rw [ei, Bool.or_eq_false_iff]
    exact ⟨decide_eq_false (by omega), decide_eq_false (by omega)⟩
  · have e1 : seqIndex? (.ofNat i) (⟨⟨x⟩⟩ : Str).length = some i := by
      unfold seqIndex?
      rw [ei]
      show (if _ then _ else _) = _
      have hz : ¬ ((i : Int) < 0) := by omega
      simp only [if_neg hz]
      have hl2 : ((i : Int) < ((⟨⟨x⟩⟩ : Str).length : Int)) := by show (i : Int) < (x.length : Int); omega
      simp [hl2]
    rw [e1]
    show (⟨x⟩ : Array Nat)[i]? = _
    rw [List.getElem?_toArray]
    exact hx
  · exact ⟨by rw [sizeLine_eq]; show 1 ≤ 16777216; decide, hR _ _⟩
theorem r_sne (x y : List Nat) (t u : Nat) (b : Bool) (hb : (x != y) = b) {s : Shared} (hR : R (.ok (.ret (.bool b))) s) : codeAny (model prog w) A (.call (.builtin "str.__ne__") ⟨[.str ⟨⟨x⟩⟩ t, .str ⟨⟨y⟩⟩ u], []⟩) R s := by
  refine code_meets F.slot_str_ne (typeIs_str _ _ _) F.entry_str_ne (F.args_str_ne_2 _ _) (gives_str_ne ⟨⟨x⟩⟩ ⟨⟨y⟩⟩ t u).meets ?_
  show R (.ok (.ret (.bool (x != y)))) s
  rw [hb]
  exact hR
theorem r_ine (a b : Int) (t u : Nat) (v : Bool) (hv : (a != b) = v) {s : Shared} (hR : R (.ok (.ret (.bool v))) s) :
   codeAny (model prog w) A (.call (.builtin "int.__ne__") ⟨[.int a t, .int b u], []⟩) R s := by
  refine code_meets F.slot_int_ne (typeIs_int _ _ _) F.entry_int_ne (F.args_int_ne_2 _ _) (gives_int_ne a b t u).meets ?_
  show R (.ok (.ret (.bool (a != b)))) s
  rw [hv]
  exact hR
end
end Mine
end
section
open PySem PySem.W PySem.Calls PyProof.Rows
set_option Elab.async false
set_option maxRecDepth 100000
namespace Mine
theorem Rep.giveX {kt : Nat → Option Obj} {h₀ h : Heap} {mods : List Nat} {B : Nat} {L X : Led} {r : Nat} (D : Rep kt h₀ mods h B L X r) (m : List Nat) {L' : Led} (e : sel m L = L') : Rep kt h ((L' ++ X).map (·.1)) h h.objs.size L' X 0 := e ▸ D.reX m
theorem Rep.backXP {kt : Nat → Option Obj} {h₀ h h' : Heap} {mods : List Nat} {B : Nat} {L X Lo Xo : Led} {r : Nat} (D : Rep kt h₀ mods h B L X r) (m ix : List Nat) {P : Led} (L' : Led) (e : sel m L = P) (a : After h h' ((P ++ X).map (·.1)) (Lo ++ Xo)) (e' : Mine.pick ix (Lo ++ cpl m L) = L') (nd : ix.Nodup := by decide) : ∃ B', Rep kt h₀ mods h' B' L' Xo 0 := by
  subst e
  exact (D.afterX m a).pickE ix L' e' nd
theorem Rep.dropX {kt : Nat → Option Obj} {h₀ h : Heap} {mods : List Nat} {B : Nat} {L X Y : Led} {r : Nat} (D : Rep kt h₀ mods h B L (X ++ Y) r) : Rep kt h₀ mods h B L X r := D.sub (List.Sublist.append_left (List.sublist_append_left X Y) L)
noncomputable def lawS (w : World) : Stmt := stmtAt w 131 5
noncomputable def la5 (w : World) (k : Nat → Nat) (v0 : Value) (ch : Nat) (gap : Int) (tg : Nat) (v3 : Value) (hl : Nat) (dl : List DictEntry) (n : Nat) : Obj :=
  fobj (ent w n_script (k 0) v0 :: ent w n_cells (k 1) (.ref ch) :: ent w n_gap (k 2) (.int gap tg) :: ent w n_months (k 3) v3 :: ent w n_herd (k 4) (.ref hl) :: dl) n
def HOk (gap : Int) (H : List Cow) : Prop := H.length ≤ 1000 ∧ ∀ c ∈ H, 1 ≤ c.dots ∧ c.dots ≤ 999 ∧ c.name.length ≤ 1000 ∧ (∀ a ∈ c.name, 65 ≤ a ∧ a ≤ 80) ∧ ((c.dots + 1 : Nat) > gap → calfN gap (c.dots + 1) c.name < 1048576)
def finT (mo : Nat) : List Nat := hexS (16 + mo) ++ [12] ++ [46]
theorem sgn_of (Q : List (Str × Tok)) (x : List Nat) (h : Q.map (·.1) = x.reverse.map (fun c => (⟨⟨[c]⟩⟩ : Str))) : ∃ Q' : List (Nat × Nat), strValues Q = sgn Q' ∧ Q'.map (·.1) = x := by
  have key : ∀ (y : List Nat) (Q : List (Str × Tok)), Q.map (·.1) = y.map (fun c => (⟨⟨[c]⟩⟩ : Str)) → ∃ Q' : List (Nat × Nat), strValues Q = Q'.map (fun p => .str ⟨⟨[p.1]⟩⟩ p.2) ∧ Q'.map (·.1) = y := by
    intro y
    induction y with
    | nil =>
      intro Q h
      have : Q = [] := List.map_eq_nil_iff.mp h
      subst this
      exact ⟨[], rfl, rfl⟩
    | cons c y ih =>
      intro Q h
      cases Q with
      | nil => cases h
      | cons q Q =>
        rw [List.map_cons, List.map_cons] at h
        obtain ⟨h1, h2⟩ := List.cons.inj h
        obtain ⟨Q', e1, e2⟩ := ih Q h2
        refine ⟨(c, q.2) :: Q', ?_, by rw [List.map_cons, e2]⟩
        have e1' : strValues (q :: Q) = .str q.1 q.2 :: strValues Q := rfl
        rw [e1', e1, h1, List.map_cons]
  obtain ⟨Q', e1, e2⟩ := key x.reverse Q h
  refine ⟨Q'.reverse, ?_, ?_⟩
  · unfold sgn
    rw [List.reverse_reverse]
    exact e1
  · rw [List.map_reverse, e2, List.reverse_reverse]
theorem abc_at (i : Nat) (h : i < 16) : ([65, 66, 67, 68, 69, 70, 71, 72, 73, 74, 75, 76, 77, 78, 79, 80] : List Nat)[i]? = some (65 + i) := by
  have : ∀ i, i < 16 → ([65, 66, 67, 68, 69, 70, 71, 72, 73, 74, 75, 76, 77, 78, 79, 80] : List Nat)[i]? = some (65 + i) := by decide
  exact this i h
def kf (k : Nat → Nat) (a b c d : Nat) (n : Nat) : Nat := match n with
  | 0 => k 0
  | 1 => k 1
  | 2 => k 2
  | 3 => k 3
  | 4 => k 4
  | 5 => a
  | 6 => b
  | 7 => b + 1
  | 8 => c
  | _ => d
theorem fin_eq (mo : Nat) (h : mo ≤ 15) : finT mo = [66, 65 + mo, 12, 46] := by
  have : ∀ i, i < 16 → finT i = [66, 65 + i, 12, 46] := by
    intro i hi
    unfold finT hexS
    have e1 : hexL (16 + i) = [1, i] := by
      rw [hexL, dif_neg (by omega), show (16 + i) / 16 = 1 by omega, show (16 + i) % 16 = i by omega, hexL, dif_neg (by decide), hexL, dif_pos (by decide)]
      rfl
    rw [e1]
    rfl
  exact this mo (by omega)
theorem fin_ok (mo : Nat) (h : mo ≤ 15) : ∀ c ∈ finT mo, okI (false, c) := by
  rw [fin_eq mo h]
  intro c hc
  simp at hc
  rcases hc with rfl | rfl | rfl | rfl
  · exact letter_ok _ (by decide) _
  · exact letter_ok _ (by omega) _
  · exact ⟨by decide, by decide, by decide⟩
  · exact ⟨by decide, by decide, by decide⟩
theorem rowsOf_mem (mo : Nat) (C : List (Nat × Nat)) : ∀ (H : List Cow) (j : Nat), ∀ x ∈ rowsOf mo C j H, ∃ c ∈ H, ∃ ce, x = rowOf ce c.dots c.name := by
  intro H
  induction H with
  | nil => intro j x hx; cases hx
  | cons c H ih =>
    intro j x hx
    rcases List.mem_cons.mp (show x ∈ rowOf (cellAt C (mo + j)) c.dots c.name :: rowsOf mo C (j + 1) H from hx) with rfl | hx
    · exact ⟨c, List.mem_cons_self, _, rfl⟩
    · obtain ⟨c', hc', r⟩ := ih _ x hx
      exact ⟨c', List.mem_cons_of_mem _ hc', r⟩
theorem rowsOf_len (mo : Nat) (C : List (Nat × Nat)) : ∀ (H : List Cow) (j : Nat), (rowsOf mo C j H).length = H.length := by
  intro H
  induction H with
  | nil => intro j; rfl
  | cons c H ih => intro j; show (rowsOf mo C (j + 1) H).length + 1 = _; rw [ih]; rfl
theorem txt_small (r : RowT) (h : r.ok) : ∀ c ∈ r.txt, c < 128 := by
  intro c hc
  unfold RowT.txt at hc
  rcases List.mem_append.mp hc with hc | hc
  · unfold flatI at hc
    obtain ⟨i, hi, hm⟩ := List.mem_flatMap.mp hc
    have hs : i.2 < 128 := by
      rcases List.mem_append.mp hi with hi | hi
      · rw [(List.mem_replicate.mp hi).2]; decide
      · obtain ⟨b, hb, rfl⟩ := List.mem_map.mp hi
        have := h.2.2.2 b hb
        show b < 128
        omega
    split at hm
    · simp at hm; omega
    · simp at hm; omega
  · unfold headS tailS at hc
    split at hc <;> (simp at hc; omega)
theorem mo_pure (gap : Int) (H : List Cow) (hH : HOk gap H) (hne : H ≠ []) (C : List (Nat × Nat)) (mo : Nat) (hmo : mo ≤ 15) :
   ∃ (S : List Nat) (r0 : RowT) (rs : List RowT), rowsOf mo C 0 H = r0 :: rs ∧ S = [] ++ (r0.txt ++ (rowsS rs ++ finT mo)) ∧ sub1 (sub2 (mailT mo C 0 H ++ hexS (16 + mo) ++ [12] ++ [46])) = S ∧ (∀ c ∈ S, c < 128) ∧ S.length ≤ 16776000 ∧ 2 * (mailT mo C 0 H ++ hexS (16 + mo) ++ [12] ++ [46]).length + 10 ≤ 16777216 ∧ 2 * (sub2 (mailT mo C 0 H ++ hexS (16 + mo) ++ [12] ++ [46])).length + 10 ≤ 16777216 ∧ (sub1 (sub2 (mailT mo C 0 H ++ hexS (16 + mo) ++ [12] ++ [46]))).length ≤ 16777216 ∧ r0.ok ∧ (∀ x ∈ r0 :: rs, x.ok ∧ ((x.k : Int) > gap → calfN gap x.k x.name < 1048576)) ∧ rs.length + 1 ≤ 1000 ∧
     ∀ l, l = 1 + nls ([] ++ (r0.txt ++ (rowsS rs ++ finT mo))) - nls (tailS r0.e ++ (rowsS rs ++ finT mo)) → l + nls (tailS r0.e ++ (rowsS rs ++ finT mo)) = 1 + mailN mo C 0 H := by
  obtain ⟨r0, rs, hrr⟩ : ∃ r0 rs, rowsOf mo C 0 H = r0 :: rs := by
    cases H with
    | nil => exact absurd rfl hne
    | cons c H => exact ⟨_, _, rfl⟩
  have hT : mailT mo C 0 H ++ hexS (16 + mo) ++ [12] ++ [46] = mailT mo C 0 H ++ finT mo := by unfold finT; simp
  have hfe := fin_eq mo hmo
  have hok : ∀ c ∈ H, okCow c := fun c hc => by have z := hH.2 c hc; exact ⟨by omega, z.2.2.1, fun x hx => by have := z.2.2.2.1 x hx; omega⟩
  have hml : ∀ (rest : List Cow) j, (∀ c ∈ rest, okCow c) → (mailT mo C j rest).length ≤ 3003 * rest.length := by
    intro rest
    induction rest with
    | nil => intro j _; exact Nat.zero_le _
    | cons c rest ih =>
      intro j hk
      rw [show mailT mo C j (c :: rest) = rowM (cellAt C (mo + j)) c.dots c.name ++ mailT mo C (j + 1) rest from rfl, List.length_append, List.length_cons]
      have := rowM_len (cellAt C (mo + j)) c (hk c List.mem_cons_self)
      have := ih (j + 1) fun x hx => hk x (List.mem_cons_of_mem _ hx)
      omega
  have hTl : (mailT mo C 0 H ++ hexS (16 + mo) ++ [12] ++ [46]).length ≤ 3003004 := by
    rw [hT, List.length_append, hfe]
    have := hml H 0 hok
    have := hH.1
    show (mailT mo C 0 H).length + 4 ≤ _
    omega
  have hs2 := crlfA_len (mailT mo C 0 H ++ hexS (16 + mo) ++ [12] ++ [46]) false
  rw [← sub2_crlf] at hs2
  have hse : sub1 (sub2 (mailT mo C 0 H ++ hexS (16 + mo) ++ [12] ++ [46])) = rowsS (r0 :: rs) ++ finT mo := by
    rw [sub_both, hT, ← hrr]
    refine sent_mail mo C (finT mo) ⟨[65 + mo, 12, 46], hfe⟩ ?_ H 0 fun c hc => ⟨(hH.2 c hc).1, (hH.2 c hc).2.2.2.1⟩
    rw [hfe]
    intro c hc
    simp at hc
    omega
  have hs1 : (sub1 (sub2 (mailT mo C 0 H ++ hexS (16 + mo) ++ [12] ++ [46]))).length ≤ 2 * (sub2 (mailT mo C 0 H ++ hexS (16 + mo) ++ [12] ++ [46])).length := by
    rw [sub_both]
    unfold sent
    rw [← sub2_crlf]
    exact dotsA_len _ _
  have hrk : ∀ x ∈ r0 :: rs, x.ok ∧ ((x.k : Int) > gap → calfN gap x.k x.name < 1048576) := by
    rw [← hrr]
    intro x hx
    obtain ⟨c, hc, ce, rfl⟩ := rowsOf_mem mo C H 0 x hx
    have z := hH.2 c hc
    exact ⟨⟨by show 1 ≤ c.dots + 1; omega, by show c.dots + 1 ≤ 1000; omega, z.2.2.1, z.2.2.2.1⟩, z.2.2.2.2⟩
  refine ⟨_, r0, rs, hrr, by rw [List.nil_append, ← List.append_assoc, ← rowsS_cons], hse, ?_, ?_, by omega, by omega, by omega, (hrk r0 List.mem_cons_self).1, hrk, ?_, ?_⟩
  · intro c hc
    rcases List.mem_append.mp hc with hc | hc
    · obtain ⟨r, hr, hm⟩ := List.mem_flatMap.mp hc
      exact txt_small r (hrk r hr).1 c hm
    · rw [hfe] at hc
      simp at hc
      omega
  · rw [← hse]; omega
  · have := rowsOf_len mo C H 0
    rw [hrr, List.length_cons] at this
    have := hH.1
    omega
  · intro l hl
    have hn := nls_rows mo C (finT mo) (by rw [hfe]; intro c hc; simp at hc; omega) H 0 fun c hc => (hH.2 c hc).2.2.2.1
    rw [hrr, rowsS_cons, List.append_assoc] at hn
    rw [hl, List.nil_append, hn]
    omega
end Mine
end
section
open PySem PySem.W PySem.Calls PyProof.Rows
set_option Elab.async false
set_option maxRecDepth 100000
namespace Mine
set_option maxHeartbeats 2000000 in
theorem mo_first (w : World) (A : Around) (h₀ : Heap) (mods : List Nat) (hA : Fit 150 A (kt1 w) h₀) (R : Result → Shared → Prop) (g : Array GenState) (d : Drawn) (os : OsState) (k : Nat → Nat) (v0 v3 : Value) (gap : Int) (tg hl ch f it : Nat) (hg1 : 1 ≤ gap)
   (H : List Cow) (hH : HOk gap H) (hne : H ≠ []) (C : List (Nat × Nat)) (hC : C.length = 16) (mo left : Nat) (hmo : 1 ≤ mo ∧ mo ≤ 15)
   (h : Heap) (B t0 eh e2 : Nat)
   (D : Rep (kt1 w) h₀ mods h B [(f, la5 w k v0 ch gap tg v3 hl [] 5), (it, ritO mo (left + 1 : Nat)), (hl, listO (herdV H) eh), (ch, listO (cellV C) e2), (111, obAt w 111)] (herdL H) 0)
   (hR : ∀ h' B' t' hl' eh' NC k' v5 v6 v7 lx x tx kd vd co tc c5 c6 c7 c8 c9, NC.map cowKN = procRows gap (rowsOf mo C 0 H) → Rep (kt1 w) h₀ mods h' B' [(f, laF w k' v0 (.ref ch) gap tg v3 hl' v5 v6 v7 lx x tx [ent w n_dots kd vd] 11), (it, ritO (mo + 1 : Nat) (left : Nat)), (hl', listO (herdV NC) eh'), (ch, listO (cellV C) e2), (111, tabO co), (co, lamCodeO tc c5 c6 c7 c8 c9)] (herdL NC) 0 → codeAny (PP w) A (forOf (lawS w) (.ref it) (envOf w 131 f q_law)) R ⟨h', g, d, t', os⟩) :
   codeAny (PP w) A (forOf (lawS w) (.ref it) (envOf w 131 f q_law)) R ⟨h, g, d, t0, os⟩ := by
  obtain ⟨b1, b2, hw⟩ := parF_ex w
  have hA' := hA.under (forOf (lawS w) (.ref it) (envOf w 131 f q_law)) (m := 149) (by kernel_rfl)
  obtain ⟨S, r0, rs, hrr, hSe, hS, hS1, hS2, hq1, hq2, hq3, hr0, hrs, hrl, hline⟩ := mo_pure gap H hH hne C mo hmo.2
  have hfin := fin_eq mo hmo.2
  have hf1 : (finT mo).take 1 = [66] := by rw [hfin]; rfl
  have hf2 : (finT mo).length ≤ 1000 := by rw [hfin]; show 4 ≤ 1000; decide
  have hf3 := fin_ok mo hmo.2
  refine code_start ?_
  refine Means.add0 ?_
  (refine segW (t0 := t0) (i := 0) 100000 [2] (Code.call (Value.builtin "range_iterator.__next__") { pos := [Value.ref it] : Args }) D (by assumption) (by assumption) ?_; intro o11; refine ⟨by kernel_rfl, by kernel_rfl, by kernel_rfl, by kernel_rfl, by kernel_rfl, fun h11 D11 => ?_⟩)
  refine callW_of rfl ?_
  rw [mark_none]
  refine r_rnext it mo (left + 1 : Nat) (by omega) (D11.give [0, 1] (by kernel_rfl)) fun g1 t1 t' a1 => ?_
  rw [show (mo : Int) + 1 = (mo + 1 : Nat) by omega, show ((left + 1 : Nat) : Int) - 1 = (left : Nat) by omega] at a1
  obtain ⟨B2, E2⟩ := D11.backP [0, 1] [1, 0, 2, 3, 4] [(f, la5 w k v0 ch gap tg v3 hl [] 5), (it, ritO (mo + 1 : Nat) (left : Nat)), (hl, listO (herdV H) eh), (ch, listO (cellV C) e2), (111, obAt w 111)] (by kernel_rfl) a1 (by kernel_rfl)
  refine Means.add0 ?_
  (refine segL (t0 := t') (i := 0) 100000 [1, 1, 0, 1, 1, 1, 0] ((.call (.ref 121) ⟨[.int (.ofNat mo) t1, .ref hl, .ref ch], []⟩) ) E2 (by assumption) (by assumption) ?_; intro o12; refine ⟨by kernel_rfl, by kernel_rfl, by kernel_rfl, by kernel_rfl, fun h12 D12 => ?_⟩)
  refine law_mail w _ _ (Fit.inner hA' D12 _ (by kernel_rfl) (by kernel_rfl)) _ _ _ g d os mo t1 hl ch H C eh e2 hC hH.1 (fun c hc => by have z := hH.2 c hc; exact ⟨by omega, z.2.2.1, fun x hx => by have := z.2.2.2.1 x hx; omega⟩) (by omega) (D12.giveX [0, 0, 1, 1] (by kernel_rfl)) fun g2 t2 ra ta tb a2 => ?_
  obtain ⟨B3, E3⟩ := D12.backXP [0, 0, 1, 1] [3, 4, 1, 2, 5, 0] [(f, la5 w k v0 ch gap tg v3 hl [ent w n_month t' (.int (.ofNat mo) t1)] 6), (it, ritO (mo + 1 : Nat) (left : Nat)), (hl, listO (herdV H) eh), (ch, listO (cellV C) e2), (111, obAt w 111), (ra, tupO [.str ⟨⟨mailT mo C 0 H ++ hexS (16 + mo) ++ [12] ++ [46]⟩⟩ ta, .int (1 + mailN mo C 0 H) tb])] (by kernel_rfl) a2 (by kernel_rfl)
  refine Means.add0 ?_
  cases b1 <;> (
    (first | (refine segL (t0 := t2) (i := 0) 100000 [6, 6, 6, 1, 6, 7, 7, 1, 7, 7, 7, 6, 7, 7, 7, 1, 7, 7, 7, 6, 7, 7, 7, 1, 7, 7, 7, 6, 7, 7, 9, 1, 1, 1, 1, 0, 0, 1, 0] (Code.call (Value.ref 48) { pos := [Value.str { cps := { toList := mailT mo C 0 H ++ hexS (16 + mo) ++ [12] ++ [46] : Array Nat } : Str } ta] : Args }) E3 (by assumption) (by assumption) ?_; intro o13; refine ⟨by kernel_rfl!, by kernel_rfl!, by kernel_rfl!, by kernel_rfl!, fun h13 D13 => ?_⟩) | (refine segL (t0 := t2) (i := 0) 100000 [7, 7, 7, 1, 7, 8, 8, 1, 8, 8, 8, 7, 8, 8, 8, 1, 8, 8, 8, 7, 8, 8, 8, 1, 8, 8, 8, 7, 8, 8, 10, 1, 1, 1, 1, 0, 0, 1, 0] (Code.call (Value.ref 48) { pos := [Value.str { cps := { toList := mailT mo C 0 H ++ hexS (16 + mo) ++ [12] ++ [46] : Array Nat } : Str } ta] : Args }) E3 (by assumption) (by assumption) ?_; intro o13; refine ⟨by kernel_rfl!, by kernel_rfl!, by kernel_rfl!, by kernel_rfl!, fun h13 D13 => ?_⟩))
    refine quotedata w _ _ (Fit.inner hA' D13 _ (by kernel_rfl) (by kernel_rfl)) _ _ _ g d os (mailT mo C 0 H ++ hexS (16 + mo) ++ [12] ++ [46]) ta hq1 hq2 hq3 (D13.give [] (by kernel_rfl)) fun g4 t4 t5 a4 => ?_
    rw [hS]
    obtain ⟨B4, E4⟩ := D13.backP [] [0, 1, 2, 3, 4] [(f, la5 w k v0 ch gap tg v3 hl [ent w n_month t' (.int (.ofNat mo) t1), ent w n_mail t2 (.str ⟨⟨mailT mo C 0 H ++ hexS (16 + mo) ++ [12] ++ [46]⟩⟩ ta), ent w n_lines (t2 + 1) (.int (1 + mailN mo C 0 H) tb)] 8), (it, ritO (mo + 1 : Nat) (left : Nat)), (hl, listO (herdV H) eh), (ch, listO (cellV C) e2), (111, obAt w 111)] (by kernel_rfl) a4 (by kernel_rfl)
    refine Means.add0 ?_
    (refine segL (t0 := t5) (i := 0) 100000 [0] ((.call (.ref 116) ⟨[.str ⟨⟨S⟩⟩ t4], []⟩) ) E4 (by assumption) (by assumption) ?_; intro o14; refine ⟨by kernel_rfl, by kernel_rfl, by kernel_rfl, by kernel_rfl, fun h14 D14 => ?_⟩)
    refine lexer_first w _ _ (Fit.inner hA' D14 _ (by kernel_rfl) (by kernel_rfl)) _ _ _ g d os S t4 hS1 (by omega) (D14.give [0, 0, 0, 0, 1] (by kernel_rfl)) fun g5 t6 La st sd lam lx ld pb pb2 ce co tu c5 c6 c7 c8 c9 tc ep Qs k1 k2 hQs a5 => ?_
    obtain ⟨Q, hQ1, hQ2⟩ := sgn_of Qs S hQs
    rw [hQ1] at a5
    have hQ3 : Q.map (·.1) = [] ++ (r0.txt ++ (rowsS rs ++ finT mo)) := hQ2.trans hSe
    obtain ⟨B5, E5⟩ := D14.backP [0, 0, 0, 0, 1] [8, 7, 5, 4, 1, 3, 6, 2, 9, 10, 11, 12, 13, 0] ((LX.mk lx ld st sd co ce lam tu tc c5 c6 c7 c8 c9 pb pb2 La k1).led w k2 1 (sgn Q) ep [] 0 ++ [(f, la5 w k v0 ch gap tg v3 hl [ent w n_month t' (.int (.ofNat mo) t1), ent w n_mail t2 (.str ⟨⟨mailT mo C 0 H ++ hexS (16 + mo) ++ [12] ++ [46]⟩⟩ ta), ent w n_lines (t2 + 1) (.int (1 + mailN mo C 0 H) tb)] 8), (it, ritO (mo + 1 : Nat) (left : Nat)), (hl, listO (herdV H) eh), (ch, listO (cellV C) e2), (111, tabO co)]) (by kernel_rfl) a5 (by kernel_rfl)
    clear a5 a4 a2 a1
    refine Means.add0 ?_
    generalize ha : LX.mk lx ld st sd co ce lam tu tc c5 c6 c7 c8 c9 pb pb2 La k1 = a at E5
    have hlx : lx = a.lx := by rw [← ha]
    have hco : co = a.co := by rw [← ha]
    rw [hlx]
    rw [hco] at E5
    (refine segL (t0 := t6) (i := 0) 100000 [10, 10, 10, 10, 10, 1, 0, 0, 0, 1, 0, 0, 0, 1, 0, 0, 0, 0, 1, 2, 0] (Code.call (Value.ref 83) { pos := [Value.ref a.lx] : Args }) E5 (by assumption) (by assumption) ?_; intro o15; refine ⟨by kernel_rfl, by kernel_rfl, by kernel_rfl, by kernel_rfl, fun h15 D15 => ?_⟩)
    refine gets_row w a Q 1 [] r0 (rowsS rs ++ finT mo) hr0 (fun _ hc => nomatch hc) hQ3 (by rw [← List.length_map (f := (·.1)), hQ2]; exact hS2) _ _ (Fit.inner hA' D15 _ (by kernel_rfl) (by kernel_rfl)) _ _ _ g d os k2 ep 0 _ (D15.give [1, 1, 1, 1, 1, 1, 1, 1, 1] (by kernel_rfl)) fun g6 t7 k3 ep3 pe3 t8 Q4 hQ4 a6 => ?_
    generalize hl4 : 1 + nls ([] ++ (r0.txt ++ (rowsS rs ++ finT mo))) - nls (tailS r0.e ++ (rowsS rs ++ finT mo)) = line4 at a6
    obtain ⟨B6, E6⟩ := D15.backP [1, 1, 1, 1, 1, 1, 1, 1, 1] [0, 1, 2, 3, 4, 5, 6, 7, 8, 14, 9, 10, 12, 13] (a.led w k3 line4 (sgn Q4) ep3 [] pe3 ++ [(B5, listO [] 0), (f, la5 w k v0 ch gap tg v3 B5 [ent w n_month t' (.int (.ofNat mo) t1), ent w n_mail t2 (.str ⟨⟨mailT mo C 0 H ++ hexS (16 + mo) ++ [12] ++ [46]⟩⟩ ta), ent w n_lines (t2 + 1) (.int (1 + mailN mo C 0 H) tb), ent w n_lexer t6 (.ref a.lx)] 9), (it, ritO (mo + 1 : Nat) (left : Nat)), (ch, listO (cellV C) e2), (111, tabO a.co)]) (by kernel_rfl) a6 (by kernel_rfl)
    refine Means.add0 ?_
    (refine segL (t0 := t7) (i := 0) 100000 [11, 11] ((whileOf (lawBody w 4) (envOf w 131 f q_law)) ) E6 (by assumption) (by assumption) ?_; intro o16; refine ⟨by kernel_rfl, by kernel_rfl, by kernel_rfl, by kernel_rfl, fun h16 D16 => ?_⟩)
    obtain ⟨B7, E7⟩ := D16.partX [0, 1, 2, 3, 4, 5, 6, 7, 8, 9, 10] [11, 12, 13] (a.led w k3 line4 (sgn Q4) ep3 [] pe3 ++ [(B5, listO [] 0), (f, laF w (kf k t' t2 t6 t7) v0 (.ref ch) gap tg v3 B5 (.int (.ofNat mo) t1) (.str ⟨⟨mailT mo C 0 H ++ hexS (16 + mo) ++ [12] ++ [46]⟩⟩ ta) (.int (1 + mailN mo C 0 H) tb) a.lx (List.replicate r0.k 46 ++ r0.name) t8 [] 10)]) [(it, ritO (mo + 1 : Nat) (left : Nat)), (ch, listO (cellV C) e2), (111, tabO a.co)] (by kernel_rfl) (by kernel_rfl)
    refine la_rows (hA'.ar (m := 100) _ (by kernel_rfl) (by kernel_rfl)) a _ _ _ _ _ _ _ gap tg B5 f hg1 (finT mo) hf1 hf2 hf3 rs r0 _ _ _ _ _ _ _ [] Q4 line4 k3 _ _ _ (tailS r0.e) (.inl ⟨rfl, rfl⟩) hrs (tailS_ws _) (by rw [List.length_nil]; omega) hQ4.1 hQ4.2 (E7.dropX) fun g8 B8 t9 t10 ep8 pe8 k8 eh8 NC kd vd hNC E8 => ?_
    rw [hline _ hl4.symm, List.nil_append] at E8
    have E8 := E8.perm (L' := (a.led w k8 (1 + mailN mo C 0 H) [] ep8 [] pe8 ++ [(B5, listO (herdV NC) eh8), (f, laF w (kf k t' t2 t6 t7) v0 (.ref ch) gap tg v3 B5 (.int (.ofNat mo) t1) (.str ⟨⟨mailT mo C 0 H ++ hexS (16 + mo) ++ [12] ++ [46]⟩⟩ ta) (.int (1 + mailN mo C 0 H) tb) a.lx (finT mo) t10 [ent w n_dots kd vd] 11)]) ++ [(it, ritO (mo + 1 : Nat) (left : Nat)), (ch, listO (cellV C) e2), (111, tabO a.co)]) (X' := herdL NC) (by rw [List.append_assoc _ _ (herdL NC)]; exact List.Perm.append_left _ List.perm_append_comm)
    refine Means.add0 ?_
    (refine segW (t0 := t9) (i := 0) 100000 [11, 11] (Code.call (Value.builtin "str.__getitem__") { pos := [Value.str { cps := { toList := [65, 66, 67, 68, 69, 70, 71, 72, 73, 74, 75, 76, 77, 78, 79, 80] : Array Nat } : Str } (t9 + 1), Value.int (Int.ofNat mo) t1] : Args }) E8 (by assumption) (by assumption) ?_; intro o17; refine ⟨by kernel_rfl, by kernel_rfl, by kernel_rfl, by kernel_rfl, by kernel_rfl, fun h17 D17 => ?_⟩)
    refine callW_of rfl ?_
    rw [mark_none]
    refine r_sget _ mo _ t1 (65 + mo) (by omega) (abc_at mo (by omega)) fun t11 t12 => ?_
    refine Means.add0 ?_
    (refine segW (t0 := t12) (i := 0) 100000 [1, 0, 0, 1, 1, 1] ((.call (.builtin "str.__ne__") ⟨[.str ⟨⟨finT mo⟩⟩ t10, .str ⟨⟨[66, 65 + mo, 12, 46]⟩⟩ (t12 + 5)], []⟩) ) D17 (by assumption) (by assumption) ?_; intro o18; refine ⟨by kernel_rfl, by kernel_rfl, by kernel_rfl, by kernel_rfl, by kernel_rfl, fun h18 D18 => ?_⟩)
    refine callW_of rfl ?_
    rw [mark_none]
    refine r_sne (finT mo) [66, 65 + mo, 12, 46] _ _ false (by rw [hfin]; simp) ?_
    refine Means.add0 ?_
    (refine segL (t0 := t12 + outI o18) (i := 0) 100000 [11, 1, 0, 0, 0, 1, 0, 0, 0, 1, 0, 0, 0, 0, 1, 2, 0] (Code.call (Value.ref 83) { pos := [Value.ref a.lx] : Args }) D18 (by assumption) (by assumption) ?_; intro o19; refine ⟨by kernel_rfl, by kernel_rfl, by kernel_rfl, by kernel_rfl, fun h19 D19 => ?_⟩)
    refine gt_none w _ _ (Fit.inner hA' D19 _ (by kernel_rfl) (by kernel_rfl)) _ _ _ g d os a k8 (1 + mailN mo C 0 H) ep8 pe8 (D19.give [1, 1, 1, 1, 1, 1, 1, 1, 1] (by kernel_rfl)) fun g9 t13 k9 ep9 t14 a9 => ?_
    obtain ⟨B9, E9⟩ := D19.backP [1, 1, 1, 1, 1, 1, 1, 1, 1] [0, 1, 2, 3, 4, 5, 6, 7, 8, 9, 10, 11, 12, 13] (a.led w k9 (1 + mailN mo C 0 H) [] ep9 [] pe8 ++ [(B5, listO (herdV NC) eh8), (f, laF w (kf k t' t2 t6 t7) v0 (.ref ch) gap tg v3 B5 (.int (.ofNat mo) t1) (.str ⟨⟨mailT mo C 0 H ++ hexS (16 + mo) ++ [12] ++ [46]⟩⟩ ta) (.int (1 + mailN mo C 0 H) tb) a.lx (finT mo) t10 [ent w n_dots kd vd] 11), (it, ritO (mo + 1 : Nat) (left : Nat)), (ch, listO (cellV C) e2), (111, tabO a.co)]) (by kernel_rfl) a9 (by kernel_rfl)
    refine Means.add0 ?_
    (refine segW (t0 := t13) (i := 0) 100000 [1, 11, 1, 0, 0, 0, 1, 1, 0, 0, 0, 1, 1, 0, 2, 11] (Code.call (Value.builtin "int.__ne__") { pos := [Value.int (1 + mailN mo C 0 H) (k9 1), Value.int (1 + mailN mo C 0 H) tb] : Args }) E9 (by assumption) (by assumption) ?_; intro o20; refine ⟨by kernel_rfl, by kernel_rfl, by kernel_rfl, by kernel_rfl, by kernel_rfl, fun h20 D20 => ?_⟩)
    refine callW_of rfl ?_
    rw [mark_none]
    refine r_ine (1 + mailN mo C 0 H) (1 + mailN mo C 0 H) _ tb false (by simp) ?_
    refine Means.add0 ?_
    (refine segF (t0 := t13 + outI o20) (i := 0) 100000 [] ((Fin.again (forOf (lawS w) (.ref it) (envOf w 131 f q_law))) ) D20 (by assumption) (by assumption) ?_; intro o21; refine ⟨by kernel_rfl, by kernel_rfl, by kernel_rfl, fun h21 D21 => ?_⟩)
    obtain ⟨BB, EE⟩ := D21.pickE [10, 11, 9, 12, 13, 4] [(f, laF w (kf k t' t2 t6 t7) v0 (.ref ch) gap tg v3 B5 (.int (.ofNat mo) t1) (.str ⟨⟨mailT mo C 0 H ++ hexS (16 + mo) ++ [12] ++ [46]⟩⟩ ta) (.int (1 + mailN mo C 0 H) tb) a.lx (finT mo) t10 [ent w n_dots kd vd] 11), (it, ritO (mo + 1 : Nat) (left : Nat)), (B5, listO (herdV NC) eh8), (ch, listO (cellV C) e2), (111, tabO a.co), (a.co, lamCodeO a.tc a.c5 a.c6 a.c7 a.c8 a.c9)] (by kernel_rfl)
    exact ⟨by kernel_rfl, hR _ _ _ _ _ _ _ _ _ _ _ _ _ _ _ _ _ _ _ _ _ _ (by rw [hrr]; exact hNC) EE⟩)
set_option maxHeartbeats 2000000 in
theorem mo_later (w : World) (A : Around) (h₀ : Heap) (mods : List Nat) (hA : Fit 150 A (kt1 w) h₀) (R : Result → Shared → Prop) (g : Array GenState) (d : Drawn) (os : OsState) (k : Nat → Nat) (v0 v3 : Value) (gap : Int) (tg hl ch f it : Nat) (hg1 : 1 ≤ gap)
   (H : List Cow) (hH : HOk gap H) (hne : H ≠ []) (C : List (Nat × Nat)) (hC : C.length = 16) (mo left : Nat) (hmo : 1 ≤ mo ∧ mo ≤ 15) (v5 v6 v7 : Value) (lx0 tx0 : Nat) (x0 : List Nat) (kd0 : Nat) (vd0 : Value) (co tc c5 c6 c7 c8 c9 : Nat)
   (h : Heap) (B t0 eh e2 : Nat)
   (D : Rep (kt1 w) h₀ mods h B [(f, laF w k v0 (.ref ch) gap tg v3 hl v5 v6 v7 lx0 x0 tx0 [ent w n_dots kd0 vd0] 11), (it, ritO mo (left + 1 : Nat)), (hl, listO (herdV H) eh), (ch, listO (cellV C) e2), (111, tabO co), (co, lamCodeO tc c5 c6 c7 c8 c9)] (herdL H) 0)
   (hR : ∀ h' B' t' hl' eh' NC k' v5 v6 v7 lx x tx kd vd co tc c5 c6 c7 c8 c9, NC.map cowKN = procRows gap (rowsOf mo C 0 H) → Rep (kt1 w) h₀ mods h' B' [(f, laF w k' v0 (.ref ch) gap tg v3 hl' v5 v6 v7 lx x tx [ent w n_dots kd vd] 11), (it, ritO (mo + 1 : Nat) (left : Nat)), (hl', listO (herdV NC) eh'), (ch, listO (cellV C) e2), (111, tabO co), (co, lamCodeO tc c5 c6 c7 c8 c9)] (herdL NC) 0 → codeAny (PP w) A (forOf (lawS w) (.ref it) (envOf w 131 f q_law)) R ⟨h', g, d, t', os⟩) :
   codeAny (PP w) A (forOf (lawS w) (.ref it) (envOf w 131 f q_law)) R ⟨h, g, d, t0, os⟩ := by
  obtain ⟨b1, b2, hw⟩ := parF_ex w
  have hA' := hA.under (forOf (lawS w) (.ref it) (envOf w 131 f q_law)) (m := 149) (by kernel_rfl)
  obtain ⟨S, r0, rs, hrr, hSe, hS, hS1, hS2, hq1, hq2, hq3, hr0, hrs, hrl, hline⟩ := mo_pure gap H hH hne C mo hmo.2
  have hfin := fin_eq mo hmo.2
  have hf1 : (finT mo).take 1 = [66] := by rw [hfin]; rfl
  have hf2 : (finT mo).length ≤ 1000 := by rw [hfin]; show 4 ≤ 1000; decide
  have hf3 := fin_ok mo hmo.2
  refine code_start ?_
  refine Means.add0 ?_
  (refine segW (t0 := t0) (i := 0) 100000 [2] (Code.call (Value.builtin "range_iterator.__next__") { pos := [Value.ref it] : Args }) D (by assumption) (by assumption) ?_; intro o11; refine ⟨by kernel_rfl, by kernel_rfl, by kernel_rfl, by kernel_rfl, by kernel_rfl, fun h11 D11 => ?_⟩)
  refine callW_of rfl ?_
  rw [mark_none]
  refine r_rnext it mo (left + 1 : Nat) (by omega) (D11.give [0, 1] (by kernel_rfl)) fun g1 t1 t' a1 => ?_
  rw [show (mo : Int) + 1 = (mo + 1 : Nat) by omega, show ((left + 1 : Nat) : Int) - 1 = (left : Nat) by omega] at a1
  obtain ⟨B2, E2⟩ := D11.backP [0, 1] [1, 0, 2, 3, 4, 5] [(f, laF w k v0 (.ref ch) gap tg v3 hl v5 v6 v7 lx0 x0 tx0 [ent w n_dots kd0 vd0] 11), (it, ritO (mo + 1 : Nat) (left : Nat)), (hl, listO (herdV H) eh), (ch, listO (cellV C) e2), (111, tabO co), (co, lamCodeO tc c5 c6 c7 c8 c9)] (by kernel_rfl) a1 (by kernel_rfl)
  refine Means.add0 ?_
  (refine segL (t0 := t') (i := 0) 100000 [1, 1, 0, 1, 1, 1, 0] ((.call (.ref 121) ⟨[.int (.ofNat mo) t1, .ref hl, .ref ch], []⟩) ) E2 (by assumption) (by assumption) ?_; intro o12; refine ⟨by kernel_rfl, by kernel_rfl, by kernel_rfl, by kernel_rfl, fun h12 D12 => ?_⟩)
  refine law_mail w _ _ (Fit.inner hA' D12 _ (by kernel_rfl) (by kernel_rfl)) _ _ _ g d os mo t1 hl ch H C eh e2 hC hH.1 (fun c hc => by have z := hH.2 c hc; exact ⟨by omega, z.2.2.1, fun x hx => by have := z.2.2.2.1 x hx; omega⟩) (by omega) (D12.giveX [0, 0, 1, 1] (by kernel_rfl)) fun g2 t2 ra ta tb a2 => ?_
  obtain ⟨B3, E3⟩ := D12.backXP [0, 0, 1, 1] [3, 4, 1, 2, 5, 6, 0] [(f, laF w k v0 (.ref ch) gap tg v3 hl (.int (.ofNat mo) t1) v6 v7 lx0 x0 tx0 [ent w n_dots kd0 vd0] 11), (it, ritO (mo + 1 : Nat) (left : Nat)), (hl, listO (herdV H) eh), (ch, listO (cellV C) e2), (111, tabO co), (co, lamCodeO tc c5 c6 c7 c8 c9), (ra, tupO [.str ⟨⟨mailT mo C 0 H ++ hexS (16 + mo) ++ [12] ++ [46]⟩⟩ ta, .int (1 + mailN mo C 0 H) tb])] (by kernel_rfl) a2 (by kernel_rfl)
  refine Means.add0 ?_
  cases b1 <;> (
    (first | (refine segL (t0 := t2) (i := 0) 100000 [6, 6, 6, 1, 6, 7, 7, 1, 7, 7, 7, 6, 7, 7, 7, 1, 7, 7, 7, 6, 7, 7, 7, 1, 7, 7, 7, 6, 7, 7, 9, 1, 1, 1, 1, 0, 0, 1, 0] (Code.call (Value.ref 48) { pos := [Value.str { cps := { toList := mailT mo C 0 H ++ hexS (16 + mo) ++ [12] ++ [46] : Array Nat } : Str } ta] : Args }) E3 (by assumption) (by assumption) ?_; intro o13; refine ⟨by kernel_rfl!, by kernel_rfl!, by kernel_rfl!, by kernel_rfl!, fun h13 D13 => ?_⟩) | (refine segL (t0 := t2) (i := 0) 100000 [7, 7, 7, 1, 7, 8, 8, 1, 8, 8, 8, 7, 8, 8, 8, 1, 8, 8, 8, 7, 8, 8, 8, 1, 8, 8, 8, 7, 8, 8, 10, 1, 1, 1, 1, 0, 0, 1, 0] (Code.call (Value.ref 48) { pos := [Value.str { cps := { toList := mailT mo C 0 H ++ hexS (16 + mo) ++ [12] ++ [46] : Array Nat } : Str } ta] : Args }) E3 (by assumption) (by assumption) ?_; intro o13; refine ⟨by kernel_rfl!, by kernel_rfl!, by kernel_rfl!, by kernel_rfl!, fun h13 D13 => ?_⟩))
    refine quotedata w _ _ (Fit.inner hA' D13 _ (by kernel_rfl) (by kernel_rfl)) _ _ _ g d os (mailT mo C 0 H ++ hexS (16 + mo) ++ [12] ++ [46]) ta hq1 hq2 hq3 (D13.give [] (by kernel_rfl)) fun g4 t4 t5 a4 => ?_
    rw [hS]
    obtain ⟨B4, E4⟩ := D13.backP [] [0, 1, 2, 3, 4, 5] [(f, laF w k v0 (.ref ch) gap tg v3 hl (.int (.ofNat mo) t1) (.str ⟨⟨mailT mo C 0 H ++ hexS (16 + mo) ++ [12] ++ [46]⟩⟩ ta) (.int (1 + mailN mo C 0 H) tb) lx0 x0 tx0 [ent w n_dots kd0 vd0] 11), (it, ritO (mo + 1 : Nat) (left : Nat)), (hl, listO (herdV H) eh), (ch, listO (cellV C) e2), (111, tabO co), (co, lamCodeO tc c5 c6 c7 c8 c9)] (by kernel_rfl) a4 (by kernel_rfl)
    refine Means.add0 ?_
    (refine segL (t0 := t5) (i := 0) 100000 [0] ((.call (.ref 116) ⟨[.str ⟨⟨S⟩⟩ t4], []⟩) ) E4 (by assumption) (by assumption) ?_; intro o14; refine ⟨by kernel_rfl, by kernel_rfl, by kernel_rfl, by kernel_rfl, fun h14 D14 => ?_⟩)
    refine lexer_again w _ _ (Fit.inner hA' D14 _ (by kernel_rfl) (by kernel_rfl)) _ _ _ g d os S t4 co tc c5 c6 c7 c8 c9 hS1 (by omega) (D14.give [0, 0, 0, 0, 1, 1] (by kernel_rfl)) fun g5 t6 La st sd lam lx ld pb pb2 ce tu ep Qs k1 k2 hQs a5 => ?_
    obtain ⟨Q, hQ1, hQ2⟩ := sgn_of Qs S hQs
    rw [hQ1] at a5
    have hQ3 : Q.map (·.1) = [] ++ (r0.txt ++ (rowsS rs ++ finT mo)) := hQ2.trans hSe
    obtain ⟨B5, E5⟩ := D14.backP [0, 0, 0, 0, 1, 1] [8, 7, 5, 4, 1, 3, 6, 2, 9, 10, 11, 12, 13, 0] ((LX.mk lx ld st sd co ce lam tu tc c5 c6 c7 c8 c9 pb pb2 La k1).led w k2 1 (sgn Q) ep [] 0 ++ [(f, laF w k v0 (.ref ch) gap tg v3 hl (.int (.ofNat mo) t1) (.str ⟨⟨mailT mo C 0 H ++ hexS (16 + mo) ++ [12] ++ [46]⟩⟩ ta) (.int (1 + mailN mo C 0 H) tb) lx0 x0 tx0 [ent w n_dots kd0 vd0] 11), (it, ritO (mo + 1 : Nat) (left : Nat)), (hl, listO (herdV H) eh), (ch, listO (cellV C) e2), (111, tabO co)]) (by kernel_rfl) a5 (by kernel_rfl)
    clear a5 a4 a2 a1
    refine Means.add0 ?_
    generalize ha : LX.mk lx ld st sd co ce lam tu tc c5 c6 c7 c8 c9 pb pb2 La k1 = a at E5
    have hlx : lx = a.lx := by rw [← ha]
    have hco : co = a.co := by rw [← ha]
    rw [hlx]
    rw [hco] at E5
    (refine segL (t0 := t6) (i := 0) 100000 [10, 10, 10, 10, 10, 1, 0, 0, 0, 1, 0, 0, 0, 1, 0, 0, 0, 0, 1, 2, 0] (Code.call (Value.ref 83) { pos := [Value.ref a.lx] : Args }) E5 (by assumption) (by assumption) ?_; intro o15; refine ⟨by kernel_rfl, by kernel_rfl, by kernel_rfl, by kernel_rfl, fun h15 D15 => ?_⟩)
    refine gets_row w a Q 1 [] r0 (rowsS rs ++ finT mo) hr0 (fun _ hc => nomatch hc) hQ3 (by rw [← List.length_map (f := (·.1)), hQ2]; exact hS2) _ _ (Fit.inner hA' D15 _ (by kernel_rfl) (by kernel_rfl)) _ _ _ g d os k2 ep 0 _ (D15.give [1, 1, 1, 1, 1, 1, 1, 1, 1] (by kernel_rfl)) fun g6 t7 k3 ep3 pe3 t8 Q4 hQ4 a6 => ?_
    generalize hl4 : 1 + nls ([] ++ (r0.txt ++ (rowsS rs ++ finT mo))) - nls (tailS r0.e ++ (rowsS rs ++ finT mo)) = line4 at a6
    obtain ⟨B6, E6⟩ := D15.backP [1, 1, 1, 1, 1, 1, 1, 1, 1] [0, 1, 2, 3, 4, 5, 6, 7, 8, 14, 9, 10, 12, 13] (a.led w k3 line4 (sgn Q4) ep3 [] pe3 ++ [(B5, listO [] 0), (f, laF w k v0 (.ref ch) gap tg v3 B5 (.int (.ofNat mo) t1) (.str ⟨⟨mailT mo C 0 H ++ hexS (16 + mo) ++ [12] ++ [46]⟩⟩ ta) (.int (1 + mailN mo C 0 H) tb) a.lx x0 tx0 [ent w n_dots kd0 vd0] 11), (it, ritO (mo + 1 : Nat) (left : Nat)), (ch, listO (cellV C) e2), (111, tabO a.co)]) (by kernel_rfl) a6 (by kernel_rfl)
    refine Means.add0 ?_
    (refine segL (t0 := t7) (i := 0) 100000 [11, 11] ((whileOf (lawBody w 4) (envOf w 131 f q_law)) ) E6 (by assumption) (by assumption) ?_; intro o16; refine ⟨by kernel_rfl, by kernel_rfl, by kernel_rfl, by kernel_rfl, fun h16 D16 => ?_⟩)
    obtain ⟨B7, E7⟩ := D16.partX [0, 1, 2, 3, 4, 5, 6, 7, 8, 9, 10] [11, 12, 13] (a.led w k3 line4 (sgn Q4) ep3 [] pe3 ++ [(B5, listO [] 0), (f, laF w k v0 (.ref ch) gap tg v3 B5 (.int (.ofNat mo) t1) (.str ⟨⟨mailT mo C 0 H ++ hexS (16 + mo) ++ [12] ++ [46]⟩⟩ ta) (.int (1 + mailN mo C 0 H) tb) a.lx (List.replicate r0.k 46 ++ r0.name) t8 [ent w n_dots kd0 vd0] 11)]) [(it, ritO (mo + 1 : Nat) (left : Nat)), (ch, listO (cellV C) e2), (111, tabO a.co)] (by kernel_rfl) (by kernel_rfl)
    refine la_rows (hA'.ar (m := 100) _ (by kernel_rfl) (by kernel_rfl)) a _ _ _ _ _ _ _ gap tg B5 f hg1 (finT mo) hf1 hf2 hf3 rs r0 _ _ _ _ _ _ _ [] Q4 line4 k3 _ _ _ (tailS r0.e) (.inr ⟨_, _, rfl, rfl⟩) hrs (tailS_ws _) (by rw [List.length_nil]; omega) hQ4.1 hQ4.2 (E7.dropX) fun g8 B8 t9 t10 ep8 pe8 k8 eh8 NC kd vd hNC E8 => ?_
    rw [hline _ hl4.symm, List.nil_append] at E8
    have E8 := E8.perm (L' := (a.led w k8 (1 + mailN mo C 0 H) [] ep8 [] pe8 ++ [(B5, listO (herdV NC) eh8), (f, laF w k v0 (.ref ch) gap tg v3 B5 (.int (.ofNat mo) t1) (.str ⟨⟨mailT mo C 0 H ++ hexS (16 + mo) ++ [12] ++ [46]⟩⟩ ta) (.int (1 + mailN mo C 0 H) tb) a.lx (finT mo) t10 [ent w n_dots kd vd] 11)]) ++ [(it, ritO (mo + 1 : Nat) (left : Nat)), (ch, listO (cellV C) e2), (111, tabO a.co)]) (X' := herdL NC) (by rw [List.append_assoc _ _ (herdL NC)]; exact List.Perm.append_left _ List.perm_append_comm)
    refine Means.add0 ?_
    (refine segW (t0 := t9) (i := 0) 100000 [11, 11] (Code.call (Value.builtin "str.__getitem__") { pos := [Value.str { cps := { toList := [65, 66, 67, 68, 69, 70, 71, 72, 73, 74, 75, 76, 77, 78, 79, 80] : Array Nat } : Str } (t9 + 1), Value.int (Int.ofNat mo) t1] : Args }) E8 (by assumption) (by assumption) ?_; intro o17; refine ⟨by kernel_rfl, by kernel_rfl, by kernel_rfl, by kernel_rfl, by kernel_rfl, fun h17 D17 => ?_⟩)
    refine callW_of rfl ?_
    rw [mark_none]
    refine r_sget _ mo _ t1 (65 + mo) (by omega) (abc_at mo (by omega)) fun t11 t12 => ?_
    refine Means.add0 ?_
    (refine segW (t0 := t12) (i := 0) 100000 [1, 0, 0, 1, 1, 1] ((.call (.builtin "str.__ne__") ⟨[.str ⟨⟨finT mo⟩⟩ t10, .str ⟨⟨[66, 65 + mo, 12, 46]⟩⟩ (t12 + 5)], []⟩) ) D17 (by assumption) (by assumption) ?_; intro o18; refine ⟨by kernel_rfl, by kernel_rfl, by kernel_rfl, by kernel_rfl, by kernel_rfl, fun h18 D18 => ?_⟩)
    refine callW_of rfl ?_
    rw [mark_none]
    refine r_sne (finT mo) [66, 65 + mo, 12, 46] _ _ false (by rw [hfin]; simp) ?_
    refine Means.add0 ?_
    (refine segL (t0 := t12 + outI o18) (i := 0) 100000 [11, 1, 0, 0, 0, 1, 0, 0, 0, 1, 0, 0, 0, 0, 1, 2, 0] (Code.call (Value.ref 83) { pos := [Value.ref a.lx] : Args }) D18 (by assumption) (by assumption) ?_; intro o19; refine ⟨by kernel_rfl, by kernel_rfl, by kernel_rfl, by kernel_rfl, fun h19 D19 => ?_⟩)
    refine gt_none w _ _ (Fit.inner hA' D19 _ (by kernel_rfl) (by kernel_rfl)) _ _ _ g d os a k8 (1 + mailN mo C 0 H) ep8 pe8 (D19.give [1, 1, 1, 1, 1, 1, 1, 1, 1] (by kernel_rfl)) fun g9 t13 k9 ep9 t14 a9 => ?_
    obtain ⟨B9, E9⟩ := D19.backP [1, 1, 1, 1, 1, 1, 1, 1, 1] [0, 1, 2, 3, 4, 5, 6, 7, 8, 9, 10, 11, 12, 13] (a.led w k9 (1 + mailN mo C 0 H) [] ep9 [] pe8 ++ [(B5, listO (herdV NC) eh8), (f, laF w k v0 (.ref ch) gap tg v3 B5 (.int (.ofNat mo) t1) (.str ⟨⟨mailT mo C 0 H ++ hexS (16 + mo) ++ [12] ++ [46]⟩⟩ ta) (.int (1 + mailN mo C 0 H) tb) a.lx (finT mo) t10 [ent w n_dots kd vd] 11), (it, ritO (mo + 1 : Nat) (left : Nat)), (ch, listO (cellV C) e2), (111, tabO a.co)]) (by kernel_rfl) a9 (by kernel_rfl)
    refine Means.add0 ?_
    (refine segW (t0 := t13) (i := 0) 100000 [1, 11, 1, 0, 0, 0, 1, 1, 0, 0, 0, 1, 1, 0, 2, 11] (Code.call (Value.builtin "int.__ne__") { pos := [Value.int (1 + mailN mo C 0 H) (k9 1), Value.int (1 + mailN mo C 0 H) tb] : Args }) E9 (by assumption) (by assumption) ?_; intro o20; refine ⟨by kernel_rfl, by kernel_rfl, by kernel_rfl, by kernel_rfl, by kernel_rfl, fun h20 D20 => ?_⟩)
    refine callW_of rfl ?_
    rw [mark_none]
    refine r_ine (1 + mailN mo C 0 H) (1 + mailN mo C 0 H) _ tb false (by simp) ?_
    refine Means.add0 ?_
    (refine segF (t0 := t13 + outI o20) (i := 0) 100000 [] ((Fin.again (forOf (lawS w) (.ref it) (envOf w 131 f q_law))) ) D20 (by assumption) (by assumption) ?_; intro o21; refine ⟨by kernel_rfl, by kernel_rfl, by kernel_rfl, fun h21 D21 => ?_⟩)
    obtain ⟨BB, EE⟩ := D21.pickE [10, 11, 9, 12, 13, 4] [(f, laF w k v0 (.ref ch) gap tg v3 B5 (.int (.ofNat mo) t1) (.str ⟨⟨mailT mo C 0 H ++ hexS (16 + mo) ++ [12] ++ [46]⟩⟩ ta) (.int (1 + mailN mo C 0 H) tb) a.lx (finT mo) t10 [ent w n_dots kd vd] 11), (it, ritO (mo + 1 : Nat) (left : Nat)), (B5, listO (herdV NC) eh8), (ch, listO (cellV C) e2), (111, tabO a.co), (a.co, lamCodeO a.tc a.c5 a.c6 a.c7 a.c8 a.c9)] (by kernel_rfl)
    exact ⟨by kernel_rfl, hR _ _ _ _ _ _ _ _ _ _ _ _ _ _ _ _ _ _ _ _ _ _ (by rw [hrr]; exact hNC) EE⟩)
end Mine
end
section
open PySem PySem.W PySem.Calls PyProof.Rows
set_option Elab.async false
set_option maxRecDepth 100000
namespace Mine
def koLen : Ko → Nat
  | .base => 0
  | .ret _ _ _ κ => koLen κ + 1
  | .ent _ _ _ κ => koLen κ + 1
theorem cUnits_le (c : Code) : c.cUnits ≤ 10 := by
  have h := any_frames c
  unfold Code.cUnits
  split <;> omega
theorem around_units (A₀ : Around) : ∀ κ, (around A₀ κ).units ≤ A₀.units + 10 * koLen κ
  | .base => Nat.le_refl _
  | .ret c hd k κ => by
    show (around A₀ κ).units + c.cUnits ≤ A₀.units + 10 * (koLen κ + 1)
    have := around_units A₀ κ
    have := cUnits_le c
    omega
  | .ent c hd k κ => by
    show (around A₀ κ).units + c.cUnits ≤ A₀.units + 10 * (koLen κ + 1)
    have := around_units A₀ κ
    have := cUnits_le c
    omega
theorem r_herdeq {w : World} {A : Around} {h₀ : Heap} {R : Result → Shared → Prop} {B t0 : Nat} {g : Array GenState} {d : Drawn} {os : OsState} {mods : List Nat} {prog : Program} {kt : Nat → Option Obj}
   (l1 l2 e1 e2 : Nat) (H1 H2 : List Cow) (hk : H1.map cowKN = H2.map cowKN) (hu : A.units + 5 < cLine)
   (D : Rep kt h₀ mods h₀ B [(l1, listO (herdV H1) e1), (l2, listO (herdV H2) e2)] (herdL H1 ++ herdL H2) 0)
   (hR : R (.ok (.ret (.bool true))) ⟨h₀, g, d, t0, os⟩) :
   codeAny (model prog w) A (.call (.builtin "list.__eq__") ⟨[.ref l1, .ref l2], []⟩) R ⟨h₀, g, d, t0, os⟩ := by
  have hl1 : h₀.get? l1 = some (listO (herdV H1) e1) := D.get (j := 0) rfl
  have hl2 : h₀.get? l2 = some (listO (herdV H2) e2) := D.get (j := 1) rfl
  have hlen : H1.length = H2.length := by
    have := congrArg List.length hk
    rwa [List.length_map, List.length_map] at this
  refine code_meets F.slot_list_eq ⟨_, hl1, rfl⟩ F.entry_list_eq (F.args_list_eq_2 _ _) (PySem.SeqAt.list_eqAt l1 l2 ⟨herdV H1⟩ ⟨herdV H2⟩ e1 e2 none none #[] #[] (by show (herdV H1).length = (herdV H2).length; simp [herdV, hlen]) fun _ => true) ⟨hl1, hl2, ?_, ?_⟩
  · intro j h1 h2
    have h1' : j < H1.length := by have : (herdV H1).length = H1.length := by simp [herdV]
                                   have h1'' : j < (herdV H1).length := h1
                                   omega
    have h2' : j < H2.length := by omega
    have ev1 : (⟨herdV H1⟩ : Array Value)[j] = .ref (H1[j]).ad := by simp [herdV]
    have ev2 : (⟨herdV H2⟩ : Array Value)[j] = .ref (H2[j]).ad := by simp [herdV]
    have hkn : cowKN H1[j] = cowKN H2[j] := by
      have e := congrArg (fun l => l[j]?) hk
      simp only [List.getElem?_map, List.getElem?_eq_getElem h1', List.getElem?_eq_getElem h2', Option.map_some] at e
      exact Option.some.inj e
    have m1 : (H1[j]).row ∈ herdL H1 := List.mem_map.mpr ⟨_, List.getElem_mem h1', rfl⟩
    have m2 : (H2[j]).row ∈ herdL H2 := List.mem_map.mpr ⟨_, List.getElem_mem h2', rfl⟩
    have g1 : h₀.get? (H1[j]).ad = some (H1[j]).obj := D.at_ (H1[j]).row (List.mem_append_right _ (List.mem_append_left _ m1))
    have g2 : h₀.get? (H2[j]).ad = some (H2[j]).obj := D.at_ (H2[j]).row (List.mem_append_right _ (List.mem_append_right _ m2))
    have hne : (H1[j]).ad ≠ (H2[j]).ad := by
      have nd := D.nd
      rw [List.map_append] at nd
      have nd2 := (List.nodup_append.mp nd).2.1
      rw [List.map_append] at nd2
      exact (List.nodup_append.mp nd2).2.2 _ (List.mem_map.mpr ⟨_, m1, rfl⟩) _ (List.mem_map.mpr ⟨_, m2, rfl⟩)
    generalize H1[j] = a at *
    generalize H2[j] = b at *
    obtain ⟨a1, a2, a3, a4, a5⟩ := a
    obtain ⟨b1, b2, b3, b4, b5⟩ := b
    obtain ⟨e3, e4⟩ : a2 = b2 ∧ a4 = b4 := ⟨congrArg Prod.fst hkn, congrArg Prod.snd hkn⟩
    subst e3 e4
    rw [ev1, ev2]
    refine PySem.SeqAt.EqAt.of_refs hne ?_
    have key := PySem.SeqAt.RcAt.tuples (A := A.in1) (s := ⟨h₀, g, d, t0, os⟩) (l := a1) (b := b1) (items := ⟨[.int (.ofNat a2) a3, .str ⟨⟨a4⟩⟩ a5]⟩) (items2 := ⟨[.int (.ofNat a2) b3, .str ⟨⟨a4⟩⟩ b5]⟩) (e := fun _ => true) ⟨_, g1, rfl, 0, rfl⟩ ⟨_, g2, rfl, 0, rfl⟩ (by show A.units + 1 < cLine; omega) (by
      intro i i1 i2
      have i1' : i < 2 := i1
      match i, i1' with
      | 0, _ =>
        have z := PySem.SeqAt.EqAt.int_int (A := A.in1.in1) (s := ⟨h₀, g, d, t0, os⟩) (.ofNat a2) a3 (.ofNat a2) b3
        rw [beq_self_eq_true] at z
        exact z
      | 1, _ =>
        have z := PySem.SeqAt.EqAt.str_str (A := A.in1.in1) (s := ⟨h₀, g, d, t0, os⟩) ⟨⟨a4⟩⟩ a5 ⟨⟨a4⟩⟩ b5
        rw [beq_self_eq_true] at z
        exact z)
    exact key
  · have : (List.range (⟨herdV H1⟩ : Array Value).size).all (fun _ => true) = true := by simp
    rw [this]
    exact hR
/-- the herd's numbers and names, month by month -/
def stepH (gap : Int) (L : List (Nat × List Nat)) : List (Nat × List Nat) := L.flatMap fun p => procRow gap (p.1 + 1) p.2
def herdP (gap : Int) : Nat → List (Nat × List Nat)
  | 0 => [(1, [66])]
  | m + 1 => stepH gap (herdP gap m)
def okKN (gap : Int) (L : List (Nat × List Nat)) : Bool := !L.isEmpty && decide (L.length ≤ 1000) && L.all fun p => decide (1 ≤ p.1) && decide (p.1 ≤ 999) && decide (p.2.length ≤ 1000) && (p.2.all fun a => decide (65 ≤ a) && decide (a ≤ 80)) && decide (calfN gap (p.1 + 1) p.2 < 1048576)
theorem okKN_h (gap : Int) (H : List Cow) (h : okKN gap (H.map cowKN) = true) : HOk gap H ∧ H ≠ [] := by
  unfold okKN at h
  simp only [Bool.and_eq_true, decide_eq_true_eq, List.all_eq_true] at h
  obtain ⟨⟨h1, h2⟩, h3⟩ := h
  rw [List.length_map] at h2
  refine ⟨⟨h2, fun c hc => ?_⟩, fun e => by rw [e] at h1; cases h1⟩
  obtain ⟨⟨⟨⟨a, b⟩, c'⟩, d'⟩, e'⟩ := h3 (cowKN c) (List.mem_map.mpr ⟨c, hc, rfl⟩)
  exact ⟨a, b, c', fun x hx => d' x hx, fun _ => e'⟩
theorem proc_step (gap : Int) (mo : Nat) (C : List (Nat × Nat)) : ∀ (H : List Cow) (j : Nat), procRows gap (rowsOf mo C j H) = stepH gap (H.map cowKN) := by
  intro H
  induction H with
  | nil => intro j; rfl
  | cons c H ih =>
    intro j
    show procRow gap (c.dots + 1) c.name ++ procRows gap (rowsOf mo C (j + 1) H) = procRow gap (c.dots + 1) c.name ++ stepH gap (H.map cowKN)
    rw [ih]
theorem mo_end (w : World) (A : Around) (h₀ : Heap) (mods : List Nat) (hA : Fit 150 A (kt1 w) h₀) (R : Result → Shared → Prop) (g : Array GenState) (d : Drawn) (os : OsState) (f it : Nat) (fo : Obj) (x : Int) (X : Led) (h : Heap) (B t0 : Nat)
   (D : Rep (kt1 w) h₀ mods h B [(f, fo), (it, ritO x 0)] X 0)
   (hR : ∀ h' B' t', Rep (kt1 w) h₀ mods h' B' [(f, fo)] X 0 → R (.ok .next) ⟨h', g, d, t', os⟩) :
   codeAny (PP w) A (forOf (lawS w) (.ref it) (envOf w 131 f q_law)) R ⟨h, g, d, t0, os⟩ := by
  obtain ⟨b1, b2, hw⟩ := parF_ex w
  have hA' := hA.under (forOf (lawS w) (.ref it) (envOf w 131 f q_law)) (m := 149) (by kernel_rfl)
  refine code_start ?_
  refine Means.add0 ?_
  (refine segW (t0 := t0) (i := 0) 100000 [2] (Code.call (Value.builtin "range_iterator.__next__") { pos := [Value.ref it] : Args }) D (by assumption) (by assumption) ?_; intro o11; refine ⟨by kernel_rfl, by kernel_rfl, by kernel_rfl, by kernel_rfl, by kernel_rfl, fun h11 D11 => ?_⟩)
  refine callW_of rfl ?_
  rw [mark_none]
  refine r_rend (Fit.inner hA' D11 _ (by kernel_rfl) (by kernel_rfl)) it x (D11.give [0, 1] (by kernel_rfl)) fun g1 t' a b a1 => ?_
  obtain ⟨B2, E2⟩ := D11.backP [0, 1] [0, 1, 2] [(b, tupO []), (a, stopO b), (f, fo)] (by kernel_rfl) a1 (by kernel_rfl)
  refine Means.add0 ?_
  (refine segF (t0 := t') (i := 0) 100000 [2] ((Fin.again (Code.block [] (envOf w 131 f q_law))) ) E2 (by assumption) (by assumption) ?_; intro o12; refine ⟨by kernel_rfl, by kernel_rfl, by kernel_rfl, fun h12 D12 => ?_⟩)
  obtain ⟨B3, E3⟩ := D12.pickE [2] [(f, fo)] (by kernel_rfl)
  have hA2 := hA.under (Code.block [] (envOf w 131 f q_law)) (m := 0) (by kernel_rfl)
  refine ⟨by kernel_rfl, code_start ?_⟩
  refine Means.add0 ?_
  (refine segF (t0 := t' + outI o12) (i := 0) 100000 [] (Fin.done Flow.next) E3 (by assumption) (by assumption) ?_; intro o13; refine ⟨by kernel_rfl, by kernel_rfl, by kernel_rfl, fun h13 D13 => ?_⟩)
  obtain ⟨B4, E4⟩ := D13.pickE [0] [(f, fo)] (by kernel_rfl)
  exact hR _ _ _ E4
section
variable {w : World} {A : Around} {h₀ : Heap} {mods : List Nat} {R : Result → Shared → Prop} {g : Array GenState} {d : Drawn} {os : OsState}
theorem mo_loop (hA : Fit 150 A (kt1 w) h₀) (v0 v3 : Value) (gap : Int) (tg ch f it e2 : Nat) (hg1 : 1 ≤ gap) (C : List (Nat × Nat)) (hC : C.length = 16) (M : Nat) (hM : M ≤ 15) (hok : ∀ m < M, okKN gap (herdP gap m) = true) :
   ∀ (left : Nat) (h : Heap) (B t0 hl eh : Nat) (k : Nat → Nat) (H : List Cow) (v5 v6 v7 : Value) (lx tx : Nat) (x : List Nat) (kd : Nat) (vd : Value) (co tc c5 c6 c7 c8 c9 : Nat), left < M → H.map cowKN = herdP gap (M - left) →
   Rep (kt1 w) h₀ mods h B [(f, laF w k v0 (.ref ch) gap tg v3 hl v5 v6 v7 lx x tx [ent w n_dots kd vd] 11), (it, ritO (M + 1 - left : Nat) (left : Nat)), (hl, listO (herdV H) eh), (ch, listO (cellV C) e2), (111, tabO co), (co, lamCodeO tc c5 c6 c7 c8 c9)] (herdL H) 0 →
   (∀ h' B' t' hl' eh' NC k' v5 v6 v7 lx x tx kd vd co tc c5 c6 c7 c8 c9, NC.map cowKN = herdP gap M → Rep (kt1 w) h₀ mods h' B' [(f, laF w k' v0 (.ref ch) gap tg v3 hl' v5 v6 v7 lx x tx [ent w n_dots kd vd] 11), (hl', listO (herdV NC) eh'), (ch, listO (cellV C) e2), (111, tabO co), (co, lamCodeO tc c5 c6 c7 c8 c9)] (herdL NC) 0 → R (.ok .next) ⟨h', g, d, t', os⟩) →
   codeAny (PP w) A (forOf (lawS w) (.ref it) (envOf w 131 f q_law)) R ⟨h, g, d, t0, os⟩ := by
  intro left
  induction left with
  | zero =>
    intro h B t0 hl eh k H v5 v6 v7 lx tx x kd vd co tc c5 c6 c7 c8 c9 hlt hH D hR
    obtain ⟨B2, D2⟩ := D.partX [0, 1] [2, 3, 4, 5] [(f, laF w k v0 (.ref ch) gap tg v3 hl v5 v6 v7 lx x tx [ent w n_dots kd vd] 11), (it, ritO (M + 1 - 0 : Nat) (0 : Nat))] [(hl, listO (herdV H) eh), (ch, listO (cellV C) e2), (111, tabO co), (co, lamCodeO tc c5 c6 c7 c8 c9)] rfl rfl
    refine mo_end w A h₀ mods hA R g d os f it _ _ _ h B2 t0 D2 fun h' B' t' D' => ?_
    exact hR h' B' t' hl eh H k v5 v6 v7 lx x tx kd vd co tc c5 c6 c7 c8 c9 (by rw [hH]; rfl) D'.unpartX
  | succ left ih =>
    intro h B t0 hl eh k H v5 v6 v7 lx tx x kd vd co tc c5 c6 c7 c8 c9 hlt hH D hR
    obtain ⟨hHo, hHn⟩ := okKN_h gap H (by rw [hH]; exact hok _ (by omega))
    refine mo_later w A h₀ mods hA R g d os k v0 v3 gap tg hl ch f it hg1 H hHo hHn C hC (M + 1 - (left + 1)) left ⟨by omega, by omega⟩ v5 v6 v7 lx tx x kd vd co tc c5 c6 c7 c8 c9 h B t0 eh e2 D ?_
    intro h' B' t' hl' eh' NC k' v5' v6' v7' lx' x' tx' kd' vd' co' tc' c5' c6' c7' c8' c9' hNC D'
    have e1 : M + 1 - (left + 1) + 1 = M + 1 - left := by omega
    rw [e1] at D'
    refine ih h' B' t' hl' eh' k' NC v5' v6' v7' lx' tx' x' kd' vd' co' tc' c5' c6' c7' c8' c9' (by omega) ?_ D' hR
    rw [hNC, proc_step, hH, show M - left = (M - (left + 1)) + 1 by omega]
    rfl
theorem mo_all (hA : Fit 150 A (kt1 w) h₀) (v0 v3 : Value) (gap : Int) (tg ch f it e2 : Nat) (hg1 : 1 ≤ gap) (C : List (Nat × Nat)) (hC : C.length = 16) (M : Nat) (hM : M ≤ 15) (hM1 : 1 ≤ M) (hok : ∀ m < M, okKN gap (herdP gap m) = true)
   (h : Heap) (B t0 hl eh : Nat) (k : Nat → Nat) (H : List Cow) (hH : H.map cowKN = herdP gap 0)
   (D : Rep (kt1 w) h₀ mods h B [(f, la5 w k v0 ch gap tg v3 hl [] 5), (it, ritO (1 : Nat) (M : Nat)), (hl, listO (herdV H) eh), (ch, listO (cellV C) e2), (111, obAt w 111)] (herdL H) 0)
   (hR : ∀ h' B' t' hl' eh' NC k' v5 v6 v7 lx x tx kd vd co tc c5 c6 c7 c8 c9, NC.map cowKN = herdP gap M → Rep (kt1 w) h₀ mods h' B' [(f, laF w k' v0 (.ref ch) gap tg v3 hl' v5 v6 v7 lx x tx [ent w n_dots kd vd] 11), (hl', listO (herdV NC) eh'), (ch, listO (cellV C) e2), (111, tabO co), (co, lamCodeO tc c5 c6 c7 c8 c9)] (herdL NC) 0 → R (.ok .next) ⟨h', g, d, t', os⟩) :
   codeAny (PP w) A (forOf (lawS w) (.ref it) (envOf w 131 f q_law)) R ⟨h, g, d, t0, os⟩ := by
  obtain ⟨M, rfl⟩ : ∃ m, M = m + 1 := ⟨M - 1, by omega⟩
  obtain ⟨hHo, hHn⟩ := okKN_h gap H (by rw [hH]; exact hok 0 (by omega))
  refine mo_first w A h₀ mods hA R g d os k v0 v3 gap tg hl ch f it hg1 H hHo hHn C hC 1 M ⟨by omega, by omega⟩ h B t0 eh e2 D ?_
  intro h' B' t' hl' eh' NC k' v5' v6' v7' lx' x' tx' kd' vd' co' tc' c5' c6' c7' c8' c9' hNC D'
  have e1 : 1 + 1 = M + 1 + 1 - M := by omega
  rw [e1] at D'
  refine mo_loop hA v0 v3 gap tg ch f it e2 hg1 C hC (M + 1) hM hok M h' B' t' hl' eh' k' NC v5' v6' v7' lx' tx' x' kd' vd' co' tc' c5' c6' c7' c8' c9' (by omega) ?_ D' hR
  rw [hNC, proc_step, hH, show M + 1 - M = 0 + 1 by omega]
  rfl
end
end Mine
end
section
open PySem PySem.W PySem.Calls PyProof.Rows
set_option Elab.async false
set_option maxRecDepth 100000
namespace Mine
def natV (Q : List (Nat × Nat)) : List Value := Q.map fun p => .int (.ofNat p.1) p.2
theorem natV_len (Q : List (Nat × Nat)) : (natV Q).length = Q.length := by simp [natV]
section
variable {w : World} {A : Around} {h₀ : Heap} {R : Result → Shared → Prop} {B t0 : Nat} {g : Array GenState} {d : Drawn} {os : OsState} {mods : List Nat} {prog : Program} {kt : Nat → Option Obj}
theorem r_ile (a b : Int) (t u : Nat) (v : Bool) (hv : decide (a ≤ b) = v) {s : Shared} (hR : R (.ok (.ret (.bool v))) s) :
   codeAny (model prog w) A (.call (.builtin "int.__le__") ⟨[.int a t, .int b u], []⟩) R s := by
  refine code_meets F.slot_int_le (typeIs_int _ _ _) F.entry_int_le (F.args_int_le_2 _ _) (gives_int_le a b t u).meets ?_
  show R (.ok (.ret (.bool (decide (a ≤ b))))) s
  rw [hv]
  exact hR
theorem r_lgetlast (la ep t : Nat) (l : List Value) (x : Value) (D : Rep kt h₀ mods h₀ B [(la, listO (l ++ [x]) ep)] [] 0) (hz : l.length ≤ 16777000)
   (hR : R (.ok (.ret x)) ⟨h₀, g, d, t0, os⟩) :
   codeAny (model prog w) A (.call (.builtin "list.__getitem__") ⟨[.ref la, .int (-1) t], []⟩) R ⟨h₀, g, d, t0, os⟩ := by
  have hl : h₀.get? la = some (listO (l ++ [x]) ep) := D.get (j := 0) rfl
  refine code_slot F.slot_list_getitem ⟨_, hl, rfl⟩ F.entry_list_getitem (F.args_list_getitem_2 _ _) ?_
  show wpAny _ _ (Builtin.List.listSubscript? (.int (-1) t) >>= _) _ _ _
  refine wpAny_bind (wpAny_listSubscript_int (fitsIndex_neg (by decide) (by decide)) ?_)
  have hidx : seqIndex? (-1) (⟨l ++ [x]⟩ : Array Value).size = some l.length := by
    have hs : (⟨l ++ [x]⟩ : Array Value).size = l.length + 1 := by show (l ++ [x]).length = _; simp
    rw [seqIndex_neg (by decide) (by rw [hs]; omega), hs]
    congr 1
    omega
  show wpAny _ _ ((Builtin.List.listItems (.ref la) >>= fun xs => pure ((seqIndex? (Int.negSucc 0) xs.size).bind fun i => xs[i]?.map (i, ·))) >>= _) _ _ _
  refine wpAny_bind (wpAny_bind ?_)
  show wpAny _ _ (seqItems? (.ref la) >>= _) _ _ _
  refine wpAny_bind (wpAny_seqItems (items := ⟨l ++ [x]⟩) (n := ep) hl rfl (wpAny_pure (wpAny_pure ?_)))
  rw [show (Int.negSucc 0) = (-1 : Int) from rfl, hidx]
  have hx' : (⟨l ++ [x]⟩ : Array Value)[l.length]? = some x := by rw [List.getElem?_toArray]; simp
  simp only [Option.bind_some, hx', Option.map_some]
  exact wpAny_pure hR
theorem r_max2 (hA : Fit 10 A kt h₀) (x : Int) (t u : Nat) (D : Rep kt h₀ mods h₀ B [] [] 0)
   (hR : ∀ h1 t1 t', After h₀ h1 mods [] → R (.ok (.ret (.int (max 0 x) t1))) ⟨h1, g, d, t', os⟩) :
   codeAny (model prog w) A (.call (.builtin "max") ⟨[.int 0 t, .int x u], []⟩) R ⟨h₀, g, d, t0, os⟩ := by
  obtain ⟨b1, b2, hw⟩ := parF_ex w
  refine code_go ?_
  refine Means.add0 ?_
  cases b1 <;> (
    (refine segW (t0 := t0) (i := 0) 100000 [1, 1, 1, 1, 2, 3, 2, 1, 2, 2, 2, 1, 2, 2, 3, 3, 3, 3, 2, 1, 2, 2, 2, 1, 2, 2] (Code.call (Value.builtin "int.__gt__") { pos := [Value.int x u, Value.int 0 t] : Args }) D (by assumption) (by assumption) ?_; intro o11; refine ⟨by kernel_rfl, by kernel_rfl, by kernel_rfl, by kernel_rfl, by kernel_rfl, fun h11 D11 => ?_⟩)
    refine callW_of rfl ?_
    rw [mark_none]
    by_cases hx : x > 0
    · refine r_igt x 0 u t true (decide_eq_true hx) ?_
      refine Means.add0 ?_
      (refine segF (t0 := t0 + outI o11) (i := 0) 100000 [3, 3, 3, 3, 2, 1, 2, 2, 2, 1, 2, 2, 5, 3, 3, 3] ((Fin.done (Flow.ret (.int x u))) ) D11 (by assumption) (by assumption) ?_; intro o12; refine ⟨by kernel_rfl, by kernel_rfl, by kernel_rfl, fun h12 D12 => ?_⟩)
      rw [show max 0 x = x by omega] at hR
      exact hR _ _ _ (D12.fin [] rfl)
    · refine r_igt x 0 u t false (decide_eq_false hx) ?_
      refine Means.add0 ?_
      (refine segF (t0 := t0 + outI o11) (i := 0) 100000 [3, 2, 1, 2, 2, 2, 1, 2, 2, 5, 3, 3, 3] ((Fin.done (Flow.ret (.int 0 t))) ) D11 (by assumption) (by assumption) ?_; intro o13; refine ⟨by kernel_rfl, by kernel_rfl, by kernel_rfl, fun h13 D13 => ?_⟩)
      rw [show max 0 x = 0 by omega] at hR
      exact hR _ _ _ (D13.fin [] rfl))
def maxQ (m : Nat × Nat) (Q : List (Nat × Nat)) : Nat × Nat := Q.foldl (fun m q => if q.1 > m.1 then q else m) m
theorem max_loop (hA : Fit 10 A kt h₀) (la le it bst : Nat) : ∀ (rest pre : List (Nat × Nat)) (m : Nat × Nat) (h : Heap) (B t0 ep : Nat),
   Rep kt h₀ mods h B [(it, iterO "list_iterator" (.ref la) pre.length), (la, listO (natV (pre ++ rest)) le), (bst, listO [.int (.ofNat m.1) m.2, .int (.ofNat m.1) m.2] ep)] [] 0 →
   (∀ h' B' t', Rep kt h₀ mods h' B' [(la, listO (natV (pre ++ rest)) le)] [] 0 → R (.ok (.ret (.int (.ofNat (maxQ m rest).1) (maxQ m rest).2))) ⟨h', g, d, t', os⟩) →
   codeAny (model prog w) A (.builtin "max.loop" ⟨[.ref it, .none, .ref bst], []⟩) R ⟨h, g, d, t0, os⟩ := by
  obtain ⟨b1, b2, hw⟩ := parF_ex w
  have hA' := hA.under (.builtin "max.loop" ⟨[.ref it, .none, .ref bst], []⟩) (m := 9) (by kernel_rfl)
  intro rest
  induction rest with
  | nil =>
    intro pre m h B t0 ep D hR
    refine code_start ?_
    refine Means.add0 ?_
    (refine segW (t0 := t0) (i := 0) 100000 [3, 1] (Code.call (Value.builtin "list_iterator.__next__") { pos := [Value.ref it] : Args }) D (by assumption) (by assumption) ?_; intro o21; refine ⟨by kernel_rfl, by kernel_rfl, by kernel_rfl, by kernel_rfl, by kernel_rfl, fun h21 D21 => ?_⟩)
    refine callW_of rfl ?_
    rw [mark_none]
    refine r_lend (Fit.inner hA' D21 _ (by kernel_rfl) (by kernel_rfl)) it la pre.length le (natV (pre ++ [])) (by simp [natV]) (D21.give [1, 1] (by kernel_rfl)) fun g1 t' x y a1 => ?_
    obtain ⟨B2, E1⟩ := D21.backP [1, 1] [0, 1, 2, 3] [(la, listO (natV (pre ++ [])) le), (y, tupO []), (x, stopO y), (bst, listO [.int (.ofNat m.1) m.2, .int (.ofNat m.1) m.2] ep)] (by kernel_rfl) a1 (by kernel_rfl)
    refine Means.add0 ?_
    (refine segF (t0 := t') (i := 0) 100000 [3, 4, 4, 4] ((Fin.done (Flow.ret (.int (.ofNat m.1) m.2))) ) E1 (by assumption) (by assumption) ?_; intro o22; refine ⟨by kernel_rfl, by kernel_rfl, by kernel_rfl, fun h22 D22 => ?_⟩)
    obtain ⟨B3, E2⟩ := D22.pickE [0] [(la, listO (natV (pre ++ [])) le)] (by kernel_rfl)
    exact hR _ _ _ E2
  | cons q rest ih =>
    intro pre m h B t0 ep D hR
    refine code_start ?_
    refine Means.add0 ?_
    (refine segW (t0 := t0) (i := 0) 100000 [3, 1] (Code.call (Value.builtin "list_iterator.__next__") { pos := [Value.ref it] : Args }) D (by assumption) (by assumption) ?_; intro o31; refine ⟨by kernel_rfl, by kernel_rfl, by kernel_rfl, by kernel_rfl, by kernel_rfl, fun h31 D31 => ?_⟩)
    refine callW_of rfl ?_
    rw [mark_none]
    refine r_lnext (Fit.inner hA' D31 _ (by kernel_rfl) (by kernel_rfl)) it la pre.length le (natV (pre ++ q :: rest)) (.int (.ofNat q.1) q.2) (by simp [natV]) (D31.give [1, 1] (by kernel_rfl)) fun g1 t' a1 => ?_
    obtain ⟨B2, E1⟩ := D31.backP [1, 1] [0, 1, 2] [(it, iterO "list_iterator" (.ref la) (pre.length + 1)), (la, listO (natV (pre ++ q :: rest)) le), (bst, listO [.int (.ofNat m.1) m.2, .int (.ofNat m.1) m.2] ep)] (by kernel_rfl) a1 (by kernel_rfl)
    refine Means.add0 ?_
    have e1 : pre ++ q :: rest = (pre ++ [q]) ++ rest := by simp
    have e2 : pre.length + 1 = (pre ++ [q]).length := by simp
    cases b1 <;> (
      (refine segW (t0 := t') (i := 0) 100000 [] (Code.call (Value.builtin "int.__gt__") { pos := [Value.int (Int.ofNat q.fst) q.snd, Value.int (Int.ofNat m.fst) m.snd] : Args }) E1 (by assumption) (by assumption) ?_; intro o32; refine ⟨by kernel_rfl, by kernel_rfl, by kernel_rfl, by kernel_rfl, by kernel_rfl, fun h32 D32 => ?_⟩)
      refine callW_of rfl ?_
      rw [mark_none]
      by_cases hx : q.1 > m.1
      · refine r_igt (.ofNat q.1) (.ofNat m.1) q.2 m.2 true (decide_eq_true (by have e3 : (Int.ofNat q.1) = (q.1 : Int) := rfl; have e4 : (Int.ofNat m.1) = (m.1 : Int) := rfl; omega)) ?_
        refine Means.add0 ?_
        (refine segF (t0 := t' + outI o32) (i := 0) 100000 [3, 3, 3] ((Fin.again (.builtin "max.loop" ⟨[.ref it, .none, .ref bst], []⟩)) ) D32 (by assumption) (by assumption) ?_; intro o33; refine ⟨by kernel_rfl, by kernel_rfl, by kernel_rfl, fun h33 D33 => ?_⟩)
        obtain ⟨B3, E3⟩ := D33.pickE [0, 1, 2] [(it, iterO "list_iterator" (.ref la) (pre.length + 1)), (la, listO (natV (pre ++ q :: rest)) le), (bst, listO [.int (.ofNat q.1) q.2, .int (.ofNat q.1) q.2] (ep + 0))] (by kernel_rfl)
        rw [e1, e2] at E3
        refine ⟨by kernel_rfl, ih (pre ++ [q]) q _ _ _ _ E3 fun h' B' t' D' => ?_⟩
        have := hR h' B' t' (by rw [e1]; exact D')
        rw [show maxQ m (q :: rest) = maxQ q rest from by show maxQ (if q.1 > m.1 then q else m) rest = _; rw [if_pos hx]] at this
        exact this
      · refine r_igt (.ofNat q.1) (.ofNat m.1) q.2 m.2 false (decide_eq_false (by have e3 : (Int.ofNat q.1) = (q.1 : Int) := rfl; have e4 : (Int.ofNat m.1) = (m.1 : Int) := rfl; omega)) ?_
        refine Means.add0 ?_
        (refine segF (t0 := t' + outI o32) (i := 0) 100000 [] ((Fin.again (.builtin "max.loop" ⟨[.ref it, .none, .ref bst], []⟩)) ) D32 (by assumption) (by assumption) ?_; intro o34; refine ⟨by kernel_rfl, by kernel_rfl, by kernel_rfl, fun h34 D34 => ?_⟩)
        obtain ⟨B3, E3⟩ := D34.pickE [0, 1, 2] [(it, iterO "list_iterator" (.ref la) (pre.length + 1)), (la, listO (natV (pre ++ q :: rest)) le), (bst, listO [.int (.ofNat m.1) m.2, .int (.ofNat m.1) m.2] ep)] (by kernel_rfl)
        rw [e1, e2] at E3
        refine ⟨by kernel_rfl, ih (pre ++ [q]) m _ _ _ _ E3 fun h' B' t' D' => ?_⟩
        have := hR h' B' t' (by rw [e1]; exact D')
        rw [show maxQ m (q :: rest) = maxQ m rest from by show maxQ (if q.1 > m.1 then q else m) rest = _; rw [if_neg hx]] at this
        exact this)
/-- max of a list that isn't empty -/
theorem r_maxlist (hA : Fit 20 A kt h₀) (la le : Nat) (q : Nat × Nat) (rest : List (Nat × Nat)) (D : Rep kt h₀ mods h₀ B [(la, listO (natV (q :: rest)) le)] [] 0)
   (hR : ∀ h1 t', After h₀ h1 mods [(la, listO (natV (q :: rest)) le)] → R (.ok (.ret (.int (.ofNat (maxQ q rest).1) (maxQ q rest).2))) ⟨h1, g, d, t', os⟩) :
   codeAny (model prog w) A (.call (.builtin "max") ⟨[.ref la], []⟩) R ⟨h₀, g, d, t0, os⟩ := by
  obtain ⟨b1, b2, hw⟩ := parF_ex w
  have hA1 := hA.under (.call (.builtin "max") ⟨[.ref la], []⟩) (m := 20) (by kernel_rfl)
  refine code_start ?_
  refine Means.add0 ?_
  (refine segF (t0 := t0) (i := 0) 100000 [] ((Fin.again (.builtin "max" ⟨[.ref la], []⟩)) ) D (by assumption) (by assumption) ?_; intro o41; refine ⟨by kernel_rfl, by kernel_rfl, by kernel_rfl, fun h41 D41 => ?_⟩)
  obtain ⟨B1, E1⟩ := D41.pickE [0] [(la, listO (natV (q :: rest)) le)] (by kernel_rfl)
  refine ⟨by kernel_rfl, code_start ?_⟩
  have hA2 := hA.under (.builtin "max" ⟨[.ref la], []⟩) (m := 20) (by kernel_rfl)
  clear hA1 D41
  refine Means.add0 ?_
  cases b1 <;> (
    (refine segF (t0 := t0 + outI o41) (i := 0) 100000 [1, 1, 1, 1, 2] ((Fin.again (.builtin "max.loop" ⟨[.ref B1, .none, .ref (B1 + 1)], []⟩)) ) E1 (by assumption) (by assumption) ?_; intro o42; refine ⟨by kernel_rfl, by kernel_rfl, by kernel_rfl, fun h42 D42 => ?_⟩)
    obtain ⟨B2, E2⟩ := D42.pickE [1, 0, 2] [(B1, iterO "list_iterator" (.ref la) 0), (la, listO (natV (q :: rest)) le), (B1 + 1, listO [] 0)] (by kernel_rfl)
    refine ⟨by kernel_rfl, code_start ?_⟩
    have hA3 := hA.under (.builtin "max.loop" ⟨[.ref B1, .none, .ref (B1 + 1)], []⟩) (m := 19) (by kernel_rfl)
    clear hA2
    refine Means.add0 ?_
    (refine segW (t0 := t0 + outI o41 + outI o42) (i := 0) 100000 [3, 1] (Code.call (Value.builtin "list_iterator.__next__") { pos := [Value.ref B1] : Args }) E2 (by assumption) (by assumption) ?_; intro o43; refine ⟨by kernel_rfl, by kernel_rfl, by kernel_rfl, by kernel_rfl, by kernel_rfl, fun h43 D43 => ?_⟩)
    refine callW_of rfl ?_
    rw [mark_none]
    refine r_lnext (Fit.inner hA3 D43 _ (by kernel_rfl) (by kernel_rfl)) B1 la 0 le (natV (q :: rest)) (.int (.ofNat q.1) q.2) rfl (D43.give [1, 1] (by kernel_rfl)) fun g1 t' a1 => ?_
    obtain ⟨B4, E4⟩ := D43.backP [1, 1] [0, 1, 2] [(B1, iterO "list_iterator" (.ref la) 1), (la, listO (natV (q :: rest)) le), (B1 + 1, listO [] 0)] (by kernel_rfl) a1 (by kernel_rfl)
    refine Means.add0 ?_
    (refine segF (t0 := t') (i := 0) 100000 [3, 3, 3] ((Fin.again (.builtin "max.loop" ⟨[.ref B1, .none, .ref (B1 + 1)], []⟩)) ) E4 (by assumption) (by assumption) ?_; intro o44; refine ⟨by kernel_rfl, by kernel_rfl, by kernel_rfl, fun h44 D44 => ?_⟩)
    obtain ⟨B5, E5⟩ := D44.pickE [0, 1, 2] [(B1, iterO "list_iterator" (.ref la) ([q] : List (Nat × Nat)).length), (la, listO (natV ([q] ++ rest)) le), (B1 + 1, listO [.int (.ofNat q.1) q.2, .int (.ofNat q.1) q.2] 1)] (by kernel_rfl)
    refine ⟨by kernel_rfl, max_loop (hA.less (by kernel_rfl)) la le B1 (B1 + 1) rest [q] q _ _ _ _ E5 fun h' B' t'' D' => ?_⟩
    exact hR _ _ (D'.finP [0] rfl))
end
end Mine
end
section
open PySem PySem.W PySem.Calls PyProof.Rows
set_option Elab.async false
set_option maxRecDepth 100000
namespace Mine
def q_due := [95, 108, 97, 119, 95, 100, 117, 101, 46, 60, 108, 111, 99, 97, 108, 115, 62, 46]
def n_terms := [116, 101, 114, 109, 115]
def n_due := [100, 117, 101]
def n_rest := [114, 101, 115, 116]
def n_taken := [116, 97, 107, 101, 110]
def n_best := [98, 101, 115, 116]
def n_falls := [102, 97, 108, 108, 115]
noncomputable def envD (w : World) (f cg ct cr ck : Nat) : Env := { scope := (fdAt w 126).scope, locals := f, globals := 3, cells := [(⟨⟨n_taken⟩⟩, ck), (⟨⟨n_rest⟩⟩, cr), (⟨⟨n_terms⟩⟩, ct), (⟨⟨n_gap⟩⟩, cg)], qual := ⟨⟨q_due⟩⟩, func := some 126, code := (fdAt w 126).code, frame := some f }
/-- the terms -/
def growT (gap : Nat) (T : List Nat) : List Nat := T ++ [T.getLastD 0 + T.getD (T.length - gap) 0]
def termsL (gap : Nat) : Nat → List Nat
  | 0 => [1]
  | k + 1 => growT gap (termsL gap k)
theorem termsL_len (gap k : Nat) : (termsL gap k).length = k + 1 := by
  induction k with
  | zero => rfl
  | succ k ih => show (growT gap (termsL gap k)).length = _; unfold growT; rw [List.length_append, ih]; rfl
theorem natV_app (a b : List (Nat × Nat)) : natV (a ++ b) = natV a ++ natV b := by simp [natV]
theorem du_wturn (w : World) (A : Around) (h₀ : Heap) (mods : List Nat) (hA : Fit 50 A (kt1 w) h₀) (R : Result → Shared → Prop) (g : Array GenState) (d : Drawn) (os : OsState) (f cg ct cr ck ta tg km tm : Nat) (gap M : Nat) (hg : 1 ≤ gap)
   (T : List (Nat × Nat)) (hT : T ≠ []) (hTM : T.length ≤ M) (hz : M ≤ 1000) (h : Heap) (B t0 et : Nat)
   (D : Rep (kt1 w) h₀ mods h B [(f, fobj [ent w n_months km (.int (.ofNat M) tm)] 1), (cg, cellO (some (.int (.ofNat gap) tg))), (ct, cellO (some (.ref ta))), (ta, listO (natV T) et)] [] 0)
   (hR : ∀ h' B' t' et' T', T'.map (·.1) = growT gap (T.map (·.1)) → Rep (kt1 w) h₀ mods h' B' [(f, fobj [ent w n_months km (.int (.ofNat M) tm)] 1), (cg, cellO (some (.int (.ofNat gap) tg))), (ct, cellO (some (.ref ta))), (ta, listO (natV T') et')] [] 0 → codeAny (PP w) A (whileOf (stmtAt w 126 1) (envD w f cg ct cr ck)) R ⟨h', g, d, t', os⟩) :
   codeAny (PP w) A (whileOf (stmtAt w 126 1) (envD w f cg ct cr ck)) R ⟨h, g, d, t0, os⟩ := by
  obtain ⟨b1, b2, hw⟩ := parF_ex w
  have hA' := hA.under (whileOf (stmtAt w 126 1) (envD w f cg ct cr ck)) (m := 49) (by kernel_rfl)
  obtain ⟨T0, q, rfl⟩ : ∃ T0 q, T = T0 ++ [q] := ⟨T.dropLast, T.getLast hT, (List.dropLast_concat_getLast hT).symm⟩
  have hl : (T0 ++ [q]).length = T0.length + 1 := by simp
  generalize hTe : T0 ++ [q] = T at *
  have hnl := natV_len T
  have hi : T.length - gap < T.length := by omega
  have hget : (natV T)[(max 0 ((T.length : Int) - gap)).toNat]? = some (.int (.ofNat (T.getD (T.length - gap) (0, 0)).1) (T.getD (T.length - gap) (0, 0)).2) := by
    rw [show (max 0 ((T.length : Int) - gap)).toNat = T.length - gap by omega]
    unfold natV
    rw [List.getElem?_map, List.getElem?_eq_getElem hi, List.getD_eq_getElem?_getD, List.getElem?_eq_getElem hi]
    rfl
  have hgrow : growT gap (T.map (·.1)) = T.map (·.1) ++ [q.1 + (T.getD (T.length - gap) (0, 0)).1] := by
    unfold growT
    rw [List.length_map]
    congr 2
    have e1 : (T.map (·.1)).getLastD 0 = q.1 := by rw [← hTe]; simp
    have e2 : (T.map (·.1)).getD (T.length - gap) 0 = (T.getD (T.length - gap) (0, 0)).1 := by
      rw [List.getD_eq_getElem?_getD, List.getElem?_map, List.getD_eq_getElem?_getD, List.getElem?_eq_getElem hi]
      rfl
    rw [e1, e2]
  refine code_start ?_
  refine Means.add0 ?_
  (refine segW (t0 := t0) (i := 0) 100000 [0, 0, 3] (Code.call (Value.builtin "len") { pos := [Value.ref ta] : Args }) D (by assumption) (by assumption) ?_; intro o11; refine ⟨by kernel_rfl, by kernel_rfl, by kernel_rfl, by kernel_rfl, by kernel_rfl, fun h11 D11 => ?_⟩)
  refine r_clen ta et (natV T) (by omega) (D11.give [0, 0, 0, 1] (by kernel_rfl)) fun t1 t' => ?_
  rw [hnl]
  refine Means.add0 ?_
  cases b1 <;> (
    (refine segW (t0 := t') (i := 0) 100000 [1] (Code.call (Value.builtin "int.__le__") { pos := [Value.int (Int.ofNat (List.length T)) t1, Value.int (Int.ofNat M) tm] : Args }) D11 (by assumption) (by assumption) ?_; intro o12; refine ⟨by kernel_rfl, by kernel_rfl, by kernel_rfl, by kernel_rfl, by kernel_rfl, fun h12 D12 => ?_⟩)
    refine callW_of rfl ?_
    rw [mark_none]
    refine r_ile (.ofNat T.length) (.ofNat M) t1 tm true (decide_eq_true (by show ((T.length : Nat) : Int) ≤ ((M : Nat) : Int); omega)) ?_
    refine Means.add0 ?_
    (refine segW (t0 := t' + outI o12) (i := 0) 100000 [3, 4, 4, 4, 4, 3, 1, 4, 4, 4] (Code.call (Value.builtin "list.__getitem__") { pos := [Value.ref ta, Value.int (Int.negSucc 0) (t' + 1)] : Args }) D12 (by assumption) (by assumption) ?_; intro o13; refine ⟨by kernel_rfl, by kernel_rfl, by kernel_rfl, by kernel_rfl, by kernel_rfl, fun h13 D13 => ?_⟩)
    refine callW_of rfl ?_
    rw [mark_none]
    refine r_lgetlast ta et _ (natV T0) (.int (.ofNat q.1) q.2) (by have z := D13.give [0, 0, 0, 1] (L' := [(ta, listO (natV T) et)]) (by kernel_rfl); rw [← hTe, natV_app] at z; exact z) (by have := natV_len T0; omega) ?_
    refine Means.add0 ?_
    (refine segW (t0 := t' + outI o12 + outI o13) (i := 0) 100000 [3, 0, 0, 0, 0, 3] (Code.call (Value.builtin "len") { pos := [Value.ref ta] : Args }) D13 (by assumption) (by assumption) ?_; intro o14; refine ⟨by kernel_rfl, by kernel_rfl, by kernel_rfl, by kernel_rfl, by kernel_rfl, fun h14 D14 => ?_⟩)
    refine r_clen ta et (natV T) (by omega) (D14.give [0, 0, 0, 1] (by kernel_rfl)) fun t3 t4 => ?_
    rw [hnl]
    refine Means.add0 ?_
    (refine segW (t0 := t4) (i := 0) 100000 [2, 1] ((.call (.builtin "max") ⟨[.int 0 (t' + 2), .int ((T.length : Int) - gap) t4], []⟩) ) D14 (by assumption) (by assumption) ?_; intro o15; refine ⟨by kernel_rfl, by kernel_rfl, by kernel_rfl, by kernel_rfl, by kernel_rfl, fun h15 D15 => ?_⟩)
    refine callW_of rfl ?_
    rw [mark_none]
    refine r_max2 (Fit.inner hA' D15 _ (by kernel_rfl) (by kernel_rfl)) ((T.length : Int) - gap) _ _ (D15.give [] (by kernel_rfl)) fun g5 t5 t6 a5 => ?_
    obtain ⟨B5, E5⟩ := D15.backP [] [0, 1, 2, 3] ([(f, fobj [ent w n_months km (.int (.ofNat M) tm)] 1), (cg, cellO (some (.int (.ofNat gap) tg))), (ct, cellO (some (.ref ta))), (ta, listO (natV T) et)]) (by kernel_rfl) a5 (by kernel_rfl)
    refine Means.add0 ?_
    (refine segW (t0 := t6) (i := 0) 100000 [4, 4, 4] (Code.call (Value.builtin "list.__getitem__") { pos := [Value.ref ta, Value.int (max 0 (↑(List.length T) - ↑gap)) t5] : Args }) E5 (by assumption) (by assumption) ?_; intro o16; refine ⟨by kernel_rfl, by kernel_rfl, by kernel_rfl, by kernel_rfl, by kernel_rfl, fun h16 D16 => ?_⟩)
    refine callW_of rfl ?_
    rw [mark_none]
    refine r_lget' ta et t5 (max 0 ((T.length : Int) - gap)) (natV T) (.int (.ofNat (T.getD (T.length - gap) (0, 0)).1) (T.getD (T.length - gap) (0, 0)).2) (by omega) hget (by omega) (D16.give [0, 0, 0, 1] (by kernel_rfl)) ?_
    refine Means.add0 ?_
    (refine segW (t0 := t6 + outI o16) (i := 0) 100000 [1] ((.call (.builtin "list.append") ⟨[.ref ta, .int (.ofNat (q.1 + (T.getD (T.length - gap) (0, 0)).1)) t6], []⟩) ) D16 (by assumption) (by assumption) ?_; intro o17; refine ⟨by kernel_rfl, by kernel_rfl, by kernel_rfl, by kernel_rfl, by kernel_rfl, fun h17 D17 => ?_⟩)
    refine callW_of rfl ?_
    rw [mark_none]
    refine r_append ta et (natV T) _ (by omega) (D17.give [0, 0, 0, 1] (by kernel_rfl)) fun g7 t7 a7 => ?_
    obtain ⟨B7, E7⟩ := D17.backP [0, 0, 0, 1] [1, 2, 3, 0] ([(f, fobj [ent w n_months km (.int (.ofNat M) tm)] 1), (cg, cellO (some (.int (.ofNat gap) tg))), (ct, cellO (some (.ref ta))), (ta, listO (natV T ++ [.int (.ofNat (q.1 + (T.getD (T.length - gap) (0, 0)).1)) t6]) (et + 1))]) (by kernel_rfl) a7 (by kernel_rfl)
    refine Means.add0 ?_
    (refine segF (t0 := t7) (i := 0) 100000 [] ((Fin.again (whileOf (stmtAt w 126 1) (envD w f cg ct cr ck))) ) E7 (by assumption) (by assumption) ?_; intro o18; refine ⟨by kernel_rfl, by kernel_rfl, by kernel_rfl, fun h18 D18 => ?_⟩)
    obtain ⟨B8, E8⟩ := D18.pickE [0, 1, 2, 3] ([(f, fobj [ent w n_months km (.int (.ofNat M) tm)] 1), (cg, cellO (some (.int (.ofNat gap) tg))), (ct, cellO (some (.ref ta))), (ta, listO (natV T ++ [.int (.ofNat (q.1 + (T.getD (T.length - gap) (0, 0)).1)) t6]) (et + 1))]) (by kernel_rfl)
    have e8 : natV T ++ [.int (.ofNat (q.1 + (T.getD (T.length - gap) (0, 0)).1)) t6] = natV (T ++ [(q.1 + (T.getD (T.length - gap) (0, 0)).1, t6)]) := by simp [natV]
    rw [e8] at E8
    exact ⟨by kernel_rfl, hR _ _ _ _ (T ++ [(q.1 + (T.getD (T.length - gap) (0, 0)).1, t6)]) (by rw [List.map_append, hgrow]; rfl) E8⟩)
theorem du_wend (w : World) (A : Around) (h₀ : Heap) (mods : List Nat) (hA : Fit 50 A (kt1 w) h₀) (R : Result → Shared → Prop) (g : Array GenState) (d : Drawn) (os : OsState) (f cg ct cr ck ta tg km tm : Nat) (gap M : Nat)
   (T : List (Nat × Nat)) (hTM : ¬ T.length ≤ M) (hz : T.length ≤ 1000) (h : Heap) (B t0 et : Nat)
   (D : Rep (kt1 w) h₀ mods h B [(f, fobj [ent w n_months km (.int (.ofNat M) tm)] 1), (cg, cellO (some (.int (.ofNat gap) tg))), (ct, cellO (some (.ref ta))), (ta, listO (natV T) et)] [] 0)
   (hR : ∀ h' B' t', Rep (kt1 w) h₀ mods h' B' [(f, fobj [ent w n_months km (.int (.ofNat M) tm)] 1), (cg, cellO (some (.int (.ofNat gap) tg))), (ct, cellO (some (.ref ta))), (ta, listO (natV T) et)] [] 0 → R (.ok .next) ⟨h', g, d, t', os⟩) :
   codeAny (PP w) A (whileOf (stmtAt w 126 1) (envD w f cg ct cr ck)) R ⟨h, g, d, t0, os⟩ := by
  obtain ⟨b1, b2, hw⟩ := parF_ex w
  have hA' := hA.under (whileOf (stmtAt w 126 1) (envD w f cg ct cr ck)) (m := 49) (by kernel_rfl)
  have hnl := natV_len T
  refine code_start ?_
  refine Means.add0 ?_
  (refine segW (t0 := t0) (i := 0) 100000 [0, 0, 3] (Code.call (Value.builtin "len") { pos := [Value.ref ta] : Args }) D (by assumption) (by assumption) ?_; intro o21; refine ⟨by kernel_rfl, by kernel_rfl, by kernel_rfl, by kernel_rfl, by kernel_rfl, fun h21 D21 => ?_⟩)
  refine r_clen ta et (natV T) (by omega) (D21.give [0, 0, 0, 1] (by kernel_rfl)) fun t1 t' => ?_
  rw [hnl]
  refine Means.add0 ?_
  cases b1 <;> (
    (refine segW (t0 := t') (i := 0) 100000 [1] (Code.call (Value.builtin "int.__le__") { pos := [Value.int (Int.ofNat (List.length T)) t1, Value.int (Int.ofNat M) tm] : Args }) D21 (by assumption) (by assumption) ?_; intro o22; refine ⟨by kernel_rfl, by kernel_rfl, by kernel_rfl, by kernel_rfl, by kernel_rfl, fun h22 D22 => ?_⟩)
    refine callW_of rfl ?_
    rw [mark_none]
    refine r_ile (.ofNat T.length) (.ofNat M) t1 tm false (decide_eq_false (by show ¬ ((T.length : Nat) : Int) ≤ ((M : Nat) : Int); omega)) ?_
    refine Means.add0 ?_
    (refine segF (t0 := t' + outI o22) (i := 0) 100000 [] (Fin.done Flow.next) D22 (by assumption) (by assumption) ?_; intro o23; refine ⟨by kernel_rfl, by kernel_rfl, by kernel_rfl, fun h23 D23 => ?_⟩)
    obtain ⟨B3, E3⟩ := D23.pickE [0, 1, 2, 3] [(f, fobj [ent w n_months km (.int (.ofNat M) tm)] 1), (cg, cellO (some (.int (.ofNat gap) tg))), (ct, cellO (some (.ref ta))), (ta, listO (natV T) et)] (by kernel_rfl)
    exact hR _ _ _ E3)
theorem du_while (w : World) (A : Around) (h₀ : Heap) (mods : List Nat) (hA : Fit 50 A (kt1 w) h₀) (R : Result → Shared → Prop) (g : Array GenState) (d : Drawn) (os : OsState) (f cg ct cr ck ta tg km tm : Nat) (gap M : Nat) (hg : 1 ≤ gap) (hz : M ≤ 900) :
   ∀ (n : Nat) (T : List (Nat × Nat)) (h : Heap) (B t0 et : Nat), n ≤ M → T.map (·.1) = termsL gap (M - n) →
   Rep (kt1 w) h₀ mods h B [(f, fobj [ent w n_months km (.int (.ofNat M) tm)] 1), (cg, cellO (some (.int (.ofNat gap) tg))), (ct, cellO (some (.ref ta))), (ta, listO (natV T) et)] [] 0 →
   (∀ h' B' t' et' T', T'.map (·.1) = termsL gap M → Rep (kt1 w) h₀ mods h' B' [(f, fobj [ent w n_months km (.int (.ofNat M) tm)] 1), (cg, cellO (some (.int (.ofNat gap) tg))), (ct, cellO (some (.ref ta))), (ta, listO (natV T') et')] [] 0 → R (.ok .next) ⟨h', g, d, t', os⟩) →
   codeAny (PP w) A (whileOf (stmtAt w 126 1) (envD w f cg ct cr ck)) R ⟨h, g, d, t0, os⟩ := by
  intro n
  induction n with
  | zero =>
    intro T h B t0 et hn hT D hR
    have hl : T.length = M + 1 := by rw [← List.length_map (f := (·.1)), hT, termsL_len]; omega
    exact du_wend w A h₀ mods hA R g d os f cg ct cr ck ta tg km tm gap M T (by omega) (by omega) h B t0 et D fun h' B' t' D' => hR h' B' t' et T hT D'
  | succ n ih =>
    intro T h B t0 et hn hT D hR
    have hl : T.length = M - (n + 1) + 1 := by rw [← List.length_map (f := (·.1)), hT, termsL_len]
    refine du_wturn w A h₀ mods hA R g d os f cg ct cr ck ta tg km tm gap M hg T (fun e => by rw [e] at hl; simp at hl) (by omega) (by omega) h B t0 et D fun h' B' t' et' T' hT' D' => ?_
    refine ih T' h' B' t' et' (by omega) ?_ D' hR
    rw [hT', hT, show M - n = (M - (n + 1)) + 1 by omega]
    rfl
end Mine
end
section
open PySem PySem.W PySem.Calls PyProof.Rows
set_option Elab.async false
set_option maxRecDepth 100000
namespace Mine
noncomputable def dB (w : World) (i : Nat) : Stmt := match stmtAt w 126 3 with
  | .For _ _ b _ _ => b.getD i default
  | _ => default
noncomputable def dW (w : World) (i : Nat) : Stmt := match dB w 2 with
  | .While _ b _ _ => b.getD i default
  | _ => default
noncomputable def eDK (w : World) : Expr := match dW w 0 with
  | .Assign _ (.Call _ (e :: _) _ _) _ => e
  | _ => default
def n_k := [107]
noncomputable def compDS (w : World) (e : Expr) (it acc : Value) (di : Nat) (cs : List (Str × Addr)) (fr : Nat) (sc : Scope) : Code :=
  .compStart e 0 it acc { scope := sc, locals := di, globals := 3, cells := cs, qual := ⟨⟨q_due⟩⟩, code := (fdAt w 126).code, frame := some fr }
noncomputable def compDL (w : World) (e : Expr) (it acc : Value) (di : Nat) (cs : List (Str × Addr)) (fr : Nat) (sc : Scope) : Code :=
  .compLoop e 0 it acc { scope := sc, locals := di, globals := 3, cells := cs, qual := ⟨⟨q_due⟩⟩, code := (fdAt w 126).code, frame := some fr }
def scK : Scope := { kind := .function, names := [(⟨⟨[46, 48]⟩⟩, .local), (⟨⟨[107]⟩⟩, .local), (⟨⟨n_rest⟩⟩, .cell), (⟨⟨n_terms⟩⟩, .cell)], isGenerator := false, isCoroutine := false }
def csK (ct cr : Nat) : List (Str × Addr) := [(⟨⟨n_terms⟩⟩, ct), (⟨⟨n_rest⟩⟩, cr)]
def keepK (T : List Nat) (rest j n : Nat) : List Nat := (List.range' j n).filter fun k => decide (T.getD k 0 ≤ rest)
theorem keepK_succ (T : List Nat) (rest j n : Nat) : keepK T rest j (n + 1) = (if T.getD j 0 ≤ rest then [j] else []) ++ keepK T rest (j + 1) n := by
  unfold keepK
  rw [List.range'_succ, List.filter_cons]
  by_cases h : T.getD j 0 ≤ rest
  · rw [decide_eq_true h, if_pos rfl, if_pos h]; rfl
  · rw [decide_eq_false h, if_neg Bool.false_ne_true, if_neg h]; rfl
theorem dk_loop (w : World) (A : Around) (h₀ : Heap) (mods : List Nat) (hA : Fit 5 A (kt1 w) h₀) (R : Result → Shared → Prop) (g : Array GenState) (d : Drawn) (os : OsState) (it acc di fr ct cr ta tr et rest : Nat) (T : List (Nat × Nat)) (hz : T.length ≤ 1000) (X : Led) :
   ∀ (n j : Nat) (P : List (Nat × Nat)) (h : Heap) (B t0 ep : Nat) (dl : List DictEntry) (dn : Nat), (dl = [] ∧ dn = 0 ∨ ∃ k v, dl = [ent w n_k k v] ∧ dn = 1) → j + n = T.length → P.length ≤ j →
   Rep (kt1 w) h₀ mods h B [(acc, listO (natV P) ep), (it, ritO j n), (di, dictO dl dn), (ct, cellO (some (.ref ta))), (cr, cellO (some (.int (.ofNat rest) tr))), (ta, listO (natV T) et)] X 0 →
   (∀ h1 B' t' ep' Q dl' dn', (dl' = [] ∧ dn' = 0 ∨ ∃ k v, dl' = [ent w n_k k v] ∧ dn' = 1) → Q.map (·.1) = keepK (T.map (·.1)) rest j n → Rep (kt1 w) h₀ mods h1 B' [(acc, listO (natV (P ++ Q)) ep'), (di, dictO dl' dn'), (ct, cellO (some (.ref ta))), (cr, cellO (some (.int (.ofNat rest) tr))), (ta, listO (natV T) et)] X 0 → R (.ok .next) ⟨h1, g, d, t', os⟩) →
   codeAny (PP w) A (compDL w (eDK w) (.ref it) (.ref acc) di (csK ct cr) fr scK) R ⟨h, g, d, t0, os⟩ := by
  obtain ⟨b1, b2, hw⟩ := parF_ex w
  have hA' := hA.under (compDL w (eDK w) (.ref it) (.ref acc) di (csK ct cr) fr scK) (m := 0) (by kernel_rfl)
  intro n
  induction n with
  | zero =>
    intro j P h B t0 ep dl dn hdl hj hP D hR
    refine code_start ?_
    refine Means.add0 ?_
    (refine segW (t0 := t0) (i := 0) 100000 [2] (Code.call (Value.builtin "range_iterator.__next__") { pos := [Value.ref it] : Args }) D (by assumption) (by assumption) ?_; intro o11; refine ⟨by kernel_rfl, by kernel_rfl, by kernel_rfl, by kernel_rfl, by kernel_rfl, fun h11 D11 => ?_⟩)
    refine callW_of rfl ?_
    rw [mark_none]
    refine r_rend (Fit.inner hA' D11 _ (by kernel_rfl) (by kernel_rfl)) it j (D11.give [0, 1] (by kernel_rfl)) fun g1 t' x y a1 => ?_
    obtain ⟨B2, E1⟩ := D11.backP [0, 1] [0, 1, 2, 3, 4, 5, 6] [(y, tupO []), (x, stopO y), (acc, listO (natV P) ep), (di, dictO dl dn), (ct, cellO (some (.ref ta))), (cr, cellO (some (.int (.ofNat rest) tr))), (ta, listO (natV T) et)] (by kernel_rfl) a1 (by kernel_rfl)
    refine Means.add0 ?_
    (refine segF (t0 := t') (i := 0) 100000 [2] (Fin.done Flow.next) E1 (by assumption) (by assumption) ?_; intro o12; refine ⟨by kernel_rfl, by kernel_rfl, by kernel_rfl, fun h12 D12 => ?_⟩)
    obtain ⟨B3, E2⟩ := D12.pickE [2, 3, 4, 5, 6] [(acc, listO (natV (P ++ [])) ep), (di, dictO dl dn), (ct, cellO (some (.ref ta))), (cr, cellO (some (.int (.ofNat rest) tr))), (ta, listO (natV T) et)] (by rw [List.append_nil]; kernel_rfl)
    exact hR _ _ _ _ [] _ _ hdl rfl E2
  | succ n ih =>
    intro j P h B t0 ep dl dn hdl hj hP D hR
    have hjl : j < T.length := by omega
    have hget : (natV T)[j]? = some (.int (.ofNat (T[j]).1) (T[j]).2) := by unfold natV; rw [List.getElem?_map, List.getElem?_eq_getElem hjl]; rfl
    have hgd : (T.map (·.1)).getD j 0 = (T[j]).1 := by rw [List.getD_eq_getElem?_getD, List.getElem?_map, List.getElem?_eq_getElem hjl]; rfl
    have hPl := natV_len P
    rw [keepK_succ, hgd] at hR
    generalize T[j] = q at hget hR
    refine code_start ?_
    refine Means.add0 ?_
    (refine segW (t0 := t0) (i := 0) 100000 [2] (Code.call (Value.builtin "range_iterator.__next__") { pos := [Value.ref it] : Args }) D (by assumption) (by assumption) ?_; intro o21; refine ⟨by kernel_rfl, by kernel_rfl, by kernel_rfl, by kernel_rfl, by kernel_rfl, fun h21 D21 => ?_⟩)
    refine callW_of rfl ?_
    rw [mark_none]
    refine r_rnext it j (n + 1 : Nat) (by omega) (D21.give [0, 1] (by kernel_rfl)) fun g1 t1 t' a1 => ?_
    rw [show (j : Int) + 1 = (j + 1 : Nat) by omega, show ((n + 1 : Nat) : Int) - 1 = (n : Nat) by omega] at a1
    obtain ⟨B2, E1⟩ := D21.backP [0, 1] [1, 0, 2, 3, 4, 5] [(acc, listO (natV P) ep), (it, ritO (j + 1 : Nat) (n : Nat)), (di, dictO dl dn), (ct, cellO (some (.ref ta))), (cr, cellO (some (.int (.ofNat rest) tr))), (ta, listO (natV T) et)] (by kernel_rfl) a1 (by kernel_rfl)
    refine Means.add0 ?_
    rcases hdl with ⟨rfl, rfl⟩ | ⟨k, v, rfl, rfl⟩
    · (refine segW (t0 := t') (i := 0) 100000 [3, 3, 4, 3, 6, 6, 6] (Code.call (Value.builtin "list.__getitem__") { pos := [Value.ref ta, Value.int (Int.ofNat j) t1] : Args }) E1 (by assumption) (by assumption) ?_; intro o1001; refine ⟨by kernel_rfl, by kernel_rfl, by kernel_rfl, by kernel_rfl, by kernel_rfl, fun h1001 D1001 => ?_⟩)
      refine callW_of rfl ?_
      rw [mark_none]
      refine r_lget ta et j t1 (natV T) _ hget (by omega) (D1001.give [0, 0, 0, 0, 0, 1] (by kernel_rfl)) ?_
      refine Means.add0 ?_
      obtain ⟨B3, E3⟩ := D1001.pickE [0, 1, 2, 3, 4, 5] [(acc, listO (natV P) ep), (it, ritO (j + 1 : Nat) (n : Nat)), (di, dictO [ent w n_k t' (.int (.ofNat j) t1)] 1), (ct, cellO (some (.ref ta))), (cr, cellO (some (.int (.ofNat rest) tr))), (ta, listO (natV T) et)] (by kernel_rfl)
      cases b1 <;> (
      (refine segW (t0 := t' + outI o1001) (i := 0) 100000 [5] (Code.call (Value.builtin "int.__le__") { pos := [Value.int (Int.ofNat q.fst) q.snd, Value.int (Int.ofNat rest) tr] : Args }) D1001 (by assumption) (by assumption) ?_; intro o1002; refine ⟨by kernel_rfl, by kernel_rfl, by kernel_rfl, by kernel_rfl, by kernel_rfl, fun h1002 D1002 => ?_⟩)
      refine callW_of rfl ?_
      rw [mark_none]
      by_cases hle : q.1 ≤ rest
      · rw [if_pos hle] at hR
        refine r_ile (.ofNat q.1) (.ofNat rest) q.2 tr true (decide_eq_true (by show ((q.1 : Nat) : Int) ≤ ((rest : Nat) : Int); omega)) ?_
        refine Means.add0 ?_
        (refine segW (t0 := t' + outI o1001 + outI o1002) (i := 0) 100000 [3] ((.call (.builtin "list.append") ⟨[.ref acc, .int (.ofNat j) t1], []⟩) ) D1002 (by assumption) (by assumption) ?_; intro o1003; refine ⟨by kernel_rfl, by kernel_rfl, by kernel_rfl, by kernel_rfl, by kernel_rfl, fun h1003 D1003 => ?_⟩)
        refine callW_of rfl ?_
        rw [mark_none]
        refine r_append acc ep (natV P) _ (by omega) (D1003.give [1] (by kernel_rfl)) fun g3 t3 a3 => ?_
        obtain ⟨B4, E4⟩ := D1003.backP [1] [0, 1, 2, 3, 4, 5] [(acc, listO (natV P ++ [.int (.ofNat j) t1]) (ep + 1)), (it, ritO (j + 1 : Nat) (n : Nat)), (di, dictO [ent w n_k t' (.int (.ofNat j) t1)] 1), (ct, cellO (some (.ref ta))), (cr, cellO (some (.int (.ofNat rest) tr))), (ta, listO (natV T) et)] (by kernel_rfl) a3 (by kernel_rfl)
        refine Means.add0 ?_
        (refine segF (t0 := t3) (i := 0) 100000 [] ((Fin.again (compDL w (eDK w) (.ref it) (.ref acc) di (csK ct cr) fr scK)) ) E4 (by assumption) (by assumption) ?_; intro o1004; refine ⟨by kernel_rfl, by kernel_rfl, by kernel_rfl, fun h1004 D1004 => ?_⟩)
        obtain ⟨B5, E5⟩ := D1004.pickE [0, 1, 2, 3, 4, 5] [(acc, listO (natV P ++ [.int (.ofNat j) t1]) (ep + 1)), (it, ritO (j + 1 : Nat) (n : Nat)), (di, dictO [ent w n_k t' (.int (.ofNat j) t1)] 1), (ct, cellO (some (.ref ta))), (cr, cellO (some (.int (.ofNat rest) tr))), (ta, listO (natV T) et)] (by kernel_rfl)
        have e3 : natV P ++ [.int (.ofNat j) t1] = natV (P ++ [(j, t1)]) := by simp [natV]
        rw [e3] at E5
        refine ⟨by kernel_rfl, ih (j + 1) (P ++ [(j, t1)]) _ _ _ _ _ _ (.inr ⟨_, _, rfl, rfl⟩) (by omega) (by rw [List.length_append, List.length_singleton]; omega) E5 fun h1 B' t9 ep' Q dl' dn' hd2 hQ E => ?_⟩
        refine hR h1 B' t9 ep' ((j, t1) :: Q) dl' dn' hd2 (by rw [List.map_cons, hQ]; rfl) ?_
        rw [List.append_assoc] at E
        exact E
      · rw [if_neg hle] at hR
        refine r_ile (.ofNat q.1) (.ofNat rest) q.2 tr false (decide_eq_false (by show ¬ ((q.1 : Nat) : Int) ≤ ((rest : Nat) : Int); omega)) ?_
        refine Means.add0 ?_
        (refine segF (t0 := t' + outI o1001 + outI o1002) (i := 0) 100000 [] ((Fin.again (compDL w (eDK w) (.ref it) (.ref acc) di (csK ct cr) fr scK)) ) D1002 (by assumption) (by assumption) ?_; intro o1005; refine ⟨by kernel_rfl, by kernel_rfl, by kernel_rfl, fun h1005 D1005 => ?_⟩)
        obtain ⟨B5, E5⟩ := D1005.pickE [0, 1, 2, 3, 4, 5] [(acc, listO (natV P) ep), (it, ritO (j + 1 : Nat) (n : Nat)), (di, dictO [ent w n_k t' (.int (.ofNat j) t1)] 1), (ct, cellO (some (.ref ta))), (cr, cellO (some (.int (.ofNat rest) tr))), (ta, listO (natV T) et)] (by kernel_rfl)
        exact ⟨by kernel_rfl, ih (j + 1) P _ _ _ _ _ _ (.inr ⟨_, _, rfl, rfl⟩) (by omega) (by omega) E5 hR⟩)
    · (refine segW (t0 := t') (i := 0) 100000 [3, 3, 4, 3, 6, 6, 6] (Code.call (Value.builtin "list.__getitem__") { pos := [Value.ref ta, Value.int (Int.ofNat j) t1] : Args }) E1 (by assumption) (by assumption) ?_; intro o2001; refine ⟨by kernel_rfl, by kernel_rfl, by kernel_rfl, by kernel_rfl, by kernel_rfl, fun h2001 D2001 => ?_⟩)
      refine callW_of rfl ?_
      rw [mark_none]
      refine r_lget ta et j t1 (natV T) _ hget (by omega) (D2001.give [0, 0, 0, 0, 0, 1] (by kernel_rfl)) ?_
      refine Means.add0 ?_
      obtain ⟨B3, E3⟩ := D2001.pickE [0, 1, 2, 3, 4, 5] [(acc, listO (natV P) ep), (it, ritO (j + 1 : Nat) (n : Nat)), (di, dictO [ent w n_k k (.int (.ofNat j) t1)] 1), (ct, cellO (some (.ref ta))), (cr, cellO (some (.int (.ofNat rest) tr))), (ta, listO (natV T) et)] (by kernel_rfl)
      cases b1 <;> (
      (refine segW (t0 := t' + outI o2001) (i := 0) 100000 [5] (Code.call (Value.builtin "int.__le__") { pos := [Value.int (Int.ofNat q.fst) q.snd, Value.int (Int.ofNat rest) tr] : Args }) D2001 (by assumption) (by assumption) ?_; intro o2002; refine ⟨by kernel_rfl, by kernel_rfl, by kernel_rfl, by kernel_rfl, by kernel_rfl, fun h2002 D2002 => ?_⟩)
      refine callW_of rfl ?_
      rw [mark_none]
      by_cases hle : q.1 ≤ rest
      · rw [if_pos hle] at hR
        refine r_ile (.ofNat q.1) (.ofNat rest) q.2 tr true (decide_eq_true (by show ((q.1 : Nat) : Int) ≤ ((rest : Nat) : Int); omega)) ?_
        refine Means.add0 ?_
        (refine segW (t0 := t' + outI o2001 + outI o2002) (i := 0) 100000 [3] ((.call (.builtin "list.append") ⟨[.ref acc, .int (.ofNat j) t1], []⟩) ) D2002 (by assumption) (by assumption) ?_; intro o2003; refine ⟨by kernel_rfl, by kernel_rfl, by kernel_rfl, by kernel_rfl, by kernel_rfl, fun h2003 D2003 => ?_⟩)
        refine callW_of rfl ?_
        rw [mark_none]
        refine r_append acc ep (natV P) _ (by omega) (D2003.give [1] (by kernel_rfl)) fun g3 t3 a3 => ?_
        obtain ⟨B4, E4⟩ := D2003.backP [1] [0, 1, 2, 3, 4, 5] [(acc, listO (natV P ++ [.int (.ofNat j) t1]) (ep + 1)), (it, ritO (j + 1 : Nat) (n : Nat)), (di, dictO [ent w n_k k (.int (.ofNat j) t1)] 1), (ct, cellO (some (.ref ta))), (cr, cellO (some (.int (.ofNat rest) tr))), (ta, listO (natV T) et)] (by kernel_rfl) a3 (by kernel_rfl)
        refine Means.add0 ?_
        (refine segF (t0 := t3) (i := 0) 100000 [] ((Fin.again (compDL w (eDK w) (.ref it) (.ref acc) di (csK ct cr) fr scK)) ) E4 (by assumption) (by assumption) ?_; intro o2004; refine ⟨by kernel_rfl, by kernel_rfl, by kernel_rfl, fun h2004 D2004 => ?_⟩)
        obtain ⟨B5, E5⟩ := D2004.pickE [0, 1, 2, 3, 4, 5] [(acc, listO (natV P ++ [.int (.ofNat j) t1]) (ep + 1)), (it, ritO (j + 1 : Nat) (n : Nat)), (di, dictO [ent w n_k k (.int (.ofNat j) t1)] 1), (ct, cellO (some (.ref ta))), (cr, cellO (some (.int (.ofNat rest) tr))), (ta, listO (natV T) et)] (by kernel_rfl)
        have e3 : natV P ++ [.int (.ofNat j) t1] = natV (P ++ [(j, t1)]) := by simp [natV]
        rw [e3] at E5
        refine ⟨by kernel_rfl, ih (j + 1) (P ++ [(j, t1)]) _ _ _ _ _ _ (.inr ⟨_, _, rfl, rfl⟩) (by omega) (by rw [List.length_append, List.length_singleton]; omega) E5 fun h1 B' t9 ep' Q dl' dn' hd2 hQ E => ?_⟩
        refine hR h1 B' t9 ep' ((j, t1) :: Q) dl' dn' hd2 (by rw [List.map_cons, hQ]; rfl) ?_
        rw [List.append_assoc] at E
        exact E
      · rw [if_neg hle] at hR
        refine r_ile (.ofNat q.1) (.ofNat rest) q.2 tr false (decide_eq_false (by show ¬ ((q.1 : Nat) : Int) ≤ ((rest : Nat) : Int); omega)) ?_
        refine Means.add0 ?_
        (refine segF (t0 := t' + outI o2001 + outI o2002) (i := 0) 100000 [] ((Fin.again (compDL w (eDK w) (.ref it) (.ref acc) di (csK ct cr) fr scK)) ) D2002 (by assumption) (by assumption) ?_; intro o2005; refine ⟨by kernel_rfl, by kernel_rfl, by kernel_rfl, fun h2005 D2005 => ?_⟩)
        obtain ⟨B5, E5⟩ := D2005.pickE [0, 1, 2, 3, 4, 5] [(acc, listO (natV P) ep), (it, ritO (j + 1 : Nat) (n : Nat)), (di, dictO [ent w n_k k (.int (.ofNat j) t1)] 1), (ct, cellO (some (.ref ta))), (cr, cellO (some (.int (.ofNat rest) tr))), (ta, listO (natV T) et)] (by kernel_rfl)
        exact ⟨by kernel_rfl, ih (j + 1) P _ _ _ _ _ _ (.inr ⟨_, _, rfl, rfl⟩) (by omega) (by omega) E5 hR⟩)
theorem dk_start (w : World) (A : Around) (h₀ : Heap) (mods : List Nat) (hA : Fit 5 A (kt1 w) h₀) (R : Result → Shared → Prop) (g : Array GenState) (d : Drawn) (os : OsState) (it acc di fr ct cr ta tr et rest : Nat) (T : List (Nat × Nat)) (hz : T.length ≤ 1000) (X : Led) (h : Heap) (B t0 : Nat)
   (D : Rep (kt1 w) h₀ mods h B [(acc, listO ([]) 0), (it, ritO (0 : Nat) (T.length : Nat)), (di, dictO [] 0), (ct, cellO (some (.ref ta))), (cr, cellO (some (.int (.ofNat rest) tr))), (ta, listO (natV T) et)] X 0)
   (hR : ∀ h1 B' t' ep' Q dl' dn', (dl' = [] ∧ dn' = 0 ∨ ∃ k v, dl' = [ent w n_k k v] ∧ dn' = 1) → Q.map (·.1) = keepK (T.map (·.1)) rest 0 T.length → Rep (kt1 w) h₀ mods h1 B' [(acc, listO (natV Q) ep'), (di, dictO dl' dn'), (ct, cellO (some (.ref ta))), (cr, cellO (some (.int (.ofNat rest) tr))), (ta, listO (natV T) et)] X 0 → R (.ok .next) ⟨h1, g, d, t', os⟩) :
   codeAny (PP w) A (compDS w (eDK w) (.ref it) (.ref acc) di (csK ct cr) fr scK) R ⟨h, g, d, t0, os⟩ := by
  obtain ⟨b1, b2, hw⟩ := parF_ex w
  have hA' := hA.under (compDS w (eDK w) (.ref it) (.ref acc) di (csK ct cr) fr scK) (m := 0) (by kernel_rfl)
  refine code_start ?_
  refine Means.add0 ?_
  cases b2 <;> cases b1 <;> (
    (first | (refine segF (t0 := t0) (i := 0) 100000 [2, 2, 1, 2, 2] ((Fin.again (compDL w (eDK w) (.ref it) (.ref acc) di (csK ct cr) fr scK)) ) D (by assumption) (by assumption) ?_; intro o1; refine ⟨by kernel_rfl!, by kernel_rfl!, by kernel_rfl!, fun h1 D1 => ?_⟩) | (refine segF (t0 := t0) (i := 0) 100000 [] ((Fin.again (compDL w (eDK w) (.ref it) (.ref acc) di (csK ct cr) fr scK)) ) D (by assumption) (by assumption) ?_; intro o1; refine ⟨by kernel_rfl!, by kernel_rfl!, by kernel_rfl!, fun h1 D1 => ?_⟩))
    obtain ⟨B2, E1⟩ := D1.pickE [0, 1, 2, 3, 4, 5] [(acc, listO (natV []) 0), (it, ritO (0 : Nat) (T.length : Nat)), (di, dictO [] 0), (ct, cellO (some (.ref ta))), (cr, cellO (some (.int (.ofNat rest) tr))), (ta, listO (natV T) et)] (by kernel_rfl)
    exact ⟨by kernel_rfl, dk_loop w A h₀ mods hA R g d os it acc di fr ct cr ta tr et rest T hz X T.length 0 [] _ _ _ _ _ _ (.inl ⟨rfl, rfl⟩) (by omega) (Nat.le_refl _) E1 hR⟩)
end Mine
end
section
open PySem PySem.W PySem.Calls PyProof.Rows
set_option Elab.async false
set_option maxRecDepth 100000
namespace Mine
theorem natV_get (T : List (Nat × Nat)) (i : Nat) (h : i < T.length) : (natV T)[i]? = some (.int (.ofNat (T.getD i (0, 0)).1) (T.getD i (0, 0)).2) := by
  unfold natV
  rw [List.getElem?_map, List.getD_eq_getElem?_getD, List.getElem?_eq_getElem h]
  rfl
theorem map_getD (T : List (Nat × Nat)) (i : Nat) : (T.map (·.1)).getD i 0 = (T.getD i (0, 0)).1 := by
  rw [List.getD_eq_getElem?_getD, List.getElem?_map, List.getD_eq_getElem?_getD]
  cases T[i]? <;> rfl
def maxN (m : Nat) (l : List Nat) : Nat := l.foldl (fun m q => if q > m then q else m) m
def bestN (l : List Nat) : Nat := match l with
  | [] => 0
  | q :: r => maxN q r
theorem maxQ_fst (Q : List (Nat × Nat)) : ∀ m, (maxQ m Q).1 = maxN m.1 (Q.map (·.1)) := by
  induction Q with
  | nil => intro m; rfl
  | cons q Q ih =>
    intro m
    show (maxQ (if q.1 > m.1 then q else m) Q).1 = maxN (if q.1 > m.1 then q.1 else m.1) (Q.map (·.1))
    rw [ih]
    split <;> rfl
theorem maxN_mem (l : List Nat) : ∀ m, maxN m l ∈ m :: l := by
  induction l with
  | nil => intro m; exact List.mem_cons_self
  | cons q l ih =>
    intro m
    have h := ih (if q > m then q else m)
    show maxN (if q > m then q else m) l ∈ _
    rcases List.mem_cons.mp h with h | h
    · rw [h]
      split
      · exact List.mem_cons_of_mem _ List.mem_cons_self
      · exact List.mem_cons_self
    · exact List.mem_cons_of_mem _ (List.mem_cons_of_mem _ h)
theorem bestN_mem (l : List Nat) (h : l ≠ []) : bestN l ∈ l := by
  cases l with
  | nil => exact absurd rfl h
  | cons q r => exact maxN_mem r q
def bestAt (T : List Nat) (rest : Nat) : Nat := bestN (keepK T rest 0 T.length)
theorem keep_mem (T : List Nat) (rest k : Nat) (h : k ∈ keepK T rest 0 T.length) : k < T.length ∧ T.getD k 0 ≤ rest := by
  unfold keepK at h
  obtain ⟨h1, h2⟩ := List.mem_filter.mp h
  have := List.mem_range'.mp h1
  obtain ⟨i, hi, e⟩ := this
  exact ⟨by omega, of_decide_eq_true h2⟩
theorem keep_ne (T : List Nat) (rest : Nat) (h0 : T.getD 0 0 = 1) (hr : 0 < rest) : keepK T rest 0 T.length ≠ [] := by
  have hl : 0 < T.length := by
    cases T with
    | nil => cases h0
    | cons a T => exact Nat.zero_lt_succ _
  intro e
  have : 0 ∈ keepK T rest 0 T.length := by
    unfold keepK
    refine List.mem_filter.mpr ⟨List.mem_range'.mpr ⟨0, hl, rfl⟩, decide_eq_true (by rw [h0]; omega)⟩
  rw [e] at this
  cases this
theorem best_ok (T : List Nat) (rest : Nat) (h0 : T.getD 0 0 = 1) (hr : 0 < rest) : bestAt T rest < T.length ∧ T.getD (bestAt T rest) 0 ≤ rest := keep_mem T rest _ (bestN_mem _ (keep_ne T rest h0 hr))
set_option maxHeartbeats 1000000 in
theorem dw_turn1 (w : World) (A : Around) (h₀ : Heap) (mods : List Nat) (hA : Fit 50 A (kt1 w) h₀) (R : Result → Shared → Prop) (g : Array GenState) (d : Drawn) (os : OsState) (f cg ct cr ck ta ka tr : Nat) (rest : Nat) (k : Nat → Nat) (v0 v1 v2 v3 : Value)
   (T K : List (Nat × Nat)) (hT0 : (T.map (·.1)).getD 0 0 = 1) (hz : T.length ≤ 1000) (hK : K.length ≤ 16000000) (hr : 0 < rest) (h : Heap) (B t0 et ek : Nat) (X : Led)
   (D : Rep (kt1 w) h₀ mods h B [(f, fobj [ent w n_months (k 0) v0, ent w n_due (k 1) v1, ent w n_place (k 2) v2, ent w n_falls (k 3) v3] 4), (ct, cellO (some (.ref ta))), (cr, cellO (some (.int (.ofNat rest) tr))), (ck, cellO (some (.ref ka))), (ta, listO (natV T) et), (ka, listO (natV K) ek)] X 0)
   (hR : ∀ h' B' t' ek' tr' kb vb tb, Rep (kt1 w) h₀ mods h' B' [(f, fobj [ent w n_months (k 0) v0, ent w n_due (k 1) v1, ent w n_place (k 2) v2, ent w n_falls (k 3) v3, ent w n_best kb vb] 5), (ct, cellO (some (.ref ta))), (cr, cellO (some (.int (.ofNat (rest - (T.map (·.1)).getD (bestAt (T.map (·.1)) rest) 0)) tr'))), (ck, cellO (some (.ref ka))), (ta, listO (natV T) et), (ka, listO (natV (K ++ [(bestAt (T.map (·.1)) rest + 1, tb)])) ek')] X 0 → codeAny (PP w) A (whileOf (dB w 2) (envD w f cg ct cr ck)) R ⟨h', g, d, t', os⟩) :
   codeAny (PP w) A (whileOf (dB w 2) (envD w f cg ct cr ck)) R ⟨h, g, d, t0, os⟩ := by
  obtain ⟨b1, b2, hw⟩ := parF_ex w
  have hA' := hA.under (whileOf (dB w 2) (envD w f cg ct cr ck)) (m := 49) (by kernel_rfl)
  have hnl := natV_len T
  have hKl := natV_len K
  have hbo := best_ok (T.map (·.1)) rest hT0 hr
  have hkne := keep_ne (T.map (·.1)) rest hT0 hr
  rw [List.length_map] at hbo
  have hget := natV_get T _ hbo.1
  have hgd := map_getD T (bestAt (T.map (·.1)) rest)
  refine code_start ?_
  refine Means.add0 ?_
  cases b1 <;> (
    (refine segW (t0 := t0) (i := 0) 100000 [3] (Code.call (Value.builtin "int.__gt__") { pos := [Value.int (Int.ofNat rest) tr, Value.int 0 t0] : Args }) D (by assumption) (by assumption) ?_; intro o11; refine ⟨by kernel_rfl, by kernel_rfl, by kernel_rfl, by kernel_rfl, by kernel_rfl, fun h11 D11 => ?_⟩)
    refine callW_of rfl ?_
    rw [mark_none]
    refine r_igt (.ofNat rest) 0 tr _ true (decide_eq_true (by show ((rest : Nat) : Int) > 0; omega)) ?_
    refine Means.add0 ?_
    (refine segW (t0 := t0 + outI o11) (i := 0) 100000 [0, 0, 0, 0, 0, 0, 2] (Code.call (Value.builtin "len") { pos := [Value.ref ta] : Args }) D11 (by assumption) (by assumption) ?_; intro o12; refine ⟨by kernel_rfl, by kernel_rfl, by kernel_rfl, by kernel_rfl, by kernel_rfl, fun h12 D12 => ?_⟩)
    refine r_clen ta et (natV T) (by omega) (D12.give [0, 0, 0, 0, 1] (by kernel_rfl)) fun t1 t' => ?_
    rw [hnl]
    refine Means.add0 ?_
    (refine segW (t0 := t') (i := 0) 100000 [1, 1, 7, 7, 1, 7, 7, 7, 7] (Code.call (Value.builtin "range.__iter__") { pos := [Value.ref B] : Args }) D12 (by assumption) (by assumption) ?_; intro o13; refine ⟨by kernel_rfl, by kernel_rfl, by kernel_rfl, by kernel_rfl, by kernel_rfl, fun h13 D13 => ?_⟩)
    refine callW_of rfl ?_
    rw [mark_none]
    refine r_riter B 0 (T.length : Nat) t' t1 (t' + 1) T.length (by omega) (by omega) (by omega) (D13.give [0, 0, 0, 0, 0, 0, 1] (by kernel_rfl)) fun g2 it t2 a2 => ?_
    obtain ⟨B3, E3⟩ := D13.backP [0, 0, 0, 0, 0, 0, 1] [2, 3, 4, 5, 6, 7, 1] ([(f, fobj [ent w n_months (k 0) v0, ent w n_due (k 1) v1, ent w n_place (k 2) v2, ent w n_falls (k 3) v3] 4), (ct, cellO (some (.ref ta))), (cr, cellO (some (.int (.ofNat rest) tr))), (ck, cellO (some (.ref ka))), (ta, listO (natV T) et), (ka, listO (natV K) ek)] ++ [(it, ritO (0 : Nat) (T.length : Nat))]) (by kernel_rfl) a2 (by kernel_rfl)
    refine Means.add0 ?_
    (refine segL (t0 := t2) (i := 0) 100000 [7] ((compDS w (eDK w) (.ref it) (.ref B3) (B3 + 1) (csK ct cr) f scK) ) E3 (by assumption) (by assumption) ?_; intro o14; refine ⟨by kernel_rfl, by kernel_rfl, by kernel_rfl, by kernel_rfl, fun h14 D14 => ?_⟩)
    obtain ⟨B4, E4⟩ := D14.partX [7, 6, 8, 1, 2, 4] [0, 3, 5] [(B3, listO [] 0), (it, ritO (0 : Nat) (T.length : Nat)), (B3 + 1, dictO [] 0), (ct, cellO (some (.ref ta))), (cr, cellO (some (.int (.ofNat rest) tr))), (ta, listO (natV T) et)] [(f, fobj [ent w n_months (k 0) v0, ent w n_due (k 1) v1, ent w n_place (k 2) v2, ent w n_falls (k 3) v3] 4), (ck, cellO (some (.ref ka))), (ka, listO (natV K) ek)] (by kernel_rfl) (by kernel_rfl)
    refine dk_start w _ h₀ mods (hA'.ar _ (by kernel_rfl) (by kernel_rfl)) _ g d os it B3 (B3 + 1) f ct cr ta tr et rest T hz _ _ _ _ E4 fun h5 B5 t5 ep5 Q1 dl dn hdl hQ1 E5 => ?_
    have E5 := E5.unpartX
    obtain ⟨q0, Q, rfl⟩ : ∃ q0 Q, Q1 = q0 :: Q := by
      cases Q1 with
      | nil => exact absurd (by rw [List.length_map]; exact hQ1.symm) hkne
      | cons a b => exact ⟨a, b, rfl⟩
    have hbest : (maxQ q0 Q).1 = bestAt (T.map (·.1)) rest := by
      rw [maxQ_fst]
      unfold bestAt
      rw [List.length_map, ← hQ1]
      rfl
    refine Means.add0 ?_
    rcases hdl with ⟨rfl, rfl⟩ | ⟨kk, vv, rfl, rfl⟩ <;> (
    (first | (refine segW (t0 := t5) (i := 0) 100000 [2] (Code.call (Value.builtin "max") { pos := [Value.ref B3] : Args }) E5 (by assumption) (by assumption) ?_; intro o15; refine ⟨by kernel_rfl!, by kernel_rfl!, by kernel_rfl!, by kernel_rfl!, by kernel_rfl!, fun h15 D15 => ?_⟩) | (refine segW (t0 := t5) (i := 0) 100000 [2, 2, 2] (Code.call (Value.builtin "max") { pos := [Value.ref B3] : Args }) E5 (by assumption) (by assumption) ?_; intro o15; refine ⟨by kernel_rfl!, by kernel_rfl!, by kernel_rfl!, by kernel_rfl!, by kernel_rfl!, fun h15 D15 => ?_⟩))
    refine callW_of rfl ?_
    rw [mark_none]
    refine r_maxlist (Fit.inner hA' D15 _ (by kernel_rfl) (by kernel_rfl)) B3 ep5 q0 Q (D15.give [1] (by kernel_rfl)) fun g6 t6 a6 => ?_
    obtain ⟨B6, E6⟩ := D15.backP [1] [5, 2, 3, 6, 4, 7] [(f, fobj [ent w n_months (k 0) v0, ent w n_due (k 1) v1, ent w n_place (k 2) v2, ent w n_falls (k 3) v3] 4), (ct, cellO (some (.ref ta))), (cr, cellO (some (.int (.ofNat rest) tr))), (ck, cellO (some (.ref ka))), (ta, listO (natV T) et), (ka, listO (natV K) ek)] (by kernel_rfl) a6 (by kernel_rfl)
    refine Means.add0 ?_
    (refine segW (t0 := t6) (i := 0) 100000 [1, 1, 4, 6, 6, 6, 6, 1, 1] ((.call (.builtin "list.append") ⟨[.ref ka, .int (.ofNat ((maxQ q0 Q).1 + 1)) (t6 + 2)], []⟩) ) E6 (by assumption) (by assumption) ?_; intro o16; refine ⟨by kernel_rfl, by kernel_rfl, by kernel_rfl, by kernel_rfl, by kernel_rfl, fun h16 D16 => ?_⟩)
    refine callW_of rfl ?_
    rw [mark_none]
    refine r_append ka ek (natV K) _ (by omega) (D16.give [0, 0, 0, 0, 0, 1] (by kernel_rfl)) fun g7 t7 a7 => ?_
    obtain ⟨B7, E7⟩ := D16.backP [0, 0, 0, 0, 0, 1] [1, 2, 3, 4, 5, 0] [(f, fobj [ent w n_months (k 0) v0, ent w n_due (k 1) v1, ent w n_place (k 2) v2, ent w n_falls (k 3) v3, ent w n_best t6 (.int (.ofNat (maxQ q0 Q).1) (maxQ q0 Q).2)] 5), (ct, cellO (some (.ref ta))), (cr, cellO (some (.int (.ofNat rest) tr))), (ck, cellO (some (.ref ka))), (ta, listO (natV T) et), (ka, listO (natV K ++ [.int (.ofNat ((maxQ q0 Q).1 + 1)) (t6 + 2)]) (ek + 1))] (by kernel_rfl) a7 (by kernel_rfl)
    refine Means.add0 ?_
    (refine segW (t0 := t7) (i := 0) 100000 [3, 2, 1, 5, 5, 5] (Code.call (Value.builtin "list.__getitem__") { pos := [Value.ref ta, Value.int (Int.ofNat (maxQ q0 Q).fst) (maxQ q0 Q).snd] : Args }) E7 (by assumption) (by assumption) ?_; intro o17; refine ⟨by kernel_rfl, by kernel_rfl, by kernel_rfl, by kernel_rfl, by kernel_rfl, fun h17 D17 => ?_⟩)
    refine callW_of rfl ?_
    rw [mark_none]
    refine r_lget ta et (maxQ q0 Q).1 (maxQ q0 Q).2 (natV T) (.int (.ofNat (T.getD (maxQ q0 Q).1 (0, 0)).1) (T.getD (maxQ q0 Q).1 (0, 0)).2) (by rw [hbest]; exact hget) (by rw [hbest]; omega) (D17.give [0, 0, 0, 0, 1] (by kernel_rfl)) ?_
    refine Means.add0 ?_
    (refine segF (t0 := t7 + outI o17) (i := 0) 100000 [1, 3, 3] ((Fin.again (whileOf (dB w 2) (envD w f cg ct cr ck))) ) D17 (by assumption) (by assumption) ?_; intro o18; refine ⟨by kernel_rfl, by kernel_rfl, by kernel_rfl, fun h18 D18 => ?_⟩)
    obtain ⟨B8, E8⟩ := D18.pickE [0, 1, 2, 3, 4, 5] [(f, fobj [ent w n_months (k 0) v0, ent w n_due (k 1) v1, ent w n_place (k 2) v2, ent w n_falls (k 3) v3, ent w n_best t6 (.int (.ofNat (maxQ q0 Q).1) (maxQ q0 Q).2)] 5), (ct, cellO (some (.ref ta))), (cr, cellO (some (.int ((rest : Int) - ((T.getD (maxQ q0 Q).1 (0, 0)).1 : Int)) t7))), (ck, cellO (some (.ref ka))), (ta, listO (natV T) et), (ka, listO (natV K ++ [.int (.ofNat ((maxQ q0 Q).1 + 1)) (t6 + 2)]) (ek + 1))] (by kernel_rfl)
    have e8 : natV K ++ [.int (.ofNat ((maxQ q0 Q).1 + 1)) (t6 + 2)] = natV (K ++ [(bestAt (T.map (·.1)) rest + 1, (t6 + 2))]) := by rw [← hbest]; simp [natV]
    have e9 : ((rest : Int) - ((T.getD (maxQ q0 Q).1 (0, 0)).1 : Int)) = .ofNat (rest - (T.map (·.1)).getD (bestAt (T.map (·.1)) rest) 0) := by
      rw [hbest, ← hgd]
      show _ = ((rest - (T.map (·.1)).getD (bestAt (T.map (·.1)) rest) 0 : Nat) : Int)
      have := hbo.2
      omega
    rw [e8, e9] at E8
    exact ⟨by kernel_rfl, hR _ _ _ _ _ _ _ _ E8⟩))
set_option maxHeartbeats 1000000 in
theorem dw_turn2 (w : World) (A : Around) (h₀ : Heap) (mods : List Nat) (hA : Fit 50 A (kt1 w) h₀) (R : Result → Shared → Prop) (g : Array GenState) (d : Drawn) (os : OsState) (f cg ct cr ck ta ka tr : Nat) (rest : Nat) (k : Nat → Nat) (v0 v1 v2 v3 : Value) (kb : Nat) (vb : Value)
   (T K : List (Nat × Nat)) (hT0 : (T.map (·.1)).getD 0 0 = 1) (hz : T.length ≤ 1000) (hK : K.length ≤ 16000000) (hr : 0 < rest) (h : Heap) (B t0 et ek : Nat) (X : Led)
   (D : Rep (kt1 w) h₀ mods h B [(f, fobj [ent w n_months (k 0) v0, ent w n_due (k 1) v1, ent w n_place (k 2) v2, ent w n_falls (k 3) v3, ent w n_best kb vb] 5), (ct, cellO (some (.ref ta))), (cr, cellO (some (.int (.ofNat rest) tr))), (ck, cellO (some (.ref ka))), (ta, listO (natV T) et), (ka, listO (natV K) ek)] X 0)
   (hR : ∀ h' B' t' ek' tr' kb vb tb, Rep (kt1 w) h₀ mods h' B' [(f, fobj [ent w n_months (k 0) v0, ent w n_due (k 1) v1, ent w n_place (k 2) v2, ent w n_falls (k 3) v3, ent w n_best kb vb] 5), (ct, cellO (some (.ref ta))), (cr, cellO (some (.int (.ofNat (rest - (T.map (·.1)).getD (bestAt (T.map (·.1)) rest) 0)) tr'))), (ck, cellO (some (.ref ka))), (ta, listO (natV T) et), (ka, listO (natV (K ++ [(bestAt (T.map (·.1)) rest + 1, tb)])) ek')] X 0 → codeAny (PP w) A (whileOf (dB w 2) (envD w f cg ct cr ck)) R ⟨h', g, d, t', os⟩) :
   codeAny (PP w) A (whileOf (dB w 2) (envD w f cg ct cr ck)) R ⟨h, g, d, t0, os⟩ := by
  obtain ⟨b1, b2, hw⟩ := parF_ex w
  have hA' := hA.under (whileOf (dB w 2) (envD w f cg ct cr ck)) (m := 49) (by kernel_rfl)
  have hnl := natV_len T
  have hKl := natV_len K
  have hbo := best_ok (T.map (·.1)) rest hT0 hr
  have hkne := keep_ne (T.map (·.1)) rest hT0 hr
  rw [List.length_map] at hbo
  have hget := natV_get T _ hbo.1
  have hgd := map_getD T (bestAt (T.map (·.1)) rest)
  refine code_start ?_
  refine Means.add0 ?_
  cases b1 <;> (
    (refine segW (t0 := t0) (i := 0) 100000 [3] (Code.call (Value.builtin "int.__gt__") { pos := [Value.int (Int.ofNat rest) tr, Value.int 0 t0] : Args }) D (by assumption) (by assumption) ?_; intro o11; refine ⟨by kernel_rfl, by kernel_rfl, by kernel_rfl, by kernel_rfl, by kernel_rfl, fun h11 D11 => ?_⟩)
    refine callW_of rfl ?_
    rw [mark_none]
    refine r_igt (.ofNat rest) 0 tr _ true (decide_eq_true (by show ((rest : Nat) : Int) > 0; omega)) ?_
    refine Means.add0 ?_
    (refine segW (t0 := t0 + outI o11) (i := 0) 100000 [0, 0, 0, 0, 0, 0, 2] (Code.call (Value.builtin "len") { pos := [Value.ref ta] : Args }) D11 (by assumption) (by assumption) ?_; intro o12; refine ⟨by kernel_rfl, by kernel_rfl, by kernel_rfl, by kernel_rfl, by kernel_rfl, fun h12 D12 => ?_⟩)
    refine r_clen ta et (natV T) (by omega) (D12.give [0, 0, 0, 0, 1] (by kernel_rfl)) fun t1 t' => ?_
    rw [hnl]
    refine Means.add0 ?_
    (refine segW (t0 := t') (i := 0) 100000 [1, 1, 7, 7, 1, 7, 7, 7, 7] (Code.call (Value.builtin "range.__iter__") { pos := [Value.ref B] : Args }) D12 (by assumption) (by assumption) ?_; intro o13; refine ⟨by kernel_rfl, by kernel_rfl, by kernel_rfl, by kernel_rfl, by kernel_rfl, fun h13 D13 => ?_⟩)
    refine callW_of rfl ?_
    rw [mark_none]
    refine r_riter B 0 (T.length : Nat) t' t1 (t' + 1) T.length (by omega) (by omega) (by omega) (D13.give [0, 0, 0, 0, 0, 0, 1] (by kernel_rfl)) fun g2 it t2 a2 => ?_
    obtain ⟨B3, E3⟩ := D13.backP [0, 0, 0, 0, 0, 0, 1] [2, 3, 4, 5, 6, 7, 1] ([(f, fobj [ent w n_months (k 0) v0, ent w n_due (k 1) v1, ent w n_place (k 2) v2, ent w n_falls (k 3) v3, ent w n_best kb vb] 5), (ct, cellO (some (.ref ta))), (cr, cellO (some (.int (.ofNat rest) tr))), (ck, cellO (some (.ref ka))), (ta, listO (natV T) et), (ka, listO (natV K) ek)] ++ [(it, ritO (0 : Nat) (T.length : Nat))]) (by kernel_rfl) a2 (by kernel_rfl)
    refine Means.add0 ?_
    (refine segL (t0 := t2) (i := 0) 100000 [7] ((compDS w (eDK w) (.ref it) (.ref B3) (B3 + 1) (csK ct cr) f scK) ) E3 (by assumption) (by assumption) ?_; intro o14; refine ⟨by kernel_rfl, by kernel_rfl, by kernel_rfl, by kernel_rfl, fun h14 D14 => ?_⟩)
    obtain ⟨B4, E4⟩ := D14.partX [7, 6, 8, 1, 2, 4] [0, 3, 5] [(B3, listO [] 0), (it, ritO (0 : Nat) (T.length : Nat)), (B3 + 1, dictO [] 0), (ct, cellO (some (.ref ta))), (cr, cellO (some (.int (.ofNat rest) tr))), (ta, listO (natV T) et)] [(f, fobj [ent w n_months (k 0) v0, ent w n_due (k 1) v1, ent w n_place (k 2) v2, ent w n_falls (k 3) v3, ent w n_best kb vb] 5), (ck, cellO (some (.ref ka))), (ka, listO (natV K) ek)] (by kernel_rfl) (by kernel_rfl)
    refine dk_start w _ h₀ mods (hA'.ar _ (by kernel_rfl) (by kernel_rfl)) _ g d os it B3 (B3 + 1) f ct cr ta tr et rest T hz _ _ _ _ E4 fun h5 B5 t5 ep5 Q1 dl dn hdl hQ1 E5 => ?_
    have E5 := E5.unpartX
    obtain ⟨q0, Q, rfl⟩ : ∃ q0 Q, Q1 = q0 :: Q := by
      cases Q1 with
      | nil => exact absurd (by rw [List.length_map]; exact hQ1.symm) hkne
      | cons a b => exact ⟨a, b, rfl⟩
    have hbest : (maxQ q0 Q).1 = bestAt (T.map (·.1)) rest := by
      rw [maxQ_fst]
      unfold bestAt
      rw [List.length_map, ← hQ1]
      rfl
    refine Means.add0 ?_
    rcases hdl with ⟨rfl, rfl⟩ | ⟨kk, vv, rfl, rfl⟩ <;> (
    (first | (refine segW (t0 := t5) (i := 0) 100000 [2] (Code.call (Value.builtin "max") { pos := [Value.ref B3] : Args }) E5 (by assumption) (by assumption) ?_; intro o15; refine ⟨by kernel_rfl!, by kernel_rfl!, by kernel_rfl!, by kernel_rfl!, by kernel_rfl!, fun h15 D15 => ?_⟩) | (refine segW (t0 := t5) (i := 0) 100000 [2, 2, 2] (Code.call (Value.builtin "max") { pos := [Value.ref B3] : Args }) E5 (by assumption) (by assumption) ?_; intro o15; refine ⟨by kernel_rfl!, by kernel_rfl!, by kernel_rfl!, by kernel_rfl!, by kernel_rfl!, fun h15 D15 => ?_⟩))
    refine callW_of rfl ?_
    rw [mark_none]
    refine r_maxlist (Fit.inner hA' D15 _ (by kernel_rfl) (by kernel_rfl)) B3 ep5 q0 Q (D15.give [1] (by kernel_rfl)) fun g6 t6 a6 => ?_
    obtain ⟨B6, E6⟩ := D15.backP [1] [5, 2, 3, 6, 4, 7] [(f, fobj [ent w n_months (k 0) v0, ent w n_due (k 1) v1, ent w n_place (k 2) v2, ent w n_falls (k 3) v3, ent w n_best kb vb] 5), (ct, cellO (some (.ref ta))), (cr, cellO (some (.int (.ofNat rest) tr))), (ck, cellO (some (.ref ka))), (ta, listO (natV T) et), (ka, listO (natV K) ek)] (by kernel_rfl) a6 (by kernel_rfl)
    refine Means.add0 ?_
    (refine segW (t0 := t6) (i := 0) 100000 [1, 1, 4, 6, 6, 6, 6, 1, 1] ((.call (.builtin "list.append") ⟨[.ref ka, .int (.ofNat ((maxQ q0 Q).1 + 1)) (t6 + 2)], []⟩) ) E6 (by assumption) (by assumption) ?_; intro o16; refine ⟨by kernel_rfl, by kernel_rfl, by kernel_rfl, by kernel_rfl, by kernel_rfl, fun h16 D16 => ?_⟩)
    refine callW_of rfl ?_
    rw [mark_none]
    refine r_append ka ek (natV K) _ (by omega) (D16.give [0, 0, 0, 0, 0, 1] (by kernel_rfl)) fun g7 t7 a7 => ?_
    obtain ⟨B7, E7⟩ := D16.backP [0, 0, 0, 0, 0, 1] [1, 2, 3, 4, 5, 0] [(f, fobj [ent w n_months (k 0) v0, ent w n_due (k 1) v1, ent w n_place (k 2) v2, ent w n_falls (k 3) v3, ent w n_best kb (.int (.ofNat (maxQ q0 Q).1) (maxQ q0 Q).2)] 5), (ct, cellO (some (.ref ta))), (cr, cellO (some (.int (.ofNat rest) tr))), (ck, cellO (some (.ref ka))), (ta, listO (natV T) et), (ka, listO (natV K ++ [.int (.ofNat ((maxQ q0 Q).1 + 1)) (t6 + 2)]) (ek + 1))] (by kernel_rfl) a7 (by kernel_rfl)
    refine Means.add0 ?_
    (refine segW (t0 := t7) (i := 0) 100000 [3, 2, 1, 5, 5, 5] (Code.call (Value.builtin "list.__getitem__") { pos := [Value.ref ta, Value.int (Int.ofNat (maxQ q0 Q).fst) (maxQ q0 Q).snd] : Args }) E7 (by assumption) (by assumption) ?_; intro o17; refine ⟨by kernel_rfl, by kernel_rfl, by kernel_rfl, by kernel_rfl, by kernel_rfl, fun h17 D17 => ?_⟩)
    refine callW_of rfl ?_
    rw [mark_none]
    refine r_lget ta et (maxQ q0 Q).1 (maxQ q0 Q).2 (natV T) (.int (.ofNat (T.getD (maxQ q0 Q).1 (0, 0)).1) (T.getD (maxQ q0 Q).1 (0, 0)).2) (by rw [hbest]; exact hget) (by rw [hbest]; omega) (D17.give [0, 0, 0, 0, 1] (by kernel_rfl)) ?_
    refine Means.add0 ?_
    (refine segF (t0 := t7 + outI o17) (i := 0) 100000 [1, 3, 3] ((Fin.again (whileOf (dB w 2) (envD w f cg ct cr ck))) ) D17 (by assumption) (by assumption) ?_; intro o18; refine ⟨by kernel_rfl, by kernel_rfl, by kernel_rfl, fun h18 D18 => ?_⟩)
    obtain ⟨B8, E8⟩ := D18.pickE [0, 1, 2, 3, 4, 5] [(f, fobj [ent w n_months (k 0) v0, ent w n_due (k 1) v1, ent w n_place (k 2) v2, ent w n_falls (k 3) v3, ent w n_best kb (.int (.ofNat (maxQ q0 Q).1) (maxQ q0 Q).2)] 5), (ct, cellO (some (.ref ta))), (cr, cellO (some (.int ((rest : Int) - ((T.getD (maxQ q0 Q).1 (0, 0)).1 : Int)) t7))), (ck, cellO (some (.ref ka))), (ta, listO (natV T) et), (ka, listO (natV K ++ [.int (.ofNat ((maxQ q0 Q).1 + 1)) (t6 + 2)]) (ek + 1))] (by kernel_rfl)
    have e8 : natV K ++ [.int (.ofNat ((maxQ q0 Q).1 + 1)) (t6 + 2)] = natV (K ++ [(bestAt (T.map (·.1)) rest + 1, (t6 + 2))]) := by rw [← hbest]; simp [natV]
    have e9 : ((rest : Int) - ((T.getD (maxQ q0 Q).1 (0, 0)).1 : Int)) = .ofNat (rest - (T.map (·.1)).getD (bestAt (T.map (·.1)) rest) 0) := by
      rw [hbest, ← hgd]
      show _ = ((rest - (T.map (·.1)).getD (bestAt (T.map (·.1)) rest) 0 : Nat) : Int)
      have := hbo.2
      omega
    rw [e8, e9] at E8
    exact ⟨by kernel_rfl, hR _ _ _ _ _ _ _ _ E8⟩))
end Mine
end
section
open PySem PySem.W PySem.Calls PyProof.Rows
set_option Elab.async false
set_option maxRecDepth 100000
namespace Mine
theorem dw_end (w : World) (A : Around) (h₀ : Heap) (mods : List Nat) (hA : Fit 50 A (kt1 w) h₀) (R : Result → Shared → Prop) (g : Array GenState) (d : Drawn) (os : OsState) (f cg ct cr ck tr : Nat) (fo : Obj) (h : Heap) (B t0 : Nat) (X : Led)
   (D : Rep (kt1 w) h₀ mods h B [(f, fo), (cr, cellO (some (.int (.ofNat 0) tr)))] X 0)
   (hR : ∀ h' B' t', Rep (kt1 w) h₀ mods h' B' [(f, fo), (cr, cellO (some (.int (.ofNat 0) tr)))] X 0 → R (.ok .next) ⟨h', g, d, t', os⟩) :
   codeAny (PP w) A (whileOf (dB w 2) (envD w f cg ct cr ck)) R ⟨h, g, d, t0, os⟩ := by
  obtain ⟨b1, b2, hw⟩ := parF_ex w
  have hA' := hA.under (whileOf (dB w 2) (envD w f cg ct cr ck)) (m := 49) (by kernel_rfl)
  refine code_start ?_
  refine Means.add0 ?_
  cases b1 <;> (
    (refine segF (t0 := t0) (i := 0) 100000 [2, 1] (Fin.done Flow.next) D (by assumption) (by assumption) ?_; intro o11; refine ⟨by kernel_rfl, by kernel_rfl, by kernel_rfl, fun h11 D11 => ?_⟩)
    obtain ⟨B2, E2⟩ := D11.pickE [0, 1] [(f, fo), (cr, cellO (some (.int (.ofNat 0) tr)))] (by kernel_rfl)
    exact hR _ _ _ E2)
def greedy (T : List Nat) : Nat → Nat → List Nat
  | 0, _ => []
  | n + 1, r => if r = 0 then [] else (bestAt T r + 1) :: greedy T n (r - T.getD (bestAt T r) 0)
noncomputable def dF (w : World) (k : Nat → Nat) (v0 v1 v2 : Value) (dl : List DictEntry) (n : Nat) : Obj := fobj (ent w n_months (k 0) v0 :: ent w n_due (k 1) v1 :: ent w n_place (k 2) v2 :: dl) n
def dS (w : World) (dl : List DictEntry) (n : Nat) : Prop := (∃ k3 v3, dl = [ent w n_falls k3 v3] ∧ n = 4) ∨ ∃ k3 v3 kb vb, dl = [ent w n_falls k3 v3, ent w n_best kb vb] ∧ n = 5
def kf3 (k : Nat → Nat) (k3 : Nat) (n : Nat) : Nat := match n with
  | 0 => k 0
  | 1 => k 1
  | 2 => k 2
  | _ => k3
theorem dw_while (w : World) (A : Around) (h₀ : Heap) (mods : List Nat) (hA : Fit 50 A (kt1 w) h₀) (R : Result → Shared → Prop) (g : Array GenState) (d : Drawn) (os : OsState) (f cg ct cr ck ta ka : Nat) (k : Nat → Nat) (v0 v1 v2 : Value)
   (T : List (Nat × Nat)) (hT0 : (T.map (·.1)).getD 0 0 = 1) (hT1 : ∀ i < T.length, 1 ≤ (T.map (·.1)).getD i 0) (hz : T.length ≤ 1000) (et : Nat) (X : Led) :
   ∀ (n rest : Nat) (K : List (Nat × Nat)) (h : Heap) (B t0 ek tr : Nat) (dl : List DictEntry) (dn : Nat), rest ≤ n → K.length + n ≤ 16000000 → dS w dl dn →
   Rep (kt1 w) h₀ mods h B [(f, dF w k v0 v1 v2 dl dn), (ct, cellO (some (.ref ta))), (cr, cellO (some (.int (.ofNat rest) tr))), (ck, cellO (some (.ref ka))), (ta, listO (natV T) et), (ka, listO (natV K) ek)] X 0 →
   (∀ h' B' t' ek' tr' dl' dn' Q, dS w dl' dn' → Q.map (·.1) = greedy (T.map (·.1)) n rest → Rep (kt1 w) h₀ mods h' B' [(f, dF w k v0 v1 v2 dl' dn'), (ct, cellO (some (.ref ta))), (cr, cellO (some (.int (.ofNat 0) tr'))), (ck, cellO (some (.ref ka))), (ta, listO (natV T) et), (ka, listO (natV (K ++ Q)) ek')] X 0 → R (.ok .next) ⟨h', g, d, t', os⟩) →
   codeAny (PP w) A (whileOf (dB w 2) (envD w f cg ct cr ck)) R ⟨h, g, d, t0, os⟩ := by
  have stop : ∀ (n : Nat) (K : List (Nat × Nat)) (h : Heap) (B t0 ek tr : Nat) (dl : List DictEntry) (dn : Nat), greedy (T.map (·.1)) n 0 = [] → dS w dl dn →
   Rep (kt1 w) h₀ mods h B [(f, dF w k v0 v1 v2 dl dn), (ct, cellO (some (.ref ta))), (cr, cellO (some (.int (.ofNat 0) tr))), (ck, cellO (some (.ref ka))), (ta, listO (natV T) et), (ka, listO (natV K) ek)] X 0 →
   (∀ h' B' t' ek' tr' dl' dn' Q, dS w dl' dn' → Q.map (·.1) = greedy (T.map (·.1)) n 0 → Rep (kt1 w) h₀ mods h' B' [(f, dF w k v0 v1 v2 dl' dn'), (ct, cellO (some (.ref ta))), (cr, cellO (some (.int (.ofNat 0) tr'))), (ck, cellO (some (.ref ka))), (ta, listO (natV T) et), (ka, listO (natV (K ++ Q)) ek')] X 0 → R (.ok .next) ⟨h', g, d, t', os⟩) →
   codeAny (PP w) A (whileOf (dB w 2) (envD w f cg ct cr ck)) R ⟨h, g, d, t0, os⟩ := by
    intro n K h B t0 ek tr dl dn hg hs D hR
    obtain ⟨B2, D2⟩ := D.partX [0, 2] [1, 3, 4, 5] [(f, dF w k v0 v1 v2 dl dn), (cr, cellO (some (.int (.ofNat 0) tr)))] [(ct, cellO (some (.ref ta))), (ck, cellO (some (.ref ka))), (ta, listO (natV T) et), (ka, listO (natV K) ek)] rfl rfl
    refine dw_end w A h₀ mods hA R g d os f cg ct cr ck tr _ h B2 t0 _ D2 fun h' B' t' D' => ?_
    obtain ⟨B3, D3⟩ := D'.unpartX.pickE [0, 2, 1, 3, 4, 5] [(f, dF w k v0 v1 v2 dl dn), (ct, cellO (some (.ref ta))), (cr, cellO (some (.int (.ofNat 0) tr))), (ck, cellO (some (.ref ka))), (ta, listO (natV T) et), (ka, listO (natV (K ++ [])) ek)] (by rw [List.append_nil]; rfl)
    exact hR h' B3 t' ek tr dl dn [] hs hg.symm D3
  intro n
  induction n with
  | zero =>
    intro rest K h B t0 ek tr dl dn hr hK hs D hR
    obtain rfl : rest = 0 := by omega
    exact stop 0 K h B t0 ek tr dl dn rfl hs D hR
  | succ n ih =>
    intro rest K h B t0 ek tr dl dn hr hK hs D hR
    by_cases h0 : rest = 0
    · subst h0
      exact stop (n + 1) K h B t0 ek tr dl dn (by show (if 0 = 0 then [] else _) = _; rw [if_pos rfl]) hs D hR
    · have hg : greedy (T.map (·.1)) (n + 1) rest = (bestAt (T.map (·.1)) rest + 1) :: greedy (T.map (·.1)) n (rest - (T.map (·.1)).getD (bestAt (T.map (·.1)) rest) 0) := by
        show (if rest = 0 then [] else _) = _
        rw [if_neg h0]
      have hbo := best_ok (T.map (·.1)) rest hT0 (by omega)
      rw [List.length_map] at hbo
      have h1 := hT1 _ hbo.1
      rw [hg] at hR
      have next : ∀ h' B' t' ek' tr' k3 v3 kb vb tb, Rep (kt1 w) h₀ mods h' B' [(f, dF w k v0 v1 v2 [ent w n_falls k3 v3, ent w n_best kb vb] 5), (ct, cellO (some (.ref ta))), (cr, cellO (some (.int (.ofNat (rest - (T.map (·.1)).getD (bestAt (T.map (·.1)) rest) 0)) tr'))), (ck, cellO (some (.ref ka))), (ta, listO (natV T) et), (ka, listO (natV (K ++ [(bestAt (T.map (·.1)) rest + 1, tb)])) ek')] X 0 → codeAny (PP w) A (whileOf (dB w 2) (envD w f cg ct cr ck)) R ⟨h', g, d, t', os⟩ := by
        intro h' B' t' ek' tr' k3 v3 kb vb tb D'
        refine ih _ _ h' B' t' ek' tr' _ _ (by omega) (by rw [List.length_append, List.length_singleton]; omega) (.inr ⟨k3, v3, kb, vb, rfl, rfl⟩) D' fun h2 B2 t2 ek2 tr2 dl2 dn2 Q hs2 hQ D2 => ?_
        refine hR h2 B2 t2 ek2 tr2 dl2 dn2 ((bestAt (T.map (·.1)) rest + 1, tb) :: Q) hs2 (by rw [List.map_cons, hQ]) ?_
        rw [List.append_assoc] at D2
        exact D2
      rcases hs with ⟨k3, v3, rfl, rfl⟩ | ⟨k3, v3, kb, vb, rfl, rfl⟩
      · exact dw_turn1 w A h₀ mods hA R g d os f cg ct cr ck ta ka tr rest (kf3 k k3) v0 v1 v2 v3 T K hT0 hz (by omega) (by omega) h B t0 et ek X D fun h' B' t' ek' tr' kb vb tb D' => next h' B' t' ek' tr' k3 v3 kb vb tb D'
      · exact dw_turn2 w A h₀ mods hA R g d os f cg ct cr ck ta ka tr rest (kf3 k k3) v0 v1 v2 v3 kb vb T K hT0 hz (by omega) (by omega) h B t0 et ek X D fun h' B' t' ek' tr' kb vb tb D' => next h' B' t' ek' tr' k3 v3 kb vb tb D'
end Mine
end
section
open PySem PySem.W PySem.Calls PyProof.Rows
set_option Elab.async false
set_option maxRecDepth 100000
namespace Mine
noncomputable def eDF (w : World) : Expr := match dB w 3 with
  | .Assign _ e _ => e
  | _ => default
noncomputable def eDL (w : World) : Expr := match dB w 4 with
  | .Expr (.Call _ (.Tuple (_ :: .BinOp _ _ (.Call _ (e :: _) _ _) _ :: _) _ _ :: _) _ _) _ => e
  | _ => default
def n_fall := [102, 97, 108, 108]
def scF : Scope := { kind := .function, names := [(⟨⟨[46, 48]⟩⟩, .local), (⟨⟨[107]⟩⟩, .local), (⟨⟨n_gap⟩⟩, .cell), (⟨⟨n_taken⟩⟩, .cell)], isGenerator := false, isCoroutine := false }
def csF (ck cg : Nat) : List (Str × Addr) := [(⟨⟨n_taken⟩⟩, ck), (⟨⟨n_gap⟩⟩, cg)]
def intV (Q : List (Int × Nat)) : List Value := Q.map fun p => .int p.1 p.2
theorem intV_len (Q : List (Int × Nat)) : (intV Q).length = Q.length := by simp [intV]
def fallI (gap : Nat) (K : List Nat) (k : Nat) : Int := (K.getD k 0 : Int) - (K.getD (k + 1) 0 : Int) + 1 - (gap : Int)
def fallsL (gap : Nat) (K : List Nat) (j n : Nat) : List Int := (List.range' j n).map (fallI gap K)
theorem df_loop (w : World) (A : Around) (h₀ : Heap) (mods : List Nat) (hA : Fit 5 A (kt1 w) h₀) (R : Result → Shared → Prop) (g : Array GenState) (d : Drawn) (os : OsState) (it acc di fr ck cg ka tg ek gap : Nat) (K : List (Nat × Nat)) (hz : K.length ≤ 1000000) (X : Led) :
   ∀ (n j : Nat) (P : List (Int × Nat)) (h : Heap) (B t0 ep : Nat) (dl : List DictEntry) (dn : Nat), (dl = [] ∧ dn = 0 ∨ ∃ k v, dl = [ent w n_k k v] ∧ dn = 1) → j + n + 1 = K.length → P.length ≤ j →
   Rep (kt1 w) h₀ mods h B [(acc, listO (intV P) ep), (it, ritO j n), (di, dictO dl dn), (ck, cellO (some (.ref ka))), (cg, cellO (some (.int (.ofNat gap) tg))), (ka, listO (natV K) ek)] X 0 →
   (∀ h1 B' t' ep' Q dl' dn', (dl' = [] ∧ dn' = 0 ∨ ∃ k v, dl' = [ent w n_k k v] ∧ dn' = 1) → Q.map (·.1) = fallsL gap (K.map (·.1)) j n → Rep (kt1 w) h₀ mods h1 B' [(acc, listO (intV (P ++ Q)) ep'), (di, dictO dl' dn'), (ck, cellO (some (.ref ka))), (cg, cellO (some (.int (.ofNat gap) tg))), (ka, listO (natV K) ek)] X 0 → R (.ok .next) ⟨h1, g, d, t', os⟩) →
   codeAny (PP w) A (compDL w (eDF w) (.ref it) (.ref acc) di (csF ck cg) fr scF) R ⟨h, g, d, t0, os⟩ := by
  obtain ⟨b1, b2, hw⟩ := parF_ex w
  have hA' := hA.under (compDL w (eDF w) (.ref it) (.ref acc) di (csF ck cg) fr scF) (m := 0) (by kernel_rfl)
  intro n
  induction n with
  | zero =>
    intro j P h B t0 ep dl dn hdl hj hP D hR
    refine code_start ?_
    refine Means.add0 ?_
    (refine segW (t0 := t0) (i := 0) 100000 [2] (Code.call (Value.builtin "range_iterator.__next__") { pos := [Value.ref it] : Args }) D (by assumption) (by assumption) ?_; intro o11; refine ⟨by kernel_rfl, by kernel_rfl, by kernel_rfl, by kernel_rfl, by kernel_rfl, fun h11 D11 => ?_⟩)
    refine callW_of rfl ?_
    rw [mark_none]
    refine r_rend (Fit.inner hA' D11 _ (by kernel_rfl) (by kernel_rfl)) it j (D11.give [0, 1] (by kernel_rfl)) fun g1 t' x y a1 => ?_
    obtain ⟨B2, E1⟩ := D11.backP [0, 1] [0, 1, 2, 3, 4, 5, 6] [(y, tupO []), (x, stopO y), (acc, listO (intV P) ep), (di, dictO dl dn), (ck, cellO (some (.ref ka))), (cg, cellO (some (.int (.ofNat gap) tg))), (ka, listO (natV K) ek)] (by kernel_rfl) a1 (by kernel_rfl)
    refine Means.add0 ?_
    (refine segF (t0 := t') (i := 0) 100000 [2] (Fin.done Flow.next) E1 (by assumption) (by assumption) ?_; intro o12; refine ⟨by kernel_rfl, by kernel_rfl, by kernel_rfl, fun h12 D12 => ?_⟩)
    obtain ⟨B3, E2⟩ := D12.pickE [2, 3, 4, 5, 6] [(acc, listO (intV (P ++ [])) ep), (di, dictO dl dn), (ck, cellO (some (.ref ka))), (cg, cellO (some (.int (.ofNat gap) tg))), (ka, listO (natV K) ek)] (by rw [List.append_nil]; kernel_rfl)
    exact hR _ _ _ _ [] _ _ hdl rfl E2
  | succ n ih =>
    intro j P h B t0 ep dl dn hdl hj hP D hR
    have hg1 := natV_get K j (by omega)
    have hg2 := natV_get K (j + 1) (by omega)
    have hPl := intV_len P
    have hfl : fallsL gap (K.map (·.1)) j (n + 1) = (((K.getD j (0, 0)).1 : Int) - ((K.getD (j + 1) (0, 0)).1 : Int) + 1 - (gap : Int)) :: fallsL gap (K.map (·.1)) (j + 1) n := by
      unfold fallsL
      rw [List.range'_succ, List.map_cons]
      unfold fallI
      rw [map_getD, map_getD]
    rw [hfl] at hR
    generalize K.getD j (0, 0) = q1 at hg1 hR
    generalize K.getD (j + 1) (0, 0) = q2 at hg2 hR
    refine code_start ?_
    refine Means.add0 ?_
    (refine segW (t0 := t0) (i := 0) 100000 [2] (Code.call (Value.builtin "range_iterator.__next__") { pos := [Value.ref it] : Args }) D (by assumption) (by assumption) ?_; intro o21; refine ⟨by kernel_rfl, by kernel_rfl, by kernel_rfl, by kernel_rfl, by kernel_rfl, fun h21 D21 => ?_⟩)
    refine callW_of rfl ?_
    rw [mark_none]
    refine r_rnext it j (n + 1 : Nat) (by omega) (D21.give [0, 1] (by kernel_rfl)) fun g1 t1 t' a1 => ?_
    rw [show (j : Int) + 1 = (j + 1 : Nat) by omega, show ((n + 1 : Nat) : Int) - 1 = (n : Nat) by omega] at a1
    obtain ⟨B2, E1⟩ := D21.backP [0, 1] [1, 0, 2, 3, 4, 5] [(acc, listO (intV P) ep), (it, ritO (j + 1 : Nat) (n : Nat)), (di, dictO dl dn), (ck, cellO (some (.ref ka))), (cg, cellO (some (.int (.ofNat gap) tg))), (ka, listO (natV K) ek)] (by kernel_rfl) a1 (by kernel_rfl)
    refine Means.add0 ?_
    rcases hdl with ⟨rfl, rfl⟩ | ⟨k, v, rfl, rfl⟩
    · (refine segW (t0 := t') (i := 0) 100000 [3, 3, 4, 3, 6, 6, 6] (Code.call (Value.builtin "list.__getitem__") { pos := [Value.ref ka, Value.int (Int.ofNat j) t1] : Args }) E1 (by assumption) (by assumption) ?_; intro o1001; refine ⟨by kernel_rfl, by kernel_rfl, by kernel_rfl, by kernel_rfl, by kernel_rfl, fun h1001 D1001 => ?_⟩)
      refine callW_of rfl ?_
      rw [mark_none]
      refine r_lget ka ek j t1 (natV K) _ hg1 (by omega) (D1001.give [0, 0, 0, 0, 0, 1] (by kernel_rfl)) ?_
      refine Means.add0 ?_
      obtain ⟨B3, E3⟩ := D1001.pickE [0, 1, 2, 3, 4, 5] [(acc, listO (intV P) ep), (it, ritO (j + 1 : Nat) (n : Nat)), (di, dictO [ent w n_k t' (.int (.ofNat j) t1)] 1), (ck, cellO (some (.ref ka))), (cg, cellO (some (.int (.ofNat gap) tg))), (ka, listO (natV K) ek)] (by kernel_rfl)
      cases b1 <;> (
      (refine segW (t0 := t' + outI o1001) (i := 0) 100000 [4, 3, 1, 6, 6, 6] (Code.call (Value.builtin "list.__getitem__") { pos := [Value.ref ka, Value.int (Int.ofNat (j + 1)) (t' + 2)] : Args }) D1001 (by assumption) (by assumption) ?_; intro o1002; refine ⟨by kernel_rfl, by kernel_rfl, by kernel_rfl, by kernel_rfl, by kernel_rfl, fun h1002 D1002 => ?_⟩)
      refine callW_of rfl ?_
      rw [mark_none]
      refine r_lget ka ek (j + 1) _ (natV K) _ hg2 (by omega) (D1002.give [0, 0, 0, 0, 0, 1] (by kernel_rfl)) ?_
      refine Means.add0 ?_
      (refine segW (t0 := t' + outI o1001 + outI o1002) (i := 0) 100000 [1, 1, 5, 1] ((.call (.builtin "list.append") ⟨[.ref acc, .int ((q1.1 : Int) - (q2.1 : Int) + 1 - (gap : Int)) (t' + 6)], []⟩) ) D1002 (by assumption) (by assumption) ?_; intro o1003; refine ⟨by kernel_rfl, by kernel_rfl, by kernel_rfl, by kernel_rfl, by kernel_rfl, fun h1003 D1003 => ?_⟩)
      refine callW_of rfl ?_
      rw [mark_none]
      refine r_append acc ep (intV P) _ (by omega) (D1003.give [1] (by kernel_rfl)) fun g3 t3 a3 => ?_
      obtain ⟨B4, E4⟩ := D1003.backP [1] [0, 1, 2, 3, 4, 5] [(acc, listO (intV P ++ [.int ((q1.1 : Int) - (q2.1 : Int) + 1 - (gap : Int)) (t' + 6)]) (ep + 1)), (it, ritO (j + 1 : Nat) (n : Nat)), (di, dictO [ent w n_k t' (.int (.ofNat j) t1)] 1), (ck, cellO (some (.ref ka))), (cg, cellO (some (.int (.ofNat gap) tg))), (ka, listO (natV K) ek)] (by kernel_rfl) a3 (by kernel_rfl)
      refine Means.add0 ?_
      (refine segF (t0 := t3) (i := 0) 100000 [] ((Fin.again (compDL w (eDF w) (.ref it) (.ref acc) di (csF ck cg) fr scF)) ) E4 (by assumption) (by assumption) ?_; intro o1004; refine ⟨by kernel_rfl, by kernel_rfl, by kernel_rfl, fun h1004 D1004 => ?_⟩)
      obtain ⟨B5, E5⟩ := D1004.pickE [0, 1, 2, 3, 4, 5] [(acc, listO (intV P ++ [.int ((q1.1 : Int) - (q2.1 : Int) + 1 - (gap : Int)) (t' + 6)]) (ep + 1)), (it, ritO (j + 1 : Nat) (n : Nat)), (di, dictO [ent w n_k t' (.int (.ofNat j) t1)] 1), (ck, cellO (some (.ref ka))), (cg, cellO (some (.int (.ofNat gap) tg))), (ka, listO (natV K) ek)] (by kernel_rfl)
      have e3 : intV P ++ [.int ((q1.1 : Int) - (q2.1 : Int) + 1 - (gap : Int)) (t' + 6)] = intV (P ++ [(((q1.1 : Int) - (q2.1 : Int) + 1 - (gap : Int)), (t' + 6))]) := by simp [intV]
      rw [e3] at E5
      refine ⟨by kernel_rfl, ih (j + 1) (P ++ [(((q1.1 : Int) - (q2.1 : Int) + 1 - (gap : Int)), (t' + 6))]) _ _ _ _ _ _ (.inr ⟨_, _, rfl, rfl⟩) (by omega) (by rw [List.length_append, List.length_singleton]; omega) E5 fun h1 B' t9 ep' Q dl' dn' hd2 hQ E => ?_⟩
      refine hR h1 B' t9 ep' ((((q1.1 : Int) - (q2.1 : Int) + 1 - (gap : Int)), (t' + 6)) :: Q) dl' dn' hd2 (by rw [List.map_cons, hQ]) ?_
      rw [List.append_assoc] at E
      exact E)
    · (refine segW (t0 := t') (i := 0) 100000 [3, 3, 4, 3, 6, 6, 6] (Code.call (Value.builtin "list.__getitem__") { pos := [Value.ref ka, Value.int (Int.ofNat j) t1] : Args }) E1 (by assumption) (by assumption) ?_; intro o2001; refine ⟨by kernel_rfl, by kernel_rfl, by kernel_rfl, by kernel_rfl, by kernel_rfl, fun h2001 D2001 => ?_⟩)
      refine callW_of rfl ?_
      rw [mark_none]
      refine r_lget ka ek j t1 (natV K) _ hg1 (by omega) (D2001.give [0, 0, 0, 0, 0, 1] (by kernel_rfl)) ?_
      refine Means.add0 ?_
      obtain ⟨B3, E3⟩ := D2001.pickE [0, 1, 2, 3, 4, 5] [(acc, listO (intV P) ep), (it, ritO (j + 1 : Nat) (n : Nat)), (di, dictO [ent w n_k k (.int (.ofNat j) t1)] 1), (ck, cellO (some (.ref ka))), (cg, cellO (some (.int (.ofNat gap) tg))), (ka, listO (natV K) ek)] (by kernel_rfl)
      cases b1 <;> (
      (refine segW (t0 := t' + outI o2001) (i := 0) 100000 [4, 3, 1, 6, 6, 6] (Code.call (Value.builtin "list.__getitem__") { pos := [Value.ref ka, Value.int (Int.ofNat (j + 1)) (t' + 2)] : Args }) D2001 (by assumption) (by assumption) ?_; intro o2002; refine ⟨by kernel_rfl, by kernel_rfl, by kernel_rfl, by kernel_rfl, by kernel_rfl, fun h2002 D2002 => ?_⟩)
      refine callW_of rfl ?_
      rw [mark_none]
      refine r_lget ka ek (j + 1) _ (natV K) _ hg2 (by omega) (D2002.give [0, 0, 0, 0, 0, 1] (by kernel_rfl)) ?_
      refine Means.add0 ?_
      (refine segW (t0 := t' + outI o2001 + outI o2002) (i := 0) 100000 [1, 1, 5, 1] ((.call (.builtin "list.append") ⟨[.ref acc, .int ((q1.1 : Int) - (q2.1 : Int) + 1 - (gap : Int)) (t' + 6)], []⟩) ) D2002 (by assumption) (by assumption) ?_; intro o2003; refine ⟨by kernel_rfl, by kernel_rfl, by kernel_rfl, by kernel_rfl, by kernel_rfl, fun h2003 D2003 => ?_⟩)
      refine callW_of rfl ?_
      rw [mark_none]
      refine r_append acc ep (intV P) _ (by omega) (D2003.give [1] (by kernel_rfl)) fun g3 t3 a3 => ?_
      obtain ⟨B4, E4⟩ := D2003.backP [1] [0, 1, 2, 3, 4, 5] [(acc, listO (intV P ++ [.int ((q1.1 : Int) - (q2.1 : Int) + 1 - (gap : Int)) (t' + 6)]) (ep + 1)), (it, ritO (j + 1 : Nat) (n : Nat)), (di, dictO [ent w n_k k (.int (.ofNat j) t1)] 1), (ck, cellO (some (.ref ka))), (cg, cellO (some (.int (.ofNat gap) tg))), (ka, listO (natV K) ek)] (by kernel_rfl) a3 (by kernel_rfl)
      refine Means.add0 ?_
      (refine segF (t0 := t3) (i := 0) 100000 [] ((Fin.again (compDL w (eDF w) (.ref it) (.ref acc) di (csF ck cg) fr scF)) ) E4 (by assumption) (by assumption) ?_; intro o2004; refine ⟨by kernel_rfl, by kernel_rfl, by kernel_rfl, fun h2004 D2004 => ?_⟩)
      obtain ⟨B5, E5⟩ := D2004.pickE [0, 1, 2, 3, 4, 5] [(acc, listO (intV P ++ [.int ((q1.1 : Int) - (q2.1 : Int) + 1 - (gap : Int)) (t' + 6)]) (ep + 1)), (it, ritO (j + 1 : Nat) (n : Nat)), (di, dictO [ent w n_k k (.int (.ofNat j) t1)] 1), (ck, cellO (some (.ref ka))), (cg, cellO (some (.int (.ofNat gap) tg))), (ka, listO (natV K) ek)] (by kernel_rfl)
      have e3 : intV P ++ [.int ((q1.1 : Int) - (q2.1 : Int) + 1 - (gap : Int)) (t' + 6)] = intV (P ++ [(((q1.1 : Int) - (q2.1 : Int) + 1 - (gap : Int)), (t' + 6))]) := by simp [intV]
      rw [e3] at E5
      refine ⟨by kernel_rfl, ih (j + 1) (P ++ [(((q1.1 : Int) - (q2.1 : Int) + 1 - (gap : Int)), (t' + 6))]) _ _ _ _ _ _ (.inr ⟨_, _, rfl, rfl⟩) (by omega) (by rw [List.length_append, List.length_singleton]; omega) E5 fun h1 B' t9 ep' Q dl' dn' hd2 hQ E => ?_⟩
      refine hR h1 B' t9 ep' ((((q1.1 : Int) - (q2.1 : Int) + 1 - (gap : Int)), (t' + 6)) :: Q) dl' dn' hd2 (by rw [List.map_cons, hQ]) ?_
      rw [List.append_assoc] at E
      exact E)
theorem df_start (w : World) (A : Around) (h₀ : Heap) (mods : List Nat) (hA : Fit 5 A (kt1 w) h₀) (R : Result → Shared → Prop) (g : Array GenState) (d : Drawn) (os : OsState) (it acc di fr ck cg ka tg ek gap : Nat) (K : List (Nat × Nat)) (hz : K.length ≤ 1000000) (X : Led) (n : Nat) (hn : n + 1 = K.length) (h : Heap) (B t0 : Nat)
   (D : Rep (kt1 w) h₀ mods h B [(acc, listO ([]) 0), (it, ritO (0 : Nat) (n : Nat)), (di, dictO [] 0), (ck, cellO (some (.ref ka))), (cg, cellO (some (.int (.ofNat gap) tg))), (ka, listO (natV K) ek)] X 0)
   (hR : ∀ h1 B' t' ep' Q dl' dn', (dl' = [] ∧ dn' = 0 ∨ ∃ k v, dl' = [ent w n_k k v] ∧ dn' = 1) → Q.map (·.1) = fallsL gap (K.map (·.1)) 0 n → Rep (kt1 w) h₀ mods h1 B' [(acc, listO (intV Q) ep'), (di, dictO dl' dn'), (ck, cellO (some (.ref ka))), (cg, cellO (some (.int (.ofNat gap) tg))), (ka, listO (natV K) ek)] X 0 → R (.ok .next) ⟨h1, g, d, t', os⟩) :
   codeAny (PP w) A (compDS w (eDF w) (.ref it) (.ref acc) di (csF ck cg) fr scF) R ⟨h, g, d, t0, os⟩ := by
  obtain ⟨b1, b2, hw⟩ := parF_ex w
  have hA' := hA.under (compDS w (eDF w) (.ref it) (.ref acc) di (csF ck cg) fr scF) (m := 0) (by kernel_rfl)
  refine code_start ?_
  refine Means.add0 ?_
  cases b2 <;> cases b1 <;> (
    (first | (refine segF (t0 := t0) (i := 0) 100000 [2, 2, 1, 2, 2] ((Fin.again (compDL w (eDF w) (.ref it) (.ref acc) di (csF ck cg) fr scF)) ) D (by assumption) (by assumption) ?_; intro o1; refine ⟨by kernel_rfl!, by kernel_rfl!, by kernel_rfl!, fun h1 D1 => ?_⟩) | (refine segF (t0 := t0) (i := 0) 100000 [] ((Fin.again (compDL w (eDF w) (.ref it) (.ref acc) di (csF ck cg) fr scF)) ) D (by assumption) (by assumption) ?_; intro o1; refine ⟨by kernel_rfl!, by kernel_rfl!, by kernel_rfl!, fun h1 D1 => ?_⟩))
    obtain ⟨B2, E1⟩ := D1.pickE [0, 1, 2, 3, 4, 5] [(acc, listO (intV []) 0), (it, ritO (0 : Nat) (n : Nat)), (di, dictO [] 0), (ck, cellO (some (.ref ka))), (cg, cellO (some (.int (.ofNat gap) tg))), (ka, listO (natV K) ek)] (by kernel_rfl)
    exact ⟨by kernel_rfl, df_loop w A h₀ mods hA R g d os it acc di fr ck cg ka tg ek gap K hz X n 0 [] _ _ _ _ _ _ (.inl ⟨rfl, rfl⟩) (by omega) (Nat.le_refl _) E1 hR⟩)
end Mine
end
section
open PySem PySem.W PySem.Calls PyProof.Rows
set_option Elab.async false
set_option maxRecDepth 100000
namespace Mine
theorem dx_loop (w : World) (A : Around) (h₀ : Heap) (mods : List Nat) (hA : Fit 5 A (kt1 w) h₀) (R : Result → Shared → Prop) (g : Array GenState) (d : Drawn) (os : OsState) (it acc di fr fa ef : Nat) (X : Led) :
   ∀ (rest pre : List (Nat × Nat)) (P : List (Str × Tok)) (h : Heap) (B t0 ep : Nat) (dl : List DictEntry) (dn : Nat), (dl = [] ∧ dn = 0 ∨ ∃ k v, dl = [ent w n_fall k v] ∧ dn = 1) → (∀ q ∈ rest, q.1 < 16) → P.length + rest.length ≤ 16777000 →
   Rep (kt1 w) h₀ mods h B [(acc, listO (strValues P) ep), (it, iterO "list_iterator" (.ref fa) pre.length), (fa, listO (natV (pre ++ rest)) ef), (di, dictO dl dn)] X 0 →
   (∀ h1 B' t' ep' Q dl' dn', (dl' = [] ∧ dn' = 0 ∨ ∃ k v, dl' = [ent w n_fall k v] ∧ dn' = 1) → Q.map (·.1) = rest.map (fun c => (⟨⟨[65 + c.1]⟩⟩ : Str)) → Rep (kt1 w) h₀ mods h1 B' [(acc, listO (strValues (P ++ Q)) ep'), (fa, listO (natV (pre ++ rest)) ef), (di, dictO dl' dn')] X 0 → R (.ok .next) ⟨h1, g, d, t', os⟩) →
   codeAny (PP w) A (compL w 126 (eDL w) (.ref it) (.ref acc) di q_due fr) R ⟨h, g, d, t0, os⟩ := by
  obtain ⟨b1, b2, hw⟩ := parF_ex w
  have hA' := hA.under (compL w 126 (eDL w) (.ref it) (.ref acc) di q_due fr) (m := 0) (by kernel_rfl)
  intro rest
  induction rest with
  | nil =>
    intro pre P h B t0 ep dl dn hdl hc hsz D hR
    refine code_start ?_
    refine Means.add0 ?_
    (refine segW (t0 := t0) (i := 0) 100000 [2] (Code.call (Value.builtin "list_iterator.__next__") { pos := [Value.ref it] : Args }) D (by assumption) (by assumption) ?_; intro o11; refine ⟨by kernel_rfl, by kernel_rfl, by kernel_rfl, by kernel_rfl, by kernel_rfl, fun h11 D11 => ?_⟩)
    refine callW_of rfl ?_
    rw [mark_none]
    refine r_lend (Fit.inner hA' D11 _ (by kernel_rfl) (by kernel_rfl)) it fa pre.length ef (natV (pre ++ [])) (by simp [natV]) (D11.give [0, 1, 1] (by kernel_rfl)) fun g1 t' x y a1 => ?_
    obtain ⟨B2, E1⟩ := D11.backP [0, 1, 1] [0, 1, 2, 3, 4] [(fa, listO (natV (pre ++ [])) ef), (y, tupO []), (x, stopO y), (acc, listO (strValues P) ep), (di, dictO dl dn)] (by kernel_rfl) a1 (by kernel_rfl)
    refine Means.add0 ?_
    (refine segF (t0 := t') (i := 0) 100000 [3] (Fin.done Flow.next) E1 (by assumption) (by assumption) ?_; intro o12; refine ⟨by kernel_rfl, by kernel_rfl, by kernel_rfl, fun h12 D12 => ?_⟩)
    obtain ⟨B3, E2⟩ := D12.pickE [3, 0, 4] [(acc, listO (strValues (P ++ [])) ep), (fa, listO (natV (pre ++ [])) ef), (di, dictO dl dn)] (by rw [List.append_nil P]; kernel_rfl)
    exact hR _ _ _ _ [] _ _ hdl rfl E2
  | cons q rest ih =>
    intro pre P h B t0 ep dl dn hdl hc hsz D hR
    refine code_start ?_
    refine Means.add0 ?_
    (refine segW (t0 := t0) (i := 0) 100000 [2] (Code.call (Value.builtin "list_iterator.__next__") { pos := [Value.ref it] : Args }) D (by assumption) (by assumption) ?_; intro o21; refine ⟨by kernel_rfl, by kernel_rfl, by kernel_rfl, by kernel_rfl, by kernel_rfl, fun h21 D21 => ?_⟩)
    refine callW_of rfl ?_
    rw [mark_none]
    refine r_lnext (Fit.inner hA' D21 _ (by kernel_rfl) (by kernel_rfl)) it fa pre.length ef (natV (pre ++ q :: rest)) (.int (.ofNat q.1) q.2) (by simp [natV]) (D21.give [0, 1, 1] (by kernel_rfl)) fun g1 t' a1 => ?_
    obtain ⟨B2, E1⟩ := D21.backP [0, 1, 1] [2, 0, 1, 3] [(acc, listO (strValues P) ep), (it, iterO "list_iterator" (.ref fa) (pre.length + 1)), (fa, listO (natV (pre ++ q :: rest)) ef), (di, dictO dl dn)] (by kernel_rfl) a1 (by kernel_rfl)
    refine Means.add0 ?_
    have e1 : pre ++ q :: rest = (pre ++ [q]) ++ rest := by simp
    have e2 : pre.length + 1 = (pre ++ [q]).length := by simp
    have hSP := sv_len P
    have hq := hc q List.mem_cons_self
    rw [List.length_cons] at hsz
    rcases hdl with ⟨rfl, rfl⟩ | ⟨k, v, rfl, rfl⟩
    · (refine segW (t0 := t') (i := 0) 100000 [4, 4, 4] (Code.call (Value.builtin "str.__getitem__") { pos := [Value.str { cps := { toList := [65, 66, 67, 68, 69, 70, 71, 72, 73, 74, 75, 76, 77, 78, 79, 80] : Array Nat } : Str } (t' + 1), Value.int (Int.ofNat q.fst) q.snd] : Args }) E1 (by assumption) (by assumption) ?_; intro o1001; refine ⟨by kernel_rfl, by kernel_rfl, by kernel_rfl, by kernel_rfl, by kernel_rfl, fun h1001 D1001 => ?_⟩)
      refine callW_of rfl ?_
      rw [mark_none]
      refine r_sget _ q.1 _ q.2 (65 + q.1) (by omega) (abc_at q.1 hq) fun u1 u2 => ?_
      refine Means.add0 ?_
      obtain ⟨B3, E3⟩ := D1001.pickE [0, 1, 2, 3] [(acc, listO (strValues P) ep), (it, iterO "list_iterator" (.ref fa) (pre.length + 1)), (fa, listO (natV (pre ++ q :: rest)) ef), (di, dictO [ent w n_fall t' (.int (.ofNat q.1) q.2)] 1)] (by kernel_rfl)
      cases b1 <;> (
      (refine segW (t0 := u2) (i := 0) 100000 [] ((.call (.builtin "list.append") ⟨[.ref acc, .str ⟨⟨[65 + q.1]⟩⟩ u1], []⟩) ) D1001 (by assumption) (by assumption) ?_; intro o1002; refine ⟨by kernel_rfl, by kernel_rfl, by kernel_rfl, by kernel_rfl, by kernel_rfl, fun h1002 D1002 => ?_⟩)
      refine callW_of rfl ?_
      rw [mark_none]
      refine r_append acc ep (strValues P) _ (by omega) (D1002.give [1] (by kernel_rfl)) fun g3 t3 a3 => ?_
      obtain ⟨B4, E4⟩ := D1002.backP [1] [0, 1, 2, 3] [(acc, listO (strValues P ++ [.str ⟨⟨[65 + q.1]⟩⟩ u1]) (ep + 1)), (it, iterO "list_iterator" (.ref fa) (pre.length + 1)), (fa, listO (natV (pre ++ q :: rest)) ef), (di, dictO [ent w n_fall t' (.int (.ofNat q.1) q.2)] 1)] (by kernel_rfl) a3 (by kernel_rfl)
      refine Means.add0 ?_
      (refine segF (t0 := t3) (i := 0) 100000 [] ((Fin.again (compL w 126 (eDL w) (.ref it) (.ref acc) di q_due fr)) ) E4 (by assumption) (by assumption) ?_; intro o1003; refine ⟨by kernel_rfl, by kernel_rfl, by kernel_rfl, fun h1003 D1003 => ?_⟩)
      obtain ⟨B5, E5⟩ := D1003.pickE [0, 1, 2, 3] [(acc, listO (strValues P ++ [.str ⟨⟨[65 + q.1]⟩⟩ u1]) (ep + 1)), (it, iterO "list_iterator" (.ref fa) (pre.length + 1)), (fa, listO (natV (pre ++ q :: rest)) ef), (di, dictO [ent w n_fall t' (.int (.ofNat q.1) q.2)] 1)] (by kernel_rfl)
      have e3 : strValues P ++ [.str ⟨⟨[65 + q.1]⟩⟩ u1] = strValues (P ++ [(⟨⟨[65 + q.1]⟩⟩, u1)]) := by simp [strValues]
      rw [e1, e2, e3] at E5
      refine ⟨by kernel_rfl, ih (pre ++ [q]) (P ++ [(⟨⟨[65 + q.1]⟩⟩, u1)]) _ _ _ _ _ _ (.inr ⟨_, _, rfl, rfl⟩) (fun x hx => hc x (List.mem_cons_of_mem _ hx)) (by rw [List.length_append, List.length_singleton]; omega) E5 fun h1 B' t9 ep' Q dl' dn' hd2 hQ E => ?_⟩
      refine hR h1 B' t9 ep' ((⟨⟨[65 + q.1]⟩⟩, u1) :: Q) dl' dn' hd2 (by rw [List.map_cons, List.map_cons, hQ]) ?_
      rw [List.append_assoc, ← e1] at E
      exact E)
    · (refine segW (t0 := t') (i := 0) 100000 [4, 4, 4] (Code.call (Value.builtin "str.__getitem__") { pos := [Value.str { cps := { toList := [65, 66, 67, 68, 69, 70, 71, 72, 73, 74, 75, 76, 77, 78, 79, 80] : Array Nat } : Str } (t' + 1), Value.int (Int.ofNat q.fst) q.snd] : Args }) E1 (by assumption) (by assumption) ?_; intro o2001; refine ⟨by kernel_rfl, by kernel_rfl, by kernel_rfl, by kernel_rfl, by kernel_rfl, fun h2001 D2001 => ?_⟩)
      refine callW_of rfl ?_
      rw [mark_none]
      refine r_sget _ q.1 _ q.2 (65 + q.1) (by omega) (abc_at q.1 hq) fun u1 u2 => ?_
      refine Means.add0 ?_
      obtain ⟨B3, E3⟩ := D2001.pickE [0, 1, 2, 3] [(acc, listO (strValues P) ep), (it, iterO "list_iterator" (.ref fa) (pre.length + 1)), (fa, listO (natV (pre ++ q :: rest)) ef), (di, dictO [ent w n_fall k (.int (.ofNat q.1) q.2)] 1)] (by kernel_rfl)
      cases b1 <;> (
      (refine segW (t0 := u2) (i := 0) 100000 [] ((.call (.builtin "list.append") ⟨[.ref acc, .str ⟨⟨[65 + q.1]⟩⟩ u1], []⟩) ) D2001 (by assumption) (by assumption) ?_; intro o2002; refine ⟨by kernel_rfl, by kernel_rfl, by kernel_rfl, by kernel_rfl, by kernel_rfl, fun h2002 D2002 => ?_⟩)
      refine callW_of rfl ?_
      rw [mark_none]
      refine r_append acc ep (strValues P) _ (by omega) (D2002.give [1] (by kernel_rfl)) fun g3 t3 a3 => ?_
      obtain ⟨B4, E4⟩ := D2002.backP [1] [0, 1, 2, 3] [(acc, listO (strValues P ++ [.str ⟨⟨[65 + q.1]⟩⟩ u1]) (ep + 1)), (it, iterO "list_iterator" (.ref fa) (pre.length + 1)), (fa, listO (natV (pre ++ q :: rest)) ef), (di, dictO [ent w n_fall k (.int (.ofNat q.1) q.2)] 1)] (by kernel_rfl) a3 (by kernel_rfl)
      refine Means.add0 ?_
      (refine segF (t0 := t3) (i := 0) 100000 [] ((Fin.again (compL w 126 (eDL w) (.ref it) (.ref acc) di q_due fr)) ) E4 (by assumption) (by assumption) ?_; intro o2003; refine ⟨by kernel_rfl, by kernel_rfl, by kernel_rfl, fun h2003 D2003 => ?_⟩)
      obtain ⟨B5, E5⟩ := D2003.pickE [0, 1, 2, 3] [(acc, listO (strValues P ++ [.str ⟨⟨[65 + q.1]⟩⟩ u1]) (ep + 1)), (it, iterO "list_iterator" (.ref fa) (pre.length + 1)), (fa, listO (natV (pre ++ q :: rest)) ef), (di, dictO [ent w n_fall k (.int (.ofNat q.1) q.2)] 1)] (by kernel_rfl)
      have e3 : strValues P ++ [.str ⟨⟨[65 + q.1]⟩⟩ u1] = strValues (P ++ [(⟨⟨[65 + q.1]⟩⟩, u1)]) := by simp [strValues]
      rw [e1, e2, e3] at E5
      refine ⟨by kernel_rfl, ih (pre ++ [q]) (P ++ [(⟨⟨[65 + q.1]⟩⟩, u1)]) _ _ _ _ _ _ (.inr ⟨_, _, rfl, rfl⟩) (fun x hx => hc x (List.mem_cons_of_mem _ hx)) (by rw [List.length_append, List.length_singleton]; omega) E5 fun h1 B' t9 ep' Q dl' dn' hd2 hQ E => ?_⟩
      refine hR h1 B' t9 ep' ((⟨⟨[65 + q.1]⟩⟩, u1) :: Q) dl' dn' hd2 (by rw [List.map_cons, List.map_cons, hQ]) ?_
      rw [List.append_assoc, ← e1] at E
      exact E)
theorem dx_start (w : World) (A : Around) (h₀ : Heap) (mods : List Nat) (hA : Fit 5 A (kt1 w) h₀) (R : Result → Shared → Prop) (g : Array GenState) (d : Drawn) (os : OsState) (it acc di fr fa ef : Nat) (F : List (Nat × Nat)) (X : Led) (hF : ∀ q ∈ F, q.1 < 16) (hz : F.length ≤ 16777000) (h : Heap) (B t0 : Nat)
   (D : Rep (kt1 w) h₀ mods h B [(acc, listO ([]) 0), (it, iterO "list_iterator" (.ref fa) 0), (fa, listO (natV F) ef), (di, dictO [] 0)] X 0)
   (hR : ∀ h1 B' t' ep' Q dl' dn', (dl' = [] ∧ dn' = 0 ∨ ∃ k v, dl' = [ent w n_fall k v] ∧ dn' = 1) → Q.map (·.1) = F.map (fun c => (⟨⟨[65 + c.1]⟩⟩ : Str)) → Rep (kt1 w) h₀ mods h1 B' [(acc, listO (strValues Q) ep'), (fa, listO (natV F) ef), (di, dictO dl' dn')] X 0 → R (.ok .next) ⟨h1, g, d, t', os⟩) :
   codeAny (PP w) A (compS w 126 (eDL w) (.ref it) (.ref acc) di q_due fr) R ⟨h, g, d, t0, os⟩ := by
  obtain ⟨b1, b2, hw⟩ := parF_ex w
  have hA' := hA.under (compS w 126 (eDL w) (.ref it) (.ref acc) di q_due fr) (m := 0) (by kernel_rfl)
  refine code_start ?_
  refine Means.add0 ?_
  cases b2 <;> cases b1 <;> (
    (first | (refine segF (t0 := t0) (i := 0) 100000 [2, 2, 1, 2, 2] ((Fin.again (compL w 126 (eDL w) (.ref it) (.ref acc) di q_due fr)) ) D (by assumption) (by assumption) ?_; intro o1; refine ⟨by kernel_rfl!, by kernel_rfl!, by kernel_rfl!, fun h1 D1 => ?_⟩) | (refine segF (t0 := t0) (i := 0) 100000 [] ((Fin.again (compL w 126 (eDL w) (.ref it) (.ref acc) di q_due fr)) ) D (by assumption) (by assumption) ?_; intro o1; refine ⟨by kernel_rfl!, by kernel_rfl!, by kernel_rfl!, fun h1 D1 => ?_⟩))
    obtain ⟨B2, E1⟩ := D1.pickE [0, 1, 2, 3] [(acc, listO (strValues []) 0), (it, iterO "list_iterator" (.ref fa) ([] : List (Nat × Nat)).length), (fa, listO (natV ([] ++ F)) ef), (di, dictO [] 0)] (by kernel_rfl)
    exact ⟨by kernel_rfl, dx_loop w A h₀ mods hA R g d os it acc di fr fa ef X F [] [] _ _ _ _ _ _ (.inl ⟨rfl, rfl⟩) hF (by rw [List.length_nil]; omega) E1 hR⟩)
end Mine
end
section
open PySem PySem.W PySem.Calls PyProof.Rows
set_option Elab.async false
set_option maxRecDepth 100000
namespace Mine
theorem intV_nat (Q : List (Int × Nat)) (h : ∀ p ∈ Q, 0 ≤ p.1) : intV Q = natV (Q.map fun p => (p.1.toNat, p.2)) := by
  unfold intV natV
  rw [List.map_map]
  refine List.map_congr_left fun p hp => ?_
  have := h p hp
  show Value.int p.1 p.2 = Value.int ((p.1.toNat : Nat) : Int) p.2
  rw [Int.toNat_of_nonneg this]
theorem perm_last (L : Led) (H : List Cow) (c : Cow) : (L ++ ([c.row] ++ herdL H)).Perm (L ++ herdL (H ++ [c])) := by
  rw [herdL_app]
  exact List.Perm.append_left L List.perm_append_comm
def fallsOf (gap M : Nat) (T : List Nat) (j : Nat) : List Int := fallsL gap ((M + 1) :: greedy T j j) 0 (greedy T j j).length
def entryOf (gap M : Nat) (T : List Nat) (j : Nat) : Nat × List Nat := (((M + 1) :: greedy T j j).getLastD 0, 66 :: (fallsOf gap M T j).map fun x => 65 + x.toNat)
theorem K_facts (gap M : Nat) (T : List Nat) (j : Nat) (K : List (Nat × Nat)) (hK : K.map (·.1) = (M + 1) :: greedy T j j) (hfo : ∀ x ∈ fallsOf gap M T j, 0 ≤ x ∧ x < 16) :
   ∃ gl K0 KL, K.length = gl + 1 ∧ K = K0 ++ [KL] ∧ KL.1 = (entryOf gap M T j).1 ∧ ∀ Q7 : List (Int × Nat), Q7.map (·.1) = fallsL gap (K.map (·.1)) 0 gl → (∀ p ∈ Q7, 0 ≤ p.1 ∧ p.1 < 16) ∧ Q7.map (·.1) = fallsOf gap M T j := by
  have hne : K ≠ [] := fun e => by rw [e] at hK; cases hK
  have hl : K.length = (greedy T j j).length + 1 := by rw [← List.length_map (f := (·.1)), hK]; rfl
  refine ⟨(greedy T j j).length, K.dropLast, K.getLast hne, hl, (List.dropLast_concat_getLast hne).symm, ?_, fun Q7 hQ => ?_⟩
  · show (K.getLast hne).1 = ((M + 1) :: greedy T j j).getLastD 0
    rw [← hK]
    conv => rhs; rw [← List.dropLast_concat_getLast hne]
    simp
  · have e : Q7.map (·.1) = fallsOf gap M T j := by rw [hQ, hK]; rfl
    refine ⟨fun p hp => hfo p.1 ?_, e⟩
    rw [← e]
    exact List.mem_map.mpr ⟨p, hp, rfl⟩
set_option maxHeartbeats 2000000 in
theorem dt_first (w : World) (A : Around) (h₀ : Heap) (mods : List Nat) (hA : Fit 60 A (kt1 w) h₀) (R : Result → Shared → Prop) (g : Array GenState) (d : Drawn) (os : OsState) (f cg ct cr ck ta da tg tm it M gap : Nat) (km kd : Nat)
   (T : List (Nat × Nat)) (hT0 : (T.map (·.1)).getD 0 0 = 1) (hT1 : ∀ i < T.length, 1 ≤ (T.map (·.1)).getD i 0) (hz : T.length ≤ 1000) (et ed : Nat) (DC : List Cow) (hDC : DC.length ≤ 10000) (j left : Nat) (hj : j ≤ 10000) (hj0 : j = 0) (hM : M ≤ 1000)
   (hgl : (greedy (T.map (·.1)) j j).length ≤ 1000) (hfo : ∀ x ∈ fallsOf gap M (T.map (·.1)) j, 0 ≤ x ∧ x < 16) (h : Heap) (B t0 : Nat)
   (D : Rep (kt1 w) h₀ mods h B [(f, fobj [ent w n_months km (.int (.ofNat M) tm), ent w n_due kd (.ref da)] 2), (cg, cellO (some (.int (.ofNat gap) tg))), (ct, cellO (some (.ref ta))), (cr, cellO none), (ck, cellO none), (ta, listO (natV T) et), (da, listO (herdV DC) ed), (it, ritO j (left + 1 : Nat))] (herdL DC) 0)
   (hR : ∀ h' B' t' k' v2 vr vk dl dn ca td tn ed', dS w dl dn → Rep (kt1 w) h₀ mods h' B' [(f, dF w k' (.int (.ofNat M) tm) (.ref da) v2 dl dn), (cg, cellO (some (.int (.ofNat gap) tg))), (ct, cellO (some (.ref ta))), (cr, cellO (some vr)), (ck, cellO (some vk)), (ta, listO (natV T) et), (da, listO (herdV (DC ++ [Cow.mk ca (entryOf gap M (T.map (·.1)) j).1 td (entryOf gap M (T.map (·.1)) j).2 tn])) ed'), (it, ritO (j + 1 : Nat) (left : Nat))] (herdL (DC ++ [Cow.mk ca (entryOf gap M (T.map (·.1)) j).1 td (entryOf gap M (T.map (·.1)) j).2 tn])) 0 → codeAny (PP w) A (forOf (stmtAt w 126 3) (.ref it) (envD w f cg ct cr ck)) R ⟨h', g, d, t', os⟩) :
   codeAny (PP w) A (forOf (stmtAt w 126 3) (.ref it) (envD w f cg ct cr ck)) R ⟨h, g, d, t0, os⟩ := by
  obtain ⟨b1, b2, hw⟩ := parF_ex w
  have hA' := hA.under (forOf (stmtAt w 126 3) (.ref it) (envD w f cg ct cr ck)) (m := 59) (by kernel_rfl)
  refine code_start ?_
  refine Means.add0 ?_
  (refine segW (t0 := t0) (i := 0) 100000 [8] (Code.call (Value.builtin "range_iterator.__next__") { pos := [Value.ref it] : Args }) D (by assumption) (by assumption) ?_; intro o11; refine ⟨by kernel_rfl, by kernel_rfl, by kernel_rfl, by kernel_rfl, by kernel_rfl, fun h11 D11 => ?_⟩)
  refine callW_of rfl ?_
  rw [mark_none]
  refine r_rnext it j (left + 1 : Nat) (by omega) (D11.give [0, 0, 0, 0, 0, 0, 0, 1] (by kernel_rfl)) fun g1 t1 t' a1 => ?_
  rw [show (j : Int) + 1 = (j + 1 : Nat) by omega, show ((left + 1 : Nat) : Int) - 1 = (left : Nat) by omega] at a1
  obtain ⟨B2, E2⟩ := D11.backP [0, 0, 0, 0, 0, 0, 0, 1] [1, 2, 3, 4, 5, 6, 7, 0] [(f, fobj [ent w n_months km (.int (.ofNat M) tm), ent w n_due kd (.ref da)] 2), (cg, cellO (some (.int (.ofNat gap) tg))), (ct, cellO (some (.ref ta))), (cr, cellO none), (ck, cellO none), (ta, listO (natV T) et), (da, listO (herdV DC) ed), (it, ritO (j + 1 : Nat) (left : Nat))] (by kernel_rfl) a1 (by kernel_rfl)
  refine Means.add0 ?_
  cases b1 <;> (
    (refine segL (t0 := t') (i := 0) 100000 [1, 1, 1, 4, 4, 1, 1, 5, 5] ((whileOf (dB w 2) (envD w f cg ct cr ck)) ) E2 (by assumption) (by assumption) ?_; intro o12; refine ⟨by kernel_rfl, by kernel_rfl, by kernel_rfl, by kernel_rfl, fun h12 D12 => ?_⟩)
    obtain ⟨B3, E3⟩ := D12.partX [0, 3] [1, 2, 4, 5, 6, 7, 8] [(f, fobj [ent w n_months km (.int (.ofNat M) tm), ent w n_due kd (.ref da), ent w n_place t' (.int (.ofNat j) t1)] 3), (cr, cellO (some (.int (.ofNat 0) t1)))] [(cg, cellO (some (.int (.ofNat gap) tg))), (ct, cellO (some (.ref ta))), (ck, cellO (some (.ref B2))), (ta, listO (natV T) et), (da, listO (herdV DC) ed), (it, ritO (j + 1 : Nat) (left : Nat)), (B2, listO (natV [(M + 1, t' + 2)]) 0)] (by subst hj0; kernel_rfl) (by kernel_rfl)
    refine dw_end w _ h₀ mods (hA'.ar _ (by kernel_rfl) (by kernel_rfl)) _ g d os f cg ct cr ck t1 _ _ _ _ _ E3 fun h4 B4 t4 D4 => ?_
    obtain ⟨BB, E4⟩ := D4.unpartX.pickE [0, 2, 3, 1, 4, 5, 6, 7, 8] [(f, fobj [ent w n_months km (.int (.ofNat M) tm), ent w n_due kd (.ref da), ent w n_place t' (.int (.ofNat j) t1)] 3), (cg, cellO (some (.int (.ofNat gap) tg))), (ct, cellO (some (.ref ta))), (cr, cellO (some (.int (.ofNat 0) t1))), (ck, cellO (some (.ref B2))), (ta, listO (natV T) et), (da, listO (herdV DC) ed), (it, ritO (j + 1 : Nat) (left : Nat)), (B2, listO (natV [(M + 1, t' + 2)]) 0)] rfl
    have hKm0 : ([(M + 1, t' + 2)] : List (Nat × Nat)).map (·.1) = (M + 1) :: greedy (T.map (·.1)) j j := by rw [hj0]; rfl
    generalize [(M + 1, t' + 2)] = K at E4 hKm0
    obtain ⟨gl, K0, KL, hKl, hKe, hKL, hpos7⟩ := K_facts gap M (T.map (·.1)) j K hKm0 hfo
    have hgl : gl ≤ 1000 := by have e : K.length = (greedy (T.map (·.1)) j j).length + 1 := (by rw [← List.length_map (f := (·.1)), hKm0]; rfl); omega
    refine Means.add0 ?_
    (refine segW (t0 := t4) (i := 0) 100000 [0, 0, 0, 0, 5] (Code.call (Value.builtin "len") { pos := [Value.ref B2] : Args }) E4 (by assumption) (by assumption) ?_; intro o101; refine ⟨by kernel_rfl, by kernel_rfl, by kernel_rfl, by kernel_rfl, by kernel_rfl, fun h101 D101 => ?_⟩)
    refine r_clen B2 0 (natV (K)) (by rw [natV_len, hKl]; omega) (D101.give [0, 0, 0, 0, 0, 0, 0, 0, 1] (by kernel_rfl)) fun x1 x2 => ?_
    rw [natV_len, hKl]
    refine Means.add0 ?_
    (refine segW (t0 := x2) (i := 0) 100000 [1, 1, 1, 10, 10, 1, 10, 10, 10, 10] (Code.call (Value.builtin "range.__iter__") { pos := [Value.ref BB] : Args }) D101 (by assumption) (by assumption) ?_; intro o102; refine ⟨by kernel_rfl, by kernel_rfl, by kernel_rfl, by kernel_rfl, by kernel_rfl, fun h102 D102 => ?_⟩)
    refine callW_of rfl ?_
    rw [mark_none]
    refine r_riter BB 0 (((gl + 1 : Nat) : Int) - 1) (x2 + 2) (x2 + 1) (x2 + 3) gl (by omega) (by omega) (by omega) (D102.give [0, 0, 0, 0, 0, 0, 0, 0, 0, 1] (by kernel_rfl)) fun y1 iy y2 ay => ?_
    obtain ⟨B5, E5⟩ := D102.backP [0, 0, 0, 0, 0, 0, 0, 0, 0, 1] [2, 3, 4, 5, 6, 7, 8, 9, 10, 1] [(f, fobj [ent w n_months km (.int (.ofNat M) tm), ent w n_due kd (.ref da), ent w n_place t' (.int (.ofNat j) t1)] 3), (cg, cellO (some (.int (.ofNat gap) tg))), (ct, cellO (some (.ref ta))), (cr, cellO (some (.int (.ofNat 0) t1))), (ck, cellO (some (.ref B2))), (ta, listO (natV T) et), (da, listO (herdV DC) ed), (it, ritO (j + 1 : Nat) (left : Nat)), (B2, listO (natV (K)) 0), (iy, ritO (0 : Nat) (gl : Nat))] (by kernel_rfl) ay (by kernel_rfl)
    refine Means.add0 ?_
    (refine segL (t0 := y2) (i := 0) 100000 [10] ((compDS w (eDF w) (.ref iy) (.ref B5) (B5 + 1) (csF ck cg) f scF) ) E5 (by assumption) (by assumption) ?_; intro o103; refine ⟨by kernel_rfl, by kernel_rfl, by kernel_rfl, by kernel_rfl, fun h103 D103 => ?_⟩)
    obtain ⟨B6, E6⟩ := D103.partX [10, 9, 11, 4, 1, 8] [0, 2, 3, 5, 6, 7] [(B5, listO [] 0), (iy, ritO (0 : Nat) (gl : Nat)), (B5 + 1, dictO [] 0), (ck, cellO (some (.ref B2))), (cg, cellO (some (.int (.ofNat gap) tg))), (B2, listO (natV (K)) 0)] [(f, fobj [ent w n_months km (.int (.ofNat M) tm), ent w n_due kd (.ref da), ent w n_place t' (.int (.ofNat j) t1)] 3), (ct, cellO (some (.ref ta))), (cr, cellO (some (.int (.ofNat 0) t1))), (ta, listO (natV T) et), (da, listO (herdV DC) ed), (it, ritO (j + 1 : Nat) (left : Nat))] (by kernel_rfl) (by kernel_rfl)
    refine df_start w _ h₀ mods (hA'.ar _ (by kernel_rfl) (by kernel_rfl)) _ g d os iy B5 (B5 + 1) f ck cg B2 tg 0 gap (K) (by rw [hKl]; omega) _ gl hKl.symm _ _ _ E6 fun h7 B7 t7 ep7 Q7 dl7 dn7 hdl7 hQ7 E7 => ?_
    have E7 := E7.unpartX
    refine Means.add0 ?_
    obtain ⟨hp7, hf7⟩ := hpos7 Q7 hQ7
    rw [intV_nat Q7 fun p hp => (hp7 p hp).1] at E7
    have hq16 : ∀ q ∈ Q7.map (fun p => (p.1.toNat, p.2)), q.1 < 16 := by
      intro q hq
      obtain ⟨p, hp, rfl⟩ := List.mem_map.mp hq
      have := hp7 p hp
      show p.1.toNat < 16
      omega
    have hname : [66] ++ (Q7.map (fun p => (p.1.toNat, p.2))).map (fun c => 65 + c.1) = (entryOf gap M (T.map (·.1)) j).2 := by
      show _ = 66 :: (fallsOf gap M (T.map (·.1)) j).map fun x => 65 + x.toNat
      rw [← hf7, List.map_map, List.map_map]
      rfl
    have hQl : (Q7.map (fun p => (p.1.toNat, p.2))).length ≤ 1000 := by
      have e : Q7.length = gl := by
        rw [← List.length_map (f := (·.1)), hQ7]
        unfold fallsL
        rw [List.length_map, List.length_range']
      rw [List.length_map]
      omega
    have hDl : (herdV DC).length = DC.length := by simp [herdV]
    have hK0l : K0.length ≤ 1000 := by have e := congrArg List.length hKe; rw [List.length_append, List.length_singleton] at e; omega
    generalize Q7.map (fun p => (p.1.toNat, p.2)) = Q8 at E7 hq16 hname hQl
    rcases hdl7 with ⟨rfl, rfl⟩ | ⟨kk, vv, rfl, rfl⟩ <;> (
    (first | (refine segW (t0 := t7) (i := 0) 100000 [6, 6, 2, 6, 10, 10, 10, 10, 3, 1, 5, 5, 5] (Code.call (Value.builtin "list.__getitem__") { pos := [Value.ref B2, Value.int (Int.negSucc 0) (t7 + 2)] : Args }) E7 (by assumption) (by assumption) ?_; intro o104; refine ⟨by kernel_rfl!, by kernel_rfl!, by kernel_rfl!, by kernel_rfl!, by kernel_rfl!, fun h104 D104 => ?_⟩) | (refine segW (t0 := t7) (i := 0) 100000 [6, 6, 2, 2, 2, 6, 10, 10, 10, 10, 3, 1, 5, 5, 5] (Code.call (Value.builtin "list.__getitem__") { pos := [Value.ref B2, Value.int (Int.negSucc 0) (t7 + 2)] : Args }) E7 (by assumption) (by assumption) ?_; intro o104; refine ⟨by kernel_rfl!, by kernel_rfl!, by kernel_rfl!, by kernel_rfl!, by kernel_rfl!, fun h104 D104 => ?_⟩))
    refine callW_of rfl ?_
    rw [mark_none]
    refine r_lgetlast B2 0 _ (natV K0) (.int (.ofNat KL.1) KL.2) (by have z := D104.give [0, 0, 0, 0, 1] (L' := [(B2, listO (natV (K)) 0)]) (by kernel_rfl); rw [hKe, natV_app] at z; exact z) (by rw [natV_len]; omega) ?_
    refine Means.add0 ?_
    (refine segL (t0 := t7 + outI o104) (i := 0) 100000 [6, 1, 1, 1, 1, 12] ((compS w 126 (eDL w) (.ref B7) (.ref (B7 + 1)) (B7 + 2) q_due f) ) D104 (by assumption) (by assumption) ?_; intro o105; refine ⟨by kernel_rfl, by kernel_rfl, by kernel_rfl, by kernel_rfl, fun h105 D105 => ?_⟩)
    obtain ⟨B8, E8⟩ := D105.partX [12, 11, 0, 13] [5, 3, 6, 7, 2, 8, 9, 10] [(B7 + 1, listO [] 0), (B7, iterO "list_iterator" (.ref B5) 0), (B5, listO (natV Q8) ep7), (B7 + 2, dictO [] 0)] [(f, dF w (fun n => match n with | 0 => km | 1 => kd | _ => t') (.int (.ofNat M) tm) (.ref da) (.int (.ofNat j) t1) [ent w n_falls t7 (.ref B5)] 4), (cg, cellO (some (.int (.ofNat gap) tg))), (ct, cellO (some (.ref ta))), (cr, cellO (some (.int (.ofNat 0) t1))), (ck, cellO (some (.ref B2))), (ta, listO (natV T) et), (da, listO (herdV DC) ed), (it, ritO (j + 1 : Nat) (left : Nat))] (by kernel_rfl) (by kernel_rfl)
    refine dx_start w _ h₀ mods (hA'.ar _ (by kernel_rfl) (by kernel_rfl)) _ g d os B7 (B7 + 1) (B7 + 2) f B5 ep7 Q8 _ hq16 (by omega) _ _ _ E8 fun h9 B9 t9 ep9 Q9 dl9 dn9 hdl9 hQ9 E9 => ?_
    have E9 := E9.unpartX
    have hcat : strCat (Q9.map (·.1)) = Q8.map (fun c => 65 + c.1) := by rw [hQ9]; exact strCat_one (fun c : Nat × Nat => 65 + c.1) Q8
    refine Means.add0 ?_
    rcases hdl9 with ⟨rfl, rfl⟩ | ⟨kk9, vv9, rfl, rfl⟩ <;> (
    (first | (refine segW (t0 := t9) (i := 0) 100000 [3] (Code.call (Value.builtin "str.join") { pos := [Value.str { cps := { toList := [] : Array Nat } : Str } (t7 + 4), Value.ref (B7 + 1)] : Args }) E9 (by assumption) (by assumption) ?_; intro o106; refine ⟨by kernel_rfl!, by kernel_rfl!, by kernel_rfl!, by kernel_rfl!, by kernel_rfl!, fun h106 D106 => ?_⟩) | (refine segW (t0 := t9) (i := 0) 100000 [3, 3, 3] (Code.call (Value.builtin "str.join") { pos := [Value.str { cps := { toList := [] : Array Nat } : Str } (t7 + 4), Value.ref (B7 + 1)] : Args }) E9 (by assumption) (by assumption) ?_; intro o106; refine ⟨by kernel_rfl!, by kernel_rfl!, by kernel_rfl!, by kernel_rfl!, by kernel_rfl!, fun h106 D106 => ?_⟩))
    refine callW_of rfl ?_
    rw [mark_none]
    refine r_join (B7 + 1) _ ep9 Q9 (by rw [hcat, List.length_map]; omega) (D106.give [1] (by kernel_rfl)) fun z1 z2 => ?_
    rw [hcat]
    refine Means.add0 ?_
    (refine segW (t0 := z2) (i := 0) 100000 [] (Code.call (Value.builtin "str.__add__") { pos := [Value.str { cps := { toList := [66] : Array Nat } : Str } (t7 + 3), Value.str { cps := { toList := List.map (fun c => 65 + c.fst) Q8 : Array Nat } : Str } z1] : Args }) D106 (by assumption) (by assumption) ?_; intro o107; refine ⟨by kernel_rfl, by kernel_rfl, by kernel_rfl, by kernel_rfl, by kernel_rfl, fun h107 D107 => ?_⟩)
    refine r_sadd [66] (Q8.map (fun c => 65 + c.1)) _ _ (by rw [List.length_map]; show 1 + _ ≤ _; omega) fun z3 z4 => ?_
    refine Means.add0 ?_
    obtain ⟨BT, ET⟩ := D107.pickE [3, 4, 5, 6, 7, 8, 9, 10] [(f, dF w (fun n => match n with | 0 => km | 1 => kd | _ => t') (.int (.ofNat M) tm) (.ref da) (.int (.ofNat j) t1) [ent w n_falls t7 (.ref B5)] 4), (cg, cellO (some (.int (.ofNat gap) tg))), (ct, cellO (some (.ref ta))), (cr, cellO (some (.int (.ofNat 0) t1))), (ck, cellO (some (.ref B2))), (ta, listO (natV T) et), (da, listO (herdV DC) ed), (it, ritO (j + 1 : Nat) (left : Nat))] (by kernel_rfl)
    (refine segW (t0 := z4) (i := 0) 100000 [] ((.call (.builtin "list.append") ⟨[.ref da, .ref BT], []⟩) ) ET (by assumption) (by assumption) ?_; intro o108; refine ⟨by kernel_rfl, by kernel_rfl, by kernel_rfl, by kernel_rfl, by kernel_rfl, fun h108 D108 => ?_⟩)
    refine callW_of rfl ?_
    rw [mark_none]
    refine r_append da ed (herdV DC) (.ref BT) (by rw [hDl]; omega) (D108.give [0, 0, 0, 0, 0, 0, 1] (by kernel_rfl)) fun gA tA aA => ?_
    obtain ⟨BA, EA⟩ := D108.backP [0, 0, 0, 0, 0, 0, 1] [1, 2, 3, 4, 5, 6, 0, 7, 8] [(f, dF w (fun n => match n with | 0 => km | 1 => kd | _ => t') (.int (.ofNat M) tm) (.ref da) (.int (.ofNat j) t1) [ent w n_falls t7 (.ref B5)] 4), (cg, cellO (some (.int (.ofNat gap) tg))), (ct, cellO (some (.ref ta))), (cr, cellO (some (.int (.ofNat 0) t1))), (ck, cellO (some (.ref B2))), (ta, listO (natV T) et), (da, listO (herdV DC ++ [.ref BT]) (ed + 1)), (it, ritO (j + 1 : Nat) (left : Nat)), (BT, tupO [.int (.ofNat KL.1) KL.2, .str ⟨⟨[66] ++ Q8.map (fun c => 65 + c.1)⟩⟩ z3])] (by kernel_rfl) aA (by kernel_rfl)
    refine Means.add0 ?_
    (refine segF (t0 := tA) (i := 0) 100000 [] ((Fin.again (forOf (stmtAt w 126 3) (.ref it) (envD w f cg ct cr ck))) ) EA (by assumption) (by assumption) ?_; intro o109; refine ⟨by kernel_rfl, by kernel_rfl, by kernel_rfl, fun h109 D109 => ?_⟩)
    obtain ⟨BZ, EZ⟩ := D109.partX [0, 1, 2, 3, 4, 5, 6, 7] [8] [(f, dF w (fun n => match n with | 0 => km | 1 => kd | _ => t') (.int (.ofNat M) tm) (.ref da) (.int (.ofNat j) t1) [ent w n_falls t7 (.ref B5)] 4), (cg, cellO (some (.int (.ofNat gap) tg))), (ct, cellO (some (.ref ta))), (cr, cellO (some (.int (.ofNat 0) t1))), (ck, cellO (some (.ref B2))), (ta, listO (natV T) et), (da, listO (herdV DC ++ [.ref BT]) (ed + 1)), (it, ritO (j + 1 : Nat) (left : Nat))] [(BT, tupO [.int (.ofNat KL.1) KL.2, .str ⟨⟨[66] ++ Q8.map (fun c => 65 + c.1)⟩⟩ z3])] (by kernel_rfl) (by kernel_rfl)
    rw [hname, hKL] at EZ
    have eV : herdV DC ++ [Value.ref BT] = herdV (DC ++ [Cow.mk BT (entryOf gap M (T.map (·.1)) j).1 KL.2 (entryOf gap M (T.map (·.1)) j).2 z3]) := by unfold herdV; rw [List.map_append]; rfl
    rw [eV] at EZ
    have EZ := EZ.perm (X' := herdL (DC ++ [Cow.mk BT (entryOf gap M (T.map (·.1)) j).1 KL.2 (entryOf gap M (T.map (·.1)) j).2 z3])) (perm_last _ DC (Cow.mk BT (entryOf gap M (T.map (·.1)) j).1 KL.2 (entryOf gap M (T.map (·.1)) j).2 z3))
    exact ⟨by kernel_rfl, hR _ _ _ (fun n => match n with | 0 => km | 1 => kd | _ => t') _ _ _ _ _ _ _ _ _ (.inl ⟨_, _, rfl, rfl⟩) EZ⟩)))
end Mine
end
section
open PySem PySem.W PySem.Calls PyProof.Rows
set_option Elab.async false
set_option maxRecDepth 100000
namespace Mine
set_option maxHeartbeats 2000000 in
theorem dt_later (w : World) (A : Around) (h₀ : Heap) (mods : List Nat) (hA : Fit 60 A (kt1 w) h₀) (R : Result → Shared → Prop) (g : Array GenState) (d : Drawn) (os : OsState) (f cg ct cr ck ta da tg tm it M gap : Nat) (k : Nat → Nat)
   (T : List (Nat × Nat)) (hT0 : (T.map (·.1)).getD 0 0 = 1) (hT1 : ∀ i < T.length, 1 ≤ (T.map (·.1)).getD i 0) (hz : T.length ≤ 1000) (et ed : Nat) (DC : List Cow) (hDC : DC.length ≤ 10000) (j left : Nat) (hj : j ≤ 10000) (v2 vr vk : Value) (dl : List DictEntry) (dn : Nat) (hs : dS w dl dn) (hM : M ≤ 1000)
   (hgl : (greedy (T.map (·.1)) j j).length ≤ 1000) (hfo : ∀ x ∈ fallsOf gap M (T.map (·.1)) j, 0 ≤ x ∧ x < 16) (h : Heap) (B t0 : Nat)
   (D : Rep (kt1 w) h₀ mods h B [(f, dF w k (.int (.ofNat M) tm) (.ref da) v2 dl dn), (cg, cellO (some (.int (.ofNat gap) tg))), (ct, cellO (some (.ref ta))), (cr, cellO (some vr)), (ck, cellO (some vk)), (ta, listO (natV T) et), (da, listO (herdV DC) ed), (it, ritO j (left + 1 : Nat))] (herdL DC) 0)
   (hR : ∀ h' B' t' k' v2 vr vk dl dn ca td tn ed', dS w dl dn → Rep (kt1 w) h₀ mods h' B' [(f, dF w k' (.int (.ofNat M) tm) (.ref da) v2 dl dn), (cg, cellO (some (.int (.ofNat gap) tg))), (ct, cellO (some (.ref ta))), (cr, cellO (some vr)), (ck, cellO (some vk)), (ta, listO (natV T) et), (da, listO (herdV (DC ++ [Cow.mk ca (entryOf gap M (T.map (·.1)) j).1 td (entryOf gap M (T.map (·.1)) j).2 tn])) ed'), (it, ritO (j + 1 : Nat) (left : Nat))] (herdL (DC ++ [Cow.mk ca (entryOf gap M (T.map (·.1)) j).1 td (entryOf gap M (T.map (·.1)) j).2 tn])) 0 → codeAny (PP w) A (forOf (stmtAt w 126 3) (.ref it) (envD w f cg ct cr ck)) R ⟨h', g, d, t', os⟩) :
   codeAny (PP w) A (forOf (stmtAt w 126 3) (.ref it) (envD w f cg ct cr ck)) R ⟨h, g, d, t0, os⟩ := by
  obtain ⟨b1, b2, hw⟩ := parF_ex w
  have hA' := hA.under (forOf (stmtAt w 126 3) (.ref it) (envD w f cg ct cr ck)) (m := 59) (by kernel_rfl)
  refine code_start ?_
  refine Means.add0 ?_
  (refine segW (t0 := t0) (i := 0) 100000 [8] (Code.call (Value.builtin "range_iterator.__next__") { pos := [Value.ref it] : Args }) D (by assumption) (by assumption) ?_; intro o11; refine ⟨by kernel_rfl, by kernel_rfl, by kernel_rfl, by kernel_rfl, by kernel_rfl, fun h11 D11 => ?_⟩)
  refine callW_of rfl ?_
  rw [mark_none]
  refine r_rnext it j (left + 1 : Nat) (by omega) (D11.give [0, 0, 0, 0, 0, 0, 0, 1] (by kernel_rfl)) fun g1 t1 t' a1 => ?_
  rw [show (j : Int) + 1 = (j + 1 : Nat) by omega, show ((left + 1 : Nat) : Int) - 1 = (left : Nat) by omega] at a1
  obtain ⟨B2, E2⟩ := D11.backP [0, 0, 0, 0, 0, 0, 0, 1] [1, 2, 3, 4, 5, 6, 7, 0] [(f, dF w k (.int (.ofNat M) tm) (.ref da) v2 dl dn), (cg, cellO (some (.int (.ofNat gap) tg))), (ct, cellO (some (.ref ta))), (cr, cellO (some vr)), (ck, cellO (some vk)), (ta, listO (natV T) et), (da, listO (herdV DC) ed), (it, ritO (j + 1 : Nat) (left : Nat))] (by kernel_rfl) a1 (by kernel_rfl)
  refine Means.add0 ?_
  rcases hs with ⟨k3, v3, rfl, rfl⟩ | ⟨k3, v3, kb, vb, rfl, rfl⟩
  · cases b1 <;> (
    (refine segL (t0 := t') (i := 0) 100000 [1, 1, 1, 4, 4, 1, 1, 5, 5] ((whileOf (dB w 2) (envD w f cg ct cr ck)) ) E2 (by assumption) (by assumption) ?_; intro o200; refine ⟨by kernel_rfl, by kernel_rfl, by kernel_rfl, by kernel_rfl, fun h200 D200 => ?_⟩)
    obtain ⟨B3, E3⟩ := D200.partX [0, 2, 3, 4, 5, 8] [1, 6, 7] [(f, dF w k (.int (.ofNat M) tm) (.ref da) (.int (.ofNat j) t1) [ent w n_falls k3 v3] 4), (ct, cellO (some (.ref ta))), (cr, cellO (some (.int (.ofNat j) t1))), (ck, cellO (some (.ref B2))), (ta, listO (natV T) et), (B2, listO (natV [(M + 1, (t' + 2))]) 0)] [(cg, cellO (some (.int (.ofNat gap) tg))), (da, listO (herdV DC) ed), (it, ritO (j + 1 : Nat) (left : Nat))] (by kernel_rfl) (by kernel_rfl)
    refine dw_while w _ h₀ mods (hA'.ar (m := 50) _ (by kernel_rfl) (by kernel_rfl)) _ g d os f cg ct cr ck ta B2 k _ _ _ T hT0 hT1 hz et _ j j [(M + 1, (t' + 2))] _ _ _ _ _ _ _ (Nat.le_refl _) (by show 1 + j ≤ _; omega) (.inl ⟨_, _, rfl, rfl⟩) E3 fun h4 B4 t4 ek4 tr4 dl4 dn4 Q4 hs4 hQ4 D4 => ?_
    have hKm0 : ([(M + 1, (t' + 2))] ++ Q4 : List (Nat × Nat)).map (·.1) = (M + 1) :: greedy (T.map (·.1)) j j := by rw [List.map_append, hQ4]; rfl
    obtain ⟨BB, E4⟩ := D4.unpartX.pickE [0, 6, 1, 2, 3, 4, 7, 8, 5] [(f, dF w k (.int (.ofNat M) tm) (.ref da) (.int (.ofNat j) t1) dl4 dn4), (cg, cellO (some (.int (.ofNat gap) tg))), (ct, cellO (some (.ref ta))), (cr, cellO (some (.int (.ofNat 0) tr4))), (ck, cellO (some (.ref B2))), (ta, listO (natV T) et), (da, listO (herdV DC) ed), (it, ritO (j + 1 : Nat) (left : Nat)), (B2, listO (natV ([(M + 1, (t' + 2))] ++ Q4)) ek4)] rfl
    generalize [(M + 1, (t' + 2))] ++ Q4 = K at E4 hKm0
    obtain ⟨gl, K0, KL, hKl, hKe, hKL, hpos7⟩ := K_facts gap M (T.map (·.1)) j K hKm0 hfo
    have hgl : gl ≤ 1000 := by have e : K.length = (greedy (T.map (·.1)) j j).length + 1 := (by rw [← List.length_map (f := (·.1)), hKm0]; rfl); omega
    clear E3 D200
    refine Means.add0 ?_
    rcases hs4 with ⟨k4, v4, rfl, rfl⟩ | ⟨k4, v4, kb4, vb4, rfl, rfl⟩
    · (refine segW (t0 := t4) (i := 0) 100000 [0, 0, 0, 0, 5] (Code.call (Value.builtin "len") { pos := [Value.ref B2] : Args }) E4 (by assumption) (by assumption) ?_; intro o2011; refine ⟨by kernel_rfl, by kernel_rfl, by kernel_rfl, by kernel_rfl, by kernel_rfl, fun h2011 D2011 => ?_⟩)
      refine r_clen B2 ek4 (natV (K)) (by rw [natV_len, hKl]; omega) (D2011.give [0, 0, 0, 0, 0, 0, 0, 0, 1] (by kernel_rfl)) fun x1 x2 => ?_
      rw [natV_len, hKl]
      refine Means.add0 ?_
      (refine segW (t0 := x2) (i := 0) 100000 [1, 1, 1, 10, 10, 1, 10, 10, 10, 10] (Code.call (Value.builtin "range.__iter__") { pos := [Value.ref BB] : Args }) D2011 (by assumption) (by assumption) ?_; intro o2012; refine ⟨by kernel_rfl, by kernel_rfl, by kernel_rfl, by kernel_rfl, by kernel_rfl, fun h2012 D2012 => ?_⟩)
      refine callW_of rfl ?_
      rw [mark_none]
      refine r_riter BB 0 (((gl + 1 : Nat) : Int) - 1) (x2 + 2) (x2 + 1) (x2 + 3) gl (by omega) (by omega) (by omega) (D2012.give [0, 0, 0, 0, 0, 0, 0, 0, 0, 1] (by kernel_rfl)) fun y1 iy y2 ay => ?_
      obtain ⟨B5, E5⟩ := D2012.backP [0, 0, 0, 0, 0, 0, 0, 0, 0, 1] [2, 3, 4, 5, 6, 7, 8, 9, 10, 1] [(f, dF w k (.int (.ofNat M) tm) (.ref da) (.int (.ofNat j) t1) [ent w n_falls k4 v4] 4), (cg, cellO (some (.int (.ofNat gap) tg))), (ct, cellO (some (.ref ta))), (cr, cellO (some (.int (.ofNat 0) tr4))), (ck, cellO (some (.ref B2))), (ta, listO (natV T) et), (da, listO (herdV DC) ed), (it, ritO (j + 1 : Nat) (left : Nat)), (B2, listO (natV (K)) ek4), (iy, ritO (0 : Nat) (gl : Nat))] (by kernel_rfl) ay (by kernel_rfl)
      refine Means.add0 ?_
      (refine segL (t0 := y2) (i := 0) 100000 [10] ((compDS w (eDF w) (.ref iy) (.ref B5) (B5 + 1) (csF ck cg) f scF) ) E5 (by assumption) (by assumption) ?_; intro o2013; refine ⟨by kernel_rfl, by kernel_rfl, by kernel_rfl, by kernel_rfl, fun h2013 D2013 => ?_⟩)
      obtain ⟨B6, E6⟩ := D2013.partX [10, 9, 11, 4, 1, 8] [0, 2, 3, 5, 6, 7] [(B5, listO [] 0), (iy, ritO (0 : Nat) (gl : Nat)), (B5 + 1, dictO [] 0), (ck, cellO (some (.ref B2))), (cg, cellO (some (.int (.ofNat gap) tg))), (B2, listO (natV (K)) ek4)] [(f, dF w k (.int (.ofNat M) tm) (.ref da) (.int (.ofNat j) t1) [ent w n_falls k4 v4] 4), (ct, cellO (some (.ref ta))), (cr, cellO (some (.int (.ofNat 0) tr4))), (ta, listO (natV T) et), (da, listO (herdV DC) ed), (it, ritO (j + 1 : Nat) (left : Nat))] (by kernel_rfl) (by kernel_rfl)
      refine df_start w _ h₀ mods (hA'.ar _ (by kernel_rfl) (by kernel_rfl)) _ g d os iy B5 (B5 + 1) f ck cg B2 tg ek4 gap (K) (by rw [hKl]; omega) _ gl hKl.symm _ _ _ E6 fun h7 B7 t7 ep7 Q7 dl7 dn7 hdl7 hQ7 E7 => ?_
      have E7 := E7.unpartX
      refine Means.add0 ?_
      obtain ⟨hp7, hf7⟩ := hpos7 Q7 hQ7
      rw [intV_nat Q7 fun p hp => (hp7 p hp).1] at E7
      have hq16 : ∀ q ∈ Q7.map (fun p => (p.1.toNat, p.2)), q.1 < 16 := by
        intro q hq
        obtain ⟨p, hp, rfl⟩ := List.mem_map.mp hq
        have := hp7 p hp
        show p.1.toNat < 16
        omega
      have hname : [66] ++ (Q7.map (fun p => (p.1.toNat, p.2))).map (fun c => 65 + c.1) = (entryOf gap M (T.map (·.1)) j).2 := by
        show _ = 66 :: (fallsOf gap M (T.map (·.1)) j).map fun x => 65 + x.toNat
        rw [← hf7, List.map_map, List.map_map]
        rfl
      have hQl : (Q7.map (fun p => (p.1.toNat, p.2))).length ≤ 1000 := by
        have e : Q7.length = gl := by
          rw [← List.length_map (f := (·.1)), hQ7]
          unfold fallsL
          rw [List.length_map, List.length_range']
        rw [List.length_map]
        omega
      have hDl : (herdV DC).length = DC.length := by simp [herdV]
      have hK0l : K0.length ≤ 1000 := by have e := congrArg List.length hKe; rw [List.length_append, List.length_singleton] at e; omega
      generalize Q7.map (fun p => (p.1.toNat, p.2)) = Q8 at E7 hq16 hname hQl
      rcases hdl7 with ⟨rfl, rfl⟩ | ⟨kk, vv, rfl, rfl⟩ <;> (
      (first | (refine segW (t0 := t7) (i := 0) 100000 [6, 6, 2, 6, 10, 10, 10, 10, 3, 1, 5, 5, 5] (Code.call (Value.builtin "list.__getitem__") { pos := [Value.ref B2, Value.int (Int.negSucc 0) (t7 + 2)] : Args }) E7 (by assumption) (by assumption) ?_; intro o2014; refine ⟨by kernel_rfl!, by kernel_rfl!, by kernel_rfl!, by kernel_rfl!, by kernel_rfl!, fun h2014 D2014 => ?_⟩) | (refine segW (t0 := t7) (i := 0) 100000 [6, 6, 2, 2, 2, 6, 10, 10, 10, 10, 3, 1, 5, 5, 5] (Code.call (Value.builtin "list.__getitem__") { pos := [Value.ref B2, Value.int (Int.negSucc 0) (t7 + 2)] : Args }) E7 (by assumption) (by assumption) ?_; intro o2014; refine ⟨by kernel_rfl!, by kernel_rfl!, by kernel_rfl!, by kernel_rfl!, by kernel_rfl!, fun h2014 D2014 => ?_⟩))
      refine callW_of rfl ?_
      rw [mark_none]
      refine r_lgetlast B2 ek4 _ (natV K0) (.int (.ofNat KL.1) KL.2) (by have z := D2014.give [0, 0, 0, 0, 1] (L' := [(B2, listO (natV (K)) ek4)]) (by kernel_rfl); rw [hKe, natV_app] at z; exact z) (by rw [natV_len]; omega) ?_
      refine Means.add0 ?_
      (refine segL (t0 := t7 + outI o2014) (i := 0) 100000 [6, 1, 1, 1, 1, 12] ((compS w 126 (eDL w) (.ref B7) (.ref (B7 + 1)) (B7 + 2) q_due f) ) D2014 (by assumption) (by assumption) ?_; intro o2015; refine ⟨by kernel_rfl, by kernel_rfl, by kernel_rfl, by kernel_rfl, fun h2015 D2015 => ?_⟩)
      obtain ⟨B8, E8⟩ := D2015.partX [12, 11, 0, 13] [5, 3, 6, 7, 2, 8, 9, 10] [(B7 + 1, listO [] 0), (B7, iterO "list_iterator" (.ref B5) 0), (B5, listO (natV Q8) ep7), (B7 + 2, dictO [] 0)] [(f, dF w k (.int (.ofNat M) tm) (.ref da) (.int (.ofNat j) t1) [ent w n_falls k4 (.ref B5)] 4), (cg, cellO (some (.int (.ofNat gap) tg))), (ct, cellO (some (.ref ta))), (cr, cellO (some (.int (.ofNat 0) tr4))), (ck, cellO (some (.ref B2))), (ta, listO (natV T) et), (da, listO (herdV DC) ed), (it, ritO (j + 1 : Nat) (left : Nat))] (by kernel_rfl) (by kernel_rfl)
      refine dx_start w _ h₀ mods (hA'.ar _ (by kernel_rfl) (by kernel_rfl)) _ g d os B7 (B7 + 1) (B7 + 2) f B5 ep7 Q8 _ hq16 (by omega) _ _ _ E8 fun h9 B9 t9 ep9 Q9 dl9 dn9 hdl9 hQ9 E9 => ?_
      have E9 := E9.unpartX
      have hcat : strCat (Q9.map (·.1)) = Q8.map (fun c => 65 + c.1) := by rw [hQ9]; exact strCat_one (fun c : Nat × Nat => 65 + c.1) Q8
      refine Means.add0 ?_
      rcases hdl9 with ⟨rfl, rfl⟩ | ⟨kk9, vv9, rfl, rfl⟩ <;> (
      (first | (refine segW (t0 := t9) (i := 0) 100000 [3] (Code.call (Value.builtin "str.join") { pos := [Value.str { cps := { toList := [] : Array Nat } : Str } (t7 + 4), Value.ref (B7 + 1)] : Args }) E9 (by assumption) (by assumption) ?_; intro o2016; refine ⟨by kernel_rfl!, by kernel_rfl!, by kernel_rfl!, by kernel_rfl!, by kernel_rfl!, fun h2016 D2016 => ?_⟩) | (refine segW (t0 := t9) (i := 0) 100000 [3, 3, 3] (Code.call (Value.builtin "str.join") { pos := [Value.str { cps := { toList := [] : Array Nat } : Str } (t7 + 4), Value.ref (B7 + 1)] : Args }) E9 (by assumption) (by assumption) ?_; intro o2016; refine ⟨by kernel_rfl!, by kernel_rfl!, by kernel_rfl!, by kernel_rfl!, by kernel_rfl!, fun h2016 D2016 => ?_⟩))
      refine callW_of rfl ?_
      rw [mark_none]
      refine r_join (B7 + 1) _ ep9 Q9 (by rw [hcat, List.length_map]; omega) (D2016.give [1] (by kernel_rfl)) fun z1 z2 => ?_
      rw [hcat]
      refine Means.add0 ?_
      (refine segW (t0 := z2) (i := 0) 100000 [] (Code.call (Value.builtin "str.__add__") { pos := [Value.str { cps := { toList := [66] : Array Nat } : Str } (t7 + 3), Value.str { cps := { toList := List.map (fun c => 65 + c.fst) Q8 : Array Nat } : Str } z1] : Args }) D2016 (by assumption) (by assumption) ?_; intro o2017; refine ⟨by kernel_rfl, by kernel_rfl, by kernel_rfl, by kernel_rfl, by kernel_rfl, fun h2017 D2017 => ?_⟩)
      refine r_sadd [66] (Q8.map (fun c => 65 + c.1)) _ _ (by rw [List.length_map]; show 1 + _ ≤ _; omega) fun z3 z4 => ?_
      refine Means.add0 ?_
      obtain ⟨BT, ET⟩ := D2017.pickE [3, 4, 5, 6, 7, 8, 9, 10] [(f, dF w k (.int (.ofNat M) tm) (.ref da) (.int (.ofNat j) t1) [ent w n_falls k4 (.ref B5)] 4), (cg, cellO (some (.int (.ofNat gap) tg))), (ct, cellO (some (.ref ta))), (cr, cellO (some (.int (.ofNat 0) tr4))), (ck, cellO (some (.ref B2))), (ta, listO (natV T) et), (da, listO (herdV DC) ed), (it, ritO (j + 1 : Nat) (left : Nat))] (by kernel_rfl)
      (refine segW (t0 := z4) (i := 0) 100000 [] ((.call (.builtin "list.append") ⟨[.ref da, .ref BT], []⟩) ) ET (by assumption) (by assumption) ?_; intro o2018; refine ⟨by kernel_rfl, by kernel_rfl, by kernel_rfl, by kernel_rfl, by kernel_rfl, fun h2018 D2018 => ?_⟩)
      refine callW_of rfl ?_
      rw [mark_none]
      refine r_append da ed (herdV DC) (.ref BT) (by rw [hDl]; omega) (D2018.give [0, 0, 0, 0, 0, 0, 1] (by kernel_rfl)) fun gA tA aA => ?_
      obtain ⟨BA, EA⟩ := D2018.backP [0, 0, 0, 0, 0, 0, 1] [1, 2, 3, 4, 5, 6, 0, 7, 8] [(f, dF w k (.int (.ofNat M) tm) (.ref da) (.int (.ofNat j) t1) [ent w n_falls k4 (.ref B5)] 4), (cg, cellO (some (.int (.ofNat gap) tg))), (ct, cellO (some (.ref ta))), (cr, cellO (some (.int (.ofNat 0) tr4))), (ck, cellO (some (.ref B2))), (ta, listO (natV T) et), (da, listO (herdV DC ++ [.ref BT]) (ed + 1)), (it, ritO (j + 1 : Nat) (left : Nat)), (BT, tupO [.int (.ofNat KL.1) KL.2, .str ⟨⟨[66] ++ Q8.map (fun c => 65 + c.1)⟩⟩ z3])] (by kernel_rfl) aA (by kernel_rfl)
      refine Means.add0 ?_
      (refine segF (t0 := tA) (i := 0) 100000 [] ((Fin.again (forOf (stmtAt w 126 3) (.ref it) (envD w f cg ct cr ck))) ) EA (by assumption) (by assumption) ?_; intro o2019; refine ⟨by kernel_rfl, by kernel_rfl, by kernel_rfl, fun h2019 D2019 => ?_⟩)
      obtain ⟨BZ, EZ⟩ := D2019.partX [0, 1, 2, 3, 4, 5, 6, 7] [8] [(f, dF w k (.int (.ofNat M) tm) (.ref da) (.int (.ofNat j) t1) [ent w n_falls k4 (.ref B5)] 4), (cg, cellO (some (.int (.ofNat gap) tg))), (ct, cellO (some (.ref ta))), (cr, cellO (some (.int (.ofNat 0) tr4))), (ck, cellO (some (.ref B2))), (ta, listO (natV T) et), (da, listO (herdV DC ++ [.ref BT]) (ed + 1)), (it, ritO (j + 1 : Nat) (left : Nat))] [(BT, tupO [.int (.ofNat KL.1) KL.2, .str ⟨⟨[66] ++ Q8.map (fun c => 65 + c.1)⟩⟩ z3])] (by kernel_rfl) (by kernel_rfl)
      rw [hname, hKL] at EZ
      have eV : herdV DC ++ [Value.ref BT] = herdV (DC ++ [Cow.mk BT (entryOf gap M (T.map (·.1)) j).1 KL.2 (entryOf gap M (T.map (·.1)) j).2 z3]) := by unfold herdV; rw [List.map_append]; rfl
      rw [eV] at EZ
      have EZ := EZ.perm (X' := herdL (DC ++ [Cow.mk BT (entryOf gap M (T.map (·.1)) j).1 KL.2 (entryOf gap M (T.map (·.1)) j).2 z3])) (perm_last _ DC (Cow.mk BT (entryOf gap M (T.map (·.1)) j).1 KL.2 (entryOf gap M (T.map (·.1)) j).2 z3))
      exact ⟨by kernel_rfl, hR _ _ _ k _ _ _ _ _ _ _ _ _ (.inl ⟨_, _, rfl, rfl⟩) EZ⟩))
    · (refine segW (t0 := t4) (i := 0) 100000 [0, 0, 0, 0, 5] (Code.call (Value.builtin "len") { pos := [Value.ref B2] : Args }) E4 (by assumption) (by assumption) ?_; intro o2021; refine ⟨by kernel_rfl, by kernel_rfl, by kernel_rfl, by kernel_rfl, by kernel_rfl, fun h2021 D2021 => ?_⟩)
      refine r_clen B2 ek4 (natV (K)) (by rw [natV_len, hKl]; omega) (D2021.give [0, 0, 0, 0, 0, 0, 0, 0, 1] (by kernel_rfl)) fun x1 x2 => ?_
      rw [natV_len, hKl]
      refine Means.add0 ?_
      (refine segW (t0 := x2) (i := 0) 100000 [1, 1, 1, 10, 10, 1, 10, 10, 10, 10] (Code.call (Value.builtin "range.__iter__") { pos := [Value.ref BB] : Args }) D2021 (by assumption) (by assumption) ?_; intro o2022; refine ⟨by kernel_rfl, by kernel_rfl, by kernel_rfl, by kernel_rfl, by kernel_rfl, fun h2022 D2022 => ?_⟩)
      refine callW_of rfl ?_
      rw [mark_none]
      refine r_riter BB 0 (((gl + 1 : Nat) : Int) - 1) (x2 + 2) (x2 + 1) (x2 + 3) gl (by omega) (by omega) (by omega) (D2022.give [0, 0, 0, 0, 0, 0, 0, 0, 0, 1] (by kernel_rfl)) fun y1 iy y2 ay => ?_
      obtain ⟨B5, E5⟩ := D2022.backP [0, 0, 0, 0, 0, 0, 0, 0, 0, 1] [2, 3, 4, 5, 6, 7, 8, 9, 10, 1] [(f, dF w k (.int (.ofNat M) tm) (.ref da) (.int (.ofNat j) t1) [ent w n_falls k4 v4, ent w n_best kb4 vb4] 5), (cg, cellO (some (.int (.ofNat gap) tg))), (ct, cellO (some (.ref ta))), (cr, cellO (some (.int (.ofNat 0) tr4))), (ck, cellO (some (.ref B2))), (ta, listO (natV T) et), (da, listO (herdV DC) ed), (it, ritO (j + 1 : Nat) (left : Nat)), (B2, listO (natV (K)) ek4), (iy, ritO (0 : Nat) (gl : Nat))] (by kernel_rfl) ay (by kernel_rfl)
      refine Means.add0 ?_
      (refine segL (t0 := y2) (i := 0) 100000 [10] ((compDS w (eDF w) (.ref iy) (.ref B5) (B5 + 1) (csF ck cg) f scF) ) E5 (by assumption) (by assumption) ?_; intro o2023; refine ⟨by kernel_rfl, by kernel_rfl, by kernel_rfl, by kernel_rfl, fun h2023 D2023 => ?_⟩)
      obtain ⟨B6, E6⟩ := D2023.partX [10, 9, 11, 4, 1, 8] [0, 2, 3, 5, 6, 7] [(B5, listO [] 0), (iy, ritO (0 : Nat) (gl : Nat)), (B5 + 1, dictO [] 0), (ck, cellO (some (.ref B2))), (cg, cellO (some (.int (.ofNat gap) tg))), (B2, listO (natV (K)) ek4)] [(f, dF w k (.int (.ofNat M) tm) (.ref da) (.int (.ofNat j) t1) [ent w n_falls k4 v4, ent w n_best kb4 vb4] 5), (ct, cellO (some (.ref ta))), (cr, cellO (some (.int (.ofNat 0) tr4))), (ta, listO (natV T) et), (da, listO (herdV DC) ed), (it, ritO (j + 1 : Nat) (left : Nat))] (by kernel_rfl) (by kernel_rfl)
      refine df_start w _ h₀ mods (hA'.ar _ (by kernel_rfl) (by kernel_rfl)) _ g d os iy B5 (B5 + 1) f ck cg B2 tg ek4 gap (K) (by rw [hKl]; omega) _ gl hKl.symm _ _ _ E6 fun h7 B7 t7 ep7 Q7 dl7 dn7 hdl7 hQ7 E7 => ?_
      have E7 := E7.unpartX
      refine Means.add0 ?_
      obtain ⟨hp7, hf7⟩ := hpos7 Q7 hQ7
      rw [intV_nat Q7 fun p hp => (hp7 p hp).1] at E7
      have hq16 : ∀ q ∈ Q7.map (fun p => (p.1.toNat, p.2)), q.1 < 16 := by
        intro q hq
        obtain ⟨p, hp, rfl⟩ := List.mem_map.mp hq
        have := hp7 p hp
        show p.1.toNat < 16
        omega
      have hname : [66] ++ (Q7.map (fun p => (p.1.toNat, p.2))).map (fun c => 65 + c.1) = (entryOf gap M (T.map (·.1)) j).2 := by
        show _ = 66 :: (fallsOf gap M (T.map (·.1)) j).map fun x => 65 + x.toNat
        rw [← hf7, List.map_map, List.map_map]
        rfl
      have hQl : (Q7.map (fun p => (p.1.toNat, p.2))).length ≤ 1000 := by
        have e : Q7.length = gl := by
          rw [← List.length_map (f := (·.1)), hQ7]
          unfold fallsL
          rw [List.length_map, List.length_range']
        rw [List.length_map]
        omega
      have hDl : (herdV DC).length = DC.length := by simp [herdV]
      have hK0l : K0.length ≤ 1000 := by have e := congrArg List.length hKe; rw [List.length_append, List.length_singleton] at e; omega
      generalize Q7.map (fun p => (p.1.toNat, p.2)) = Q8 at E7 hq16 hname hQl
      rcases hdl7 with ⟨rfl, rfl⟩ | ⟨kk, vv, rfl, rfl⟩ <;> (
      (first | (refine segW (t0 := t7) (i := 0) 100000 [6, 6, 2, 6, 10, 10, 10, 10, 3, 1, 5, 5, 5] (Code.call (Value.builtin "list.__getitem__") { pos := [Value.ref B2, Value.int (Int.negSucc 0) (t7 + 2)] : Args }) E7 (by assumption) (by assumption) ?_; intro o2024; refine ⟨by kernel_rfl!, by kernel_rfl!, by kernel_rfl!, by kernel_rfl!, by kernel_rfl!, fun h2024 D2024 => ?_⟩) | (refine segW (t0 := t7) (i := 0) 100000 [6, 6, 2, 2, 2, 6, 10, 10, 10, 10, 3, 1, 5, 5, 5] (Code.call (Value.builtin "list.__getitem__") { pos := [Value.ref B2, Value.int (Int.negSucc 0) (t7 + 2)] : Args }) E7 (by assumption) (by assumption) ?_; intro o2024; refine ⟨by kernel_rfl!, by kernel_rfl!, by kernel_rfl!, by kernel_rfl!, by kernel_rfl!, fun h2024 D2024 => ?_⟩))
      refine callW_of rfl ?_
      rw [mark_none]
      refine r_lgetlast B2 ek4 _ (natV K0) (.int (.ofNat KL.1) KL.2) (by have z := D2024.give [0, 0, 0, 0, 1] (L' := [(B2, listO (natV (K)) ek4)]) (by kernel_rfl); rw [hKe, natV_app] at z; exact z) (by rw [natV_len]; omega) ?_
      refine Means.add0 ?_
      (refine segL (t0 := t7 + outI o2024) (i := 0) 100000 [6, 1, 1, 1, 1, 12] ((compS w 126 (eDL w) (.ref B7) (.ref (B7 + 1)) (B7 + 2) q_due f) ) D2024 (by assumption) (by assumption) ?_; intro o2025; refine ⟨by kernel_rfl, by kernel_rfl, by kernel_rfl, by kernel_rfl, fun h2025 D2025 => ?_⟩)
      obtain ⟨B8, E8⟩ := D2025.partX [12, 11, 0, 13] [5, 3, 6, 7, 2, 8, 9, 10] [(B7 + 1, listO [] 0), (B7, iterO "list_iterator" (.ref B5) 0), (B5, listO (natV Q8) ep7), (B7 + 2, dictO [] 0)] [(f, dF w k (.int (.ofNat M) tm) (.ref da) (.int (.ofNat j) t1) [ent w n_falls k4 (.ref B5), ent w n_best kb4 vb4] 5), (cg, cellO (some (.int (.ofNat gap) tg))), (ct, cellO (some (.ref ta))), (cr, cellO (some (.int (.ofNat 0) tr4))), (ck, cellO (some (.ref B2))), (ta, listO (natV T) et), (da, listO (herdV DC) ed), (it, ritO (j + 1 : Nat) (left : Nat))] (by kernel_rfl) (by kernel_rfl)
      refine dx_start w _ h₀ mods (hA'.ar _ (by kernel_rfl) (by kernel_rfl)) _ g d os B7 (B7 + 1) (B7 + 2) f B5 ep7 Q8 _ hq16 (by omega) _ _ _ E8 fun h9 B9 t9 ep9 Q9 dl9 dn9 hdl9 hQ9 E9 => ?_
      have E9 := E9.unpartX
      have hcat : strCat (Q9.map (·.1)) = Q8.map (fun c => 65 + c.1) := by rw [hQ9]; exact strCat_one (fun c : Nat × Nat => 65 + c.1) Q8
      refine Means.add0 ?_
      rcases hdl9 with ⟨rfl, rfl⟩ | ⟨kk9, vv9, rfl, rfl⟩ <;> (
      (first | (refine segW (t0 := t9) (i := 0) 100000 [3] (Code.call (Value.builtin "str.join") { pos := [Value.str { cps := { toList := [] : Array Nat } : Str } (t7 + 4), Value.ref (B7 + 1)] : Args }) E9 (by assumption) (by assumption) ?_; intro o2026; refine ⟨by kernel_rfl!, by kernel_rfl!, by kernel_rfl!, by kernel_rfl!, by kernel_rfl!, fun h2026 D2026 => ?_⟩) | (refine segW (t0 := t9) (i := 0) 100000 [3, 3, 3] (Code.call (Value.builtin "str.join") { pos := [Value.str { cps := { toList := [] : Array Nat } : Str } (t7 + 4), Value.ref (B7 + 1)] : Args }) E9 (by assumption) (by assumption) ?_; intro o2026; refine ⟨by kernel_rfl!, by kernel_rfl!, by kernel_rfl!, by kernel_rfl!, by kernel_rfl!, fun h2026 D2026 => ?_⟩))
      refine callW_of rfl ?_
      rw [mark_none]
      refine r_join (B7 + 1) _ ep9 Q9 (by rw [hcat, List.length_map]; omega) (D2026.give [1] (by kernel_rfl)) fun z1 z2 => ?_
      rw [hcat]
      refine Means.add0 ?_
      (refine segW (t0 := z2) (i := 0) 100000 [] (Code.call (Value.builtin "str.__add__") { pos := [Value.str { cps := { toList := [66] : Array Nat } : Str } (t7 + 3), Value.str { cps := { toList := List.map (fun c => 65 + c.fst) Q8 : Array Nat } : Str } z1] : Args }) D2026 (by assumption) (by assumption) ?_; intro o2027; refine ⟨by kernel_rfl, by kernel_rfl, by kernel_rfl, by kernel_rfl, by kernel_rfl, fun h2027 D2027 => ?_⟩)
      refine r_sadd [66] (Q8.map (fun c => 65 + c.1)) _ _ (by rw [List.length_map]; show 1 + _ ≤ _; omega) fun z3 z4 => ?_
      refine Means.add0 ?_
      obtain ⟨BT, ET⟩ := D2027.pickE [3, 4, 5, 6, 7, 8, 9, 10] [(f, dF w k (.int (.ofNat M) tm) (.ref da) (.int (.ofNat j) t1) [ent w n_falls k4 (.ref B5), ent w n_best kb4 vb4] 5), (cg, cellO (some (.int (.ofNat gap) tg))), (ct, cellO (some (.ref ta))), (cr, cellO (some (.int (.ofNat 0) tr4))), (ck, cellO (some (.ref B2))), (ta, listO (natV T) et), (da, listO (herdV DC) ed), (it, ritO (j + 1 : Nat) (left : Nat))] (by kernel_rfl)
      (refine segW (t0 := z4) (i := 0) 100000 [] ((.call (.builtin "list.append") ⟨[.ref da, .ref BT], []⟩) ) ET (by assumption) (by assumption) ?_; intro o2028; refine ⟨by kernel_rfl, by kernel_rfl, by kernel_rfl, by kernel_rfl, by kernel_rfl, fun h2028 D2028 => ?_⟩)
      refine callW_of rfl ?_
      rw [mark_none]
      refine r_append da ed (herdV DC) (.ref BT) (by rw [hDl]; omega) (D2028.give [0, 0, 0, 0, 0, 0, 1] (by kernel_rfl)) fun gA tA aA => ?_
      obtain ⟨BA, EA⟩ := D2028.backP [0, 0, 0, 0, 0, 0, 1] [1, 2, 3, 4, 5, 6, 0, 7, 8] [(f, dF w k (.int (.ofNat M) tm) (.ref da) (.int (.ofNat j) t1) [ent w n_falls k4 (.ref B5), ent w n_best kb4 vb4] 5), (cg, cellO (some (.int (.ofNat gap) tg))), (ct, cellO (some (.ref ta))), (cr, cellO (some (.int (.ofNat 0) tr4))), (ck, cellO (some (.ref B2))), (ta, listO (natV T) et), (da, listO (herdV DC ++ [.ref BT]) (ed + 1)), (it, ritO (j + 1 : Nat) (left : Nat)), (BT, tupO [.int (.ofNat KL.1) KL.2, .str ⟨⟨[66] ++ Q8.map (fun c => 65 + c.1)⟩⟩ z3])] (by kernel_rfl) aA (by kernel_rfl)
      refine Means.add0 ?_
      (refine segF (t0 := tA) (i := 0) 100000 [] ((Fin.again (forOf (stmtAt w 126 3) (.ref it) (envD w f cg ct cr ck))) ) EA (by assumption) (by assumption) ?_; intro o2029; refine ⟨by kernel_rfl, by kernel_rfl, by kernel_rfl, fun h2029 D2029 => ?_⟩)
      obtain ⟨BZ, EZ⟩ := D2029.partX [0, 1, 2, 3, 4, 5, 6, 7] [8] [(f, dF w k (.int (.ofNat M) tm) (.ref da) (.int (.ofNat j) t1) [ent w n_falls k4 (.ref B5), ent w n_best kb4 vb4] 5), (cg, cellO (some (.int (.ofNat gap) tg))), (ct, cellO (some (.ref ta))), (cr, cellO (some (.int (.ofNat 0) tr4))), (ck, cellO (some (.ref B2))), (ta, listO (natV T) et), (da, listO (herdV DC ++ [.ref BT]) (ed + 1)), (it, ritO (j + 1 : Nat) (left : Nat))] [(BT, tupO [.int (.ofNat KL.1) KL.2, .str ⟨⟨[66] ++ Q8.map (fun c => 65 + c.1)⟩⟩ z3])] (by kernel_rfl) (by kernel_rfl)
      rw [hname, hKL] at EZ
      have eV : herdV DC ++ [Value.ref BT] = herdV (DC ++ [Cow.mk BT (entryOf gap M (T.map (·.1)) j).1 KL.2 (entryOf gap M (T.map (·.1)) j).2 z3]) := by unfold herdV; rw [List.map_append]; rfl
      rw [eV] at EZ
      have EZ := EZ.perm (X' := herdL (DC ++ [Cow.mk BT (entryOf gap M (T.map (·.1)) j).1 KL.2 (entryOf gap M (T.map (·.1)) j).2 z3])) (perm_last _ DC (Cow.mk BT (entryOf gap M (T.map (·.1)) j).1 KL.2 (entryOf gap M (T.map (·.1)) j).2 z3))
      exact ⟨by kernel_rfl, hR _ _ _ k _ _ _ _ _ _ _ _ _ (.inr ⟨_, _, _, _, rfl, rfl⟩) EZ⟩))
    )
  · cases b1 <;> (
    (refine segL (t0 := t') (i := 0) 100000 [1, 1, 1, 4, 4, 1, 1, 5, 5] ((whileOf (dB w 2) (envD w f cg ct cr ck)) ) E2 (by assumption) (by assumption) ?_; intro o300; refine ⟨by kernel_rfl, by kernel_rfl, by kernel_rfl, by kernel_rfl, fun h300 D300 => ?_⟩)
    obtain ⟨B3, E3⟩ := D300.partX [0, 2, 3, 4, 5, 8] [1, 6, 7] [(f, dF w k (.int (.ofNat M) tm) (.ref da) (.int (.ofNat j) t1) [ent w n_falls k3 v3, ent w n_best kb vb] 5), (ct, cellO (some (.ref ta))), (cr, cellO (some (.int (.ofNat j) t1))), (ck, cellO (some (.ref B2))), (ta, listO (natV T) et), (B2, listO (natV [(M + 1, (t' + 2))]) 0)] [(cg, cellO (some (.int (.ofNat gap) tg))), (da, listO (herdV DC) ed), (it, ritO (j + 1 : Nat) (left : Nat))] (by kernel_rfl) (by kernel_rfl)
    refine dw_while w _ h₀ mods (hA'.ar (m := 50) _ (by kernel_rfl) (by kernel_rfl)) _ g d os f cg ct cr ck ta B2 k _ _ _ T hT0 hT1 hz et _ j j [(M + 1, (t' + 2))] _ _ _ _ _ _ _ (Nat.le_refl _) (by show 1 + j ≤ _; omega) (.inr ⟨_, _, _, _, rfl, rfl⟩) E3 fun h4 B4 t4 ek4 tr4 dl4 dn4 Q4 hs4 hQ4 D4 => ?_
    have hKm0 : ([(M + 1, (t' + 2))] ++ Q4 : List (Nat × Nat)).map (·.1) = (M + 1) :: greedy (T.map (·.1)) j j := by rw [List.map_append, hQ4]; rfl
    obtain ⟨BB, E4⟩ := D4.unpartX.pickE [0, 6, 1, 2, 3, 4, 7, 8, 5] [(f, dF w k (.int (.ofNat M) tm) (.ref da) (.int (.ofNat j) t1) dl4 dn4), (cg, cellO (some (.int (.ofNat gap) tg))), (ct, cellO (some (.ref ta))), (cr, cellO (some (.int (.ofNat 0) tr4))), (ck, cellO (some (.ref B2))), (ta, listO (natV T) et), (da, listO (herdV DC) ed), (it, ritO (j + 1 : Nat) (left : Nat)), (B2, listO (natV ([(M + 1, (t' + 2))] ++ Q4)) ek4)] rfl
    generalize [(M + 1, (t' + 2))] ++ Q4 = K at E4 hKm0
    obtain ⟨gl, K0, KL, hKl, hKe, hKL, hpos7⟩ := K_facts gap M (T.map (·.1)) j K hKm0 hfo
    have hgl : gl ≤ 1000 := by have e : K.length = (greedy (T.map (·.1)) j j).length + 1 := (by rw [← List.length_map (f := (·.1)), hKm0]; rfl); omega
    clear E3 D300
    refine Means.add0 ?_
    rcases hs4 with ⟨k4, v4, rfl, rfl⟩ | ⟨k4, v4, kb4, vb4, rfl, rfl⟩
    · (refine segW (t0 := t4) (i := 0) 100000 [0, 0, 0, 0, 5] (Code.call (Value.builtin "len") { pos := [Value.ref B2] : Args }) E4 (by assumption) (by assumption) ?_; intro o3011; refine ⟨by kernel_rfl, by kernel_rfl, by kernel_rfl, by kernel_rfl, by kernel_rfl, fun h3011 D3011 => ?_⟩)
      refine r_clen B2 ek4 (natV (K)) (by rw [natV_len, hKl]; omega) (D3011.give [0, 0, 0, 0, 0, 0, 0, 0, 1] (by kernel_rfl)) fun x1 x2 => ?_
      rw [natV_len, hKl]
      refine Means.add0 ?_
      (refine segW (t0 := x2) (i := 0) 100000 [1, 1, 1, 10, 10, 1, 10, 10, 10, 10] (Code.call (Value.builtin "range.__iter__") { pos := [Value.ref BB] : Args }) D3011 (by assumption) (by assumption) ?_; intro o3012; refine ⟨by kernel_rfl, by kernel_rfl, by kernel_rfl, by kernel_rfl, by kernel_rfl, fun h3012 D3012 => ?_⟩)
      refine callW_of rfl ?_
      rw [mark_none]
      refine r_riter BB 0 (((gl + 1 : Nat) : Int) - 1) (x2 + 2) (x2 + 1) (x2 + 3) gl (by omega) (by omega) (by omega) (D3012.give [0, 0, 0, 0, 0, 0, 0, 0, 0, 1] (by kernel_rfl)) fun y1 iy y2 ay => ?_
      obtain ⟨B5, E5⟩ := D3012.backP [0, 0, 0, 0, 0, 0, 0, 0, 0, 1] [2, 3, 4, 5, 6, 7, 8, 9, 10, 1] [(f, dF w k (.int (.ofNat M) tm) (.ref da) (.int (.ofNat j) t1) [ent w n_falls k4 v4] 4), (cg, cellO (some (.int (.ofNat gap) tg))), (ct, cellO (some (.ref ta))), (cr, cellO (some (.int (.ofNat 0) tr4))), (ck, cellO (some (.ref B2))), (ta, listO (natV T) et), (da, listO (herdV DC) ed), (it, ritO (j + 1 : Nat) (left : Nat)), (B2, listO (natV (K)) ek4), (iy, ritO (0 : Nat) (gl : Nat))] (by kernel_rfl) ay (by kernel_rfl)
      refine Means.add0 ?_
      (refine segL (t0 := y2) (i := 0) 100000 [10] ((compDS w (eDF w) (.ref iy) (.ref B5) (B5 + 1) (csF ck cg) f scF) ) E5 (by assumption) (by assumption) ?_; intro o3013; refine ⟨by kernel_rfl, by kernel_rfl, by kernel_rfl, by kernel_rfl, fun h3013 D3013 => ?_⟩)
      obtain ⟨B6, E6⟩ := D3013.partX [10, 9, 11, 4, 1, 8] [0, 2, 3, 5, 6, 7] [(B5, listO [] 0), (iy, ritO (0 : Nat) (gl : Nat)), (B5 + 1, dictO [] 0), (ck, cellO (some (.ref B2))), (cg, cellO (some (.int (.ofNat gap) tg))), (B2, listO (natV (K)) ek4)] [(f, dF w k (.int (.ofNat M) tm) (.ref da) (.int (.ofNat j) t1) [ent w n_falls k4 v4] 4), (ct, cellO (some (.ref ta))), (cr, cellO (some (.int (.ofNat 0) tr4))), (ta, listO (natV T) et), (da, listO (herdV DC) ed), (it, ritO (j + 1 : Nat) (left : Nat))] (by kernel_rfl) (by kernel_rfl)
      refine df_start w _ h₀ mods (hA'.ar _ (by kernel_rfl) (by kernel_rfl)) _ g d os iy B5 (B5 + 1) f ck cg B2 tg ek4 gap (K) (by rw [hKl]; omega) _ gl hKl.symm _ _ _ E6 fun h7 B7 t7 ep7 Q7 dl7 dn7 hdl7 hQ7 E7 => ?_
      have E7 := E7.unpartX
      refine Means.add0 ?_
      obtain ⟨hp7, hf7⟩ := hpos7 Q7 hQ7
      rw [intV_nat Q7 fun p hp => (hp7 p hp).1] at E7
      have hq16 : ∀ q ∈ Q7.map (fun p => (p.1.toNat, p.2)), q.1 < 16 := by
        intro q hq
        obtain ⟨p, hp, rfl⟩ := List.mem_map.mp hq
        have := hp7 p hp
        show p.1.toNat < 16
        omega
      have hname : [66] ++ (Q7.map (fun p => (p.1.toNat, p.2))).map (fun c => 65 + c.1) = (entryOf gap M (T.map (·.1)) j).2 := by
        show _ = 66 :: (fallsOf gap M (T.map (·.1)) j).map fun x => 65 + x.toNat
        rw [← hf7, List.map_map, List.map_map]
        rfl
      have hQl : (Q7.map (fun p => (p.1.toNat, p.2))).length ≤ 1000 := by
        have e : Q7.length = gl := by
          rw [← List.length_map (f := (·.1)), hQ7]
          unfold fallsL
          rw [List.length_map, List.length_range']
        rw [List.length_map]
        omega
      have hDl : (herdV DC).length = DC.length := by simp [herdV]
      have hK0l : K0.length ≤ 1000 := by have e := congrArg List.length hKe; rw [List.length_append, List.length_singleton] at e; omega
      generalize Q7.map (fun p => (p.1.toNat, p.2)) = Q8 at E7 hq16 hname hQl
      rcases hdl7 with ⟨rfl, rfl⟩ | ⟨kk, vv, rfl, rfl⟩ <;> (
      (first | (refine segW (t0 := t7) (i := 0) 100000 [6, 6, 2, 6, 10, 10, 10, 10, 3, 1, 5, 5, 5] (Code.call (Value.builtin "list.__getitem__") { pos := [Value.ref B2, Value.int (Int.negSucc 0) (t7 + 2)] : Args }) E7 (by assumption) (by assumption) ?_; intro o3014; refine ⟨by kernel_rfl!, by kernel_rfl!, by kernel_rfl!, by kernel_rfl!, by kernel_rfl!, fun h3014 D3014 => ?_⟩) | (refine segW (t0 := t7) (i := 0) 100000 [6, 6, 2, 2, 2, 6, 10, 10, 10, 10, 3, 1, 5, 5, 5] (Code.call (Value.builtin "list.__getitem__") { pos := [Value.ref B2, Value.int (Int.negSucc 0) (t7 + 2)] : Args }) E7 (by assumption) (by assumption) ?_; intro o3014; refine ⟨by kernel_rfl!, by kernel_rfl!, by kernel_rfl!, by kernel_rfl!, by kernel_rfl!, fun h3014 D3014 => ?_⟩))
      refine callW_of rfl ?_
      rw [mark_none]
      refine r_lgetlast B2 ek4 _ (natV K0) (.int (.ofNat KL.1) KL.2) (by have z := D3014.give [0, 0, 0, 0, 1] (L' := [(B2, listO (natV (K)) ek4)]) (by kernel_rfl); rw [hKe, natV_app] at z; exact z) (by rw [natV_len]; omega) ?_
      refine Means.add0 ?_
      (refine segL (t0 := t7 + outI o3014) (i := 0) 100000 [6, 1, 1, 1, 1, 12] ((compS w 126 (eDL w) (.ref B7) (.ref (B7 + 1)) (B7 + 2) q_due f) ) D3014 (by assumption) (by assumption) ?_; intro o3015; refine ⟨by kernel_rfl, by kernel_rfl, by kernel_rfl, by kernel_rfl, fun h3015 D3015 => ?_⟩)
      obtain ⟨B8, E8⟩ := D3015.partX [12, 11, 0, 13] [5, 3, 6, 7, 2, 8, 9, 10] [(B7 + 1, listO [] 0), (B7, iterO "list_iterator" (.ref B5) 0), (B5, listO (natV Q8) ep7), (B7 + 2, dictO [] 0)] [(f, dF w k (.int (.ofNat M) tm) (.ref da) (.int (.ofNat j) t1) [ent w n_falls k4 (.ref B5)] 4), (cg, cellO (some (.int (.ofNat gap) tg))), (ct, cellO (some (.ref ta))), (cr, cellO (some (.int (.ofNat 0) tr4))), (ck, cellO (some (.ref B2))), (ta, listO (natV T) et), (da, listO (herdV DC) ed), (it, ritO (j + 1 : Nat) (left : Nat))] (by kernel_rfl) (by kernel_rfl)
      refine dx_start w _ h₀ mods (hA'.ar _ (by kernel_rfl) (by kernel_rfl)) _ g d os B7 (B7 + 1) (B7 + 2) f B5 ep7 Q8 _ hq16 (by omega) _ _ _ E8 fun h9 B9 t9 ep9 Q9 dl9 dn9 hdl9 hQ9 E9 => ?_
      have E9 := E9.unpartX
      have hcat : strCat (Q9.map (·.1)) = Q8.map (fun c => 65 + c.1) := by rw [hQ9]; exact strCat_one (fun c : Nat × Nat => 65 + c.1) Q8
      refine Means.add0 ?_
      rcases hdl9 with ⟨rfl, rfl⟩ | ⟨kk9, vv9, rfl, rfl⟩ <;> (
      (first | (refine segW (t0 := t9) (i := 0) 100000 [3] (Code.call (Value.builtin "str.join") { pos := [Value.str { cps := { toList := [] : Array Nat } : Str } (t7 + 4), Value.ref (B7 + 1)] : Args }) E9 (by assumption) (by assumption) ?_; intro o3016; refine ⟨by kernel_rfl!, by kernel_rfl!, by kernel_rfl!, by kernel_rfl!, by kernel_rfl!, fun h3016 D3016 => ?_⟩) | (refine segW (t0 := t9) (i := 0) 100000 [3, 3, 3] (Code.call (Value.builtin "str.join") { pos := [Value.str { cps := { toList := [] : Array Nat } : Str } (t7 + 4), Value.ref (B7 + 1)] : Args }) E9 (by assumption) (by assumption) ?_; intro o3016; refine ⟨by kernel_rfl!, by kernel_rfl!, by kernel_rfl!, by kernel_rfl!, by kernel_rfl!, fun h3016 D3016 => ?_⟩))
      refine callW_of rfl ?_
      rw [mark_none]
      refine r_join (B7 + 1) _ ep9 Q9 (by rw [hcat, List.length_map]; omega) (D3016.give [1] (by kernel_rfl)) fun z1 z2 => ?_
      rw [hcat]
      refine Means.add0 ?_
      (refine segW (t0 := z2) (i := 0) 100000 [] (Code.call (Value.builtin "str.__add__") { pos := [Value.str { cps := { toList := [66] : Array Nat } : Str } (t7 + 3), Value.str { cps := { toList := List.map (fun c => 65 + c.fst) Q8 : Array Nat } : Str } z1] : Args }) D3016 (by assumption) (by assumption) ?_; intro o3017; refine ⟨by kernel_rfl, by kernel_rfl, by kernel_rfl, by kernel_rfl, by kernel_rfl, fun h3017 D3017 => ?_⟩)
      refine r_sadd [66] (Q8.map (fun c => 65 + c.1)) _ _ (by rw [List.length_map]; show 1 + _ ≤ _; omega) fun z3 z4 => ?_
      refine Means.add0 ?_
      obtain ⟨BT, ET⟩ := D3017.pickE [3, 4, 5, 6, 7, 8, 9, 10] [(f, dF w k (.int (.ofNat M) tm) (.ref da) (.int (.ofNat j) t1) [ent w n_falls k4 (.ref B5)] 4), (cg, cellO (some (.int (.ofNat gap) tg))), (ct, cellO (some (.ref ta))), (cr, cellO (some (.int (.ofNat 0) tr4))), (ck, cellO (some (.ref B2))), (ta, listO (natV T) et), (da, listO (herdV DC) ed), (it, ritO (j + 1 : Nat) (left : Nat))] (by kernel_rfl)
      (refine segW (t0 := z4) (i := 0) 100000 [] ((.call (.builtin "list.append") ⟨[.ref da, .ref BT], []⟩) ) ET (by assumption) (by assumption) ?_; intro o3018; refine ⟨by kernel_rfl, by kernel_rfl, by kernel_rfl, by kernel_rfl, by kernel_rfl, fun h3018 D3018 => ?_⟩)
      refine callW_of rfl ?_
      rw [mark_none]
      refine r_append da ed (herdV DC) (.ref BT) (by rw [hDl]; omega) (D3018.give [0, 0, 0, 0, 0, 0, 1] (by kernel_rfl)) fun gA tA aA => ?_
      obtain ⟨BA, EA⟩ := D3018.backP [0, 0, 0, 0, 0, 0, 1] [1, 2, 3, 4, 5, 6, 0, 7, 8] [(f, dF w k (.int (.ofNat M) tm) (.ref da) (.int (.ofNat j) t1) [ent w n_falls k4 (.ref B5)] 4), (cg, cellO (some (.int (.ofNat gap) tg))), (ct, cellO (some (.ref ta))), (cr, cellO (some (.int (.ofNat 0) tr4))), (ck, cellO (some (.ref B2))), (ta, listO (natV T) et), (da, listO (herdV DC ++ [.ref BT]) (ed + 1)), (it, ritO (j + 1 : Nat) (left : Nat)), (BT, tupO [.int (.ofNat KL.1) KL.2, .str ⟨⟨[66] ++ Q8.map (fun c => 65 + c.1)⟩⟩ z3])] (by kernel_rfl) aA (by kernel_rfl)
      refine Means.add0 ?_
      (refine segF (t0 := tA) (i := 0) 100000 [] ((Fin.again (forOf (stmtAt w 126 3) (.ref it) (envD w f cg ct cr ck))) ) EA (by assumption) (by assumption) ?_; intro o3019; refine ⟨by kernel_rfl, by kernel_rfl, by kernel_rfl, fun h3019 D3019 => ?_⟩)
      obtain ⟨BZ, EZ⟩ := D3019.partX [0, 1, 2, 3, 4, 5, 6, 7] [8] [(f, dF w k (.int (.ofNat M) tm) (.ref da) (.int (.ofNat j) t1) [ent w n_falls k4 (.ref B5)] 4), (cg, cellO (some (.int (.ofNat gap) tg))), (ct, cellO (some (.ref ta))), (cr, cellO (some (.int (.ofNat 0) tr4))), (ck, cellO (some (.ref B2))), (ta, listO (natV T) et), (da, listO (herdV DC ++ [.ref BT]) (ed + 1)), (it, ritO (j + 1 : Nat) (left : Nat))] [(BT, tupO [.int (.ofNat KL.1) KL.2, .str ⟨⟨[66] ++ Q8.map (fun c => 65 + c.1)⟩⟩ z3])] (by kernel_rfl) (by kernel_rfl)
      rw [hname, hKL] at EZ
      have eV : herdV DC ++ [Value.ref BT] = herdV (DC ++ [Cow.mk BT (entryOf gap M (T.map (·.1)) j).1 KL.2 (entryOf gap M (T.map (·.1)) j).2 z3]) := by unfold herdV; rw [List.map_append]; rfl
      rw [eV] at EZ
      have EZ := EZ.perm (X' := herdL (DC ++ [Cow.mk BT (entryOf gap M (T.map (·.1)) j).1 KL.2 (entryOf gap M (T.map (·.1)) j).2 z3])) (perm_last _ DC (Cow.mk BT (entryOf gap M (T.map (·.1)) j).1 KL.2 (entryOf gap M (T.map (·.1)) j).2 z3))
      exact ⟨by kernel_rfl, hR _ _ _ k _ _ _ _ _ _ _ _ _ (.inl ⟨_, _, rfl, rfl⟩) EZ⟩))
    · (refine segW (t0 := t4) (i := 0) 100000 [0, 0, 0, 0, 5] (Code.call (Value.builtin "len") { pos := [Value.ref B2] : Args }) E4 (by assumption) (by assumption) ?_; intro o3021; refine ⟨by kernel_rfl, by kernel_rfl, by kernel_rfl, by kernel_rfl, by kernel_rfl, fun h3021 D3021 => ?_⟩)
      refine r_clen B2 ek4 (natV (K)) (by rw [natV_len, hKl]; omega) (D3021.give [0, 0, 0, 0, 0, 0, 0, 0, 1] (by kernel_rfl)) fun x1 x2 => ?_
      rw [natV_len, hKl]
      refine Means.add0 ?_
      (refine segW (t0 := x2) (i := 0) 100000 [1, 1, 1, 10, 10, 1, 10, 10, 10, 10] (Code.call (Value.builtin "range.__iter__") { pos := [Value.ref BB] : Args }) D3021 (by assumption) (by assumption) ?_; intro o3022; refine ⟨by kernel_rfl, by kernel_rfl, by kernel_rfl, by kernel_rfl, by kernel_rfl, fun h3022 D3022 => ?_⟩)
      refine callW_of rfl ?_
      rw [mark_none]
      refine r_riter BB 0 (((gl + 1 : Nat) : Int) - 1) (x2 + 2) (x2 + 1) (x2 + 3) gl (by omega) (by omega) (by omega) (D3022.give [0, 0, 0, 0, 0, 0, 0, 0, 0, 1] (by kernel_rfl)) fun y1 iy y2 ay => ?_
      obtain ⟨B5, E5⟩ := D3022.backP [0, 0, 0, 0, 0, 0, 0, 0, 0, 1] [2, 3, 4, 5, 6, 7, 8, 9, 10, 1] [(f, dF w k (.int (.ofNat M) tm) (.ref da) (.int (.ofNat j) t1) [ent w n_falls k4 v4, ent w n_best kb4 vb4] 5), (cg, cellO (some (.int (.ofNat gap) tg))), (ct, cellO (some (.ref ta))), (cr, cellO (some (.int (.ofNat 0) tr4))), (ck, cellO (some (.ref B2))), (ta, listO (natV T) et), (da, listO (herdV DC) ed), (it, ritO (j + 1 : Nat) (left : Nat)), (B2, listO (natV (K)) ek4), (iy, ritO (0 : Nat) (gl : Nat))] (by kernel_rfl) ay (by kernel_rfl)
      refine Means.add0 ?_
      (refine segL (t0 := y2) (i := 0) 100000 [10] ((compDS w (eDF w) (.ref iy) (.ref B5) (B5 + 1) (csF ck cg) f scF) ) E5 (by assumption) (by assumption) ?_; intro o3023; refine ⟨by kernel_rfl, by kernel_rfl, by kernel_rfl, by kernel_rfl, fun h3023 D3023 => ?_⟩)
      obtain ⟨B6, E6⟩ := D3023.partX [10, 9, 11, 4, 1, 8] [0, 2, 3, 5, 6, 7] [(B5, listO [] 0), (iy, ritO (0 : Nat) (gl : Nat)), (B5 + 1, dictO [] 0), (ck, cellO (some (.ref B2))), (cg, cellO (some (.int (.ofNat gap) tg))), (B2, listO (natV (K)) ek4)] [(f, dF w k (.int (.ofNat M) tm) (.ref da) (.int (.ofNat j) t1) [ent w n_falls k4 v4, ent w n_best kb4 vb4] 5), (ct, cellO (some (.ref ta))), (cr, cellO (some (.int (.ofNat 0) tr4))), (ta, listO (natV T) et), (da, listO (herdV DC) ed), (it, ritO (j + 1 : Nat) (left : Nat))] (by kernel_rfl) (by kernel_rfl)
      refine df_start w _ h₀ mods (hA'.ar _ (by kernel_rfl) (by kernel_rfl)) _ g d os iy B5 (B5 + 1) f ck cg B2 tg ek4 gap (K) (by rw [hKl]; omega) _ gl hKl.symm _ _ _ E6 fun h7 B7 t7 ep7 Q7 dl7 dn7 hdl7 hQ7 E7 => ?_
      have E7 := E7.unpartX
      refine Means.add0 ?_
      obtain ⟨hp7, hf7⟩ := hpos7 Q7 hQ7
      rw [intV_nat Q7 fun p hp => (hp7 p hp).1] at E7
      have hq16 : ∀ q ∈ Q7.map (fun p => (p.1.toNat, p.2)), q.1 < 16 := by
        intro q hq
        obtain ⟨p, hp, rfl⟩ := List.mem_map.mp hq
        have := hp7 p hp
        show p.1.toNat < 16
        omega
      have hname : [66] ++ (Q7.map (fun p => (p.1.toNat, p.2))).map (fun c => 65 + c.1) = (entryOf gap M (T.map (·.1)) j).2 := by
        show _ = 66 :: (fallsOf gap M (T.map (·.1)) j).map fun x => 65 + x.toNat
        rw [← hf7, List.map_map, List.map_map]
        rfl
      have hQl : (Q7.map (fun p => (p.1.toNat, p.2))).length ≤ 1000 := by
        have e : Q7.length = gl := by
          rw [← List.length_map (f := (·.1)), hQ7]
          unfold fallsL
          rw [List.length_map, List.length_range']
        rw [List.length_map]
        omega
      have hDl : (herdV DC).length = DC.length := by simp [herdV]
      have hK0l : K0.length ≤ 1000 := by have e := congrArg List.length hKe; rw [List.length_append, List.length_singleton] at e; omega
      generalize Q7.map (fun p => (p.1.toNat, p.2)) = Q8 at E7 hq16 hname hQl
      rcases hdl7 with ⟨rfl, rfl⟩ | ⟨kk, vv, rfl, rfl⟩ <;> (
      (first | (refine segW (t0 := t7) (i := 0) 100000 [6, 6, 2, 6, 10, 10, 10, 10, 3, 1, 5, 5, 5] (Code.call (Value.builtin "list.__getitem__") { pos := [Value.ref B2, Value.int (Int.negSucc 0) (t7 + 2)] : Args }) E7 (by assumption) (by assumption) ?_; intro o3024; refine ⟨by kernel_rfl!, by kernel_rfl!, by kernel_rfl!, by kernel_rfl!, by kernel_rfl!, fun h3024 D3024 => ?_⟩) | (refine segW (t0 := t7) (i := 0) 100000 [6, 6, 2, 2, 2, 6, 10, 10, 10, 10, 3, 1, 5, 5, 5] (Code.call (Value.builtin "list.__getitem__") { pos := [Value.ref B2, Value.int (Int.negSucc 0) (t7 + 2)] : Args }) E7 (by assumption) (by assumption) ?_; intro o3024; refine ⟨by kernel_rfl!, by kernel_rfl!, by kernel_rfl!, by kernel_rfl!, by kernel_rfl!, fun h3024 D3024 => ?_⟩))
      refine callW_of rfl ?_
      rw [mark_none]
      refine r_lgetlast B2 ek4 _ (natV K0) (.int (.ofNat KL.1) KL.2) (by have z := D3024.give [0, 0, 0, 0, 1] (L' := [(B2, listO (natV (K)) ek4)]) (by kernel_rfl); rw [hKe, natV_app] at z; exact z) (by rw [natV_len]; omega) ?_
      refine Means.add0 ?_
      (refine segL (t0 := t7 + outI o3024) (i := 0) 100000 [6, 1, 1, 1, 1, 12] ((compS w 126 (eDL w) (.ref B7) (.ref (B7 + 1)) (B7 + 2) q_due f) ) D3024 (by assumption) (by assumption) ?_; intro o3025; refine ⟨by kernel_rfl, by kernel_rfl, by kernel_rfl, by kernel_rfl, fun h3025 D3025 => ?_⟩)
      obtain ⟨B8, E8⟩ := D3025.partX [12, 11, 0, 13] [5, 3, 6, 7, 2, 8, 9, 10] [(B7 + 1, listO [] 0), (B7, iterO "list_iterator" (.ref B5) 0), (B5, listO (natV Q8) ep7), (B7 + 2, dictO [] 0)] [(f, dF w k (.int (.ofNat M) tm) (.ref da) (.int (.ofNat j) t1) [ent w n_falls k4 (.ref B5), ent w n_best kb4 vb4] 5), (cg, cellO (some (.int (.ofNat gap) tg))), (ct, cellO (some (.ref ta))), (cr, cellO (some (.int (.ofNat 0) tr4))), (ck, cellO (some (.ref B2))), (ta, listO (natV T) et), (da, listO (herdV DC) ed), (it, ritO (j + 1 : Nat) (left : Nat))] (by kernel_rfl) (by kernel_rfl)
      refine dx_start w _ h₀ mods (hA'.ar _ (by kernel_rfl) (by kernel_rfl)) _ g d os B7 (B7 + 1) (B7 + 2) f B5 ep7 Q8 _ hq16 (by omega) _ _ _ E8 fun h9 B9 t9 ep9 Q9 dl9 dn9 hdl9 hQ9 E9 => ?_
      have E9 := E9.unpartX
      have hcat : strCat (Q9.map (·.1)) = Q8.map (fun c => 65 + c.1) := by rw [hQ9]; exact strCat_one (fun c : Nat × Nat => 65 + c.1) Q8
      refine Means.add0 ?_
      rcases hdl9 with ⟨rfl, rfl⟩ | ⟨kk9, vv9, rfl, rfl⟩ <;> (
      (first | (refine segW (t0 := t9) (i := 0) 100000 [3] (Code.call (Value.builtin "str.join") { pos := [Value.str { cps := { toList := [] : Array Nat } : Str } (t7 + 4), Value.ref (B7 + 1)] : Args }) E9 (by assumption) (by assumption) ?_; intro o3026; refine ⟨by kernel_rfl!, by kernel_rfl!, by kernel_rfl!, by kernel_rfl!, by kernel_rfl!, fun h3026 D3026 => ?_⟩) | (refine segW (t0 := t9) (i := 0) 100000 [3, 3, 3] (Code.call (Value.builtin "str.join") { pos := [Value.str { cps := { toList := [] : Array Nat } : Str } (t7 + 4), Value.ref (B7 + 1)] : Args }) E9 (by assumption) (by assumption) ?_; intro o3026; refine ⟨by kernel_rfl!, by kernel_rfl!, by kernel_rfl!, by kernel_rfl!, by kernel_rfl!, fun h3026 D3026 => ?_⟩))
      refine callW_of rfl ?_
      rw [mark_none]
      refine r_join (B7 + 1) _ ep9 Q9 (by rw [hcat, List.length_map]; omega) (D3026.give [1] (by kernel_rfl)) fun z1 z2 => ?_
      rw [hcat]
      refine Means.add0 ?_
      (refine segW (t0 := z2) (i := 0) 100000 [] (Code.call (Value.builtin "str.__add__") { pos := [Value.str { cps := { toList := [66] : Array Nat } : Str } (t7 + 3), Value.str { cps := { toList := List.map (fun c => 65 + c.fst) Q8 : Array Nat } : Str } z1] : Args }) D3026 (by assumption) (by assumption) ?_; intro o3027; refine ⟨by kernel_rfl, by kernel_rfl, by kernel_rfl, by kernel_rfl, by kernel_rfl, fun h3027 D3027 => ?_⟩)
      refine r_sadd [66] (Q8.map (fun c => 65 + c.1)) _ _ (by rw [List.length_map]; show 1 + _ ≤ _; omega) fun z3 z4 => ?_
      refine Means.add0 ?_
      obtain ⟨BT, ET⟩ := D3027.pickE [3, 4, 5, 6, 7, 8, 9, 10] [(f, dF w k (.int (.ofNat M) tm) (.ref da) (.int (.ofNat j) t1) [ent w n_falls k4 (.ref B5), ent w n_best kb4 vb4] 5), (cg, cellO (some (.int (.ofNat gap) tg))), (ct, cellO (some (.ref ta))), (cr, cellO (some (.int (.ofNat 0) tr4))), (ck, cellO (some (.ref B2))), (ta, listO (natV T) et), (da, listO (herdV DC) ed), (it, ritO (j + 1 : Nat) (left : Nat))] (by kernel_rfl)
      (refine segW (t0 := z4) (i := 0) 100000 [] ((.call (.builtin "list.append") ⟨[.ref da, .ref BT], []⟩) ) ET (by assumption) (by assumption) ?_; intro o3028; refine ⟨by kernel_rfl, by kernel_rfl, by kernel_rfl, by kernel_rfl, by kernel_rfl, fun h3028 D3028 => ?_⟩)
      refine callW_of rfl ?_
      rw [mark_none]
      refine r_append da ed (herdV DC) (.ref BT) (by rw [hDl]; omega) (D3028.give [0, 0, 0, 0, 0, 0, 1] (by kernel_rfl)) fun gA tA aA => ?_
      obtain ⟨BA, EA⟩ := D3028.backP [0, 0, 0, 0, 0, 0, 1] [1, 2, 3, 4, 5, 6, 0, 7, 8] [(f, dF w k (.int (.ofNat M) tm) (.ref da) (.int (.ofNat j) t1) [ent w n_falls k4 (.ref B5), ent w n_best kb4 vb4] 5), (cg, cellO (some (.int (.ofNat gap) tg))), (ct, cellO (some (.ref ta))), (cr, cellO (some (.int (.ofNat 0) tr4))), (ck, cellO (some (.ref B2))), (ta, listO (natV T) et), (da, listO (herdV DC ++ [.ref BT]) (ed + 1)), (it, ritO (j + 1 : Nat) (left : Nat)), (BT, tupO [.int (.ofNat KL.1) KL.2, .str ⟨⟨[66] ++ Q8.map (fun c => 65 + c.1)⟩⟩ z3])] (by kernel_rfl) aA (by kernel_rfl)
      refine Means.add0 ?_
      (refine segF (t0 := tA) (i := 0) 100000 [] ((Fin.again (forOf (stmtAt w 126 3) (.ref it) (envD w f cg ct cr ck))) ) EA (by assumption) (by assumption) ?_; intro o3029; refine ⟨by kernel_rfl, by kernel_rfl, by kernel_rfl, fun h3029 D3029 => ?_⟩)
      obtain ⟨BZ, EZ⟩ := D3029.partX [0, 1, 2, 3, 4, 5, 6, 7] [8] [(f, dF w k (.int (.ofNat M) tm) (.ref da) (.int (.ofNat j) t1) [ent w n_falls k4 (.ref B5), ent w n_best kb4 vb4] 5), (cg, cellO (some (.int (.ofNat gap) tg))), (ct, cellO (some (.ref ta))), (cr, cellO (some (.int (.ofNat 0) tr4))), (ck, cellO (some (.ref B2))), (ta, listO (natV T) et), (da, listO (herdV DC ++ [.ref BT]) (ed + 1)), (it, ritO (j + 1 : Nat) (left : Nat))] [(BT, tupO [.int (.ofNat KL.1) KL.2, .str ⟨⟨[66] ++ Q8.map (fun c => 65 + c.1)⟩⟩ z3])] (by kernel_rfl) (by kernel_rfl)
      rw [hname, hKL] at EZ
      have eV : herdV DC ++ [Value.ref BT] = herdV (DC ++ [Cow.mk BT (entryOf gap M (T.map (·.1)) j).1 KL.2 (entryOf gap M (T.map (·.1)) j).2 z3]) := by unfold herdV; rw [List.map_append]; rfl
      rw [eV] at EZ
      have EZ := EZ.perm (X' := herdL (DC ++ [Cow.mk BT (entryOf gap M (T.map (·.1)) j).1 KL.2 (entryOf gap M (T.map (·.1)) j).2 z3])) (perm_last _ DC (Cow.mk BT (entryOf gap M (T.map (·.1)) j).1 KL.2 (entryOf gap M (T.map (·.1)) j).2 z3))
      exact ⟨by kernel_rfl, hR _ _ _ k _ _ _ _ _ _ _ _ _ (.inr ⟨_, _, _, _, rfl, rfl⟩) EZ⟩))
    )
end Mine
end
section
open PySem PySem.W PySem.Calls PyProof.Rows
set_option Elab.async false
set_option maxRecDepth 100000
namespace Mine
theorem dt_end (w : World) (A : Around) (h₀ : Heap) (mods : List Nat) (hA : Fit 60 A (kt1 w) h₀) (R : Result → Shared → Prop) (g : Array GenState) (d : Drawn) (os : OsState) (f cg ct cr ck it : Nat) (fo og ot : Obj) (x : Int) (X : Led) (h : Heap) (B t0 : Nat)
   (D : Rep (kt1 w) h₀ mods h B [(f, fo), (cg, og), (ct, ot), (it, ritO x 0)] X 0)
   (hR : ∀ h' B' t', Rep (kt1 w) h₀ mods h' B' [(f, fo)] X 0 → R (.ok .next) ⟨h', g, d, t', os⟩) :
   codeAny (PP w) A (forOf (stmtAt w 126 3) (.ref it) (envD w f cg ct cr ck)) R ⟨h, g, d, t0, os⟩ := by
  obtain ⟨b1, b2, hw⟩ := parF_ex w
  have hA' := hA.under (forOf (stmtAt w 126 3) (.ref it) (envD w f cg ct cr ck)) (m := 59) (by kernel_rfl)
  refine code_start ?_
  refine Means.add0 ?_
  (refine segW (t0 := t0) (i := 0) 100000 [4] (Code.call (Value.builtin "range_iterator.__next__") { pos := [Value.ref it] : Args }) D (by assumption) (by assumption) ?_; intro o11; refine ⟨by kernel_rfl, by kernel_rfl, by kernel_rfl, by kernel_rfl, by kernel_rfl, fun h11 D11 => ?_⟩)
  refine callW_of rfl ?_
  rw [mark_none]
  refine r_rend (Fit.inner hA' D11 _ (by kernel_rfl) (by kernel_rfl)) it x (D11.give [0, 0, 0, 1] (by kernel_rfl)) fun g1 t' a b a1 => ?_
  obtain ⟨B2, E2⟩ := D11.backP [0, 0, 0, 1] [0, 1, 2, 3, 4] [(b, tupO []), (a, stopO b), (f, fo), (cg, og), (ct, ot)] (by kernel_rfl) a1 (by kernel_rfl)
  refine Means.add0 ?_
  (refine segF (t0 := t') (i := 0) 100000 [2] ((Fin.again (Code.block [] (envD w f cg ct cr ck))) ) E2 (by assumption) (by assumption) ?_; intro o12; refine ⟨by kernel_rfl, by kernel_rfl, by kernel_rfl, fun h12 D12 => ?_⟩)
  obtain ⟨B3, E3⟩ := D12.pickE [2] [(f, fo)] (by kernel_rfl)
  have hA2 := hA.under (Code.block [] (envD w f cg ct cr ck)) (m := 0) (by kernel_rfl)
  refine ⟨by kernel_rfl, code_start ?_⟩
  refine Means.add0 ?_
  (refine segF (t0 := t' + outI o12) (i := 0) 100000 [] (Fin.done Flow.next) E3 (by assumption) (by assumption) ?_; intro o13; refine ⟨by kernel_rfl, by kernel_rfl, by kernel_rfl, fun h13 D13 => ?_⟩)
  obtain ⟨B4, E4⟩ := D13.pickE [0] [(f, fo)] (by kernel_rfl)
  exact hR _ _ _ E4
end Mine
end
section
open PySem PySem.W PySem.Calls PyProof.Rows
set_option Elab.async false
set_option maxRecDepth 100000
namespace Mine
section
variable {w : World} {A : Around} {h₀ : Heap} {mods : List Nat} {R : Result → Shared → Prop} {g : Array GenState} {d : Drawn} {os : OsState}
theorem dt_loop (hA : Fit 60 A (kt1 w) h₀) (f cg ct cr ck ta da tg tm it M gap : Nat)
   (T : List (Nat × Nat)) (hT0 : (T.map (·.1)).getD 0 0 = 1) (hT1 : ∀ i < T.length, 1 ≤ (T.map (·.1)).getD i 0) (hz : T.length ≤ 1000) (et : Nat) (hM : M ≤ 1000) (N : Nat) (hN : N ≤ 10000)
   (hok : ∀ j < N, (greedy (T.map (·.1)) j j).length ≤ 1000 ∧ ∀ x ∈ fallsOf gap M (T.map (·.1)) j, 0 ≤ x ∧ x < 16) :
   ∀ (left j : Nat) (k : Nat → Nat) (ed : Nat) (DC : List Cow) (v2 vr vk : Value) (dl : List DictEntry) (dn : Nat) (h : Heap) (B t0 : Nat), j + left = N → dS w dl dn → DC.map cowKN = (List.range j).map (entryOf gap M (T.map (·.1))) →
   Rep (kt1 w) h₀ mods h B [(f, dF w k (.int (.ofNat M) tm) (.ref da) v2 dl dn), (cg, cellO (some (.int (.ofNat gap) tg))), (ct, cellO (some (.ref ta))), (cr, cellO (some vr)), (ck, cellO (some vk)), (ta, listO (natV T) et), (da, listO (herdV DC) ed), (it, ritO j (left : Nat))] (herdL DC) 0 →
   (∀ h' B' t' k' v2 dl dn DC' ed', dS w dl dn → DC'.map cowKN = (List.range N).map (entryOf gap M (T.map (·.1))) → Rep (kt1 w) h₀ mods h' B' [(f, dF w k' (.int (.ofNat M) tm) (.ref da) v2 dl dn), (da, listO (herdV DC') ed')] (herdL DC') 0 → R (.ok .next) ⟨h', g, d, t', os⟩) →
   codeAny (PP w) A (forOf (stmtAt w 126 3) (.ref it) (envD w f cg ct cr ck)) R ⟨h, g, d, t0, os⟩ := by
  intro left
  induction left with
  | zero =>
    intro j k ed DC v2 vr vk dl dn h B t0 hj hs hDC D hR
    obtain ⟨B2, D2⟩ := D.partX [0, 1, 2, 7] [6] [(f, dF w k (.int (.ofNat M) tm) (.ref da) v2 dl dn), (cg, cellO (some (.int (.ofNat gap) tg))), (ct, cellO (some (.ref ta))), (it, ritO j (0 : Nat))] [(da, listO (herdV DC) ed)] rfl rfl
    refine dt_end w A h₀ mods hA R g d os f cg ct cr ck it _ _ _ _ _ h B2 t0 D2 fun h' B' t' D' => ?_
    have e : j = N := by omega
    subst e
    exact hR h' B' t' k v2 dl dn DC ed hs hDC D'.unpartX
  | succ left ih =>
    intro j k ed DC v2 vr vk dl dn h B t0 hj hs hDC D hR
    have hl : DC.length = j := by have e := congrArg List.length hDC; simpa using e
    refine dt_later w A h₀ mods hA R g d os f cg ct cr ck ta da tg tm it M gap k T hT0 hT1 hz et ed DC (by omega) j left (by omega) v2 vr vk dl dn hs hM (hok j (by omega)).1 (hok j (by omega)).2 h B t0 D ?_
    intro h' B' t' k' v2' vr' vk' dl' dn' ca td tn ed' hs' D'
    refine ih (j + 1) k' ed' _ v2' vr' vk' dl' dn' h' B' t' (by omega) hs' ?_ D' hR
    rw [List.map_append, hDC, List.range_succ, List.map_append]
    rfl
theorem dt_all (hA : Fit 60 A (kt1 w) h₀) (f cg ct cr ck ta da tg tm it M gap km kd : Nat)
   (T : List (Nat × Nat)) (hT0 : (T.map (·.1)).getD 0 0 = 1) (hT1 : ∀ i < T.length, 1 ≤ (T.map (·.1)).getD i 0) (hz : T.length ≤ 1000) (et : Nat) (hM : M ≤ 1000) (N : Nat) (hN : N ≤ 10000) (hN1 : 1 ≤ N)
   (hok : ∀ j < N, (greedy (T.map (·.1)) j j).length ≤ 1000 ∧ ∀ x ∈ fallsOf gap M (T.map (·.1)) j, 0 ≤ x ∧ x < 16)
   (ed : Nat) (h : Heap) (B t0 : Nat)
   (D : Rep (kt1 w) h₀ mods h B [(f, fobj [ent w n_months km (.int (.ofNat M) tm), ent w n_due kd (.ref da)] 2), (cg, cellO (some (.int (.ofNat gap) tg))), (ct, cellO (some (.ref ta))), (cr, cellO none), (ck, cellO none), (ta, listO (natV T) et), (da, listO [] ed), (it, ritO (0 : Nat) (N : Nat))] [] 0)
   (hR : ∀ h' B' t' k' v2 dl dn DC' ed', dS w dl dn → DC'.map cowKN = (List.range N).map (entryOf gap M (T.map (·.1))) → Rep (kt1 w) h₀ mods h' B' [(f, dF w k' (.int (.ofNat M) tm) (.ref da) v2 dl dn), (da, listO (herdV DC') ed')] (herdL DC') 0 → R (.ok .next) ⟨h', g, d, t', os⟩) :
   codeAny (PP w) A (forOf (stmtAt w 126 3) (.ref it) (envD w f cg ct cr ck)) R ⟨h, g, d, t0, os⟩ := by
  obtain ⟨n, rfl⟩ : ∃ n, N = n + 1 := ⟨N - 1, by omega⟩
  refine dt_first w A h₀ mods hA R g d os f cg ct cr ck ta da tg tm it M gap km kd T hT0 hT1 hz et ed [] (Nat.zero_le _) 0 n (Nat.zero_le _) rfl hM (hok 0 (by omega)).1 (hok 0 (by omega)).2 h B t0 D ?_
  intro h' B' t' k' v2' vr' vk' dl' dn' ca td tn ed' hs' D'
  refine dt_loop hA f cg ct cr ck ta da tg tm it M gap T hT0 hT1 hz et hM (n + 1) hN hok n 1 k' ed' _ v2' vr' vk' dl' dn' h' B' t' (by omega) hs' ?_ D' hR
  rfl
end
end Mine
end
section
open PySem PySem.W PySem.Calls PyProof.Rows
set_option Elab.async false
set_option maxRecDepth 100000
namespace Mine
theorem du_wturnX {X : Led} (w : World) (A : Around) (h₀ : Heap) (mods : List Nat) (hA : Fit 50 A (kt1 w) h₀) (R : Result → Shared → Prop) (g : Array GenState) (d : Drawn) (os : OsState) (f cg ct cr ck ta tg km tm : Nat) (gap M : Nat) (hg : 1 ≤ gap)
   (T : List (Nat × Nat)) (hT : T ≠ []) (hTM : T.length ≤ M) (hz : M ≤ 1000) (h : Heap) (B t0 et : Nat)
   (D : Rep (kt1 w) h₀ mods h B [(f, fobj [ent w n_months km (.int (.ofNat M) tm)] 1), (cg, cellO (some (.int (.ofNat gap) tg))), (ct, cellO (some (.ref ta))), (ta, listO (natV T) et)] X 0)
   (hR : ∀ h' B' t' et' T', T'.map (·.1) = growT gap (T.map (·.1)) → Rep (kt1 w) h₀ mods h' B' [(f, fobj [ent w n_months km (.int (.ofNat M) tm)] 1), (cg, cellO (some (.int (.ofNat gap) tg))), (ct, cellO (some (.ref ta))), (ta, listO (natV T') et')] X 0 → codeAny (PP w) A (whileOf (stmtAt w 126 1) (envD w f cg ct cr ck)) R ⟨h', g, d, t', os⟩) :
   codeAny (PP w) A (whileOf (stmtAt w 126 1) (envD w f cg ct cr ck)) R ⟨h, g, d, t0, os⟩ := by
  obtain ⟨b1, b2, hw⟩ := parF_ex w
  have hA' := hA.under (whileOf (stmtAt w 126 1) (envD w f cg ct cr ck)) (m := 49) (by kernel_rfl)
  obtain ⟨T0, q, rfl⟩ : ∃ T0 q, T = T0 ++ [q] := ⟨T.dropLast, T.getLast hT, (List.dropLast_concat_getLast hT).symm⟩
  have hl : (T0 ++ [q]).length = T0.length + 1 := by simp
  generalize hTe : T0 ++ [q] = T at *
  have hnl := natV_len T
  have hi : T.length - gap < T.length := by omega
  have hget : (natV T)[(max 0 ((T.length : Int) - gap)).toNat]? = some (.int (.ofNat (T.getD (T.length - gap) (0, 0)).1) (T.getD (T.length - gap) (0, 0)).2) := by
    rw [show (max 0 ((T.length : Int) - gap)).toNat = T.length - gap by omega]
    unfold natV
    rw [List.getElem?_map, List.getElem?_eq_getElem hi, List.getD_eq_getElem?_getD, List.getElem?_eq_getElem hi]
    rfl
  have hgrow : growT gap (T.map (·.1)) = T.map (·.1) ++ [q.1 + (T.getD (T.length - gap) (0, 0)).1] := by
    unfold growT
    rw [List.length_map]
    congr 2
    have e1 : (T.map (·.1)).getLastD 0 = q.1 := by rw [← hTe]; simp
    have e2 : (T.map (·.1)).getD (T.length - gap) 0 = (T.getD (T.length - gap) (0, 0)).1 := by
      rw [List.getD_eq_getElem?_getD, List.getElem?_map, List.getD_eq_getElem?_getD, List.getElem?_eq_getElem hi]
      rfl
    rw [e1, e2]
  refine code_start ?_
  refine Means.add0 ?_
  (refine segW (t0 := t0) (i := 0) 100000 [0, 0, 3] (Code.call (Value.builtin "len") { pos := [Value.ref ta] : Args }) D (by assumption) (by assumption) ?_; intro o11; refine ⟨by kernel_rfl, by kernel_rfl, by kernel_rfl, by kernel_rfl, by kernel_rfl, fun h11 D11 => ?_⟩)
  refine r_clen ta et (natV T) (by omega) (D11.give [0, 0, 0, 1] (by kernel_rfl)) fun t1 t' => ?_
  rw [hnl]
  refine Means.add0 ?_
  cases b1 <;> (
    (refine segW (t0 := t') (i := 0) 100000 [1] (Code.call (Value.builtin "int.__le__") { pos := [Value.int (Int.ofNat (List.length T)) t1, Value.int (Int.ofNat M) tm] : Args }) D11 (by assumption) (by assumption) ?_; intro o12; refine ⟨by kernel_rfl, by kernel_rfl, by kernel_rfl, by kernel_rfl, by kernel_rfl, fun h12 D12 => ?_⟩)
    refine callW_of rfl ?_
    rw [mark_none]
    refine r_ile (.ofNat T.length) (.ofNat M) t1 tm true (decide_eq_true (by show ((T.length : Nat) : Int) ≤ ((M : Nat) : Int); omega)) ?_
    refine Means.add0 ?_
    (refine segW (t0 := t' + outI o12) (i := 0) 100000 [3, 4, 4, 4, 4, 3, 1, 4, 4, 4] (Code.call (Value.builtin "list.__getitem__") { pos := [Value.ref ta, Value.int (Int.negSucc 0) (t' + 1)] : Args }) D12 (by assumption) (by assumption) ?_; intro o13; refine ⟨by kernel_rfl, by kernel_rfl, by kernel_rfl, by kernel_rfl, by kernel_rfl, fun h13 D13 => ?_⟩)
    refine callW_of rfl ?_
    rw [mark_none]
    refine r_lgetlast ta et _ (natV T0) (.int (.ofNat q.1) q.2) (by have z := D13.give [0, 0, 0, 1] (L' := [(ta, listO (natV T) et)]) (by kernel_rfl); rw [← hTe, natV_app] at z; exact z) (by have := natV_len T0; omega) ?_
    refine Means.add0 ?_
    (refine segW (t0 := t' + outI o12 + outI o13) (i := 0) 100000 [3, 0, 0, 0, 0, 3] (Code.call (Value.builtin "len") { pos := [Value.ref ta] : Args }) D13 (by assumption) (by assumption) ?_; intro o14; refine ⟨by kernel_rfl, by kernel_rfl, by kernel_rfl, by kernel_rfl, by kernel_rfl, fun h14 D14 => ?_⟩)
    refine r_clen ta et (natV T) (by omega) (D14.give [0, 0, 0, 1] (by kernel_rfl)) fun t3 t4 => ?_
    rw [hnl]
    refine Means.add0 ?_
    (refine segW (t0 := t4) (i := 0) 100000 [2, 1] ((.call (.builtin "max") ⟨[.int 0 (t' + 2), .int ((T.length : Int) - gap) t4], []⟩) ) D14 (by assumption) (by assumption) ?_; intro o15; refine ⟨by kernel_rfl, by kernel_rfl, by kernel_rfl, by kernel_rfl, by kernel_rfl, fun h15 D15 => ?_⟩)
    refine callW_of rfl ?_
    rw [mark_none]
    refine r_max2 (Fit.inner hA' D15 _ (by kernel_rfl) (by kernel_rfl)) ((T.length : Int) - gap) _ _ (D15.give [] (by kernel_rfl)) fun g5 t5 t6 a5 => ?_
    obtain ⟨B5, E5⟩ := D15.backP [] [0, 1, 2, 3] ([(f, fobj [ent w n_months km (.int (.ofNat M) tm)] 1), (cg, cellO (some (.int (.ofNat gap) tg))), (ct, cellO (some (.ref ta))), (ta, listO (natV T) et)]) (by kernel_rfl) a5 (by kernel_rfl)
    refine Means.add0 ?_
    (refine segW (t0 := t6) (i := 0) 100000 [4, 4, 4] (Code.call (Value.builtin "list.__getitem__") { pos := [Value.ref ta, Value.int (max 0 (↑(List.length T) - ↑gap)) t5] : Args }) E5 (by assumption) (by assumption) ?_; intro o16; refine ⟨by kernel_rfl, by kernel_rfl, by kernel_rfl, by kernel_rfl, by kernel_rfl, fun h16 D16 => ?_⟩)
    refine callW_of rfl ?_
    rw [mark_none]
    refine r_lget' ta et t5 (max 0 ((T.length : Int) - gap)) (natV T) (.int (.ofNat (T.getD (T.length - gap) (0, 0)).1) (T.getD (T.length - gap) (0, 0)).2) (by omega) hget (by omega) (D16.give [0, 0, 0, 1] (by kernel_rfl)) ?_
    refine Means.add0 ?_
    (refine segW (t0 := t6 + outI o16) (i := 0) 100000 [1] ((.call (.builtin "list.append") ⟨[.ref ta, .int (.ofNat (q.1 + (T.getD (T.length - gap) (0, 0)).1)) t6], []⟩) ) D16 (by assumption) (by assumption) ?_; intro o17; refine ⟨by kernel_rfl, by kernel_rfl, by kernel_rfl, by kernel_rfl, by kernel_rfl, fun h17 D17 => ?_⟩)
    refine callW_of rfl ?_
    rw [mark_none]
    refine r_append ta et (natV T) _ (by omega) (D17.give [0, 0, 0, 1] (by kernel_rfl)) fun g7 t7 a7 => ?_
    obtain ⟨B7, E7⟩ := D17.backP [0, 0, 0, 1] [1, 2, 3, 0] ([(f, fobj [ent w n_months km (.int (.ofNat M) tm)] 1), (cg, cellO (some (.int (.ofNat gap) tg))), (ct, cellO (some (.ref ta))), (ta, listO (natV T ++ [.int (.ofNat (q.1 + (T.getD (T.length - gap) (0, 0)).1)) t6]) (et + 1))]) (by kernel_rfl) a7 (by kernel_rfl)
    refine Means.add0 ?_
    (refine segF (t0 := t7) (i := 0) 100000 [] ((Fin.again (whileOf (stmtAt w 126 1) (envD w f cg ct cr ck))) ) E7 (by assumption) (by assumption) ?_; intro o18; refine ⟨by kernel_rfl, by kernel_rfl, by kernel_rfl, fun h18 D18 => ?_⟩)
    obtain ⟨B8, E8⟩ := D18.pickE [0, 1, 2, 3] ([(f, fobj [ent w n_months km (.int (.ofNat M) tm)] 1), (cg, cellO (some (.int (.ofNat gap) tg))), (ct, cellO (some (.ref ta))), (ta, listO (natV T ++ [.int (.ofNat (q.1 + (T.getD (T.length - gap) (0, 0)).1)) t6]) (et + 1))]) (by kernel_rfl)
    have e8 : natV T ++ [.int (.ofNat (q.1 + (T.getD (T.length - gap) (0, 0)).1)) t6] = natV (T ++ [(q.1 + (T.getD (T.length - gap) (0, 0)).1, t6)]) := by simp [natV]
    rw [e8] at E8
    exact ⟨by kernel_rfl, hR _ _ _ _ (T ++ [(q.1 + (T.getD (T.length - gap) (0, 0)).1, t6)]) (by rw [List.map_append, hgrow]; rfl) E8⟩)
theorem du_wendX {X : Led} (w : World) (A : Around) (h₀ : Heap) (mods : List Nat) (hA : Fit 50 A (kt1 w) h₀) (R : Result → Shared → Prop) (g : Array GenState) (d : Drawn) (os : OsState) (f cg ct cr ck ta tg km tm : Nat) (gap M : Nat)
   (T : List (Nat × Nat)) (hTM : ¬ T.length ≤ M) (hz : T.length ≤ 1000) (h : Heap) (B t0 et : Nat)
   (D : Rep (kt1 w) h₀ mods h B [(f, fobj [ent w n_months km (.int (.ofNat M) tm)] 1), (cg, cellO (some (.int (.ofNat gap) tg))), (ct, cellO (some (.ref ta))), (ta, listO (natV T) et)] X 0)
   (hR : ∀ h' B' t', Rep (kt1 w) h₀ mods h' B' [(f, fobj [ent w n_months km (.int (.ofNat M) tm)] 1), (cg, cellO (some (.int (.ofNat gap) tg))), (ct, cellO (some (.ref ta))), (ta, listO (natV T) et)] X 0 → R (.ok .next) ⟨h', g, d, t', os⟩) :
   codeAny (PP w) A (whileOf (stmtAt w 126 1) (envD w f cg ct cr ck)) R ⟨h, g, d, t0, os⟩ := by
  obtain ⟨b1, b2, hw⟩ := parF_ex w
  have hA' := hA.under (whileOf (stmtAt w 126 1) (envD w f cg ct cr ck)) (m := 49) (by kernel_rfl)
  have hnl := natV_len T
  refine code_start ?_
  refine Means.add0 ?_
  (refine segW (t0 := t0) (i := 0) 100000 [0, 0, 3] (Code.call (Value.builtin "len") { pos := [Value.ref ta] : Args }) D (by assumption) (by assumption) ?_; intro o21; refine ⟨by kernel_rfl, by kernel_rfl, by kernel_rfl, by kernel_rfl, by kernel_rfl, fun h21 D21 => ?_⟩)
  refine r_clen ta et (natV T) (by omega) (D21.give [0, 0, 0, 1] (by kernel_rfl)) fun t1 t' => ?_
  rw [hnl]
  refine Means.add0 ?_
  cases b1 <;> (
    (refine segW (t0 := t') (i := 0) 100000 [1] (Code.call (Value.builtin "int.__le__") { pos := [Value.int (Int.ofNat (List.length T)) t1, Value.int (Int.ofNat M) tm] : Args }) D21 (by assumption) (by assumption) ?_; intro o22; refine ⟨by kernel_rfl, by kernel_rfl, by kernel_rfl, by kernel_rfl, by kernel_rfl, fun h22 D22 => ?_⟩)
    refine callW_of rfl ?_
    rw [mark_none]
    refine r_ile (.ofNat T.length) (.ofNat M) t1 tm false (decide_eq_false (by show ¬ ((T.length : Nat) : Int) ≤ ((M : Nat) : Int); omega)) ?_
    refine Means.add0 ?_
    (refine segF (t0 := t' + outI o22) (i := 0) 100000 [] (Fin.done Flow.next) D22 (by assumption) (by assumption) ?_; intro o23; refine ⟨by kernel_rfl, by kernel_rfl, by kernel_rfl, fun h23 D23 => ?_⟩)
    obtain ⟨B3, E3⟩ := D23.pickE [0, 1, 2, 3] [(f, fobj [ent w n_months km (.int (.ofNat M) tm)] 1), (cg, cellO (some (.int (.ofNat gap) tg))), (ct, cellO (some (.ref ta))), (ta, listO (natV T) et)] (by kernel_rfl)
    exact hR _ _ _ E3)
theorem du_whileX {X : Led} (w : World) (A : Around) (h₀ : Heap) (mods : List Nat) (hA : Fit 50 A (kt1 w) h₀) (R : Result → Shared → Prop) (g : Array GenState) (d : Drawn) (os : OsState) (f cg ct cr ck ta tg km tm : Nat) (gap M : Nat) (hg : 1 ≤ gap) (hz : M ≤ 900) :
   ∀ (n : Nat) (T : List (Nat × Nat)) (h : Heap) (B t0 et : Nat), n ≤ M → T.map (·.1) = termsL gap (M - n) →
   Rep (kt1 w) h₀ mods h B [(f, fobj [ent w n_months km (.int (.ofNat M) tm)] 1), (cg, cellO (some (.int (.ofNat gap) tg))), (ct, cellO (some (.ref ta))), (ta, listO (natV T) et)] X 0 →
   (∀ h' B' t' et' T', T'.map (·.1) = termsL gap M → Rep (kt1 w) h₀ mods h' B' [(f, fobj [ent w n_months km (.int (.ofNat M) tm)] 1), (cg, cellO (some (.int (.ofNat gap) tg))), (ct, cellO (some (.ref ta))), (ta, listO (natV T') et')] X 0 → R (.ok .next) ⟨h', g, d, t', os⟩) →
   codeAny (PP w) A (whileOf (stmtAt w 126 1) (envD w f cg ct cr ck)) R ⟨h, g, d, t0, os⟩ := by
  intro n
  induction n with
  | zero =>
    intro T h B t0 et hn hT D hR
    have hl : T.length = M + 1 := by rw [← List.length_map (f := (·.1)), hT, termsL_len]; omega
    exact du_wendX w A h₀ mods hA R g d os f cg ct cr ck ta tg km tm gap M T (by omega) (by omega) h B t0 et D fun h' B' t' D' => hR h' B' t' et T hT D'
  | succ n ih =>
    intro T h B t0 et hn hT D hR
    have hl : T.length = M - (n + 1) + 1 := by rw [← List.length_map (f := (·.1)), hT, termsL_len]
    refine du_wturnX w A h₀ mods hA R g d os f cg ct cr ck ta tg km tm gap M hg T (fun e => by rw [e] at hl; simp at hl) (by omega) (by omega) h B t0 et D fun h' B' t' et' T' hT' D' => ?_
    refine ih T' h' B' t' et' (by omega) ?_ D' hR
    rw [hT', hT, show M - n = (M - (n + 1)) + 1 by omega]
    rfl
end Mine
end
section
open PySem PySem.W PySem.Calls PyProof.Rows
set_option Elab.async false
set_option maxRecDepth 100000
namespace Mine
theorem law_due (w : World) (A : Around) (h₀ : Heap) (hA : Fit 80 A (kt1 w) h₀) (R : Result → Shared → Prop) (B t0 : Nat) (g : Array GenState) (d : Drawn) (os : OsState) (gap M tg tm : Nat) {mods : List Nat} (hg : 1 ≤ gap) (hgM : gap ≤ M) (hM : M ≤ 900) (N : Nat) (hN : (termsL gap M).getD (M - gap + 1) 0 = N) (hN1 : 1 ≤ N) (hN2 : N ≤ 10000)
   (hT0 : (termsL gap M).getD 0 0 = 1) (hT1 : ∀ i < M + 1, 1 ≤ (termsL gap M).getD i 0)
   (hok : ∀ j < N, (greedy (termsL gap M) j j).length ≤ 1000 ∧ ∀ x ∈ fallsOf gap M (termsL gap M) j, 0 ≤ x ∧ x < 16)
   (D : Rep (kt1 w) h₀ mods h₀ B [] [] 0)
   (hR : ∀ h1 t' la e DC, DC.map cowKN = (List.range N).map (entryOf gap M (termsL gap M)) → After h₀ h1 mods ((la, listO (herdV DC) e) :: herdL DC) → R (.ok (.ret (.ref la))) ⟨h1, g, d, t', os⟩) :
   codeAny (PP w) A (.call (.ref 126) ⟨[.int (.ofNat gap) tg, .int (.ofNat M) tm], []⟩) R ⟨h₀, g, d, t0, os⟩ := by
  obtain ⟨b1, b2, hw⟩ := parF_ex w
  refine code_ent (D.kt_ (a := 126) (o := obAt w 126) (by kernel_rfl)) (fd := fdAt w 126) (by kernel_rfl) (by have := hA.room; omega) ?_
  refine Means.add0 ?_
  cases b1 <;> (
    (refine segL (t0 := t0) (i := 0) 100000 [0, 2, 2, 1, 1, 3, 3] ((whileOf (stmtAt w 126 1) (envD w B (B + 1) (B + 2) (B + 3) (B + 4))) ) D (by assumption) (by assumption) ?_; intro o11; refine ⟨by kernel_rfl, by kernel_rfl, by kernel_rfl, by kernel_rfl, fun h11 D11 => ?_⟩)
    obtain ⟨B2, E2⟩ := D11.partX [0, 1, 2, 5] [3, 4] [(B, fobj [ent w n_months t0 (.int (.ofNat M) tm)] 1), (B + 1, cellO (some (.int (.ofNat gap) tg))), (B + 2, cellO (some (.ref (B + 5)))), (B + 5, listO (natV [(1, t0 + 1)]) 0)] [(B + 3, cellO none), (B + 4, cellO none)] (by kernel_rfl) (by kernel_rfl)
    refine du_whileX w _ h₀ mods (hA.ar (m := 50) _ (by kernel_rfl) (by kernel_rfl)) _ g d os B (B + 1) (B + 2) (B + 3) (B + 4) (B + 5) tg _ tm gap M hg hM M [(1, t0 + 1)] _ _ _ _ (Nat.le_refl _) (by rw [Nat.sub_self]; rfl) E2 fun h3 B3 t3 et T hT E3 => ?_
    have E3 := E3.unpartX
    have hTl : T.length = M + 1 := by rw [← List.length_map (f := (·.1)), hT, termsL_len]
    have hTV : (natV T).length = M + 1 := by rw [natV_len, hTl]
    obtain ⟨q, hq, hqN⟩ : ∃ q, (natV T)[((M : Int) - gap + 1).toNat]? = some (.int (.ofNat N) q) ∧ True := by
      have hi : M - gap + 1 < T.length := by omega
      refine ⟨(T[M - gap + 1]).2, ?_, trivial⟩
      rw [show ((M : Int) - gap + 1).toNat = M - gap + 1 by omega]
      unfold natV
      rw [List.getElem?_map, List.getElem?_eq_getElem hi]
      have : (termsL gap M).getD (M - gap + 1) 0 = (T[M - gap + 1]).1 := by
        rw [← hT, List.getD_eq_getElem?_getD, List.getElem?_map, List.getElem?_eq_getElem hi]
        rfl
      rw [← hN, this]
      rfl
    refine Means.add0 ?_
    (refine segW (t0 := t3) (i := 0) 100000 [1, 1, 0, 0, 3, 1, 2, 1, 1, 4, 4, 4] (Code.call (Value.builtin "list.__getitem__") { pos := [Value.ref (B + 5), Value.int (Int.ofNat M - Int.ofNat gap + 1) (t3 + 3)] : Args }) E3 (by assumption) (by assumption) ?_; intro o12; refine ⟨by kernel_rfl, by kernel_rfl, by kernel_rfl, by kernel_rfl, by kernel_rfl, fun h12 D12 => ?_⟩)
    refine callW_of rfl ?_
    rw [mark_none]
    refine r_lget' (B + 5) et (t3 + 3) ((M : Int) - gap + 1) (natV T) (.int (.ofNat N) q) (by omega) hq (by omega) (D12.give [0, 0, 0, 1] (by kernel_rfl)) ?_
    refine Means.add0 ?_
    (refine segW (t0 := t3 + outI o12) (i := 0) 100000 [1, 1, 8, 8, 1, 8, 8, 8, 8] (Code.call (Value.builtin "range.__iter__") { pos := [Value.ref (B3 + 1)] : Args }) D12 (by assumption) (by assumption) ?_; intro o13; refine ⟨by kernel_rfl, by kernel_rfl, by kernel_rfl, by kernel_rfl, by kernel_rfl, fun h13 D13 => ?_⟩)
    refine callW_of rfl ?_
    rw [mark_none]
    refine r_riter (B3 + 1) 0 (N : Nat) (t3 + 4) q (t3 + 5) N (by omega) (by omega) (by omega) (D13.give [0, 0, 0, 0, 0, 0, 0, 1] (by kernel_rfl)) fun y1 iy y2 ay => ?_
    obtain ⟨B5, E5⟩ := D13.backP [0, 0, 0, 0, 0, 0, 0, 1] [2, 3, 4, 6, 7, 5, 8, 1] [(B, fobj [ent w n_months t0 (.int (.ofNat M) tm), ent w n_due t3 (.ref B3)] 2), (B + 1, cellO (some (.int (.ofNat gap) tg))), (B + 2, cellO (some (.ref (B + 5)))), (B + 3, cellO none), (B + 4, cellO none), (B + 5, listO (natV T) et), (B3, listO [] 0), (iy, ritO (0 : Nat) (N : Nat))] (by kernel_rfl) ay (by kernel_rfl)
    refine Means.add0 ?_
    (refine segL (t0 := y2) (i := 0) 100000 [8] ((forOf (stmtAt w 126 3) (.ref iy) (envD w B (B + 1) (B + 2) (B + 3) (B + 4))) ) E5 (by assumption) (by assumption) ?_; intro o14; refine ⟨by kernel_rfl, by kernel_rfl, by kernel_rfl, by kernel_rfl, fun h14 D14 => ?_⟩)
    obtain ⟨B6, E6⟩ := D14.pickE [0, 1, 2, 3, 4, 5, 6, 7] [(B, fobj [ent w n_months t0 (.int (.ofNat M) tm), ent w n_due t3 (.ref B3)] 2), (B + 1, cellO (some (.int (.ofNat gap) tg))), (B + 2, cellO (some (.ref (B + 5)))), (B + 3, cellO none), (B + 4, cellO none), (B + 5, listO (natV T) et), (B3, listO [] 0), (iy, ritO (0 : Nat) (N : Nat))] (by kernel_rfl)
    refine dt_all (hA.ar (m := 60) _ (by kernel_rfl) (by kernel_rfl)) B (B + 1) (B + 2) (B + 3) (B + 4) (B + 5) B3 tg tm iy M gap t0 t3 T (by rw [hT]; exact hT0) (by rw [hT, hTl]; exact hT1) (by omega) et (by omega) N hN2 hN1 (by rw [hT]; exact hok) 0 _ _ _ E6 fun h7 B7 t7 k7 v2 dl dn DC ed hs hDC E7 => ?_
    rw [hT] at hDC
    refine Means.add0 ?_
    rcases hs with ⟨k3, v3, rfl, rfl⟩ | ⟨k3, v3, kb, vb, rfl, rfl⟩ <;> (
    (refine segF (t0 := t7) (i := 0) 100000 [1] ((Fin.done (Flow.ret (.ref B3))) ) E7 (by assumption) (by assumption) ?_; intro o15; refine ⟨by kernel_rfl, by kernel_rfl, by kernel_rfl, fun h15 D15 => ?_⟩)
    have e9 := D15.pickE [1] [(B3, listO (herdV DC) ed)] (by kernel_rfl)
    obtain ⟨B9, E9⟩ := e9
    have a9 := E9.done _ [] (by rw [List.append_nil])
    exact hR _ _ _ _ _ hDC a9))
end Mine
end
section
open PySem PySem.W PySem.Calls PyProof.Rows
set_option Elab.async false
set_option maxRecDepth 100000
namespace Mine
noncomputable def eLC (w : World) : Expr := match stmtAt w 131 0 with
  | .Assign _ e _ => e
  | _ => default
def n_x := [120]
theorem cellV_len (C : List (Nat × Nat)) : (cellV C).length = C.length := by simp [cellV]
theorem lc_loop (w : World) (A : Around) (h₀ : Heap) (mods : List Nat) (hA : Fit 5 A (kt1 w) h₀) (R : Result → Shared → Prop) (g : Array GenState) (d : Drawn) (os : OsState) (it acc di fr fa ef : Nat) (X : Led) :
   ∀ (rest pre : List (Int × Nat)) (P : List (Nat × Nat)) (h : Heap) (B t0 ep : Nat) (dl : List DictEntry) (dn : Nat), (dl = [] ∧ dn = 0 ∨ ∃ k v, dl = [ent w n_x k v] ∧ dn = 1) → P.length + rest.length ≤ 16777000 →
   Rep (kt1 w) h₀ mods h B [(acc, listO (cellV P) ep), (it, iterO "list_iterator" (.ref fa) pre.length), (fa, listO (intV (pre ++ rest)) ef), (di, dictO dl dn)] X 0 →
   (∀ h1 B' t' ep' Q dl' dn', (dl' = [] ∧ dn' = 0 ∨ ∃ k v, dl' = [ent w n_x k v] ∧ dn' = 1) → Q.map (·.1) = rest.map (fun c => (c.1.fmod 5040).toNat) → Rep (kt1 w) h₀ mods h1 B' [(acc, listO (cellV (P ++ Q)) ep'), (fa, listO (intV (pre ++ rest)) ef), (di, dictO dl' dn')] X 0 → R (.ok .next) ⟨h1, g, d, t', os⟩) →
   codeAny (PP w) A (compL w 131 (eLC w) (.ref it) (.ref acc) di q_law fr) R ⟨h, g, d, t0, os⟩ := by
  obtain ⟨b1, b2, hw⟩ := parF_ex w
  have hA' := hA.under (compL w 131 (eLC w) (.ref it) (.ref acc) di q_law fr) (m := 0) (by kernel_rfl)
  intro rest
  induction rest with
  | nil =>
    intro pre P h B t0 ep dl dn hdl hsz D hR
    refine code_start ?_
    refine Means.add0 ?_
    (refine segW (t0 := t0) (i := 0) 100000 [2] (Code.call (Value.builtin "list_iterator.__next__") { pos := [Value.ref it] : Args }) D (by assumption) (by assumption) ?_; intro o11; refine ⟨by kernel_rfl, by kernel_rfl, by kernel_rfl, by kernel_rfl, by kernel_rfl, fun h11 D11 => ?_⟩)
    refine callW_of rfl ?_
    rw [mark_none]
    refine r_lend (Fit.inner hA' D11 _ (by kernel_rfl) (by kernel_rfl)) it fa pre.length ef (intV (pre ++ [])) (by simp [intV]) (D11.give [0, 1, 1] (by kernel_rfl)) fun g1 t' x y a1 => ?_
    obtain ⟨B2, E1⟩ := D11.backP [0, 1, 1] [0, 1, 2, 3, 4] [(fa, listO (intV (pre ++ [])) ef), (y, tupO []), (x, stopO y), (acc, listO (cellV P) ep), (di, dictO dl dn)] (by kernel_rfl) a1 (by kernel_rfl)
    refine Means.add0 ?_
    (refine segF (t0 := t') (i := 0) 100000 [3] (Fin.done Flow.next) E1 (by assumption) (by assumption) ?_; intro o12; refine ⟨by kernel_rfl, by kernel_rfl, by kernel_rfl, fun h12 D12 => ?_⟩)
    obtain ⟨B3, E2⟩ := D12.pickE [3, 0, 4] [(acc, listO (cellV (P ++ [])) ep), (fa, listO (intV (pre ++ [])) ef), (di, dictO dl dn)] (by rw [List.append_nil P]; kernel_rfl)
    exact hR _ _ _ _ [] _ _ hdl rfl E2
  | cons q rest ih =>
    intro pre P h B t0 ep dl dn hdl hsz D hR
    refine code_start ?_
    refine Means.add0 ?_
    (refine segW (t0 := t0) (i := 0) 100000 [2] (Code.call (Value.builtin "list_iterator.__next__") { pos := [Value.ref it] : Args }) D (by assumption) (by assumption) ?_; intro o21; refine ⟨by kernel_rfl, by kernel_rfl, by kernel_rfl, by kernel_rfl, by kernel_rfl, fun h21 D21 => ?_⟩)
    refine callW_of rfl ?_
    rw [mark_none]
    refine r_lnext (Fit.inner hA' D21 _ (by kernel_rfl) (by kernel_rfl)) it fa pre.length ef (intV (pre ++ q :: rest)) (.int q.1 q.2) (by simp [intV]) (D21.give [0, 1, 1] (by kernel_rfl)) fun g1 t' a1 => ?_
    obtain ⟨B2, E1⟩ := D21.backP [0, 1, 1] [2, 0, 1, 3] [(acc, listO (cellV P) ep), (it, iterO "list_iterator" (.ref fa) (pre.length + 1)), (fa, listO (intV (pre ++ q :: rest)) ef), (di, dictO dl dn)] (by kernel_rfl) a1 (by kernel_rfl)
    refine Means.add0 ?_
    have e1 : pre ++ q :: rest = (pre ++ [q]) ++ rest := by simp
    have e2 : pre.length + 1 = (pre ++ [q]).length := by simp
    have hSP := cellV_len P
    have hm : (q.1.fmod 5040) = .ofNat (q.1.fmod 5040).toNat := (Int.toNat_of_nonneg (Int.fmod_nonneg_of_pos _ (by decide))).symm
    rw [List.length_cons] at hsz
    rcases hdl with ⟨rfl, rfl⟩ | ⟨k, v, rfl, rfl⟩
    · cases b1 <;> (
      (refine segW (t0 := t') (i := 0) 100000 [4, 4, 4] (Code.call (Value.builtin "int.__mod__") { pos := [Value.int q.fst q.snd, Value.int 5040 (t' + 1)] : Args }) E1 (by assumption) (by assumption) ?_; intro o1001; refine ⟨by kernel_rfl, by kernel_rfl, by kernel_rfl, by kernel_rfl, by kernel_rfl, fun h1001 D1001 => ?_⟩)
      refine r_mod q.1 5040 _ _ (by decide) fun u1 u2 => ?_
      rw [hm]
      generalize hv : (q.1.fmod 5040).toNat = m
      refine Means.add0 ?_
      obtain ⟨B3, E3⟩ := D1001.pickE [0, 1, 2, 3] [(acc, listO (cellV P) ep), (it, iterO "list_iterator" (.ref fa) (pre.length + 1)), (fa, listO (intV (pre ++ q :: rest)) ef), (di, dictO [ent w n_x t' (.int q.1 q.2)] 1)] (by kernel_rfl)
      (refine segW (t0 := u2) (i := 0) 100000 [] ((.call (.builtin "list.append") ⟨[.ref acc, .int (.ofNat m) u1], []⟩) ) E3 (by assumption) (by assumption) ?_; intro o1002; refine ⟨by kernel_rfl, by kernel_rfl, by kernel_rfl, by kernel_rfl, by kernel_rfl, fun h1002 D1002 => ?_⟩)
      refine callW_of rfl ?_
      rw [mark_none]
      refine r_append acc ep (cellV P) _ (by omega) (D1002.give [1] (by kernel_rfl)) fun g3 t3 a3 => ?_
      obtain ⟨B4, E4⟩ := D1002.backP [1] [0, 1, 2, 3] [(acc, listO (cellV P ++ [.int (.ofNat m) u1]) (ep + 1)), (it, iterO "list_iterator" (.ref fa) (pre.length + 1)), (fa, listO (intV (pre ++ q :: rest)) ef), (di, dictO [ent w n_x t' (.int q.1 q.2)] 1)] (by kernel_rfl) a3 (by kernel_rfl)
      refine Means.add0 ?_
      (refine segF (t0 := t3) (i := 0) 100000 [] ((Fin.again (compL w 131 (eLC w) (.ref it) (.ref acc) di q_law fr)) ) E4 (by assumption) (by assumption) ?_; intro o1003; refine ⟨by kernel_rfl, by kernel_rfl, by kernel_rfl, fun h1003 D1003 => ?_⟩)
      obtain ⟨B5, E5⟩ := D1003.pickE [0, 1, 2, 3] [(acc, listO (cellV P ++ [.int (.ofNat m) u1]) (ep + 1)), (it, iterO "list_iterator" (.ref fa) (pre.length + 1)), (fa, listO (intV (pre ++ q :: rest)) ef), (di, dictO [ent w n_x t' (.int q.1 q.2)] 1)] (by kernel_rfl)
      have e3 : cellV P ++ [.int (.ofNat m) u1] = cellV (P ++ [(m, u1)]) := by simp [cellV]
      rw [e1, e2, e3] at E5
      refine ⟨by kernel_rfl, ih (pre ++ [q]) (P ++ [(m, u1)]) _ _ _ _ _ _ (.inr ⟨_, _, rfl, rfl⟩) (by rw [List.length_append, List.length_singleton]; omega) E5 fun h1 B' t9 ep' Q dl' dn' hd2 hQ E => ?_⟩
      refine hR h1 B' t9 ep' ((m, u1) :: Q) dl' dn' hd2 (by rw [List.map_cons, List.map_cons, hQ, hv]) ?_
      rw [List.append_assoc, ← e1] at E
      exact E)
    · cases b1 <;> (
      (refine segW (t0 := t') (i := 0) 100000 [4, 4, 4] (Code.call (Value.builtin "int.__mod__") { pos := [Value.int q.fst q.snd, Value.int 5040 (t' + 1)] : Args }) E1 (by assumption) (by assumption) ?_; intro o2001; refine ⟨by kernel_rfl, by kernel_rfl, by kernel_rfl, by kernel_rfl, by kernel_rfl, fun h2001 D2001 => ?_⟩)
      refine r_mod q.1 5040 _ _ (by decide) fun u1 u2 => ?_
      rw [hm]
      generalize hv : (q.1.fmod 5040).toNat = m
      refine Means.add0 ?_
      obtain ⟨B3, E3⟩ := D2001.pickE [0, 1, 2, 3] [(acc, listO (cellV P) ep), (it, iterO "list_iterator" (.ref fa) (pre.length + 1)), (fa, listO (intV (pre ++ q :: rest)) ef), (di, dictO [ent w n_x k (.int q.1 q.2)] 1)] (by kernel_rfl)
      (refine segW (t0 := u2) (i := 0) 100000 [] ((.call (.builtin "list.append") ⟨[.ref acc, .int (.ofNat m) u1], []⟩) ) E3 (by assumption) (by assumption) ?_; intro o2002; refine ⟨by kernel_rfl, by kernel_rfl, by kernel_rfl, by kernel_rfl, by kernel_rfl, fun h2002 D2002 => ?_⟩)
      refine callW_of rfl ?_
      rw [mark_none]
      refine r_append acc ep (cellV P) _ (by omega) (D2002.give [1] (by kernel_rfl)) fun g3 t3 a3 => ?_
      obtain ⟨B4, E4⟩ := D2002.backP [1] [0, 1, 2, 3] [(acc, listO (cellV P ++ [.int (.ofNat m) u1]) (ep + 1)), (it, iterO "list_iterator" (.ref fa) (pre.length + 1)), (fa, listO (intV (pre ++ q :: rest)) ef), (di, dictO [ent w n_x k (.int q.1 q.2)] 1)] (by kernel_rfl) a3 (by kernel_rfl)
      refine Means.add0 ?_
      (refine segF (t0 := t3) (i := 0) 100000 [] ((Fin.again (compL w 131 (eLC w) (.ref it) (.ref acc) di q_law fr)) ) E4 (by assumption) (by assumption) ?_; intro o2003; refine ⟨by kernel_rfl, by kernel_rfl, by kernel_rfl, fun h2003 D2003 => ?_⟩)
      obtain ⟨B5, E5⟩ := D2003.pickE [0, 1, 2, 3] [(acc, listO (cellV P ++ [.int (.ofNat m) u1]) (ep + 1)), (it, iterO "list_iterator" (.ref fa) (pre.length + 1)), (fa, listO (intV (pre ++ q :: rest)) ef), (di, dictO [ent w n_x k (.int q.1 q.2)] 1)] (by kernel_rfl)
      have e3 : cellV P ++ [.int (.ofNat m) u1] = cellV (P ++ [(m, u1)]) := by simp [cellV]
      rw [e1, e2, e3] at E5
      refine ⟨by kernel_rfl, ih (pre ++ [q]) (P ++ [(m, u1)]) _ _ _ _ _ _ (.inr ⟨_, _, rfl, rfl⟩) (by rw [List.length_append, List.length_singleton]; omega) E5 fun h1 B' t9 ep' Q dl' dn' hd2 hQ E => ?_⟩
      refine hR h1 B' t9 ep' ((m, u1) :: Q) dl' dn' hd2 (by rw [List.map_cons, List.map_cons, hQ, hv]) ?_
      rw [List.append_assoc, ← e1] at E
      exact E)
theorem lc_start (w : World) (A : Around) (h₀ : Heap) (mods : List Nat) (hA : Fit 5 A (kt1 w) h₀) (R : Result → Shared → Prop) (g : Array GenState) (d : Drawn) (os : OsState) (it acc di fr fa ef : Nat) (F : List (Int × Nat)) (X : Led) (hz : F.length ≤ 16777000) (h : Heap) (B t0 : Nat)
   (D : Rep (kt1 w) h₀ mods h B [(acc, listO ([]) 0), (it, iterO "list_iterator" (.ref fa) 0), (fa, listO (intV F) ef), (di, dictO [] 0)] X 0)
   (hR : ∀ h1 B' t' ep' Q dl' dn', (dl' = [] ∧ dn' = 0 ∨ ∃ k v, dl' = [ent w n_x k v] ∧ dn' = 1) → Q.map (·.1) = F.map (fun c => (c.1.fmod 5040).toNat) → Rep (kt1 w) h₀ mods h1 B' [(acc, listO (cellV Q) ep'), (fa, listO (intV F) ef), (di, dictO dl' dn')] X 0 → R (.ok .next) ⟨h1, g, d, t', os⟩) :
   codeAny (PP w) A (compS w 131 (eLC w) (.ref it) (.ref acc) di q_law fr) R ⟨h, g, d, t0, os⟩ := by
  obtain ⟨b1, b2, hw⟩ := parF_ex w
  have hA' := hA.under (compS w 131 (eLC w) (.ref it) (.ref acc) di q_law fr) (m := 0) (by kernel_rfl)
  refine code_start ?_
  refine Means.add0 ?_
  cases b2 <;> cases b1 <;> (
    (first | (refine segF (t0 := t0) (i := 0) 100000 [2, 2, 1, 2, 2] ((Fin.again (compL w 131 (eLC w) (.ref it) (.ref acc) di q_law fr)) ) D (by assumption) (by assumption) ?_; intro o1; refine ⟨by kernel_rfl!, by kernel_rfl!, by kernel_rfl!, fun h1 D1 => ?_⟩) | (refine segF (t0 := t0) (i := 0) 100000 [] ((Fin.again (compL w 131 (eLC w) (.ref it) (.ref acc) di q_law fr)) ) D (by assumption) (by assumption) ?_; intro o1; refine ⟨by kernel_rfl!, by kernel_rfl!, by kernel_rfl!, fun h1 D1 => ?_⟩))
    obtain ⟨B2, E1⟩ := D1.pickE [0, 1, 2, 3] [(acc, listO (cellV []) 0), (it, iterO "list_iterator" (.ref fa) ([] : List (Int × Nat)).length), (fa, listO (intV ([] ++ F)) ef), (di, dictO [] 0)] (by kernel_rfl)
    exact ⟨by kernel_rfl, lc_loop w A h₀ mods hA R g d os it acc di fr fa ef X F [] [] _ _ _ _ _ _ (.inl ⟨rfl, rfl⟩) (by rw [List.length_nil]; omega) E1 hR⟩)
end Mine
end
section
open PySem PySem.W PySem.Calls PyProof.Rows
set_option Elab.async false
set_option maxRecDepth 100000
namespace Mine
section
variable {w : World} {A : Around} {h₀ : Heap} {R : Result → Shared → Prop} {B t0 : Nat} {g : Array GenState} {d : Drawn} {os : OsState} {mods : List Nat} {prog : Program} {kt : Nat → Option Obj}
theorem r_lslice (la ep sl : Nat) (xs ys : List Value) (vl vu : Value) (lo hi : Option Int) (pl : IsPart vl lo) (pu : IsPart vu hi) (hp : slicePick ⟨xs⟩ lo hi none = ⟨ys⟩) (hz : xs.length ≤ 16777216)
   (D : Rep kt h₀ mods h₀ B [(la, listO xs ep), (sl, sliceO vl vu .none)] [] 0)
   (hR : ∀ h1 na, After h₀ h1 mods [(la, listO xs ep), (na, listO ys 0)] → R (.ok (.ret (.ref na))) ⟨h1, g, d, t0, os⟩) :
   codeAny (model prog w) A (.call (.builtin "list.__getitem__") ⟨[.ref la, .ref sl], []⟩) R ⟨h₀, g, d, t0, os⟩ := by
  have hl : h₀.get? la = some (listO xs ep) := D.get (j := 0) rfl
  have hs : h₀.get? sl = some (sliceO vl vu .none) := D.get (j := 1) rfl
  have hTs : Shared.TypeIs ⟨h₀, g, d, t0, os⟩ (.ref sl) "slice" := ⟨_, hs, rfl⟩
  refine code_slot F.slot_list_getitem ⟨_, hl, rfl⟩ F.entry_list_getitem (F.args_list_getitem_2 _ _) ?_
  show wpAny _ _ (Builtin.List.listSubscript? (.ref sl) >>= _) _ _ _
  refine wpAny_bind ?_
  unfold Builtin.List.listSubscript?
  refine wpAny_bind (wpAny_specialOf hTs slice_no_index ?_)
  simp only [Option.isNone_none, if_true]
  refine wpAny_pure ?_
  show wpAny _ _ (typeOf (.ref sl) >>= _) _ _ _
  refine wpAny_bind (wpAny_typeOf hTs ?_)
  rw [if_neg (by decide)]
  rw [listSliceParts_eq]
  refine wpAny_bind (wpAny_bind (wpAny_field hs rfl (x := .none) rfl (wpAny_bind (wpAny_listPart IsPart.none ?_))))
  rw [if_neg (show ¬ ((rawPart none == rawInt 0) = true) from Bool.false_ne_true)]
  refine wpAny_bind (wpAny_field hs rfl (x := vl) rfl (wpAny_bind (wpAny_listPart pl ?_)))
  refine wpAny_bind (wpAny_field hs rfl (x := vu) rfl (wpAny_bind (wpAny_listPart pu (wpAny_pure ?_))))
  refine wpAny_bind (m := Builtin.List.listItems (.ref la)) ?_
  unfold Builtin.List.listItems
  refine wpAny_bind (wpAny_seqItems hl rfl (wpAny_pure ?_))
  refine wpAny_bind (wpAny_of_eq (sliceIndices_raw lo hi none xs.length (by decide)) ?_)
  have hB : h₀.objs.size = B := D.size
  have D1 := D.alloc (o := listO ys 0) rfl
  have a1 := D1.fin [1, 0, 1] rfl
  refine wpAny_bind (wpAny_newObj_type (wpAny_pure ?_) (Nat.le_trans (slicePick_size_le ⟨xs⟩ lo hi none) hz))
  have e : ((sliceRange (sliceBounds lo hi none xs.length).1 (sliceBounds lo hi none xs.length).2.1 (sliceBounds lo hi none xs.length).2.2).filterMap ((⟨xs⟩ : Array Value)[·]?)).toArray = ⟨ys⟩ := hp
  show R (.ok (.ret (.ref h₀.objs.size))) ⟨h₀.push { cls := .type "list", data := .seq ((sliceRange (sliceBounds lo hi none xs.length).1 (sliceBounds lo hi none xs.length).2.1 (sliceBounds lo hi none xs.length).2.2).filterMap ((⟨xs⟩ : Array Value)[·]?)).toArray }, g, d, t0, os⟩
  rw [e, hB]
  exact hR _ _ a1
theorem r_lsliceTo (la ep sl k t : Nat) (xs : List Value) (hz : xs.length ≤ 16777216)
   (D : Rep kt h₀ mods h₀ B [(la, listO xs ep), (sl, sliceO .none (.int (.ofNat k) t) .none)] [] 0)
   (hR : ∀ h1 na, After h₀ h1 mods [(la, listO xs ep), (na, listO (xs.take k) 0)] → R (.ok (.ret (.ref na))) ⟨h1, g, d, t0, os⟩) :
   codeAny (model prog w) A (.call (.builtin "list.__getitem__") ⟨[.ref la, .ref sl], []⟩) R ⟨h₀, g, d, t0, os⟩ := by
  refine r_lslice la ep sl xs (xs.take k) .none (.int (.ofNat k) t) none (some (.ofNat k)) IsPart.none (IsPart.int _ _) ?_ hz D hR
  by_cases h : k ≤ xs.length
  · exact slicePick_upto ⟨xs⟩ k h
  · have e : slicePick ⟨xs⟩ none (some (.ofNat k)) none = slicePick ⟨xs⟩ none (some (.ofNat xs.length)) none := by
      unfold slicePick sliceBounds
      have e2 : max 0 (min (if ((k : Nat) : Int) < 0 then ((k : Nat) : Int) + (xs.length : Int) else ((k : Nat) : Int)) (xs.length : Int)) = max 0 (min (if ((xs.length : Nat) : Int) < 0 then ((xs.length : Nat) : Int) + (xs.length : Int) else ((xs.length : Nat) : Int)) (xs.length : Int)) := by
        rw [if_neg (by omega), if_neg (by omega)]
        omega
      simp only [Option.getD_none]
      exact congrArg (fun z => (List.filterMap (fun x => (⟨xs⟩ : Array Value)[x]?) (sliceRange 0 z 1)).toArray) e2
    rw [e]
    refine (slicePick_upto ⟨xs⟩ xs.length (Nat.le_refl _)).trans ?_
    rw [List.take_of_length_le (by omega : xs.length ≤ k)]
    exact congrArg List.toArray List.take_length
theorem r_lsliceFrom (la ep sl k t : Nat) (xs : List Value) (hk : k ≤ xs.length) (hz : xs.length ≤ 16777216)
   (D : Rep kt h₀ mods h₀ B [(la, listO xs ep), (sl, sliceO (.int (.ofNat k) t) .none .none)] [] 0)
   (hR : ∀ h1 na, After h₀ h1 mods [(la, listO xs ep), (na, listO (xs.drop k) 0)] → R (.ok (.ret (.ref na))) ⟨h1, g, d, t0, os⟩) :
   codeAny (model prog w) A (.call (.builtin "list.__getitem__") ⟨[.ref la, .ref sl], []⟩) R ⟨h₀, g, d, t0, os⟩ :=
  r_lslice la ep sl xs (xs.drop k) (.int (.ofNat k) t) .none (some (.ofNat k)) none (IsPart.int _ _) IsPart.none (slicePick_from ⟨xs⟩ k hk) hz D hR
theorem r_ladd (la ea lb eb : Nat) (xs ys : List Value) (hz : xs.length + ys.length ≤ 16777216)
   (D : Rep kt h₀ mods h₀ B [(la, listO xs ea), (lb, listO ys eb)] [] 0)
   (hR : ∀ h1 na, After h₀ h1 mods [(la, listO xs ea), (lb, listO ys eb), (na, listO (xs ++ ys) 0)] → R (.ok (.ret (.ref na))) ⟨h1, g, d, t0, os⟩) :
   codeAny (model prog w) A (.call (.builtin "list.__add__") ⟨[.ref la, .ref lb], []⟩) R ⟨h₀, g, d, t0, os⟩ := by
  have hl : h₀.get? la = some (listO xs ea) := D.get (j := 0) rfl
  have hs : h₀.get? lb = some (listO ys eb) := D.get (j := 1) rfl
  refine code_meets F.slot_list_add ⟨_, hl, rfl⟩ F.entry_list_add (F.args_list_add_2 _ _) (AutoSeq1.list___add___list_list_0 la ⟨xs⟩ ea lb ⟨ys⟩ eb hz) ⟨hl, hs, ?_⟩
  have D1 := D.alloc (o := listO (xs ++ ys) 0) rfl
  have hB : h₀.objs.size = B := D.size
  have e : (⟨xs⟩ ++ ⟨ys⟩ : Array Value) = ⟨xs ++ ys⟩ := by simp
  rw [e, hB]
  exact hR _ _ (D1.fin [1, 1, 1] rfl)
end
end Mine
end
section
open PySem PySem.W PySem.Calls PyProof.Rows
set_option Elab.async false
set_option maxRecDepth 100000
namespace Mine
def chkA (G M : Nat) : Bool := (List.range M).all fun m => okKN G (herdP G m)
def chkB (G M : Nat) : Bool := (List.range (M + 1)).all fun i => decide (1 ≤ (termsL G M).getD i 0)
def nOf (G M : Nat) : Nat := (termsL G M).getD (M - G + 1) 0
def chkC (G M : Nat) : Bool := decide (1 ≤ nOf G M) && decide (nOf G M ≤ 10000) && decide ((termsL G M).getD 0 0 = 1)
def chkD (G M : Nat) : Bool := (List.range (nOf G M)).all fun j => decide ((greedy (termsL G M) j j).length ≤ 1000) && (fallsOf G M (termsL G M) j).all fun x => decide (0 ≤ x) && decide (x < 16)
def chkE (G M : Nat) : Bool := decide (herdP G M = (List.range (nOf G M)).map (entryOf G M (termsL G M)))
def chk (G M : Nat) : Bool := chkA G M && chkB G M && chkC G M && chkD G M && chkE G M
theorem chk_all : ∀ m0 < 3, ∀ m1 < 2, chk (1 + m0) (2 * (1 + m0) + 1 + m1) = true := by decide +kernel
theorem chk_facts (G M : Nat) (h : chk G M = true) : (∀ m < M, okKN G (herdP G m) = true) ∧ (∀ i < M + 1, 1 ≤ (termsL G M).getD i 0) ∧ 1 ≤ nOf G M ∧ nOf G M ≤ 10000 ∧ (termsL G M).getD 0 0 = 1 ∧ (∀ j < nOf G M, (greedy (termsL G M) j j).length ≤ 1000 ∧ ∀ x ∈ fallsOf G M (termsL G M) j, 0 ≤ x ∧ x < 16) ∧ herdP G M = (List.range (nOf G M)).map (entryOf G M (termsL G M)) := by
  unfold chk at h
  simp only [Bool.and_eq_true] at h
  obtain ⟨⟨⟨⟨hA, hB⟩, hC⟩, hD⟩, hE⟩ := h
  unfold chkA at hA; unfold chkB at hB; unfold chkC at hC; unfold chkD at hD; unfold chkE at hE
  simp only [Bool.and_eq_true, List.all_eq_true, decide_eq_true_eq, List.mem_range] at hA hB hC hD hE
  exact ⟨fun m hm => hA m hm, fun i hi => hB i hi, hC.1.1, hC.1.2, hC.2, fun j hj => ⟨(hD j hj).1, fun x hx => (hD j hj).2 x hx⟩, hE⟩
end Mine
end
section
open PySem PySem.W PySem.Calls PyProof.Rows
set_option Elab.async false
set_option maxRecDepth 100000
namespace Mine
theorem rc_herd {A : Around} {h₀ : Heap} {B t0 : Nat} {g : Array GenState} {d : Drawn} {os : OsState} {mods : List Nat} {kt : Nat → Option Obj}
   (l1 l2 e1 e2 : Nat) (H1 H2 : List Cow) (hk : H1.map cowKN = H2.map cowKN) (hu : A.units + 5 < cLine)
   (D : Rep kt h₀ mods h₀ B [(l1, listO (herdV H1) e1), (l2, listO (herdV H2) e2)] (herdL H1 ++ herdL H2) 0) :
   PySem.SeqAt.RcAt A ⟨h₀, g, d, t0, os⟩ (.ref l1) (.ref l2) true := by
  have hl1 : h₀.get? l1 = some (listO (herdV H1) e1) := D.get (j := 0) rfl
  have hl2 : h₀.get? l2 = some (listO (herdV H2) e2) := D.get (j := 1) rfl
  have hlen : H1.length = H2.length := by
    have := congrArg List.length hk
    rwa [List.length_map, List.length_map] at this
  have z := PySem.SeqAt.RcAt.lists (A := A) (s := ⟨h₀, g, d, t0, os⟩) (l := l1) (b := l2) (items := ⟨herdV H1⟩) (items2 := ⟨herdV H2⟩) (e := fun _ => true) ⟨_, hl1, rfl, e1, rfl⟩ ⟨_, hl2, rfl, e2, rfl⟩ (by show (herdV H1).length = (herdV H2).length; simp [herdV, hlen]) (by omega) (by
    intro j h1 h2
    have h1' : j < H1.length := by have : (herdV H1).length = H1.length := by simp [herdV]
                                   have h1'' : j < (herdV H1).length := h1
                                   omega
    have h2' : j < H2.length := by omega
    have ev1 : (⟨herdV H1⟩ : Array Value)[j] = .ref (H1[j]).ad := by simp [herdV]
    have ev2 : (⟨herdV H2⟩ : Array Value)[j] = .ref (H2[j]).ad := by simp [herdV]
    have hkn : cowKN H1[j] = cowKN H2[j] := by
      have e := congrArg (fun l => l[j]?) hk
      simp only [List.getElem?_map, List.getElem?_eq_getElem h1', List.getElem?_eq_getElem h2', Option.map_some] at e
      exact Option.some.inj e
    have m1 : (H1[j]).row ∈ herdL H1 := List.mem_map.mpr ⟨_, List.getElem_mem h1', rfl⟩
    have m2 : (H2[j]).row ∈ herdL H2 := List.mem_map.mpr ⟨_, List.getElem_mem h2', rfl⟩
    have g1 : h₀.get? (H1[j]).ad = some (H1[j]).obj := D.at_ (H1[j]).row (List.mem_append_right _ (List.mem_append_left _ m1))
    have g2 : h₀.get? (H2[j]).ad = some (H2[j]).obj := D.at_ (H2[j]).row (List.mem_append_right _ (List.mem_append_right _ m2))
    have hne : (H1[j]).ad ≠ (H2[j]).ad := by
      have nd := D.nd
      rw [List.map_append] at nd
      have nd2 := (List.nodup_append.mp nd).2.1
      rw [List.map_append] at nd2
      exact (List.nodup_append.mp nd2).2.2 _ (List.mem_map.mpr ⟨_, m1, rfl⟩) _ (List.mem_map.mpr ⟨_, m2, rfl⟩)
    generalize H1[j] = a at *
    generalize H2[j] = b at *
    obtain ⟨a1, a2, a3, a4, a5⟩ := a
    obtain ⟨b1, b2, b3, b4, b5⟩ := b
    obtain ⟨e3, e4⟩ : a2 = b2 ∧ a4 = b4 := ⟨congrArg Prod.fst hkn, congrArg Prod.snd hkn⟩
    subst e3 e4
    rw [ev1, ev2]
    refine PySem.SeqAt.EqAt.of_refs hne ?_
    have key := PySem.SeqAt.RcAt.tuples (A := A.in1) (s := ⟨h₀, g, d, t0, os⟩) (l := a1) (b := b1) (items := ⟨[.int (.ofNat a2) a3, .str ⟨⟨a4⟩⟩ a5]⟩) (items2 := ⟨[.int (.ofNat a2) b3, .str ⟨⟨a4⟩⟩ b5]⟩) (e := fun _ => true) ⟨_, g1, rfl, 0, rfl⟩ ⟨_, g2, rfl, 0, rfl⟩ (by show A.units + 1 < cLine; omega) (by
      intro i i1 i2
      have i1' : i < 2 := i1
      match i, i1' with
      | 0, _ =>
        have z := PySem.SeqAt.EqAt.int_int (A := A.in1.in1) (s := ⟨h₀, g, d, t0, os⟩) (.ofNat a2) a3 (.ofNat a2) b3
        rw [beq_self_eq_true] at z
        exact z
      | 1, _ =>
        have z := PySem.SeqAt.EqAt.str_str (A := A.in1.in1) (s := ⟨h₀, g, d, t0, os⟩) ⟨⟨a4⟩⟩ a5 ⟨⟨a4⟩⟩ b5
        rw [beq_self_eq_true] at z
        exact z)
    exact key)
  have : (List.range (⟨herdV H1⟩ : Array Value).size).all (fun _ => true) = true := by simp
  rwa [this] at z
noncomputable def bindT {α β : Type} (m : Sem α) (f : α → Sem β) : Sem β := @bind Sem (@Monad.toBind Sem Fast.tw12456147031677567982) α β m f
noncomputable def pureT {α : Type} (a : α) : Sem α := @pure Sem (@Applicative.toPure Sem (@Monad.toApplicative Sem Fast.tw12456147031677567982)) α a
noncomputable def mT (env : Env) : Flow → Sem Flow := fun fl => match fl with
  | .next => Fast.tw12563942051412417395 [] env
  | f => pureT f
noncomputable def finT2 : Flow → Sem PySem.Fin := fun fl => match fl with
  | .ret v => Fast.tw6905046200447255374 v
  | _ => Fast.tw6905046200447255374 .none
noncomputable def cmpT (a b : Value) : Sem Value := Fast.tw8004119333741010377 [a, b] (Fast.tw12886488535604756494 .Eq a b)
noncomputable def XT (a b : Value) (env : Env) : Sem PySem.Fin := bindT (R.onRaiseR (bindT (bindT (cmpT a b) (fun a => pureT (Flow.ret a))) (mT env)) (Fast.tw9442747609961115081 env)) finT2
def skipN : Sem PySem.Fin → Sem PySem.Fin
  | .point _ k => k ()
  | .at _ k => k ()
  | t => t
theorem XT_eq (a b : Value) (env : Env) : XT a b env = (((operate [a, b] (compareOp .Eq a b) >>= fun x => (pure (Flow.ret x) : Sem Flow)) >>= fun fl => match fl with
    | .next => execs [] env
    | f => (pure f : Sem Flow)).onRaise (leaving env)) >>= fun fl => match fl with
    | .ret v => ret v
    | _ => ret .none := by
  unfold XT bindT mT finT2 cmpT pureT
  rw [← Fast.te8004119333741010377, ← Fast.te12886488535604756494, ← Fast.te12456147031677567982, ← Fast.te12563942051412417395, ← Fast.te9442747609961115081, ← Fast.te6905046200447255374, ← R.onRaiseR_eq]
def isRetK : Ko → Bool
  | .ret .. => true
  | _ => false
def koT : Ko → Ko
  | .ret _ _ _ κ => κ
  | κ => κ
def koK : Ko → Result → Sem PySem.Fin
  | .ret _ _ k _ => k
  | _ => fun _ => .unsupported ""
section
variable {prog : Program} {w : World} {A₀ : Around} {Q₀ : PySem.Fin → Shared → Prop} {E₀ : Value → Shared → Prop} {s : Shared} {κ : Ko} {t : Sem PySem.Fin}
theorem skip_ok (H : MeansD (model prog w) A₀ Q₀ E₀ κ (skipN t) s) : MeansD (model prog w) A₀ Q₀ E₀ κ t s := by
  unfold skipN at H
  split at H
  · exact fun Γ p hΓ => H Γ p hΓ
  · exact fun Γ p hΓ => H Γ _ hΓ
  · exact H
theorem post_done {f : Flow} (hk : isRetK κ = true) (H : MeansD (model prog w) A₀ Q₀ E₀ (koT κ) (koK κ (.ok f)) s) : (post (model prog w) A₀ Q₀ E₀ κ).1 (.done f) s := by
  cases κ with
  | ret c hd k κ => exact H
  | base => cases hk
  | ent c hd k κ => cases hk
theorem xt_true {a b : Value} {env : Env} (e : skipN (skipN t) = XT a b env) (hrc : PySem.SeqAt.RcAt (around A₀ κ) s a b true) (hk : isRetK κ = true)
    (H : Means (model prog w) A₀ Q₀ E₀ (koT κ) (koK κ (.ok (.ret (.bool true)))) s) : Means (model prog w) A₀ Q₀ E₀ κ t s := by
  refine ⟨skip_ok (skip_ok ?_)⟩
  rw [e, XT_eq]
  unfold MeansD
  refine wpAny_bind (wpAny_onRaise (wpAny_bind (wpAny_bind (wpAny_operate' ?_))))
  show wpAny _ _ (richCompare .Eq a b) _ _ s
  refine hrc prog w _ _ ?_
  exact wpAny_pure (wpAny_pure (wpAny_pure (post_done hk H.out)))
end
theorem units_in {A : Around} (hU : A.units + 1000 < cLine) (κ : Ko) (hk : Nat.ble (koLen κ) 90 = true) : (around A κ).units + 5 < cLine := by
  have := around_units A κ
  have := Nat.le_of_ble_eq_true hk
  omega
end Mine
end
section
open PySem PySem.W PySem.Calls PyProof.Rows
set_option Elab.async false
set_option maxRecDepth 100000
namespace Mine
def cst (t : Nat) : List (Nat × Nat) := [(1, t + 1), (8, t + 2), (5, t + 3), (0, t + 4), (7, t + 5), (2, t + 6), (11, t + 7), (4, t + 8), (3, t + 9), (10, t + 10), (9, t + 11), (6, t + 12), (13, t + 13), (12, t + 14), (15, t + 15), (14, t + 16)]
theorem cell_get (C : List (Nat × Nat)) (hC : C.length = 16) (i : Nat) (hi : i < 16) : ∃ q : Nat × Nat, (cellV C)[i]? = some (.int (.ofNat q.1) q.2) := by
  refine ⟨C[i], ?_⟩
  unfold cellV
  rw [List.getElem?_map, List.getElem?_eq_getElem (by omega)]
  rfl
theorem law_a (w : World) (A : Around) (h₀ : Heap) (hA : Fit 300 A (kt1 w) h₀) (R : Result → Shared → Prop) (B t0 : Nat) (g : Array GenState) (d : Drawn) (os : OsState) (sl es : Nat) (F : List (Int × Nat)) (hS : F.length ≤ 10000) {mods : List Nat} (hU : A.units + 1000 < cLine)
   (D : Rep (kt1 w) h₀ mods h₀ B [(sl, listO (intV F) es), (111, obAt w 111)] [] 0)
   (hR : ∀ h1 t' co tc c5 c6 c7 c8 c9, After h₀ h1 mods [(sl, listO (intV F) es), (111, tabO co), (co, lamCodeO tc c5 c6 c7 c8 c9)] → R (.ok (.ret (.bool true))) ⟨h1, g, d, t', os⟩) :
   codeAny (PP w) A (.call (.ref 131) ⟨[.ref sl], []⟩) R ⟨h₀, g, d, t0, os⟩ := by
  obtain ⟨b1, b2, hw⟩ := parF_ex w
  have hFl : (intV F).length = F.length := by simp [intV]
  have hF16 : (intV F).take 16 = intV (F.take 16) := by unfold intV; rw [List.map_take]
  refine code_ent (D.kt_ (a := 131) (o := obAt w 131) (by kernel_rfl)) (fd := fdAt w 131) (by kernel_rfl) (by have := hA.room; omega) ?_
  refine Means.add0 ?_
  cases b1 <;> (
    (refine segW (t0 := t0) (i := 0) 100000 [0, 3, 3, 3, 1, 1, 1] (Code.call (Value.builtin "list.__getitem__") { pos := [Value.ref sl, Value.ref (B + 1)] : Args }) D (by assumption) (by assumption) ?_; intro o11; refine ⟨by kernel_rfl, by kernel_rfl, by kernel_rfl, by kernel_rfl, by kernel_rfl, fun h11 D11 => ?_⟩)
    refine callW_of rfl ?_
    rw [mark_none]
    refine r_lsliceTo sl es (B + 1) 16 (t0 + 1) (intV F) (by omega) (D11.give [1, 0, 0, 1] (by kernel_rfl)) fun g1 na a1 => ?_
    rw [hF16] at a1
    obtain ⟨B2, E2⟩ := D11.backP [1, 0, 0, 1] [0, 1, 2, 3] [(sl, listO (intV F) es), (na, listO (intV (F.take 16)) 0), (111, obAt w 111), (B, fobj [ent w n_script t0 (.ref sl)] 1)] (by kernel_rfl) a1 (by kernel_rfl)
    refine Means.add0 ?_
    (refine segL (t0 := t0 + outI o11) (i := 0) 100000 [2, 2, 1, 2, 5] ((compS w 131 (eLC w) (.ref B2) (.ref (B2 + 1)) (B2 + 2) q_law B) ) E2 (by assumption) (by assumption) ?_; intro o12; refine ⟨by kernel_rfl, by kernel_rfl, by kernel_rfl, by kernel_rfl, fun h12 D12 => ?_⟩)
    obtain ⟨B3, E3⟩ := D12.partX [5, 4, 1, 6] [0, 2, 3] [(B2 + 1, listO [] 0), (B2, iterO "list_iterator" (.ref na) 0), (na, listO (intV (F.take 16)) 0), (B2 + 2, dictO [] 0)] [(sl, listO (intV F) es), (111, obAt w 111), (B, fobj [ent w n_script t0 (.ref sl)] 1)] (by kernel_rfl) (by kernel_rfl)
    refine lc_start w _ h₀ mods (hA.ar _ (by kernel_rfl) (by kernel_rfl)) _ g d os B2 (B2 + 1) (B2 + 2) B na 0 (F.take 16) _ (by rw [List.length_take]; omega) _ _ _ E3 fun h4 B4 t4 ep4 Q dl4 dn4 hdl4 hQ E4 => ?_
    obtain ⟨B5, E5⟩ := E4.unpartX.pickE [3, 4, 5, 0, 2] [(sl, listO (intV F) es), (111, obAt w 111), (B, fobj [ent w n_script t0 (.ref sl)] 1), (B2 + 1, listO (cellV Q) ep4), (B2 + 2, dictO dl4 dn4)] rfl
    have hQl : Q.length ≤ 16 := by have e := congrArg List.length hQ; rw [List.length_map, List.length_map, List.length_take] at e; omega
    refine Means.add0 ?_
    rcases hdl4 with ⟨rfl, rfl⟩ | ⟨kk, vv, rfl, rfl⟩ <;> (
    (first | (refine segW (t0 := t4) (i := 0) 100000 [3, 3, 5, 3, 0, 0, 3] (Code.call (Value.builtin "len") { pos := [Value.ref (B2 + 1)] : Args }) E5 (by assumption) (by assumption) ?_; intro o13; refine ⟨by kernel_rfl!, by kernel_rfl!, by kernel_rfl!, by kernel_rfl!, by kernel_rfl!, fun h13 D13 => ?_⟩) | (refine segW (t0 := t4) (i := 0) 100000 [3, 3, 5, 5, 5, 3, 0, 0, 3] (Code.call (Value.builtin "len") { pos := [Value.ref (B2 + 1)] : Args }) E5 (by assumption) (by assumption) ?_; intro o13; refine ⟨by kernel_rfl!, by kernel_rfl!, by kernel_rfl!, by kernel_rfl!, by kernel_rfl!, fun h13 D13 => ?_⟩))
    refine r_clen (B2 + 1) ep4 (cellV Q) (by rw [cellV_len]; omega) (D13.give [0, 0, 0, 1] (by kernel_rfl)) fun x1 x2 => ?_
    rw [cellV_len]
    refine Means.add0 ?_
    (refine segW (t0 := x2) (i := 0) 100000 [6, 6, 6] (Code.call (Value.builtin "list.__getitem__") { pos := [Value.ref B5, Value.ref (B5 + 1)] : Args }) D13 (by assumption) (by assumption) ?_; intro o14; refine ⟨by kernel_rfl, by kernel_rfl, by kernel_rfl, by kernel_rfl, by kernel_rfl, fun h14 D14 => ?_⟩)
    refine callW_of rfl ?_
    rw [mark_none]
    refine r_lsliceFrom B5 0 (B5 + 1) Q.length x1 (cellV (cst t4)) hQl (by show 16 ≤ 16777216; decide) (D14.give [0, 0, 0, 0, 0, 1, 1] (by kernel_rfl)) fun g6 na2 a6 => ?_
    obtain ⟨B6, E6⟩ := D14.backP [0, 0, 0, 0, 0, 1, 1] [5, 1, 2, 3, 4] [(B2 + 1, listO (cellV Q) ep4), (na2, listO ((cellV (cst t4)).drop Q.length) 0), (sl, listO (intV F) es), (111, obAt w 111), (B, fobj [ent w n_script t0 (.ref sl), ent w n_cells t4 (.ref (B2 + 1))] 2)] (by kernel_rfl) a6 (by kernel_rfl)
    refine Means.add0 ?_
    (refine segW (t0 := x2 + outI o14) (i := 0) 100000 [1, 1, 2, 1] (Code.call (Value.builtin "list.__add__") { pos := [Value.ref (B2 + 1), Value.ref na2] : Args }) E6 (by assumption) (by assumption) ?_; intro o15; refine ⟨by kernel_rfl, by kernel_rfl, by kernel_rfl, by kernel_rfl, by kernel_rfl, fun h15 D15 => ?_⟩)
    refine callW_of rfl ?_
    rw [mark_none]
    refine r_ladd (B2 + 1) ep4 na2 0 (cellV Q) ((cellV (cst t4)).drop Q.length) (by rw [cellV_len, List.length_drop, cellV_len]; show _ + (16 - _) ≤ _; omega) (D15.give [1, 1, 0, 0, 0] (by kernel_rfl)) fun g7 nc a7 => ?_
    have hC : cellV Q ++ (cellV (cst t4)).drop Q.length = cellV (Q ++ (cst t4).drop Q.length) := by unfold cellV; rw [List.map_append, List.map_drop]
    have hC16 : (Q ++ (cst t4).drop Q.length).length = 16 := by rw [List.length_append, List.length_drop]; show _ + (16 - _) = 16; omega
    rw [hC] at a7
    generalize Q ++ (cst t4).drop Q.length = C at a7 hC16
    obtain ⟨B7, E7⟩ := D15.backP [1, 1, 0, 0, 0] [2, 3, 4, 5] [(nc, listO (cellV C) 0), (sl, listO (intV F) es), (111, obAt w 111), (B, fobj [ent w n_script t0 (.ref sl), ent w n_cells t4 (.ref (B2 + 1))] 2)] (by kernel_rfl) a7 (by kernel_rfl)
    refine Means.add0 ?_
    (refine segW (t0 := x2 + outI o14 + outI o15) (i := 0) 100000 [4, 4, 4, 1, 1, 1] (Code.call (Value.builtin "list.__getitem__") { pos := [Value.ref nc, Value.int 0 (x2 + 2)] : Args }) E7 (by assumption) (by assumption) ?_; intro o16; refine ⟨by kernel_rfl, by kernel_rfl, by kernel_rfl, by kernel_rfl, by kernel_rfl, fun h16 D16 => ?_⟩)
    refine callW_of rfl ?_
    rw [mark_none]
    obtain ⟨q0, hq0⟩ := cell_get C hC16 0 (by decide)
    refine r_lget nc 0 0 (x2 + 2) (cellV C) _ hq0 (by decide) (D16.give [1, 0, 0, 0] (by kernel_rfl)) ?_
    refine Means.add0 ?_
    (refine segW (t0 := x2 + outI o14 + outI o15 + outI o16) (i := 0) 100000 [] (Code.call (Value.builtin "int.__mod__") { pos := [Value.int (Int.ofNat q0.fst) q0.snd, Value.int 3 (x2 + 3)] : Args }) D16 (by assumption) (by assumption) ?_; intro o17; refine ⟨by kernel_rfl, by kernel_rfl, by kernel_rfl, by kernel_rfl, by kernel_rfl, fun h17 D17 => ?_⟩)
    refine r_modN q0.1 3 _ _ (by decide) fun u1 u2 => ?_
    have hm0 : q0.1 % 3 < 3 := Nat.mod_lt _ (by decide)
    generalize q0.1 % 3 = m0 at hm0
    refine Means.add0 ?_
    (refine segW (t0 := u2) (i := 0) 100000 [1, 4, 4, 4, 1, 1, 4, 1, 1, 1] (Code.call (Value.builtin "list.__getitem__") { pos := [Value.ref nc, Value.int 1 (u2 + 6)] : Args }) D17 (by assumption) (by assumption) ?_; intro o18; refine ⟨by kernel_rfl, by kernel_rfl, by kernel_rfl, by kernel_rfl, by kernel_rfl, fun h18 D18 => ?_⟩)
    refine callW_of rfl ?_
    rw [mark_none]
    obtain ⟨q1, hq1⟩ := cell_get C hC16 1 (by decide)
    refine r_lget nc 0 1 (u2 + 6) (cellV C) _ hq1 (by decide) (D18.give [1, 0, 0, 0] (by kernel_rfl)) ?_
    refine Means.add0 ?_
    (refine segW (t0 := u2 + outI o18) (i := 0) 100000 [] (Code.call (Value.builtin "int.__mod__") { pos := [Value.int (Int.ofNat q1.fst) q1.snd, Value.int 2 (u2 + 7)] : Args }) D18 (by assumption) (by assumption) ?_; intro o19; refine ⟨by kernel_rfl, by kernel_rfl, by kernel_rfl, by kernel_rfl, by kernel_rfl, fun h19 D19 => ?_⟩)
    refine r_modN q1.1 2 _ _ (by decide) fun v1 v2 => ?_
    have hm1 : q1.1 % 2 < 2 := Nat.mod_lt _ (by decide)
    generalize q1.1 % 2 = m1 at hm1
    refine Means.add0 ?_
    (refine segW (t0 := v2) (i := 0) 100000 [1, 4, 4, 4, 4, 0, 0, 4, 1, 1, 1, 7, 7, 1, 7, 7, 7, 7] (Code.call (Value.builtin "range.__iter__") { pos := [Value.ref (B7 + 2)] : Args }) D19 (by assumption) (by assumption) ?_; intro o20; refine ⟨by kernel_rfl, by kernel_rfl, by kernel_rfl, by kernel_rfl, by kernel_rfl, fun h20 D20 => ?_⟩)
    refine callW_of rfl ?_
    rw [mark_none]
    refine r_riter (B7 + 2) 1 ((2 * (1 + m0) + 1 + m1 + 1 : Nat)) (v2 + 5) (v2 + 7) (v2 + 8) (2 * (1 + m0) + 1 + m1) (by omega) (by omega) (by omega) (D20.give [0, 0, 0, 0, 0, 0, 1] (by kernel_rfl)) fun y1 it y2 ay => ?_
    obtain ⟨B8, E8⟩ := D20.backP [0, 0, 0, 0, 0, 0, 1] [5, 1, 7, 2, 4, 6, 3] [(B, la5 w (fun n => match n with | 0 => t0 | 1 => t4 | 2 => u2 + 1 | 3 => v2 + 1 | _ => v2 + 4) (.ref sl) nc (.ofNat (1 + m0)) u2 (.int (.ofNat (2 * (1 + m0) + 1 + m1)) v2) (B7 + 1) [] 5), (it, ritO (1 : Nat) (2 * (1 + m0) + 1 + m1 : Nat)), (B7 + 1, listO (herdV [Cow.mk B7 1 (v2 + 2) [66] (v2 + 3)]) 0), (nc, listO (cellV C) 0), (111, obAt w 111), (B7, tupO [.int 1 (v2 + 2), .str ⟨⟨[66]⟩⟩ (v2 + 3)]), (sl, listO (intV F) es)] (by kernel_rfl) ay (by kernel_rfl)
    refine Means.add0 ?_
    (refine segL (t0 := y2) (i := 0) 100000 [2] ((forOf (lawS w) (.ref it) (envOf w 131 B q_law)) ) E8 (by assumption) (by assumption) ?_; intro o21; refine ⟨by kernel_rfl, by kernel_rfl, by kernel_rfl, by kernel_rfl, fun h21 D21 => ?_⟩)
    obtain ⟨B22, E22⟩ := (D21.giveX [1, 1, 1, 1, 1, 1, 0] (L' := [(B, la5 w (fun n => match n with | 0 => t0 | 1 => t4 | 2 => u2 + 1 | 3 => v2 + 1 | _ => v2 + 4) (.ref sl) nc (.ofNat (1 + m0)) u2 (.int (.ofNat (2 * (1 + m0) + 1 + m1)) v2) (B7 + 1) [] 5), (it, ritO (1 : Nat) ((2 * (1 + m0) + 1 + m1) : Nat)), (B7 + 1, listO (herdV [Cow.mk B7 1 (v2 + 2) [66] (v2 + 3)]) 0), (nc, listO (cellV C) 0), (111, obAt w 111), (B7, tupO [.int 1 (v2 + 2), .str ⟨⟨[66]⟩⟩ (v2 + 3)])]) (by kernel_rfl)).partX [0, 1, 2, 3, 4] [5] [(B, la5 w (fun n => match n with | 0 => t0 | 1 => t4 | 2 => u2 + 1 | 3 => v2 + 1 | _ => v2 + 4) (.ref sl) nc (.ofNat (1 + m0)) u2 (.int (.ofNat (2 * (1 + m0) + 1 + m1)) v2) (B7 + 1) [] 5), (it, ritO (1 : Nat) ((2 * (1 + m0) + 1 + m1) : Nat)), (B7 + 1, listO (herdV [Cow.mk B7 1 (v2 + 2) [66] (v2 + 3)]) 0), (nc, listO (cellV C) 0), (111, obAt w 111)] (herdL [Cow.mk B7 1 (v2 + 2) [66] (v2 + 3)]) rfl rfl
    rw [List.append_nil (herdL [Cow.mk B7 1 (v2 + 2) [66] (v2 + 3)])] at E22
    obtain ⟨q1, q2, q3, q4, q5, q6, q7⟩ := chk_facts (1 + m0) (2 * (1 + m0) + 1 + m1) (chk_all m0 hm0 m1 hm1)
    refine mo_all (Fit.inner hA D21 _ (by kernel_rfl) (by kernel_rfl)) (.ref sl) (.int (.ofNat (2 * (1 + m0) + 1 + m1)) v2) (.ofNat (1 + m0)) u2 nc B it 0 (by show (1 : Int) ≤ ((1 + m0 : Nat) : Int); omega) C hC16 (2 * (1 + m0) + 1 + m1) (by omega) (by omega) q1 _ _ _ (B7 + 1) 0 (fun n => match n with | 0 => t0 | 1 => t4 | 2 => u2 + 1 | 3 => v2 + 1 | _ => v2 + 4) [Cow.mk B7 1 (v2 + 2) [66] (v2 + 3)] rfl E22 fun h23 B23 t23 hl eh NC k' v5 v6 v7 lx x tx kd vd co tc c5 c6 c7 c8 c9 hNC E23 => ?_
    have a23 := E23.done ([(B, laF w k' (.ref sl) (.ref nc) (.ofNat (1 + m0)) u2 (.int (.ofNat (2 * (1 + m0) + 1 + m1)) v2) hl v5 v6 v7 lx x tx [ent w n_dots kd vd] 11), (hl, listO (herdV NC) eh), (nc, listO (cellV C) 0), (111, tabO co), (co, lamCodeO tc c5 c6 c7 c8 c9)] ++ herdL NC) [] (by rw [List.append_nil])
    obtain ⟨B24, E24⟩ := D21.backXP [1, 1, 1, 1, 1, 1, 0] [0, 1, 2, 3, 4, 5] [(B, laF w k' (.ref sl) (.ref nc) (.ofNat (1 + m0)) u2 (.int (.ofNat (2 * (1 + m0) + 1 + m1)) v2) hl v5 v6 v7 lx x tx [ent w n_dots kd vd] 11), (hl, listO (herdV NC) eh), (nc, listO (cellV C) 0), (111, tabO co), (co, lamCodeO tc c5 c6 c7 c8 c9), (sl, listO (intV F) es)] (by kernel_rfl) a23 (by kernel_rfl)
    refine Means.add0 ?_
    (refine segL (t0 := t23) (i := 0) 100000 [1, 0, 1, 1, 0] ((.call (.ref 126) ⟨[.int (.ofNat (1 + m0)) u2, .int (.ofNat (2 * (1 + m0) + 1 + m1)) v2], []⟩) ) E24 (by assumption) (by assumption) ?_; intro o31; refine ⟨by kernel_rfl, by kernel_rfl, by kernel_rfl, by kernel_rfl, fun h31 D31 => ?_⟩)
    obtain ⟨B31, E31⟩ := D31.pickE [0, 1, 2, 3, 4, 5] [(B, laF w k' (.ref sl) (.ref nc) (.ofNat (1 + m0)) u2 (.int (.ofNat (2 * (1 + m0) + 1 + m1)) v2) hl v5 v6 v7 lx x tx [ent w n_dots kd vd] 11), (hl, listO (herdV NC) eh), (nc, listO (cellV C) 0), (111, tabO co), (co, lamCodeO tc c5 c6 c7 c8 c9), (sl, listO (intV F) es)] (by kernel_rfl)
    refine law_due w _ _ (Fit.inner hA D31 _ (by kernel_rfl) (by kernel_rfl)) _ _ _ g d os (1 + m0) (2 * (1 + m0) + 1 + m1) u2 v2 (by omega) (by omega) (by omega) (nOf (1 + m0) (2 * (1 + m0) + 1 + m1)) rfl q3 q4 q5 q2 q6 (E31.give [] rfl) fun h32 t32 la el DC hDC a32 => ?_
    have E32 := E31.back [] rfl a32
    have E32 := E32.perm (L' := (la, listO (herdV DC) el) :: [(B, laF w k' (.ref sl) (.ref nc) (.ofNat (1 + m0)) u2 (.int (.ofNat (2 * (1 + m0) + 1 + m1)) v2) hl v5 v6 v7 lx x tx [ent w n_dots kd vd] 11), (hl, listO (herdV NC) eh), (nc, listO (cellV C) 0), (111, tabO co), (co, lamCodeO tc c5 c6 c7 c8 c9), (sl, listO (intV F) es)]) (X' := herdL NC ++ herdL DC) (by
      refine List.Perm.cons _ ?_
      show (herdL DC ++ [(B, laF w k' (.ref sl) (.ref nc) (.ofNat (1 + m0)) u2 (.int (.ofNat (2 * (1 + m0) + 1 + m1)) v2) hl v5 v6 v7 lx x tx [ent w n_dots kd vd] 11), (hl, listO (herdV NC) eh), (nc, listO (cellV C) 0), (111, tabO co), (co, lamCodeO tc c5 c6 c7 c8 c9), (sl, listO (intV F) es)] ++ herdL NC).Perm ([(B, laF w k' (.ref sl) (.ref nc) (.ofNat (1 + m0)) u2 (.int (.ofNat (2 * (1 + m0) + 1 + m1)) v2) hl v5 v6 v7 lx x tx [ent w n_dots kd vd] 11), (hl, listO (herdV NC) eh), (nc, listO (cellV C) 0), (111, tabO co), (co, lamCodeO tc c5 c6 c7 c8 c9), (sl, listO (intV F) es)] ++ (herdL NC ++ herdL DC))
      rw [List.append_assoc, ← List.append_assoc _ (herdL NC) (herdL DC)]
      exact List.perm_append_comm)
    obtain ⟨B33, E33⟩ := E32.pickE [2, 0, 1, 3, 4, 5, 6] [(hl, listO (herdV NC) eh), (la, listO (herdV DC) el), (B, laF w k' (.ref sl) (.ref nc) (.ofNat (1 + m0)) u2 (.int (.ofNat (2 * (1 + m0) + 1 + m1)) v2) hl v5 v6 v7 lx x tx [ent w n_dots kd vd] 11), (nc, listO (cellV C) 0), (111, tabO co), (co, lamCodeO tc c5 c6 c7 c8 c9), (sl, listO (intV F) es)] rfl
    refine xt_true (env := envOf w 131 B q_law) (by kernel_rfl) (rc_herd hl la eh el NC DC (by rw [hNC, hDC]; exact q7) (units_in hU _ (by kernel_rfl)) (E33.giveX [1, 1, 0, 0, 0, 0, 0] rfl)) (by kernel_rfl) ?_
    refine Means.add0 ?_
    (refine segF (t0 := t32) (i := 0) 100000 [] ((Fin.done (Flow.ret (.bool true))) ) E33 (by assumption) (by assumption) ?_; intro o34; refine ⟨by kernel_rfl, by kernel_rfl, by kernel_rfl, fun h34 D34 => ?_⟩)
    obtain ⟨B34, E34⟩ := D34.pickE [6, 4, 5] [(sl, listO (intV F) es), (111, tabO co), (co, lamCodeO tc c5 c6 c7 c8 c9)] (by kernel_rfl)
    exact hR _ _ _ _ _ _ _ _ _ (E34.done _ (herdL NC ++ herdL DC) (List.Perm.refl _))))
end Mine
end
section
open PySem PySem.W PySem.Calls PyProof.Rows
set_option Elab.async false
set_option maxRecDepth 100000
namespace Mine
theorem ints_list {vs : List Value} {ns : List Int} (h : IntsAre vs ns) : ∃ F : List (Int × Nat), vs = intV F ∧ F.length = ns.length := by
  induction h with
  | nil => exact ⟨[], rfl, rfl⟩
  | cons n t _ ih =>
    obtain ⟨F, e, l⟩ := ih
    exact ⟨(n, t) :: F, by rw [e]; rfl, by rw [List.length_cons, List.length_cons, l]⟩
theorem kt1_top {w : World} {h : Heap} (H : PySem.W.X.KT.Holds h 1 0 (zaux.ktop_268 w.params)) {a : Nat} {o : Obj} (e : kt1 w a = some o) : h.get? a = some o ∧ a ∉ [132, 111] := by
  unfold kt1 at e
  split at e
  · cases e
  · rename_i q
    refine ⟨PySem.W.X.kt_at H e, fun hm => ?_⟩
    rcases List.mem_cons.mp hm with rfl | hm
    · have z : (zaux.ktop_268 w.params).get 132 = none := by kernel_rfl
      rw [z] at e; cases e
    · rcases List.mem_cons.mp hm with rfl | hm
      · exact absurd q (by decide)
      · cases hm
def fldOf (o : Obj) : Array Value := match o.data with
  | .fields vs => vs
  | _ => #[]
theorem law_end (w : World) (s : Shared) (K : PySem.W.X.KT) (eK : K = zaux.ktop_268 w.params) (H : PySem.W.X.KT.Holds s.heap 1 0 K) {vs : List Value} {ns : List Int} (hi : IntsAre vs ns) (hn : ns.length ≤ 10000)
    (ho : s.heap.get? 132 = some { cls := .type "list", data := .seq vs.toArray }) (hl : s.heap.NoLimit) (hg : s.gens = #[])
    {c : ClaimW} {cl : Str → Option Addr} {mean : ExcName → Option Value} {args : List WData} (hr : ∀ x, c.raises args x = false) (hp : c.post args (.bool true) args = true) :
    wpAny (PP w) callerA (PySem.call (.ref 131) [.ref 132]) (fun v s' => GoodWG c cl mean args s (.ok (.ret v)) s') (fun e s' => GoodWG c cl mean args s (.error e) s') s := by
  subst eK
  obtain ⟨h, g, d, t, os⟩ := s
  obtain ⟨F, rfl, hF⟩ := ints_list hi
  replace ho : h.get? 132 = some (listO (intV F) 0) := ho
  have h111 : h.get? 111 = some (obAt w 111) := PySem.W.X.kt_at H (by kernel_rfl)
  have hA : Fit 300 callerA (kt1 w) h := ⟨rfl, by decide, hl, ⟨_, show kt1 w cStatics = some (obAt w cStatics) by kernel_rfl⟩⟩
  have D : Rep (kt1 w) h ([(132, listO (intV F) 0), (111, obAt w 111)].map (·.1)) h h.objs.size [(132, listO (intV F) 0), (111, obAt w 111)] [] 0 :=
    Rep.start [(132, listO (intV F) 0), (111, obAt w 111)] [] (fun p hq => by
      rcases List.mem_cons.mp hq with rfl | hq
      · exact ho
      · rcases List.mem_cons.mp hq with rfl | hq
        · exact h111
        · cases hq) (show [132, 111].Nodup by decide) (fun a o e => kt1_top H e)
  refine enter_call (law_a w callerA h hA _ _ t g d os 132 0 F (by omega) (by decide) D fun h1 t' co tc c5 c6 c7 c8 c9 a => ?_)
  refine ⟨.inl ⟨_, _, [], rfl, hr, ReadsW.bool true, hp, fun _ => ⟨List.nodup_nil, fun _ hm => (nomatch hm)⟩⟩, ⟨fun b o e => ?_, fun b o e => ?_⟩, rfl, by rw [show g = #[] from hg]; exact AllBare.empty⟩
  · by_cases h1' : b = 132
    · subst h1'
      have e' : h.get? 132 = some o := e
      rw [ho] at e'; cases e'
      exact .inl (a.out (132, listO (intV F) 0) (by simp))
    · by_cases h2 : b = 111
      · subst h2
        have e' : h.get? 111 = some o := e
        rw [h111] at e'; cases e'
        have hc : h.get? 115 = some (obAt w 115) := PySem.W.X.kt_at H (by kernel_rfl)
        have e1 : (obAt w 111).cls = .none := by kernel_rfl
        have e2 : (obAt w 111).data = .fields ⟨[]⟩ := by kernel_rfl
        have e3 : some (tabO co) = some { obAt w 111 with data := .fields (⟨[]⟩ ++ ⟨[.int 72 0, .int 17 0, .ref co]⟩) } := by kernel_rfl
        have e4 : (obAt w 115).cls = .type "code" := by kernel_rfl
        have e5 : (obAt w 115).data = .fields (fldOf (obAt w 115)) := by kernel_rfl
        have e6 : (fldOf (obAt w 115))[11]? = some (.ref 111) := by kernel_rfl
        exact .inr (.inl ⟨⟨115, _, _, hc, e4, e5, e6⟩, e1, _, _, e2, (a.out (111, tabO co) (by simp)).trans e3⟩)
      · exact .inl (a.keep b o e (by simp [h1', h2]))
  · by_cases h1' : b = 132
    · subst h1'
      exact ⟨_, a.out (132, listO (intV F) 0) (by simp)⟩
    · by_cases h2 : b = 111
      · subst h2
        exact ⟨_, a.out (111, tabO co) (by simp)⟩
      · exact ⟨o, a.keep b o e (by simp [h1', h2])⟩
end Mine
end
section
open PySem PySem.W PySem.Calls PyProof.Rows
set_option Elab.async false
set_option maxRecDepth 100000 in
set_option maxHeartbeats 0 in
theorem PySem.Challenge.cw_rw0012_01_holds : PySem.Challenge.rw_rw0012_01.Holds := by
  w_on; o_law; z_head; (case hw => w_witness2)
  k_fill
  intro w s₀ s₁ mg mb G y fa o pm cd doc dV kV ho hd hcd hD hmg hg args vals as L hpre hlay hrd hwl hlo
  z_open y L KX ZH ZN ZT
  refine Ground.open G ?_
  intro T B D TE TW
  wrow_args hpre hlay hrd hwl hlo
  obtain ⟨hat, hsz⟩ := PySem.W.X.script_at L
  rw [ZN] at hat hsz
  subst hat
  x_fa T KX hmg
  all_lens
  rename_i hi hb
  exact Mine.law_end w s₁ _ (by kernel_rfl) ZH hi (by omega) (PySem.W.X.script_obj L (by assumption)) T.nolimit hg (fun _ => rfl) (by wrow_post)
end
