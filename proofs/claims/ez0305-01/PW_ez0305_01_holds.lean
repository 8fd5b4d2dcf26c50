import PyProof.Rows.All
import Wide.All
import OpenK.AllK
import Wide.FinOn
import PySem.Challenge.RW_ez0305_01
open PySem PySem.W PyProof.Rows
set_option Elab.async false
namespace Mine
section
def topSt (n : Nat) : Stmt := PySem.Challenge.pw_ez0305_01.main.body.getD n (.Pass ⟨0,0,0,0⟩)
def bodyOf : Stmt → List Stmt
  | .FunctionDef (body := b) .. => b
  | .For (body := b) .. => b
  | .If (body := b) .. => b
  | _ => []
def lamParts : Stmt → Arguments × PySem.Expr × Scope × Pos
  | .If _ [.Return (some (.Lambda a b sc p)) _] _ _ => (a, b, sc, p)
  | _ => (⟨[], [], none, [], [], none, []⟩, .Name "" ⟨0,0,0,0⟩, default, ⟨0,0,0,0⟩)
def lam (n : Nat) := lamParts ((bodyOf (topSt 1)).getD n (.Pass ⟨0,0,0,0⟩))
abbrev lamQ : Str := Str.ofString "mask_func" ++ Str.ofString ".<locals>." ++ Str.ofString "<lambda>"
abbrev lamObj (k : Nat) (pm : Value) (c : Addr) (ctv : Value) : Obj := kla_obj (Str.ofString "<lambda>") lamQ (lam k).1 (lam k).2.1 (lam k).2.2.1 [] pm c ctv
def LamAt (k : Nat) (news : List (Addr × Obj)) (f : Addr) : Prop :=
  ∃ pm c ctv oc vs t, (f, lamObj k pm c ctv) ∈ news ∧ (c, oc) ∈ news ∧ oc.data = .fields vs ∧ vs[1]? = some (.str lamQ t)
def mk (k : Nat) (i j : Int) : Bool := match k with
  | 0 => (i + j).fmod 2 == 0
  | 1 => i.fmod 2 == 0
  | 2 => j.fmod 3 == 0
  | 3 => (i + j).fmod 3 == 0
  | 4 => (i.fdiv 2 + j.fdiv 3).fmod 2 == 0
  | 5 => (i * j).fmod 2 + (i * j).fmod 3 == 0
  | 6 => ((i * j).fmod 2 + (i * j).fmod 3).fmod 2 == 0
  | _ => ((i * j).fmod 3 + (i + j).fmod 2).fmod 2 == 0

abbrev LamCall (k : Nat) : Prop :=
  ∀ {prog : Program} {w : World} {K : Frag} {p : Program} {loose : List Str} {mean : ExcName → Option Value} {mg mb : Str → Option Value}
    {dp un : Nat} {gd : Option (List Code)} {cn : Str} {cs : Scope} {a : Addr} {ccd : Value} {cl : List (Str × Addr)} {outer : List Env} {A₀ : Around} {base h₀ : Heap} {L : Addr} {m : Str → Option Value} {s : Shared} {Q E : Value → Shared → Prop}
    {news : List (Addr × Obj)} {f : Addr} {i j : Int} {ti tj : Tok},
    Below A₀ base outer h₀ → Fr h₀ L s.heap m → K.In h₀ → News h₀ L s.heap news → Top p loose mean mg mb h₀ → cs.kind = .function → LamAt k news f → IntMulOk i j →
    dp + 1 < recursionLimit → un + 64 < cLine →
    (∀ h' tk, Fr h₀ L h' m → News h₀ L h' news → Q (.bool (mk k i j)) { s with heap := h', toks := tk }) →
    wpAny (model prog w) (ktrTop dp un gd cn cs L a ccd cl outer) (call (.ref f) [.int i ti, .int j tj]) Q E s

set_option maxRecDepth 100000 in
theorem lam_call0 : LamCall 0 := by
  intro prog w K p loose mean mg mb dp un gd cn cs a ccd cl outer A₀ base h₀ L m s Q E news f i j ti tj B F X N T hk hl hmul hr hu hret
  obtain ⟨pm, c, ctv, oc, vs, t, hf, hc, hd, hv⟩ := hl
  refine wpAny_call ?_
  have hr' : (ktrTop dp un gd cn cs L a ccd cl outer).depth < recursionLimit := Nat.lt_of_succ_lt hr
  refine kla_code (qual := lamQ) (scope := (lam 0).2.2.1) (body := (lam 0).2.1) (binds := [(Str.ofString "i", .int i ti), (Str.ofString "j", .int j tj)]) B F X N T rfl rfl hk hf (codeRec_news N hc hd hv) hr' rfl (locs rfl) ?_ rfl rfl rfl (by decide)
  intro g' L' h' FG' F' N' B' X' T'
  clear hf hc hd hv
  conv in (eval _ _) => arg 1; whnf
  k_steps
  exact hret _ _ (by assumption) (by assumption)
set_option maxRecDepth 100000 in
theorem lam_call1 : LamCall 1 := by
  intro prog w K p loose mean mg mb dp un gd cn cs a ccd cl outer A₀ base h₀ L m s Q E news f i j ti tj B F X N T hk hl hmul hr hu hret
  obtain ⟨pm, c, ctv, oc, vs, t, hf, hc, hd, hv⟩ := hl
  refine wpAny_call ?_
  have hr' : (ktrTop dp un gd cn cs L a ccd cl outer).depth < recursionLimit := Nat.lt_of_succ_lt hr
  refine kla_code (qual := lamQ) (scope := (lam 1).2.2.1) (body := (lam 1).2.1) (binds := [(Str.ofString "i", .int i ti), (Str.ofString "j", .int j tj)]) B F X N T rfl rfl hk hf (codeRec_news N hc hd hv) hr' rfl (locs rfl) ?_ rfl rfl rfl (by decide)
  intro g' L' h' FG' F' N' B' X' T'
  clear hf hc hd hv
  conv in (eval _ _) => arg 1; whnf
  k_steps
  exact hret _ _ (by assumption) (by assumption)
set_option maxRecDepth 100000 in
theorem lam_call2 : LamCall 2 := by
  intro prog w K p loose mean mg mb dp un gd cn cs a ccd cl outer A₀ base h₀ L m s Q E news f i j ti tj B F X N T hk hl hmul hr hu hret
  obtain ⟨pm, c, ctv, oc, vs, t, hf, hc, hd, hv⟩ := hl
  refine wpAny_call ?_
  have hr' : (ktrTop dp un gd cn cs L a ccd cl outer).depth < recursionLimit := Nat.lt_of_succ_lt hr
  refine kla_code (qual := lamQ) (scope := (lam 2).2.2.1) (body := (lam 2).2.1) (binds := [(Str.ofString "i", .int i ti), (Str.ofString "j", .int j tj)]) B F X N T rfl rfl hk hf (codeRec_news N hc hd hv) hr' rfl (locs rfl) ?_ rfl rfl rfl (by decide)
  intro g' L' h' FG' F' N' B' X' T'
  clear hf hc hd hv
  conv in (eval _ _) => arg 1; whnf
  k_steps
  exact hret _ _ (by assumption) (by assumption)
set_option maxRecDepth 100000 in
theorem lam_call3 : LamCall 3 := by
  intro prog w K p loose mean mg mb dp un gd cn cs a ccd cl outer A₀ base h₀ L m s Q E news f i j ti tj B F X N T hk hl hmul hr hu hret
  obtain ⟨pm, c, ctv, oc, vs, t, hf, hc, hd, hv⟩ := hl
  refine wpAny_call ?_
  have hr' : (ktrTop dp un gd cn cs L a ccd cl outer).depth < recursionLimit := Nat.lt_of_succ_lt hr
  refine kla_code (qual := lamQ) (scope := (lam 3).2.2.1) (body := (lam 3).2.1) (binds := [(Str.ofString "i", .int i ti), (Str.ofString "j", .int j tj)]) B F X N T rfl rfl hk hf (codeRec_news N hc hd hv) hr' rfl (locs rfl) ?_ rfl rfl rfl (by decide)
  intro g' L' h' FG' F' N' B' X' T'
  clear hf hc hd hv
  conv in (eval _ _) => arg 1; whnf
  k_steps
  exact hret _ _ (by assumption) (by assumption)
set_option maxRecDepth 100000 in
theorem lam_call4 : LamCall 4 := by
  intro prog w K p loose mean mg mb dp un gd cn cs a ccd cl outer A₀ base h₀ L m s Q E news f i j ti tj B F X N T hk hl hmul hr hu hret
  obtain ⟨pm, c, ctv, oc, vs, t, hf, hc, hd, hv⟩ := hl
  refine wpAny_call ?_
  have hr' : (ktrTop dp un gd cn cs L a ccd cl outer).depth < recursionLimit := Nat.lt_of_succ_lt hr
  refine kla_code (qual := lamQ) (scope := (lam 4).2.2.1) (body := (lam 4).2.1) (binds := [(Str.ofString "i", .int i ti), (Str.ofString "j", .int j tj)]) B F X N T rfl rfl hk hf (codeRec_news N hc hd hv) hr' rfl (locs rfl) ?_ rfl rfl rfl (by decide)
  intro g' L' h' FG' F' N' B' X' T'
  clear hf hc hd hv
  conv in (eval _ _) => arg 1; whnf
  k_steps
  exact hret _ _ (by assumption) (by assumption)
set_option maxRecDepth 100000 in
theorem lam_call5 : LamCall 5 := by
  intro prog w K p loose mean mg mb dp un gd cn cs a ccd cl outer A₀ base h₀ L m s Q E news f i j ti tj B F X N T hk hl hmul hr hu hret
  obtain ⟨pm, c, ctv, oc, vs, t, hf, hc, hd, hv⟩ := hl
  refine wpAny_call ?_
  have hr' : (ktrTop dp un gd cn cs L a ccd cl outer).depth < recursionLimit := Nat.lt_of_succ_lt hr
  refine kla_code (qual := lamQ) (scope := (lam 5).2.2.1) (body := (lam 5).2.1) (binds := [(Str.ofString "i", .int i ti), (Str.ofString "j", .int j tj)]) B F X N T rfl rfl hk hf (codeRec_news N hc hd hv) hr' rfl (locs rfl) ?_ rfl rfl rfl (by decide)
  intro g' L' h' FG' F' N' B' X' T'
  clear hf hc hd hv
  conv in (eval _ _) => arg 1; whnf
  k_steps
  exact hret _ _ (by assumption) (by assumption)
set_option maxRecDepth 100000 in
theorem lam_call6 : LamCall 6 := by
  intro prog w K p loose mean mg mb dp un gd cn cs a ccd cl outer A₀ base h₀ L m s Q E news f i j ti tj B F X N T hk hl hmul hr hu hret
  obtain ⟨pm, c, ctv, oc, vs, t, hf, hc, hd, hv⟩ := hl
  refine wpAny_call ?_
  have hr' : (ktrTop dp un gd cn cs L a ccd cl outer).depth < recursionLimit := Nat.lt_of_succ_lt hr
  refine kla_code (qual := lamQ) (scope := (lam 6).2.2.1) (body := (lam 6).2.1) (binds := [(Str.ofString "i", .int i ti), (Str.ofString "j", .int j tj)]) B F X N T rfl rfl hk hf (codeRec_news N hc hd hv) hr' rfl (locs rfl) ?_ rfl rfl rfl (by decide)
  intro g' L' h' FG' F' N' B' X' T'
  clear hf hc hd hv
  conv in (eval _ _) => arg 1; whnf
  k_steps
  exact hret _ _ (by assumption) (by assumption)
set_option maxRecDepth 100000 in
theorem lam_call7 : LamCall 7 := by
  intro prog w K p loose mean mg mb dp un gd cn cs a ccd cl outer A₀ base h₀ L m s Q E news f i j ti tj B F X N T hk hl hmul hr hu hret
  obtain ⟨pm, c, ctv, oc, vs, t, hf, hc, hd, hv⟩ := hl
  refine wpAny_call ?_
  have hr' : (ktrTop dp un gd cn cs L a ccd cl outer).depth < recursionLimit := Nat.lt_of_succ_lt hr
  refine kla_code (qual := lamQ) (scope := (lam 7).2.2.1) (body := (lam 7).2.1) (binds := [(Str.ofString "i", .int i ti), (Str.ofString "j", .int j tj)]) B F X N T rfl rfl hk hf (codeRec_news N hc hd hv) hr' rfl (locs rfl) ?_ rfl rfl rfl (by decide)
  intro g' L' h' FG' F' N' B' X' T'
  clear hf hc hd hv
  conv in (eval _ _) => arg 1; whnf
  k_steps
  exact hret _ _ (by assumption) (by assumption)
set_option maxRecDepth 100000 in
theorem lam_call : ∀ k, k < 8 → LamCall k := fun k hk => match k, hk with
  | 0, _ => lam_call0 | 1, _ => lam_call1 | 2, _ => lam_call2 | 3, _ => lam_call3 | 4, _ => lam_call4 | 5, _ => lam_call5 | 6, _ => lam_call6 | 7, _ => lam_call7
end
section
def defParts : Stmt → Arguments × List Stmt × Scope
  | .FunctionDef (args := a) (body := b) (scope := s) .. => (a, b, s)
  | _ => (⟨[], [], none, [], [], none, []⟩, [], default)
abbrev maskFn (doc pm : Value) (an : Option Addr) (c : Addr) (ct : Value) : FuncData :=
  fnOf (Str.ofString "mask_func") (Str.ofString "mask_func") (defParts (topSt 1)).1 (defParts (topSt 1)).2.1 (defParts (topSt 1)).2.2 .none .none doc pm an (.ref c) ct

abbrev MaskCall (k : Nat) : Prop :=
  ∀ {prog : Program} {w : World} {K : Frag} {p : Program} {loose : List Str} {mean : ExcName → Option Value} {mg mb : Str → Option Value}
    {dp un : Nat} {gd : Option (List Code)} {cn : Str} {cs : Scope} {a : Addr} {ccd : Value} {cl : List (Str × Addr)} {outer : List Env} {A₀ : Around} {base h₀ : Heap} {L : Addr} {m : Str → Option Value} {s : Shared} {Q E : Value → Shared → Prop}
    {news : List (Addr × Obj)} {g : Obj → List (Addr × Obj)} {f c P : Addr} {ps : Array Value} {tk : Tok} {oc : Value} {od : Option Addr} {osl : Array (Option Value)} {doc pm ct : Value} {an : Option Addr},
    Below A₀ base outer h₀ → Fr h₀ L s.heap m → K.In h₀ → News h₀ L s.heap news → Top p loose mean mg mb h₀ → cs.kind = .function →
    K.lookup f = some ⟨oc, od, .func (maskFn doc pm an c ct), osl⟩ → codeIn K (.ref c) (Str.ofString "mask_func") = true →
    CodeHd h₀ c P → UpdF P (tabObj ps) news g → TriplesOk ps.toList → codeAmong (lam k).2.2.2 ps.toList = none →
    dp + 1 < recursionLimit → un + 64 < cLine →
    (∀ f' c' oc vs t ctv h' tk, Fr h₀ L h' m → News h₀ L h' ((f', lamObj k ((mg (Str.ofString "__name__")).getD .none) c' ctv) :: (c', oc) :: g (tabObj (ps ++ #[rawInt (lam k).2.2.2.line, rawInt (lam k).2.2.2.col, .ref c']))) →
      oc.data = .fields vs → vs[1]? = some (.str lamQ t) → (∀ q ∈ news, q.1 < c') → c' < f' → Q (.ref f') { s with heap := h', toks := tk }) →
    wpAny (model prog w) (ktrTop dp un gd cn cs L a ccd cl outer) (call (.ref f) [.int (k : Int) tk]) Q E s

set_option maxRecDepth 100000 in
theorem mask_call0 : MaskCall 0 := by
  intro prog w K p loose mean mg mb dp un gd cn cs a ccd cl outer A₀ base h₀ L m s Q E news g f c P ps tk oc od osl doc pm ct an B F X N T hk ho hcd hC U ht hnf hr hu hret
  refine wpAny_call ?_
  have hr' : (ktrTop dp un gd cn cs L a ccd cl outer).depth < recursionLimit := Nat.lt_of_succ_lt hr
  refine code_def (binds := [(Str.ofString "pattern", .int ((0:Nat):Int) tk)]) B F X N T rfl rfl hk ho hcd hr' (BindsTo.of_eq rfl) (locs rfl) ?_ rfl rfl rfl (by decide)
  intro g' L' h' FG' F' N' B' X' T'
  have hC' := hC.keeps FG'.keep
  clear ho hcd F N X T B
  conv in (execs _ _) => arg 1; whnf
  k_steps
  refine kla_eval rfl ?_
  refine kla_nest (clos := []) (by assumption) (by assumption) T' hC' rfl U ht hnf rfl ?_
  intro f' c' oc' vs' t' ctv' h'' tk' F'' N'' d1 d2 l1 l2
  dsimp only
  refine leaveK_ F'' N'' ?_
  intro kF kN
  exact hret f' c' oc' vs' t' ctv' h'' tk' kF kN d1 d2 l1 l2
set_option maxRecDepth 100000 in
theorem mask_call1 : MaskCall 1 := by
  intro prog w K p loose mean mg mb dp un gd cn cs a ccd cl outer A₀ base h₀ L m s Q E news g f c P ps tk oc od osl doc pm ct an B F X N T hk ho hcd hC U ht hnf hr hu hret
  refine wpAny_call ?_
  have hr' : (ktrTop dp un gd cn cs L a ccd cl outer).depth < recursionLimit := Nat.lt_of_succ_lt hr
  refine code_def (binds := [(Str.ofString "pattern", .int ((1:Nat):Int) tk)]) B F X N T rfl rfl hk ho hcd hr' (BindsTo.of_eq rfl) (locs rfl) ?_ rfl rfl rfl (by decide)
  intro g' L' h' FG' F' N' B' X' T'
  have hC' := hC.keeps FG'.keep
  clear ho hcd F N X T B
  conv in (execs _ _) => arg 1; whnf
  k_steps
  refine kla_eval rfl ?_
  refine kla_nest (clos := []) (by assumption) (by assumption) T' hC' rfl U ht hnf rfl ?_
  intro f' c' oc' vs' t' ctv' h'' tk' F'' N'' d1 d2 l1 l2
  dsimp only
  refine leaveK_ F'' N'' ?_
  intro kF kN
  exact hret f' c' oc' vs' t' ctv' h'' tk' kF kN d1 d2 l1 l2
set_option maxRecDepth 100000 in
theorem mask_call2 : MaskCall 2 := by
  intro prog w K p loose mean mg mb dp un gd cn cs a ccd cl outer A₀ base h₀ L m s Q E news g f c P ps tk oc od osl doc pm ct an B F X N T hk ho hcd hC U ht hnf hr hu hret
  refine wpAny_call ?_
  have hr' : (ktrTop dp un gd cn cs L a ccd cl outer).depth < recursionLimit := Nat.lt_of_succ_lt hr
  refine code_def (binds := [(Str.ofString "pattern", .int ((2:Nat):Int) tk)]) B F X N T rfl rfl hk ho hcd hr' (BindsTo.of_eq rfl) (locs rfl) ?_ rfl rfl rfl (by decide)
  intro g' L' h' FG' F' N' B' X' T'
  have hC' := hC.keeps FG'.keep
  clear ho hcd F N X T B
  conv in (execs _ _) => arg 1; whnf
  k_steps
  refine kla_eval rfl ?_
  refine kla_nest (clos := []) (by assumption) (by assumption) T' hC' rfl U ht hnf rfl ?_
  intro f' c' oc' vs' t' ctv' h'' tk' F'' N'' d1 d2 l1 l2
  dsimp only
  refine leaveK_ F'' N'' ?_
  intro kF kN
  exact hret f' c' oc' vs' t' ctv' h'' tk' kF kN d1 d2 l1 l2
set_option maxRecDepth 100000 in
theorem mask_call3 : MaskCall 3 := by
  intro prog w K p loose mean mg mb dp un gd cn cs a ccd cl outer A₀ base h₀ L m s Q E news g f c P ps tk oc od osl doc pm ct an B F X N T hk ho hcd hC U ht hnf hr hu hret
  refine wpAny_call ?_
  have hr' : (ktrTop dp un gd cn cs L a ccd cl outer).depth < recursionLimit := Nat.lt_of_succ_lt hr
  refine code_def (binds := [(Str.ofString "pattern", .int ((3:Nat):Int) tk)]) B F X N T rfl rfl hk ho hcd hr' (BindsTo.of_eq rfl) (locs rfl) ?_ rfl rfl rfl (by decide)
  intro g' L' h' FG' F' N' B' X' T'
  have hC' := hC.keeps FG'.keep
  clear ho hcd F N X T B
  conv in (execs _ _) => arg 1; whnf
  k_steps
  refine kla_eval rfl ?_
  refine kla_nest (clos := []) (by assumption) (by assumption) T' hC' rfl U ht hnf rfl ?_
  intro f' c' oc' vs' t' ctv' h'' tk' F'' N'' d1 d2 l1 l2
  dsimp only
  refine leaveK_ F'' N'' ?_
  intro kF kN
  exact hret f' c' oc' vs' t' ctv' h'' tk' kF kN d1 d2 l1 l2
set_option maxRecDepth 100000 in
theorem mask_call4 : MaskCall 4 := by
  intro prog w K p loose mean mg mb dp un gd cn cs a ccd cl outer A₀ base h₀ L m s Q E news g f c P ps tk oc od osl doc pm ct an B F X N T hk ho hcd hC U ht hnf hr hu hret
  refine wpAny_call ?_
  have hr' : (ktrTop dp un gd cn cs L a ccd cl outer).depth < recursionLimit := Nat.lt_of_succ_lt hr
  refine code_def (binds := [(Str.ofString "pattern", .int ((4:Nat):Int) tk)]) B F X N T rfl rfl hk ho hcd hr' (BindsTo.of_eq rfl) (locs rfl) ?_ rfl rfl rfl (by decide)
  intro g' L' h' FG' F' N' B' X' T'
  have hC' := hC.keeps FG'.keep
  clear ho hcd F N X T B
  conv in (execs _ _) => arg 1; whnf
  k_steps
  refine kla_eval rfl ?_
  refine kla_nest (clos := []) (by assumption) (by assumption) T' hC' rfl U ht hnf rfl ?_
  intro f' c' oc' vs' t' ctv' h'' tk' F'' N'' d1 d2 l1 l2
  dsimp only
  refine leaveK_ F'' N'' ?_
  intro kF kN
  exact hret f' c' oc' vs' t' ctv' h'' tk' kF kN d1 d2 l1 l2
set_option maxRecDepth 100000 in
theorem mask_call5 : MaskCall 5 := by
  intro prog w K p loose mean mg mb dp un gd cn cs a ccd cl outer A₀ base h₀ L m s Q E news g f c P ps tk oc od osl doc pm ct an B F X N T hk ho hcd hC U ht hnf hr hu hret
  refine wpAny_call ?_
  have hr' : (ktrTop dp un gd cn cs L a ccd cl outer).depth < recursionLimit := Nat.lt_of_succ_lt hr
  refine code_def (binds := [(Str.ofString "pattern", .int ((5:Nat):Int) tk)]) B F X N T rfl rfl hk ho hcd hr' (BindsTo.of_eq rfl) (locs rfl) ?_ rfl rfl rfl (by decide)
  intro g' L' h' FG' F' N' B' X' T'
  have hC' := hC.keeps FG'.keep
  clear ho hcd F N X T B
  conv in (execs _ _) => arg 1; whnf
  k_steps
  refine kla_eval rfl ?_
  refine kla_nest (clos := []) (by assumption) (by assumption) T' hC' rfl U ht hnf rfl ?_
  intro f' c' oc' vs' t' ctv' h'' tk' F'' N'' d1 d2 l1 l2
  dsimp only
  refine leaveK_ F'' N'' ?_
  intro kF kN
  exact hret f' c' oc' vs' t' ctv' h'' tk' kF kN d1 d2 l1 l2
set_option maxRecDepth 100000 in
theorem mask_call6 : MaskCall 6 := by
  intro prog w K p loose mean mg mb dp un gd cn cs a ccd cl outer A₀ base h₀ L m s Q E news g f c P ps tk oc od osl doc pm ct an B F X N T hk ho hcd hC U ht hnf hr hu hret
  refine wpAny_call ?_
  have hr' : (ktrTop dp un gd cn cs L a ccd cl outer).depth < recursionLimit := Nat.lt_of_succ_lt hr
  refine code_def (binds := [(Str.ofString "pattern", .int ((6:Nat):Int) tk)]) B F X N T rfl rfl hk ho hcd hr' (BindsTo.of_eq rfl) (locs rfl) ?_ rfl rfl rfl (by decide)
  intro g' L' h' FG' F' N' B' X' T'
  have hC' := hC.keeps FG'.keep
  clear ho hcd F N X T B
  conv in (execs _ _) => arg 1; whnf
  k_steps
  refine kla_eval rfl ?_
  refine kla_nest (clos := []) (by assumption) (by assumption) T' hC' rfl U ht hnf rfl ?_
  intro f' c' oc' vs' t' ctv' h'' tk' F'' N'' d1 d2 l1 l2
  dsimp only
  refine leaveK_ F'' N'' ?_
  intro kF kN
  exact hret f' c' oc' vs' t' ctv' h'' tk' kF kN d1 d2 l1 l2
set_option maxRecDepth 100000 in
theorem mask_call7 : MaskCall 7 := by
  intro prog w K p loose mean mg mb dp un gd cn cs a ccd cl outer A₀ base h₀ L m s Q E news g f c P ps tk oc od osl doc pm ct an B F X N T hk ho hcd hC U ht hnf hr hu hret
  refine wpAny_call ?_
  have hr' : (ktrTop dp un gd cn cs L a ccd cl outer).depth < recursionLimit := Nat.lt_of_succ_lt hr
  refine code_def (binds := [(Str.ofString "pattern", .int ((7:Nat):Int) tk)]) B F X N T rfl rfl hk ho hcd hr' (BindsTo.of_eq rfl) (locs rfl) ?_ rfl rfl rfl (by decide)
  intro g' L' h' FG' F' N' B' X' T'
  have hC' := hC.keeps FG'.keep
  clear ho hcd F N X T B
  conv in (execs _ _) => arg 1; whnf
  k_steps
  refine kla_eval rfl ?_
  refine kla_nest (clos := []) (by assumption) (by assumption) T' hC' rfl U ht hnf rfl ?_
  intro f' c' oc' vs' t' ctv' h'' tk' F'' N'' d1 d2 l1 l2
  dsimp only
  refine leaveK_ F'' N'' ?_
  intro kF kN
  exact hret f' c' oc' vs' t' ctv' h'' tk' kF kN d1 d2 l1 l2
set_option maxRecDepth 100000 in
theorem mask_call : ∀ k, k < 8 → MaskCall k := fun k hk => match k, hk with
  | 0, _ => mask_call0 | 1, _ => mask_call1 | 2, _ => mask_call2 | 3, _ => mask_call3 | 4, _ => mask_call4 | 5, _ => mask_call5 | 6, _ => mask_call6 | 7, _ => mask_call7
end
section
abbrev nolam : PySem.Expr := .Name "" ⟨0,0,0,0⟩
abbrev nopos : Pos := ⟨0,0,0,0⟩
abbrev lawScope : Scope := (defParts (topSt 3)).2.2
def lawB (n : Nat) : Stmt := (bodyOf (topSt 3)).getD n (.Pass nopos)
def forB (n : Nat) : Stmt := (bodyOf (lawB 1)).getD n (.Pass nopos)
def valOfS : Stmt → PySem.Expr
  | .Assign _ v _ => v
  | .If t _ _ _ => t
  | .For _ i _ _ _ => i
  | _ => nolam
structure CP where
  elt : PySem.Expr
  iter : PySem.Expr
  x : Str
  px : Pos
  scope : Scope
  pos : Pos
def compParts : PySem.Expr → CP
  | .ListComp elt [⟨.Name x px, iter, [], 0⟩] scope pos => ⟨elt, iter, x, px, scope, pos⟩
  | _ => ⟨nolam, nolam, "", nopos, default, nopos⟩
def leftOf : PySem.Expr → PySem.Expr
  | .Compare l _ _ _ => l
  | _ => nolam
def rightOf : PySem.Expr → PySem.Expr
  | .Compare _ _ (r :: _) _ => r
  | _ => nolam
def argOf (n : Nat) : PySem.Expr → PySem.Expr
  | .BoolOp _ vs _ => vs.getD n nolam
  | _ => nolam
def cTold : CP := compParts (valOfS (forB 2))
def cOne : CP := compParts (rightOf (argOf 0 (valOfS (forB 3))))
def cTwo : CP := compParts (rightOf (argOf 1 (valOfS (forB 3))))
def cIsB : CP := compParts (leftOf (valOfS (forB 4)))
def cL9 : CP := compParts (leftOf (valOfS (forB 8)))
def cR9 : CP := compParts (rightOf (valOfS (forB 8)))
abbrev lawCl (cT cO cJ cI cM : Addr) : List (Str × Addr) := [(Str.ofString "told", cT), (Str.ofString "more", cO), (Str.ofString "j", cJ), (Str.ofString "i", cI), (Str.ofString "masks", cM)]
end
section
set_option maxRecDepth 100000 in
theorem lamAt_fn {h₀ h : Heap} {L : Addr} {news : List (Addr × Obj)} {k : Nat} {f : Addr} (N : News h₀ L h news) (hl : LamAt k news f) : FnAt f h := by
  obtain ⟨pm, c, ctv, oc, vs, t, hf, _⟩ := hl
  exact FnAt.of N hf
set_option maxRecDepth 100000 in
theorem LamAt.mono {k : Nat} {f : Addr} {news news' : List (Addr × Obj)} (hl : LamAt k news f) (h : ∀ p ∈ news, p ∈ news') : LamAt k news' f := by
  obtain ⟨pm, c, ctv, oc, vs, t, h1, h2, h3, h4⟩ := hl
  exact ⟨pm, c, ctv, oc, vs, t, h _ h1, h _ h2, h3, h4⟩
abbrev CellAt (news : List (Addr × Obj)) (c : Addr) (v : Value) : Prop := ∃ o, (c, o) ∈ news ∧ o.data = .cell (some v)

local macro_rules | `(tactic| k_mem) => `(tactic| assumption)
local macro_rules | `(tactic| walk_at "callWith ref") => `(tactic| (refine callWith_F (lamAt_fn (by assumption) (by assumption)) ?_))
local macro_rules | `(tactic| walk_at "FnAt") => `(tactic| (exact lamAt_fn (by assumption) (by assumption)))
local macro_rules | `(tactic| walk_at "call ref") => `(tactic| (refine lam_call _ (by assumption) (by assumption) (by assumption) (by assumption) (by assumption) (by assumption) rfl (by assumption) (by assumption) (by assumption) (by assumption) ?_; intro h' tk' F' N'))

section
variable {prog : Program} {w : World} {K : Frag} {p : Program} {loose : List Str} {mean : ExcName → Option Value} {mg mb : Str → Option Value}
    {dp un : Nat} {gd : Option (List Code)} {a : Addr} {ccd : Value} {outer : List Env} {A₀ : Around} {base h₀ : Heap} {L : Addr} {m : Str → Option Value} {cT cO cJ cI cM : Addr}

abbrev lawE (L a : Addr) (ccd : Value) (cT cO cJ cI cM : Addr) : Env := envX (Str.ofString "law") lawScope L a ccd (lawCl cT cO cJ cI cM)
abbrev lawA (dp un : Nat) (gd : Option (List Code)) (L a : Addr) (ccd : Value) (cT cO cJ cI cM : Addr) (outer : List Env) : Around := ktrTop dp un gd (Str.ofString "law") lawScope L a ccd (lawCl cT cO cJ cI cM) outer

/- an element of a comprehension over the masks: at the k-th mask it gives the truth b k -/
def EltOK (prog : Program) (w : World) (A : Around) (h₀ : Heap) (L : Addr) (m : Str → Option Value) (env : Env) (c : CP) (cl : List (Str × Addr)) (x : Str) (news₀ : List (Addr × Obj)) (b : Nat → Bool) : Prop :=
  ∀ {k : Nat} {f C : Addr} {oC : Obj} {m₂ : Str → Option Value} {s : Shared} {Q E : Value → Shared → Prop} {news : List (Addr × Obj)},
    k < 8 → LamAt k news₀ f → (∀ p ∈ news₀, p ∈ news) → Fr h₀ L s.heap m → News h₀ L s.heap news → (C, oC) ∈ news → LCg.NsObj oC m₂ → m₂ x = some (.ref f) →
    (∀ h' tk, Fr h₀ L h' m → News h₀ L h' news → Q (.bool (b k)) { s with heap := h', toks := tk }) →
    wpAny (model prog w) A (eval c.elt (compEnvC c.scope cl C env)) Q E s

set_option maxRecDepth 100000 in
theorem elt_told {news₀ : List (Addr × Obj)} {i j : Int} {ti tj : Tok}
    (B : Below A₀ base outer h₀) (X : K.In h₀) (T : Top p loose mean mg mb h₀)
    (hI : CellAt news₀ cI (.int i ti)) (hJ : CellAt news₀ cJ (.int j tj))
    (hmul : IntMulOk i j) (hr : dp + 1 < recursionLimit) (hu : un + 64 < cLine) :
    EltOK prog w (lawA dp un gd L a ccd cT cO cJ cI cM outer) h₀ L m (lawE L a ccd cT cO cJ cI cM) cTold [(Str.ofString "j", cJ), (Str.ofString "i", cI)] (Str.ofString "mask") news₀ (fun k => mk k i j) := by
  intro k f C oC m₂ s Q E news hk hf hs F N hC hN hm hret
  obtain ⟨oI, hI1, hId⟩ := hI
  obtain ⟨oJ, hJ1, hJd⟩ := hJ
  replace hI1 := hs _ hI1
  replace hJ1 := hs _ hJ1
  replace hf := hf.mono hs
  clear hs
  conv in (eval _ _) => arg 1; whnf
  k_steps
  exact hret _ _ (by assumption) (by assumption)

set_option maxRecDepth 100000 in
theorem elt_one {news₀ : List (Addr × Obj)} {i j o : Int} {ti tj t_o : Tok}
    (B : Below A₀ base outer h₀) (X : K.In h₀) (T : Top p loose mean mg mb h₀)
    (hI : CellAt news₀ cI (.int i ti)) (hJ : CellAt news₀ cJ (.int j tj)) (hO : CellAt news₀ cO (.int o t_o))
    (hmul : IntMulOk (i + 12 * (1 + o.fmod 3)) j) (hr : dp + 1 < recursionLimit) (hu : un + 64 < cLine) :
    EltOK prog w (lawA dp un gd L a ccd cT cO cJ cI cM outer) h₀ L m (lawE L a ccd cT cO cJ cI cM) cOne [(Str.ofString "more", cO), (Str.ofString "j", cJ), (Str.ofString "i", cI)] (Str.ofString "mask") news₀ (fun k => mk k (i + 12 * (1 + o.fmod 3)) j) := by
  intro k f C oC m₂ s Q E news hk hf hs F N hC hN hm hret
  obtain ⟨oI, hI1, hId⟩ := hI
  obtain ⟨oJ, hJ1, hJd⟩ := hJ
  obtain ⟨oO, hO1, hOd⟩ := hO
  replace hI1 := hs _ hI1
  replace hJ1 := hs _ hJ1
  replace hO1 := hs _ hO1
  replace hf := hf.mono hs
  clear hs
  conv in (eval _ _) => arg 1; whnf
  k_steps
  exact hret _ _ (by assumption) (by assumption)

set_option maxRecDepth 100000 in
theorem elt_two {news₀ : List (Addr × Obj)} {i j o : Int} {ti tj t_o : Tok}
    (B : Below A₀ base outer h₀) (X : K.In h₀) (T : Top p loose mean mg mb h₀)
    (hI : CellAt news₀ cI (.int i ti)) (hJ : CellAt news₀ cJ (.int j tj)) (hO : CellAt news₀ cO (.int o t_o))
    (hmul : IntMulOk i (j + 12 * (1 + (o.fdiv 3).fmod 3))) (hr : dp + 1 < recursionLimit) (hu : un + 64 < cLine) :
    EltOK prog w (lawA dp un gd L a ccd cT cO cJ cI cM outer) h₀ L m (lawE L a ccd cT cO cJ cI cM) cTwo [(Str.ofString "more", cO), (Str.ofString "j", cJ), (Str.ofString "i", cI)] (Str.ofString "mask") news₀ (fun k => mk k i (j + 12 * (1 + (o.fdiv 3).fmod 3))) := by
  intro k f C oC m₂ s Q E news hk hf hs F N hC hN hm hret
  obtain ⟨oI, hI1, hId⟩ := hI
  obtain ⟨oJ, hJ1, hJd⟩ := hJ
  obtain ⟨oO, hO1, hOd⟩ := hO
  replace hI1 := hs _ hI1
  replace hJ1 := hs _ hJ1
  replace hO1 := hs _ hO1
  replace hf := hf.mono hs
  clear hs
  conv in (eval _ _) => arg 1; whnf
  k_steps
  exact hret _ _ (by assumption) (by assumption)
end
end
section
section
variable {prog : Program} {w : World} {K : Frag} {p : Program} {loose : List Str} {mean : ExcName → Option Value} {mg mb : Str → Option Value}
    {dp un : Nat} {gd : Option (List Code)} {a : Addr} {ccd : Value} {outer : List Env} {A₀ : Around} {base h₀ : Heap} {L : Addr} {m : Str → Option Value} {cT cO cJ cI cM : Addr}

abbrev bools (b : Nat → Bool) (n : Nat) : List Value := (List.range n).map fun k => .bool (b k)

set_option maxRecDepth 100000 in
theorem rest_masks {A : Around} {env : Env} {c : CP} {cl : List (Str × Addr)} {x : Str} {news₀ : List (Addr × Obj)} {b : Nat → Bool} {s : Shared} {S : List (Addr × Obj) → Prop} {P : Nat → Value → Prop} {Fin : List Value → List (Addr × Obj) → Prop} {fs : Nat → Addr}
    (hE : EltOK prog w A h₀ L m env c cl x news₀ b) (hl : ∀ k, k < 8 → LamAt k news₀ (fs k)) (hP : ∀ i v, P i v → v = .ref (fs i)) (hS : S news₀) :
    ∀ k i, k + i = 8 → Fin (bools b 8) news₀ → LCg.CompRest prog w A h₀ L m env c.elt x c.scope cl s S P Fin k i (bools b i) news₀ := by
  intro k
  induction k with
  | zero =>
    intro i hi hF
    have : i = 8 := by omega
    subst this
    exact LCg.CompRest.zero hF
  | succ k ih =>
    intro i hi hF
    refine LCg.CompRest.succ ?_
    intro v I oI C oC D m₂ h tk E' hv hN hx F N off ne
    have hv' := hP _ _ hv
    subst hv'
    refine hE (by omega) (hl i (by omega)) (fun p hp => .tail _ (.tail _ (.tail _ hp))) F N (.tail _ (.head _)) hN hx ?_
    intro h' tk' F' N'
    refine LCg.CompEnd.intro F' N' news₀ (fun p hp => hp) off hS ?_
    have e : bools b i ++ [.bool (b i)] = bools b (i + 1) := by
      simp [bools, List.range_succ]
    rw [e]
    exact ih (i + 1) (by omega) hF

set_option maxRecDepth 100000 in
theorem comp_masks {A : Around} {env : Env} {c : CP} {cl : List (Str × Addr)} {news₀ : List (Addr × Obj)} {b : Nat → Bool} {s : Shared} {Q E : Value → Shared → Prop} {lM : Addr} {fs : Nat → Addr}
    (hE : EltOK prog w A h₀ L m env c cl c.x news₀ b) (hl : ∀ k, k < 8 → LamAt k news₀ (fs k)) (hM : (lM, LCg.lst ((List.range 8).map fun k => .ref (fs k))) ∈ news₀) (hh : A.handled = none)
    (F : Fr h₀ L s.heap m) (N : News h₀ L s.heap news₀)
    (hiter : wpAny (model prog w) A (eval c.iter env) (fun v s' => v = .ref lM ∧ s' = s) E s)
    (hclos : closureFor c.scope env = pure cl) (hcell : ∀ y ∈ c.scope.names, y.2 ≠ .cell) (hkind : c.scope.kind = .function)
    (hnames : ∀ y ∈ c.scope.names, y.2 = .local → c.scope.names.lookup y.1 = some .local) (hx : c.scope.names.lookup c.x = some .local)
    (hs : ∀ x, foldedSetIterable c.iter env x = pure x)
    (hret : ∀ D h' tk, Fr h₀ L h' m → News h₀ L h' ((D, LCg.lst (bools b 8)) :: news₀) → LCg.Off1 D news₀ → Q (.ref D) { s with heap := h', toks := tk }) :
    wpAny (model prog w) A (eval (.ListComp c.elt [⟨.Name c.x c.px, c.iter, [], 0⟩] c.scope c.pos) env) Q E s := by
  refine LCg.ListComp_U F hclos hcell hkind hnames hx ?_ hs
  refine wpAny_mono hiter ?_ (fun _ _ e => e)
  rintro v s' ⟨rfl, rfl⟩
  refine LCg.CompSrc.ledger (its := ((List.range 8).map fun k => Value.ref (fs k)).toArray) hh F N hM (by simp; decide) ?_
  intro g
  have e : ((List.range 8).map fun k => Value.ref (fs k)).toArray.size = 8 := by simp
  rw [e]
  refine rest_masks hE hl (fs := fs) ?_ (.inr ⟨_, hM, rfl, _, rfl⟩) 8 0 rfl ?_
  · intro i v hv
    simp only [List.getElem?_toArray, List.getElem?_map, Option.map_eq_some_iff] at hv
    obtain ⟨q, hq, rfl⟩ := hv
    have := List.getElem?_eq_some_iff.mp hq
    obtain ⟨h1, h2⟩ := this
    simp at h2
    rw [h2]
  · unfold LCg.FinE
    intro D h tk F' N' off
    exact hret D h tk F' N' off

end
end
section
section
variable {prog : Program} {w : World} {K : Frag} {p : Program} {loose : List Str} {mean : ExcName → Option Value} {mg mb : Str → Option Value}
    {dp un : Nat} {gd : Option (List Code)} {a : Addr} {ccd : Value} {outer : List Env} {A₀ : Around} {base h₀ : Heap} {L : Addr} {m : Str → Option Value} {cT cO cJ cI cM : Addr}

set_option maxRecDepth 100000 in
theorem Off1.mem {D : Addr} : ∀ {l : List (Addr × Obj)}, LCg.Off1 D l → ∀ p ∈ l, p.1 ≠ D
  | [], _, _, h => nomatch h
  | _ :: _, x, p, h => by
    rcases List.mem_cons.mp h with rfl | h
    · exact x.1
    · exact Off1.mem x.2 p h
set_option maxRecDepth 100000 in
theorem CellAt.mono {news news' : List (Addr × Obj)} {c : Addr} {v : Value} (h : CellAt news c v) (hs : ∀ p ∈ news, p ∈ news') : CellAt news' c v :=
  let ⟨o, h1, h2⟩ := h; ⟨o, hs _ h1, h2⟩
set_option maxRecDepth 100000 in
theorem ev_masks {news : List (Addr × Obj)} {s : Shared} {E : Value → Shared → Prop} {lM : Addr} {pos : Pos} {A : Around} {M : Model} {Q : Value → Shared → Prop} (N : News h₀ L s.heap news) (hM : CellAt news cM (.ref lM)) (h : Q (.ref lM) s) :
    wpAny M A (eval (.Name (Str.ofString "masks") pos) (lawE L a ccd cT cO cJ cI cM)) Q E s := by
  obtain ⟨o, h1, h2⟩ := hM
  exact nameX_C N rfl h1 h2 h

set_option maxRecDepth 100000 in
theorem comp_told {news₀ : List (Addr × Obj)} {i j : Int} {ti tj : Tok} {s : Shared} {Q E : Value → Shared → Prop} {lM : Addr} {fs : Nat → Addr}
    (B : Below A₀ base outer h₀) (F : Fr h₀ L s.heap m) (X : K.In h₀) (N : News h₀ L s.heap news₀) (T : Top p loose mean mg mb h₀)
    (hMc : CellAt news₀ cM (.ref lM)) (hl : ∀ k, k < 8 → LamAt k news₀ (fs k)) (hM : (lM, LCg.lst ((List.range 8).map fun k => .ref (fs k))) ∈ news₀)
    (hI : CellAt news₀ cI (.int i ti)) (hJ : CellAt news₀ cJ (.int j tj))
    (hmul : IntMulOk i j) (hr : dp + 1 < recursionLimit) (hu : un + 64 < cLine)
    (hret : ∀ D h' tk, Fr h₀ L h' m → News h₀ L h' ((D, LCg.lst (bools (fun k => mk k i j) 8)) :: news₀) → LCg.Off1 D news₀ → Q (.ref D) { s with heap := h', toks := tk }) :
    wpAny (model prog w) (lawA dp un gd L a ccd cT cO cJ cI cM outer) (eval (valOfS (forB 2)) (lawE L a ccd cT cO cJ cI cM)) Q E s := by
  refine comp_masks (c := cTold) (elt_told B X T hI hJ hmul hr hu) hl hM rfl F N ?_ rfl (by decide) rfl (by decide) rfl (by intro _; rfl) hret
  exact ev_masks N hMc ⟨rfl, rfl⟩
set_option maxRecDepth 100000 in
theorem comp_one {news₀ : List (Addr × Obj)} {i j o : Int} {ti tj t_o : Tok} {s : Shared} {Q E : Value → Shared → Prop} {lM : Addr} {fs : Nat → Addr}
    (B : Below A₀ base outer h₀) (F : Fr h₀ L s.heap m) (X : K.In h₀) (N : News h₀ L s.heap news₀) (T : Top p loose mean mg mb h₀)
    (hMc : CellAt news₀ cM (.ref lM)) (hl : ∀ k, k < 8 → LamAt k news₀ (fs k)) (hM : (lM, LCg.lst ((List.range 8).map fun k => .ref (fs k))) ∈ news₀)
    (hI : CellAt news₀ cI (.int i ti)) (hJ : CellAt news₀ cJ (.int j tj)) (hO : CellAt news₀ cO (.int o t_o))
    (hmul : IntMulOk (i + 12 * (1 + o.fmod 3)) j) (hr : dp + 1 < recursionLimit) (hu : un + 64 < cLine)
    (hret : ∀ D h' tk, Fr h₀ L h' m → News h₀ L h' ((D, LCg.lst (bools (fun k => mk k (i + 12 * (1 + o.fmod 3)) j) 8)) :: news₀) → LCg.Off1 D news₀ → Q (.ref D) { s with heap := h', toks := tk }) :
    wpAny (model prog w) (lawA dp un gd L a ccd cT cO cJ cI cM outer) (eval (rightOf (argOf 0 (valOfS (forB 3)))) (lawE L a ccd cT cO cJ cI cM)) Q E s := by
  refine comp_masks (c := cOne) (elt_one B X T hI hJ hO hmul hr hu) hl hM rfl F N ?_ rfl (by decide) rfl (by decide) rfl (by intro _; rfl) hret
  exact ev_masks N hMc ⟨rfl, rfl⟩
set_option maxRecDepth 100000 in
theorem comp_two {news₀ : List (Addr × Obj)} {i j o : Int} {ti tj t_o : Tok} {s : Shared} {Q E : Value → Shared → Prop} {lM : Addr} {fs : Nat → Addr}
    (B : Below A₀ base outer h₀) (F : Fr h₀ L s.heap m) (X : K.In h₀) (N : News h₀ L s.heap news₀) (T : Top p loose mean mg mb h₀)
    (hMc : CellAt news₀ cM (.ref lM)) (hl : ∀ k, k < 8 → LamAt k news₀ (fs k)) (hM : (lM, LCg.lst ((List.range 8).map fun k => .ref (fs k))) ∈ news₀)
    (hI : CellAt news₀ cI (.int i ti)) (hJ : CellAt news₀ cJ (.int j tj)) (hO : CellAt news₀ cO (.int o t_o))
    (hmul : IntMulOk i (j + 12 * (1 + (o.fdiv 3).fmod 3))) (hr : dp + 1 < recursionLimit) (hu : un + 64 < cLine)
    (hret : ∀ D h' tk, Fr h₀ L h' m → News h₀ L h' ((D, LCg.lst (bools (fun k => mk k i (j + 12 * (1 + (o.fdiv 3).fmod 3))) 8)) :: news₀) → LCg.Off1 D news₀ → Q (.ref D) { s with heap := h', toks := tk }) :
    wpAny (model prog w) (lawA dp un gd L a ccd cT cO cJ cI cM outer) (eval (rightOf (argOf 1 (valOfS (forB 3)))) (lawE L a ccd cT cO cJ cI cM)) Q E s := by
  refine comp_masks (c := cTwo) (elt_two B X T hI hJ hO hmul hr hu) hl hM rfl F N ?_ rfl (by decide) rfl (by decide) rfl (by intro _; rfl) hret
  exact ev_masks N hMc ⟨rfl, rfl⟩

/- told = [..] -/
set_option maxRecDepth 100000 in
theorem st_told {news₁ : List (Addr × Obj)} {oT : Obj} {vT : Option Value} {i j : Int} {ti tj : Tok} {s : Shared} {Q : Flow → Shared → Prop} {E : Value → Shared → Prop} {lM : Addr} {fs : Nat → Addr}
    (B : Below A₀ base outer h₀) (F : Fr h₀ L s.heap m) (X : K.In h₀) (N : News h₀ L s.heap ((cT, oT) :: news₁)) (T : Top p loose mean mg mb h₀) (hoT : oT.data = .cell vT) (hoff : LCg.Off1 cT news₁)
    (hMc : CellAt news₁ cM (.ref lM)) (hl : ∀ k, k < 8 → LamAt k news₁ (fs k)) (hM : (lM, LCg.lst ((List.range 8).map fun k => .ref (fs k))) ∈ news₁)
    (hI : CellAt news₁ cI (.int i ti)) (hJ : CellAt news₁ cJ (.int j tj))
    (hmul : IntMulOk i j) (hr : dp + 1 < recursionLimit) (hu : un + 64 < cLine)
    (hret : ∀ D oT' h' tk, Fr h₀ L h' m → News h₀ L h' ((D, LCg.lst (bools (fun k => mk k i j) 8)) :: (cT, oT') :: news₁) → LCg.Off1 D news₁ → oT'.data = .cell (some (.ref D)) → Q .next { s with heap := h', toks := tk }) :
    wpAny (model prog w) (lawA dp un gd L a ccd cT cO cJ cI cM outer) (exec (forB 2) (lawE L a ccd cT cO cJ cI cM)) Q E s := by
  conv in (exec _ _) => arg 1; whnf
  walk1
  refine comp_told B F X N T (CellAt.mono hMc (fun p hp => .tail _ hp)) (fun k hk => (hl k hk).mono (fun p hp => .tail _ hp)) (.tail _ hM) (CellAt.mono hI (fun p hp => .tail _ hp)) (CellAt.mono hJ (fun p hp => .tail _ hp)) hmul hr hu ?_
  intro D h' tk F' N' off
  refine storeX_C F' N' rfl (.tail (Ne.symm off.1) (.head (Off1.mem hoff))) hoT ?_
  intro h'' oT' F'' N'' hd
  exact hret D oT' h'' tk F'' N'' off.2 hd
end
end
section
section
variable {prog : Program} {w : World} {A : Around} {E : Value → Shared → Prop} {s : Shared} {a b : Addr} {Q : Value → Shared → Prop} {h₀ : Heap} {L : Addr} {news : List (Addr × Obj)}
set_option maxRecDepth 100000 in
theorem carried_bools : ∀ bs : List Bool, CarriedAll (bs.map .bool) (bs.map PyData.bool)
  | [] => .nil
  | b :: r => .cons (.bool b) (carried_bools r)
set_option maxRecDepth 100000 in
theorem canLayAll0_bools : ∀ bs : List Bool, PyData.canLayAll0 (bs.map PyData.bool) = true
  | [] => rfl
  | b :: r => by
    simp only [List.map_cons, PyData.canLayAll0, PyData.canLay0, Bool.true_and]
    exact canLayAll0_bools r
set_option maxRecDepth 100000 in
theorem depthAll_bools : ∀ bs : List Bool, PyData.depthAll (bs.map PyData.bool) = 0
  | [] => rfl
  | b :: r => by
    simp only [List.map_cons, PyData.depthAll, PyData.depth]
    rw [depthAll_bools r]; rfl
set_option maxRecDepth 100000 in
theorem shaped_bools (bs : List Bool) : SeqAt.shaped (.list (bs.map PyData.bool)) = true := by
  simp only [SeqAt.shaped, PyData.canLay0, PyData.depth]
  rw [canLayAll0_bools, Bool.true_and]
  refine decide_eq_true ?_
  show PyData.depthAll _ + 1 ≤ 64
  rw [depthAll_bools]
  decide
set_option maxRecDepth 100000 in
theorem same_bools : ∀ bs : List Bool, PySem.Spec.sameAll (bs.map PyData.bool) (bs.map PyData.bool) = true
  | [] => rfl
  | b :: r => by
    simp only [List.map_cons, PySem.Spec.sameAll, PySem.Spec.same]
    rw [same_bools r]
    cases b <;> rfl
set_option maxRecDepth 100000 in
theorem ne_boolsL {bs : List Bool} (hla : s.heap.IsList a (bs.map Value.bool).toArray) (hlb : s.heap.IsList b (bs.map Value.bool).toArray) (hu : A.units + 64 < cLine) (h : Q (.bool false) s) :
    wpAny (model prog w) A (compareOp .NotEq (.ref a) (.ref b)) Q E s := by
  refine ne_dataH_same (reads_newData hla (carried_bools bs)) (reads_newData hlb (carried_bools bs)) (shaped_bools _) (shaped_bools _) hu (SeqAt.noMix_of_shape (.list .bool) rfl _ _ (list_map_has fun _ => rfl) (list_map_has fun _ => rfl)) ?_
  simp only [PySem.Spec.same, same_bools]
  exact h
set_option maxRecDepth 100000 in
theorem ne_bools {bs : List Bool} (N : News h₀ L s.heap news) (ha : (a, LCg.lst (bs.map .bool)) ∈ news) (hb : (b, LCg.lst (bs.map .bool)) ∈ news) (hu : A.units + 64 < cLine) (h : Q (.bool false) s) :
    wpAny (model prog w) A (compareOp .NotEq (.ref a) (.ref b)) Q E s :=
  ne_boolsL ⟨_, N.get ha, rfl, _, rfl⟩ ⟨_, N.get hb, rfl, _, rfl⟩ hu h
end
end
section
set_option maxRecDepth 100000 in
theorem fm (a : Int) (n : Nat) : a.fmod (n : Int) = a % (n : Int) := Int.fmod_eq_emod_of_nonneg a (Int.natCast_nonneg n)
set_option maxRecDepth 100000 in
theorem fm2 (a : Int) : a.fmod 2 = a % 2 := fm a 2
set_option maxRecDepth 100000 in
theorem fm3 (a : Int) : a.fmod 3 = a % 3 := fm a 3
set_option maxRecDepth 100000 in
theorem fm6 (a : Int) : a.fmod 6 = a % 6 := fm a 6
set_option maxRecDepth 100000 in
theorem fd2 (a : Int) : a.fdiv 2 = a / 2 := Int.fdiv_eq_ediv_of_nonneg a (by decide)
set_option maxRecDepth 100000 in
theorem fd3 (a : Int) : a.fdiv 3 = a / 3 := Int.fdiv_eq_ediv_of_nonneg a (by decide)
set_option maxRecDepth 100000 in
theorem beq_of {a b c d : Int} (h : a = b ↔ c = d) : (a == b) = (c == d) := by
  by_cases e : a = b
  · rw [beq_iff_eq.mpr e, beq_iff_eq.mpr (h.mp e)]
  · rw [beq_eq_false_iff_ne.mpr e, beq_eq_false_iff_ne.mpr (fun q => e (h.mpr q))]
set_option maxRecDepth 100000 in
theorem mk_i (k : Nat) (i j c : Int) : mk k (i + 12 * c) j = mk k i j := by
  have hp : (i + 12 * c) * j = i * j + 12 * (c * j) := by rw [Int.add_mul, Int.mul_assoc]
  unfold mk
  split <;> simp only [fm2, fm3, fd2, fd3, hp] <;> generalize i * j = q <;> generalize c * j = r <;> refine beq_of ?_ <;> omega
set_option maxRecDepth 100000 in
theorem mk_j (k : Nat) (i j c : Int) : mk k i (j + 12 * c) = mk k i j := by
  have hp : i * (j + 12 * c) = i * j + 12 * (i * c) := by rw [Int.mul_add, Int.mul_left_comm]
  unfold mk
  split <;> simp only [fm2, fm3, fd2, fd3, hp] <;> generalize i * j = q <;> generalize i * c = r <;> refine beq_of ?_ <;> omega
set_option maxRecDepth 100000 in
theorem mk_swap (k : Nat) (i j : Int) (hk : k = 0 ∨ k = 3 ∨ k = 5 ∨ k = 6 ∨ k = 7) : mk k j i = mk k i j := by
  rcases hk with rfl | rfl | rfl | rfl | rfl <;> simp only [mk, Int.mul_comm j i, Int.add_comm j i]
set_option maxRecDepth 100000 in
theorem eq_beq {a b c d e f : Int} (h : (a = b) ↔ ((c = d) ↔ (e = f))) : (a == b) = ((c == d) == (e == f)) := by
  rw [Bool.eq_iff_iff, beq_iff_eq, h, beq_iff_eq (a := (c == d)), Bool.eq_iff_iff, beq_iff_eq, beq_iff_eq]
set_option maxRecDepth 100000 in
theorem law6 (i j : Int) : mk 0 i j = (mk 1 i j == (j.fmod 2 == 0)) := by
  simp only [mk]
  refine eq_beq ?_
  simp only [fm2]
  omega
set_option maxRecDepth 100000 in
theorem law61 (i j : Int) : mk 1 i j = (i.fmod 2 == 0) := rfl
set_option maxRecDepth 100000 in
theorem law62 (i j : Int) : mk 2 i j = (j.fmod 3 == 0) := rfl
set_option maxRecDepth 100000 in
theorem law63 (i j : Int) : mk 3 i j = mk 2 0 (i + j) := rfl
set_option maxRecDepth 100000 in
theorem law64 (i j : Int) : mk 4 i j = mk 0 (i.fdiv 2) (j.fdiv 3) := rfl
set_option maxRecDepth 100000 in
theorem law8a (i j : Int) : mk 5 i j = ((i * j).fmod 6 == 0) := by
  simp only [mk]
  refine beq_of ?_
  simp only [fm2, fm3, fm6]
  generalize i * j = q
  omega
set_option maxRecDepth 100000 in
theorem law8b (i j : Int) : mk 6 i j = decide ((i * j).fmod 6 < 3) := by
  simp only [mk]
  rw [show (((i * j).fmod 2 + (i * j).fmod 3).fmod 2 == 0) = decide (((i * j).fmod 2 + (i * j).fmod 3).fmod 2 = 0) from rfl]
  refine decide_eq_decide.mpr ?_
  simp only [fm2, fm3, fm6]
  generalize i * j = q
  omega
set_option maxRecDepth 100000 in
theorem law8c (i j : Int) : mk 7 i j = ((((i * j).fmod 3).fmod 2 == 0) == (i.fmod 2 == j.fmod 2)) := by
  simp only [mk]
  refine eq_beq ?_
  simp only [fm2, fm3]
  generalize i * j = q
  omega
end
section
section
variable {prog : Program} {w : World} {K : Frag} {p : Program} {loose : List Str} {mean : ExcName → Option Value} {mg mb : Str → Option Value}
    {dp un : Nat} {gd : Option (List Code)} {a : Addr} {ccd : Value} {outer : List Env} {A₀ : Around} {base h₀ : Heap} {L : Addr} {m : Str → Option Value} {cT cO cJ cI cM : Addr}

set_option maxRecDepth 100000 in
theorem bools_eq (b : Nat → Bool) (n : Nat) : bools b n = ((List.range n).map b).map Value.bool := by simp [bools]
set_option maxRecDepth 100000 in
theorem bools_congr {b c : Nat → Bool} (h : ∀ k, b k = c k) (n : Nat) : bools b n = bools c n := by
  rw [show b = c from funext h]

/- if told != [..] or told != [..] : return False -/
set_option maxRecDepth 100000 in
theorem st_if3 {news : List (Addr × Obj)} {i j o : Int} {ti tj t_o : Tok} {s : Shared} {Q : Flow → Shared → Prop} {E : Value → Shared → Prop} {lM lT : Addr} {fs : Nat → Addr}
    (B : Below A₀ base outer h₀) (F : Fr h₀ L s.heap m) (X : K.In h₀) (N : News h₀ L s.heap news) (T : Top p loose mean mg mb h₀)
    (hMc : CellAt news cM (.ref lM)) (hl : ∀ k, k < 8 → LamAt k news (fs k)) (hM : (lM, LCg.lst ((List.range 8).map fun k => .ref (fs k))) ∈ news)
    (hI : CellAt news cI (.int i ti)) (hJ : CellAt news cJ (.int j tj)) (hO : CellAt news cO (.int o t_o))
    (hTc : CellAt news cT (.ref lT)) (hT : (lT, LCg.lst (bools (fun k => mk k i j) 8)) ∈ news)
    (hm1 : IntMulOk (i + 12 * (1 + o.fmod 3)) j) (hm2 : IntMulOk i (j + 12 * (1 + (o.fdiv 3).fmod 3))) (hr : dp + 1 < recursionLimit) (hu : un + 64 < cLine)
    (hret : ∀ h' tk, Fr h₀ L h' m → News h₀ L h' news → Q .next { s with heap := h', toks := tk }) :
    wpAny (model prog w) (lawA dp un gd L a ccd cT cO cJ cI cM outer) (exec (forB 3) (lawE L a ccd cT cO cJ cI cM)) Q E s := by
  have hI' := hI
  have hJ' := hJ
  obtain ⟨oT, hT1, hT2⟩ := hTc
  conv in (exec _ _) => arg 1; whnf
  iterate 4 walk1
  refine comp_one B F X N T hMc hl hM hI' hJ' hO hm1 hr hu ?_
  intro D h' tk F' N' off
  have e1 : bools (fun k => mk k (i + 12 * (1 + o.fmod 3)) j) 8 = bools (fun k => mk k i j) 8 := bools_congr (fun k => mk_i k i j _) 8
  rw [e1] at N'
  rw [bools_eq] at N' hT
  refine ne_bools N' (.tail _ hT) (.head _) hu ?_
  replace N' := cb_drop N' (fun p hp => .tail _ hp)
  iterate 5 walk1
  refine comp_two B F' X N' T hMc hl hM hI' hJ' hO hm2 hr hu ?_
  intro D2 h2 tk2 F2 N2 off2
  have e2 : bools (fun k => mk k i (j + 12 * (1 + (o.fdiv 3).fmod 3))) 8 = bools (fun k => mk k i j) 8 := bools_congr (fun k => mk_j k i j _) 8
  rw [e2] at N2
  rw [bools_eq] at N2
  refine ne_bools N2 (.tail _ hT) (.head _) hu ?_
  replace N2 := cb_drop N2 (fun p hp => .tail _ hp)
  clear F N F' N'
  k_steps
  exact hret _ _ (by assumption) (by assumption)
end
end
section
section
variable {prog : Program} {w : World} {K : Frag} {p : Program} {loose : List Str} {mean : ExcName → Option Value} {mg mb : Str → Option Value}
    {dp un : Nat} {gd : Option (List Code)} {a : Addr} {ccd : Value} {outer : List Env} {A₀ : Around} {base h₀ : Heap} {L : Addr} {m : Str → Option Value} {cT cO cJ cI cM : Addr}

/- an element of a comprehension of n turns over items that P tells: R is its value -/
def EltG (prog : Program) (w : World) (A : Around) (h₀ : Heap) (L : Addr) (m : Str → Option Value) (env : Env) (c : CP) (cl : List (Str × Addr)) (news₀ : List (Addr × Obj)) (n : Nat) (P : Nat → Value → Prop) (R : Nat → Value) : Prop :=
  ∀ {k : Nat} {v : Value} {C : Addr} {oC : Obj} {m₂ : Str → Option Value} {s : Shared} {Q E : Value → Shared → Prop} {news : List (Addr × Obj)},
    k < n → P k v → (∀ p ∈ news₀, p ∈ news) → Fr h₀ L s.heap m → News h₀ L s.heap news → (C, oC) ∈ news → LCg.NsObj oC m₂ → m₂ c.x = some v →
    (∀ h' tk, Fr h₀ L h' m → News h₀ L h' news → Q (R k) { s with heap := h', toks := tk }) →
    wpAny (model prog w) A (eval c.elt (compEnvC c.scope cl C env)) Q E s

set_option maxRecDepth 100000 in
theorem rest_g {A : Around} {env : Env} {c : CP} {cl : List (Str × Addr)} {news₀ : List (Addr × Obj)} {n : Nat} {R : Nat → Value} {s : Shared} {S : List (Addr × Obj) → Prop} {P : Nat → Value → Prop} {Fin : List Value → List (Addr × Obj) → Prop}
    (hE : EltG prog w A h₀ L m env c cl news₀ n P R) (hS : S news₀) :
    ∀ k i, k + i = n → Fin ((List.range n).map R) news₀ → LCg.CompRest prog w A h₀ L m env c.elt c.x c.scope cl s S P Fin k i ((List.range i).map R) news₀ := by
  intro k
  induction k with
  | zero =>
    intro i hi hF
    have : i = n := by omega
    subst this
    exact LCg.CompRest.zero hF
  | succ k ih =>
    intro i hi hF
    refine LCg.CompRest.succ ?_
    intro v I oI C oC D m₂ h tk E' hv hN hx F N off ne
    refine hE (by omega) hv (fun p hp => .tail _ (.tail _ (.tail _ hp))) F N (.tail _ (.head _)) hN hx ?_
    intro h' tk' F' N'
    refine LCg.CompEnd.intro F' N' news₀ (fun p hp => hp) off hS ?_
    have e : (List.range i).map R ++ [R i] = (List.range (i + 1)).map R := by
      simp [List.range_succ]
    rw [e]
    exact ih (i + 1) (by omega) hF

local macro_rules | `(tactic| k_mem) => `(tactic| assumption)
local macro_rules | `(tactic| k_is) => `(tactic| assumption)

set_option maxRecDepth 100000 in
theorem elt_isb {news₀ : List (Addr × Obj)} {b : Nat → Bool}
    (X : K.In h₀) (T : Top p loose mean mg mb h₀) (g1 : nsIn K mainGlobals (Str.ofString "isinstance") = some none) (g2 : nsIn K mainGlobals (Str.ofString "bool") = some none) (hu : un + 64 < cLine) :
    EltG prog w (lawA dp un gd L a ccd cT cO cJ cI cM outer) h₀ L m (lawE L a ccd cT cO cJ cI cM) cIsB [] news₀ 8 (fun k v => v = .bool (b k)) (fun _ => .bool true) := by
  intro k v C oC m₂ s Q E news hk hv hs F N hC hN hm hret
  subst hv
  clear hs
  have hm' : m₂ (Str.ofString "answer") = some (.bool (b k)) := hm
  conv in (eval _ _) => arg 1; whnf
  k_steps
  exact hret s.heap s.toks F N

set_option maxRecDepth 100000 in
theorem comp_isb {news₀ : List (Addr × Obj)} {b : Nat → Bool} {s : Shared} {Q E : Value → Shared → Prop} {lT : Addr}
    (F : Fr h₀ L s.heap m) (X : K.In h₀) (N : News h₀ L s.heap news₀) (T : Top p loose mean mg mb h₀)
    (g1 : nsIn K mainGlobals (Str.ofString "isinstance") = some none) (g2 : nsIn K mainGlobals (Str.ofString "bool") = some none) (hu : un + 64 < cLine)
    (hTc : CellAt news₀ cT (.ref lT)) (hT : (lT, LCg.lst (bools b 8)) ∈ news₀)
    (hret : ∀ D h' tk, Fr h₀ L h' m → News h₀ L h' ((D, LCg.lst (bools (fun _ => true) 8)) :: news₀) → LCg.Off1 D news₀ → Q (.ref D) { s with heap := h', toks := tk }) :
    wpAny (model prog w) (lawA dp un gd L a ccd cT cO cJ cI cM outer) (eval (leftOf (valOfS (forB 4))) (lawE L a ccd cT cO cJ cI cM)) Q E s := by
  show wpAny _ _ (eval (.ListComp cIsB.elt [⟨.Name cIsB.x cIsB.px, cIsB.iter, [], 0⟩] cIsB.scope cIsB.pos) _) _ _ _
  refine LCg.ListComp_U F rfl (by decide) rfl (by decide) rfl ?_ (by intro _; rfl)
  obtain ⟨oT, hT1, hT2⟩ := hTc
  refine nameX_C N rfl hT1 hT2 ?_
  refine LCg.CompSrc.ledger (its := (bools b 8).toArray) rfl F N hT (by simp [bools]; decide) ?_
  intro g
  have e : (bools b 8).toArray.size = 8 := by simp [bools]
  rw [e]
  refine rest_g (n := 8) (P := fun i v => (bools b 8).toArray[i]? = some v) (R := fun _ => .bool true) ?_ (.inr ⟨_, hT, rfl, _, rfl⟩) 8 0 rfl ?_
  · intro k v C oC m₂ s' Q' E' news hk hv hs F' N' hC hN hm hr
    refine elt_isb (news₀ := news₀) (b := b) X T g1 g2 hu hk ?_ hs F' N' hC hN hm hr
    simp only [bools, List.getElem?_toArray, List.getElem?_map, Option.map_eq_some_iff] at hv
    obtain ⟨q, hq, rfl⟩ := hv
    obtain ⟨h1, h2⟩ := List.getElem?_eq_some_iff.mp hq
    simp at h2
    rw [h2]
  · unfold LCg.FinE
    intro D h tk F' N' off
    exact hret D h tk F' N' off

/- if [isinstance(..) ..] != [True] * 8 : return False -/
set_option maxRecDepth 100000 in
theorem st_if4 {news : List (Addr × Obj)} {b : Nat → Bool} {s : Shared} {Q : Flow → Shared → Prop} {E : Value → Shared → Prop} {lT : Addr}
    (F : Fr h₀ L s.heap m) (X : K.In h₀) (N : News h₀ L s.heap news) (T : Top p loose mean mg mb h₀)
    (g1 : nsIn K mainGlobals (Str.ofString "isinstance") = some none) (g2 : nsIn K mainGlobals (Str.ofString "bool") = some none) (hu : un + 64 < cLine)
    (hTc : CellAt news cT (.ref lT)) (hT : (lT, LCg.lst (bools b 8)) ∈ news)
    (hret : ∀ h' tk, Fr h₀ L h' m → News h₀ L h' news → Q .next { s with heap := h', toks := tk }) :
    wpAny (model prog w) (lawA dp un gd L a ccd cT cO cJ cI cM outer) (exec (forB 4) (lawE L a ccd cT cO cJ cI cM)) Q E s := by
  conv in (exec _ _) => arg 1; whnf
  iterate 2 walk1
  refine comp_isb F X N T g1 g2 hu hTc hT ?_
  intro D h' tk F' N' off
  clear F N
  k_steps
  rename_i l2 h2 F2 N2 _
  refine mul_list_is (vs := [.bool true]) F2 N2 ⟨_, N2.get (.head _), rfl, _, rfl⟩ (.cons (.bool true) .nil) (by decide) (by decide) (by decide) ?_
  intro h3 F3 N3 hn hL hC
  refine ne_boolsL (bs := List.replicate 8 true) ⟨_, N3.get (.tail _ (.head _)), rfl, _, rfl⟩ hL hu ?_
  replace N3 := cb_drop N3 (fun p hp => .tail _ (.tail _ hp))
  clear F2 N2 hn hL hC
  k_steps
  exact hret _ _ (by assumption) (by assumption)
end
end
section
section
variable {prog : Program} {w : World} {K : Frag} {p : Program} {loose : List Str} {mean : ExcName → Option Value} {mg mb : Str → Option Value}
    {dp un : Nat} {gd : Option (List Code)} {a : Addr} {ccd : Value} {outer : List Env} {A₀ : Around} {base h₀ : Heap} {L : Addr} {m : Str → Option Value} {cT cO cJ cI cM : Addr}

set_option maxRecDepth 100000 in
theorem ne_boolE {prog : Program} {w : World} {A : Around} {E : Value → Shared → Prop} {s : Shared} {Q : Value → Shared → Prop} {x y : Bool} (e : x = y) (h : ∀ tk, Q (.bool false) { s with toks := tk }) : wpAny (model prog w) A (compareOp .NotEq (.bool x) (.bool y)) Q E s := by
  refine ne_bool ?_
  subst e
  have h' : Q (.bool false) s := h s.toks
  simpa using h'
set_option maxRecDepth 100000 in
theorem item_at {prog : Program} {w : World} {A : Around} {E : Value → Shared → Prop} {s : Shared} {Q : Value → Shared → Prop} {value slice : PySem.Expr} {l : Addr} {vs : List Value} {k : Int} {u : Tok} {v : Value} {news : List (Addr × Obj)}
    (N : News h₀ L s.heap news) (hm : (l, LCg.lst vs) ∈ news) (h0 : 0 ≤ k) (hhi : k < 2 ^ 63) (hx : vs[k.toNat]? = some v) (h : Q v s)
    (hs : subscripted slice false (.ref l) (.int k u) = operate [.ref l, .int k u] (getItem (.ref l) (.int k u))) :
    wpAny (model prog w) A (subscriptTail value slice (.ref l) (.int k u)) Q E s := by
  have hl : s.heap.IsList l vs.toArray := ⟨_, N.get hm, rfl, _, rfl⟩
  exact tail_any hl.typeIs slot_list_getitem.lookup (wpAny_getItem_list hl h0 hhi (by simpa using hx) h) hs
local macro_rules | `(tactic| walk_at "subscriptTail") => `(tactic| (refine item_at (by assumption) (by assumption) (by decide) (by decide) rfl ?_ (by with_unfolding_all rfl)))
local macro_rules | `(tactic| walk_at "compareOp NotEq bool bool") => `(tactic| (refine ne_boolE (by first | exact law61 _ _ | exact law62 _ _ | exact law6 _ _ | exact law63 _ _ | exact law64 _ _ | exact law8a _ _ | exact law8b _ _ | exact law8c _ _) ?_; intro tk'; (try dsimp only)))
set_option maxRecDepth 100000 in
theorem lam_callR {s : Shared} {Q E : Value → Shared → Prop} {news : List (Addr × Obj)} {f : Addr} {i j : Int} {ti tj : Tok} {k : Nat} {cn : Str} {cs : Scope} {cl : List (Str × Addr)}
    (hf : LamAt k news f) (hk8 : k < 8) (B : Below A₀ base outer h₀) (F : Fr h₀ L s.heap m) (X : K.In h₀) (N : News h₀ L s.heap news) (T : Top p loose mean mg mb h₀) (hk : cs.kind = .function) (hmul : IntMulOk i j)
    (hr : dp + 1 < recursionLimit) (hu : un + 64 < cLine)
    (hret : ∀ h' tk, Fr h₀ L h' m → News h₀ L h' news → Q (.bool (mk k i j)) { s with heap := h', toks := tk }) :
    wpAny (model prog w) (ktrTop dp un gd cn cs L a ccd cl outer) (call (.ref f) [.int i ti, .int j tj]) Q E s := lam_call k hk8 B F X N T hk hf hmul hr hu hret
local macro_rules | `(tactic| walk_at "callWith ref") => `(tactic| (refine callWith_F (lamAt_fn (by assumption) (by assumption)) ?_))
local macro_rules | `(tactic| walk_at "FnAt") => `(tactic| (exact lamAt_fn (by assumption) (by assumption)))
local macro_rules | `(tactic| walk_at "call ref") => `(tactic| (refine lam_callR (by assumption) (by decide) (by assumption) (by assumption) (by assumption) (by assumption) (by assumption) rfl (by assumption) (by assumption) (by assumption) ?_; intro h' tk' F' N'))
local macro_rules | `(tactic| k_mem) => `(tactic| assumption)
local macro_rules | `(tactic| k_is) => `(tactic| assumption)

set_option maxHeartbeats 1000000 in
set_option maxRecDepth 100000 in
theorem st_if5 {news : List (Addr × Obj)} {i j : Int} {ti tj : Tok} {s : Shared} {Q : Flow → Shared → Prop} {E : Value → Shared → Prop} {lT : Addr}
    (F : Fr h₀ L s.heap m) (X : K.In h₀) (N : News h₀ L s.heap news) (T : Top p loose mean mg mb h₀)
    (hI : CellAt news cI (.int i ti)) (hJ : CellAt news cJ (.int j tj))
    (hTc : CellAt news cT (.ref lT)) (hT : (lT, LCg.lst (bools (fun k => mk k i j) 8)) ∈ news)
    (hret : ∀ h' tk, Fr h₀ L h' m → News h₀ L h' news → Q .next { s with heap := h', toks := tk }) :
    wpAny (model prog w) (lawA dp un gd L a ccd cT cO cJ cI cM outer) (exec (forB 5) (lawE L a ccd cT cO cJ cI cM)) Q E s := by
  obtain ⟨oT, hT1, hT2⟩ := hTc
  obtain ⟨oI, hI1, hI2⟩ := hI
  obtain ⟨oJ, hJ1, hJ2⟩ := hJ
  replace hT : (lT, LCg.lst [.bool (mk 0 i j), .bool (mk 1 i j), .bool (mk 2 i j), .bool (mk 3 i j), .bool (mk 4 i j), .bool (mk 5 i j), .bool (mk 6 i j), .bool (mk 7 i j)]) ∈ news := hT
  conv in (exec _ _) => arg 1; whnf
  k_steps
  exact hret _ _ (by assumption) (by assumption)

set_option maxHeartbeats 1000000 in
set_option maxRecDepth 100000 in
theorem st_if7 {news : List (Addr × Obj)} {i j : Int} {ti tj : Tok} {s : Shared} {Q : Flow → Shared → Prop} {E : Value → Shared → Prop} {lT : Addr}
    (F : Fr h₀ L s.heap m) (X : K.In h₀) (N : News h₀ L s.heap news) (T : Top p loose mean mg mb h₀)
    (hI : CellAt news cI (.int i ti)) (hJ : CellAt news cJ (.int j tj)) (hmul : IntMulOk i j)
    (hTc : CellAt news cT (.ref lT)) (hT : (lT, LCg.lst (bools (fun k => mk k i j) 8)) ∈ news)
    (hret : ∀ h' tk, Fr h₀ L h' m → News h₀ L h' news → Q .next { s with heap := h', toks := tk }) :
    wpAny (model prog w) (lawA dp un gd L a ccd cT cO cJ cI cM outer) (exec (forB 7) (lawE L a ccd cT cO cJ cI cM)) Q E s := by
  obtain ⟨oT, hT1, hT2⟩ := hTc
  obtain ⟨oI, hI1, hI2⟩ := hI
  obtain ⟨oJ, hJ1, hJ2⟩ := hJ
  replace hT : (lT, LCg.lst [.bool (mk 0 i j), .bool (mk 1 i j), .bool (mk 2 i j), .bool (mk 3 i j), .bool (mk 4 i j), .bool (mk 5 i j), .bool (mk 6 i j), .bool (mk 7 i j)]) ∈ news := hT
  conv in (exec _ _) => arg 1; whnf
  k_steps
  exact hret _ _ (by assumption) (by assumption)

set_option maxHeartbeats 1000000 in
set_option maxRecDepth 100000 in
theorem st_if6 {news : List (Addr × Obj)} {i j : Int} {ti tj : Tok} {s : Shared} {Q : Flow → Shared → Prop} {E : Value → Shared → Prop} {lT lM : Addr} {fs : Nat → Addr}
    (B : Below A₀ base outer h₀) (F : Fr h₀ L s.heap m) (X : K.In h₀) (N : News h₀ L s.heap news) (T : Top p loose mean mg mb h₀)
    (hI : CellAt news cI (.int i ti)) (hJ : CellAt news cJ (.int j tj)) (hm1 : IntMulOk 0 (i + j)) (hm2 : IntMulOk (i.fdiv 2) (j.fdiv 3))
    (hMc : CellAt news cM (.ref lM)) (hl : ∀ k, k < 8 → LamAt k news (fs k)) (hM : (lM, LCg.lst ((List.range 8).map fun k => .ref (fs k))) ∈ news)
    (hTc : CellAt news cT (.ref lT)) (hT : (lT, LCg.lst (bools (fun k => mk k i j) 8)) ∈ news) (hr : dp + 1 < recursionLimit) (hu : un + 64 < cLine)
    (hret : ∀ h' tk, Fr h₀ L h' m → News h₀ L h' news → Q .next { s with heap := h', toks := tk }) :
    wpAny (model prog w) (lawA dp un gd L a ccd cT cO cJ cI cM outer) (exec (forB 6) (lawE L a ccd cT cO cJ cI cM)) Q E s := by
  obtain ⟨oT, hT1, hT2⟩ := hTc
  obtain ⟨oI, hI1, hI2⟩ := hI
  obtain ⟨oJ, hJ1, hJ2⟩ := hJ
  obtain ⟨oM, hM1, hM2⟩ := hMc
  replace hT : (lT, LCg.lst [.bool (mk 0 i j), .bool (mk 1 i j), .bool (mk 2 i j), .bool (mk 3 i j), .bool (mk 4 i j), .bool (mk 5 i j), .bool (mk 6 i j), .bool (mk 7 i j)]) ∈ news := hT
  replace hM : (lM, LCg.lst [.ref (fs 0), .ref (fs 1), .ref (fs 2), .ref (fs 3), .ref (fs 4), .ref (fs 5), .ref (fs 6), .ref (fs 7)]) ∈ news := hM
  have hl0 := hl 0 (by decide)
  have hl2 := hl 2 (by decide)
  clear hl
  conv in (exec _ _) => arg 1; whnf
  k_steps
  exact hret _ _ (by assumption) (by assumption)
end
end
section
section
variable {prog : Program} {w : World} {K : Frag} {p : Program} {loose : List Str} {mean : ExcName → Option Value} {mg mb : Str → Option Value}
    {dp un : Nat} {gd : Option (List Code)} {a : Addr} {ccd : Value} {outer : List Env} {A₀ : Around} {base h₀ : Heap} {L : Addr} {m : Str → Option Value} {cT cO cJ cI cM : Addr}

def SrcT (ax : Addr) (its : Array Value) (news : List (Addr × Obj)) : Prop := ∃ o, (ax, o) ∈ news ∧ o.cls = .type "tuple" ∧ ∃ n, o.data = .seq its n
set_option maxRecDepth 100000 in
theorem SrcT.tup {h : Heap} {ax : Addr} {its : Array Value} {news : List (Addr × Obj)} (x : SrcT ax its news) (N : News h₀ L h news) : h.IsTuple ax its := by
  obtain ⟨o, hm, r⟩ := x
  exact ⟨o, N.get hm, r⟩

set_option maxRecDepth 100000 in
theorem ListComp_tup {A : Around} {env : Env} {c : CP} {cl : List (Str × Addr)} {news : List (Addr × Obj)} {n : Nat} {R : Nat → Value} {s : Shared} {Q E : Value → Shared → Prop} {G : Array Value → Prop}
    (hh : A.handled = none)
    (hclos : closureFor c.scope env = pure cl) (hcell : ∀ y ∈ c.scope.names, y.2 ≠ .cell) (hkind : c.scope.kind = .function)
    (hnames : ∀ y ∈ c.scope.names, y.2 = .local → c.scope.names.lookup y.1 = some .local) (hx : c.scope.names.lookup c.x = some .local)
    (hn : ∀ its, G its → its.size = n) (hsz : n ≤ sizeLine)
    (h : wpAny (model prog w) A (eval c.iter env) (fun xv s₁ => ∃ ax h₁ tk o its, G its ∧ xv = .ref ax ∧ s₁ = { s with heap := h₁, toks := tk } ∧ Fr h₀ L h₁ m ∧ News h₀ L h₁ ((ax, o) :: news) ∧ o.cls = .type "tuple" ∧ ∃ k, o.data = .seq its k) E s)
    (hs : ∀ x, foldedSetIterable c.iter env x = pure x)
    (hE : ∀ its, G its → EltG prog w A h₀ L m env c cl news n (fun i v => its[i]? = some v) R)
    (hret : ∀ D h' tk, Fr h₀ L h' m → News h₀ L h' ((D, LCg.lst ((List.range n).map R)) :: news) → Q (.ref D) { s with heap := h', toks := tk }) :
    wpAny (model prog w) A (eval (.ListComp c.elt [⟨.Name c.x c.px, c.iter, [], 0⟩] c.scope c.pos) env) Q E s := by
  rw [eval_ListComp]
  refine wpAny_comprehension_free (use := none) rfl hs hclos hkind hnames (wpAny_mono h (fun xv s₁ h₁ => ?_) fun _ _ e => e)
  obtain ⟨ax, h₁, tk, o, its, hG, rfl, rfl, F, N, ho1, k, ho2⟩ := h₁
  replace hn := hn its hG
  have S : SrcT ax its ((ax, o) :: news) := ⟨o, .head _, ho1, k, ho2⟩
  have hl := S.tup N
  have hlt : ax < h₁.objs.size := by obtain ⟨_, e, _⟩ := hl; exact Heap.lt_size e
  refine wpAny_pyIter_tuple (s := { s with heap := h₁, toks := tk }) hl ?_
  have up : ∀ b o, h₁.get? b = some o → (h₁.push { cls := .type "tuple_iterator", data := .fields #[.ref ax, .int 0 0] }).get? b = some o := fun b o e => Heap.get?_push_of_some _ e
  refine LCg.block_U (m := m) (L := L) (h₀ := h₀) (news := (ax, o) :: news) (S := SrcT ax its) (P := fun i v => its[i]? = some v) (Fin := LCg.FinE h₀ L m { s with heap := (h₁.push { cls := .type "tuple_iterator", data := .fields #[.ref ax, .int 0 0] }), toks := tk } (fun v s' => Q v s')) (Walks.tuple hh h₁.objs.size ax (Nat.ne_of_lt hlt) its) (by rw [hn]; exact hsz)
    (fun i h st => by obtain ⟨o, e, _⟩ := st.1; exact ⟨o, e⟩)
    (fun i h h' o nw st e e' k N S => ⟨by obtain ⟨o', q, r⟩ := st.1; rw [e] at q; cases q; exact ⟨o, e', r⟩, S.tup N⟩)
    hcell hkind hx ⟨⟨_, Heap.get?_push_size _ rfl, rfl, rfl⟩, hl.at fun o e => Heap.get?_push_of_some _ e⟩ (fun b hb => ?_)
    (F.keeps up) (N.grown up) (Nat.ne_of_lt F.ns.lt) (next_is_new F) (fun p hp => Nat.ne_of_lt (Heap.lt_size (N p hp).1)) S ?_ ?_
  · show b < (h₁.push _).objs.size
    rw [Heap.size_push]
    rcases List.mem_cons.mp hb with rfl | hb
    · exact Nat.lt_succ_self _
    · rw [List.mem_singleton.mp hb]; exact Nat.lt_succ_of_lt hlt
  · have e0 : its.size = n := hn
    rw [e0]
    refine rest_g (news₀ := (ax, o) :: news) (n := n) (R := R) ?_ S n 0 (by omega) ?_
    · intro k v C oC m₂ s' Q' E' news' hk hv hs' F' N' hC hN hm hr
      exact hE its hG hk hv (fun p hp => hs' p (.tail _ hp)) F' N' hC hN hm hr
    · intro D h' tk' F' N' off
      refine hret D h' tk' F' (cb_drop N' ?_)
      intro p hp
      rcases List.mem_cons.mp hp with rfl | hp
      · exact .head _
      · exact .tail _ (.tail _ hp)
  · intro D C h tk' m' ys news' F' N' o1 hn' hC₀ hD₀ hCL hDL hCD offC fin
    refine ⟨m', hn', fun h'' hs'' => fin D h'' tk' (F'.change hs'' hCL hC₀) (fun p hp => ?_) o1⟩
    refine ⟨hs''.extBut _ _ ?_ (N' p hp).1, (N' p hp).2⟩
    rcases List.mem_cons.mp hp with rfl | hp
    · exact Ne.symm hCD
    · exact offC p hp

end
end
section
section
variable {prog : Program} {w : World} {K : Frag} {p : Program} {loose : List Str} {mean : ExcName → Option Value} {mg mb : Str → Option Value}
    {dp un : Nat} {gd : Option (List Code)} {a : Addr} {ccd : Value} {outer : List Env} {A₀ : Around} {base h₀ : Heap} {L : Addr} {m : Str → Option Value} {cT cO cJ cI cM : Addr}

def ks (i : Nat) : Nat := [0, 3, 5, 6, 7].getD i 0
abbrev ksIts (t0 t1 t2 t3 t4 : Tok) : Array Value := #[.int 0 t0, .int 3 t1, .int 5 t2, .int 6 t3, .int 7 t4]

local macro_rules | `(tactic| walk_at "callWith ref") => `(tactic| (refine callWith_F (lamAt_fn (by assumption) (by assumption)) ?_))
local macro_rules | `(tactic| walk_at "FnAt") => `(tactic| (exact lamAt_fn (by assumption) (by assumption)))
local macro_rules | `(tactic| walk_at "call ref") => `(tactic| (refine lam_callR (by assumption) (by decide) (by assumption) (by assumption) (by assumption) (by assumption) (by assumption) rfl (by assumption) (by assumption) (by assumption) ?_; intro h' tk' F' N'))
local macro_rules | `(tactic| walk_at "subscriptTail") => `(tactic| (refine item_at (by assumption) (by assumption) (by decide) (by decide) rfl ?_ (by with_unfolding_all rfl)))
local macro_rules | `(tactic| k_mem) => `(tactic| assumption)
local macro_rules | `(tactic| k_is) => `(tactic| assumption)

set_option maxRecDepth 100000 in
theorem ev_ks {news : List (Addr × Obj)} {s : Shared} {Q E : Value → Shared → Prop} (X : K.In h₀) (F : Fr h₀ L s.heap m) (N : News h₀ L s.heap news)
    (hret : ∀ ax h' tk o t0 t1 t2 t3 t4, Fr h₀ L h' m → News h₀ L h' ((ax, o) :: news) → o.cls = .type "tuple" → o.data = .seq (ksIts t0 t1 t2 t3 t4) 0 → Q (.ref ax) { s with heap := h', toks := tk }) :
    wpAny (model prog w) (lawA dp un gd L a ccd cT cO cJ cI cM outer) (eval cL9.iter (lawE L a ccd cT cO cJ cI cM)) Q E s := by
  conv in (eval _ _) => arg 1; whnf
  k_steps
  exact hret _ _ _ _ _ _ _ _ _ (by assumption) (by assumption) rfl rfl

set_option maxRecDepth 100000 in
theorem ev_ks2 {news : List (Addr × Obj)} {s : Shared} {Q E : Value → Shared → Prop} (X : K.In h₀) (F : Fr h₀ L s.heap m) (N : News h₀ L s.heap news)
    (hret : ∀ ax h' tk o t0 t1 t2 t3 t4, Fr h₀ L h' m → News h₀ L h' ((ax, o) :: news) → o.cls = .type "tuple" → o.data = .seq (ksIts t0 t1 t2 t3 t4) 0 → Q (.ref ax) { s with heap := h', toks := tk }) :
    wpAny (model prog w) (lawA dp un gd L a ccd cT cO cJ cI cM outer) (eval cR9.iter (lawE L a ccd cT cO cJ cI cM)) Q E s := by
  conv in (eval _ _) => arg 1; whnf
  k_steps
  exact hret _ _ _ _ _ _ _ _ _ (by assumption) (by assumption) rfl rfl

set_option maxRecDepth 100000 in
theorem elt_l9 {news₀ : List (Addr × Obj)} {i j : Int} {ti tj : Tok} {lM : Addr} {fs : Nat → Addr} {t0 t1 t2 t3 t4 : Tok}
    (B : Below A₀ base outer h₀) (X : K.In h₀) (T : Top p loose mean mg mb h₀)
    (hI : CellAt news₀ cI (.int i ti)) (hJ : CellAt news₀ cJ (.int j tj)) (hM : CellAt news₀ cM (.ref lM))
    (hl : ∀ k, k < 8 → LamAt k news₀ (fs k)) (hMl : (lM, LCg.lst ((List.range 8).map fun k => .ref (fs k))) ∈ news₀)
    (hmul : IntMulOk j i) (hr : dp + 1 < recursionLimit) (hu : un + 64 < cLine) :
    EltG prog w (lawA dp un gd L a ccd cT cO cJ cI cM outer) h₀ L m (lawE L a ccd cT cO cJ cI cM) cL9 [(Str.ofString "masks", cM), (Str.ofString "j", cJ), (Str.ofString "i", cI)] news₀ 5 (fun n v => (ksIts t0 t1 t2 t3 t4)[n]? = some v) (fun n => .bool (mk (ks n) j i)) := by
  intro n v C oC m₂ s Q E news hk hv hs F N hC hN hm hret
  obtain ⟨oI, hI1, hId⟩ := hI
  obtain ⟨oJ, hJ1, hJd⟩ := hJ
  obtain ⟨oM, hM1, hMd⟩ := hM
  replace hI1 := hs _ hI1
  replace hJ1 := hs _ hJ1
  replace hM1 := hs _ hM1
  replace hMl : (lM, LCg.lst [.ref (fs 0), .ref (fs 1), .ref (fs 2), .ref (fs 3), .ref (fs 4), .ref (fs 5), .ref (fs 6), .ref (fs 7)]) ∈ news := hs _ hMl
  have hf := (hl (ks n) (by
    match n, hk with
    | 0, _ => decide
    | 1, _ => decide
    | 2, _ => decide
    | 3, _ => decide
    | 4, _ => decide)).mono hs
  clear hs hl
  have hm' : m₂ (Str.ofString "k") = some v := hm
  clear hm
  conv in (eval _ _) => arg 1; whnf
  match n, hk, hv, hf with
  | 0, _, hv, hf => 
    replace hf : LamAt 0 news (fs 0) := hf
    cases hv
    k_steps
    exact hret _ _ (by assumption) (by assumption)
  | 1, _, hv, hf => 
    replace hf : LamAt 3 news (fs 3) := hf
    cases hv
    k_steps
    exact hret _ _ (by assumption) (by assumption)
  | 2, _, hv, hf => 
    replace hf : LamAt 5 news (fs 5) := hf
    cases hv
    k_steps
    exact hret _ _ (by assumption) (by assumption)
  | 3, _, hv, hf => 
    replace hf : LamAt 6 news (fs 6) := hf
    cases hv
    k_steps
    exact hret _ _ (by assumption) (by assumption)
  | 4, _, hv, hf => 
    replace hf : LamAt 7 news (fs 7) := hf
    cases hv
    k_steps
    exact hret _ _ (by assumption) (by assumption)

set_option maxRecDepth 100000 in
theorem elt_r9 {news₀ : List (Addr × Obj)} {b : Nat → Bool} {lT : Addr} {t0 t1 t2 t3 t4 : Tok}
    (X : K.In h₀) (hTc : CellAt news₀ cT (.ref lT)) (hT : (lT, LCg.lst (bools b 8)) ∈ news₀) :
    EltG prog w (lawA dp un gd L a ccd cT cO cJ cI cM outer) h₀ L m (lawE L a ccd cT cO cJ cI cM) cR9 [(Str.ofString "told", cT)] news₀ 5 (fun n v => (ksIts t0 t1 t2 t3 t4)[n]? = some v) (fun n => .bool (b (ks n))) := by
  intro n v C oC m₂ s Q E news hk hv hs F N hC hN hm hret
  obtain ⟨oT, hT1, hTd⟩ := hTc
  replace hT1 := hs _ hT1
  replace hT : (lT, LCg.lst [.bool (b 0), .bool (b 1), .bool (b 2), .bool (b 3), .bool (b 4), .bool (b 5), .bool (b 6), .bool (b 7)]) ∈ news := hs _ hT
  clear hs
  have hm' : m₂ (Str.ofString "k") = some v := hm
  clear hm
  conv in (eval _ _) => arg 1; whnf
  match n, hk, hv with
  | 0, _, hv => 
    cases hv
    k_steps
    exact hret _ _ (by assumption) (by assumption)
  | 1, _, hv => 
    cases hv
    k_steps
    exact hret _ _ (by assumption) (by assumption)
  | 2, _, hv => 
    cases hv
    k_steps
    exact hret _ _ (by assumption) (by assumption)
  | 3, _, hv => 
    cases hv
    k_steps
    exact hret _ _ (by assumption) (by assumption)
  | 4, _, hv => 
    cases hv
    k_steps
    exact hret _ _ (by assumption) (by assumption)

set_option maxRecDepth 100000 in
theorem comp_l9 {news : List (Addr × Obj)} {i j : Int} {ti tj : Tok} {lM : Addr} {fs : Nat → Addr} {s : Shared} {Q E : Value → Shared → Prop}
    (B : Below A₀ base outer h₀) (F : Fr h₀ L s.heap m) (X : K.In h₀) (N : News h₀ L s.heap news) (T : Top p loose mean mg mb h₀)
    (hI : CellAt news cI (.int i ti)) (hJ : CellAt news cJ (.int j tj)) (hM : CellAt news cM (.ref lM))
    (hl : ∀ k, k < 8 → LamAt k news (fs k)) (hMl : (lM, LCg.lst ((List.range 8).map fun k => .ref (fs k))) ∈ news)
    (hmul : IntMulOk j i) (hr : dp + 1 < recursionLimit) (hu : un + 64 < cLine)
    (hret : ∀ D h' tk, Fr h₀ L h' m → News h₀ L h' ((D, LCg.lst ((List.range 5).map fun n => .bool (mk (ks n) j i))) :: news) → Q (.ref D) { s with heap := h', toks := tk }) :
    wpAny (model prog w) (lawA dp un gd L a ccd cT cO cJ cI cM outer) (eval (leftOf (valOfS (forB 8))) (lawE L a ccd cT cO cJ cI cM)) Q E s := by
  show wpAny _ _ (eval (.ListComp cL9.elt [⟨.Name cL9.x cL9.px, cL9.iter, [], 0⟩] cL9.scope cL9.pos) _) _ _ _
  refine ListComp_tup (cl := [(Str.ofString "masks", cM), (Str.ofString "j", cJ), (Str.ofString "i", cI)]) (G := fun its => ∃ t0 t1 t2 t3 t4, its = ksIts t0 t1 t2 t3 t4) (n := 5) rfl rfl (by decide) rfl (by decide) rfl ?_ (by decide) ?_ (by intro _; rfl) ?_ hret
  · rintro its ⟨t0, t1, t2, t3, t4, rfl⟩
    rfl
  · refine ev_ks X F N ?_
    intro ax h' tk o t0 t1 t2 t3 t4 F' N' h1 h2
    exact ⟨ax, h', tk, o, _, ⟨t0, t1, t2, t3, t4, rfl⟩, rfl, rfl, F', N', h1, 0, h2⟩
  · rintro its ⟨t0, t1, t2, t3, t4, rfl⟩
    exact elt_l9 B X T hI hJ hM hl hMl hmul hr hu

set_option maxRecDepth 100000 in
theorem comp_r9 {news : List (Addr × Obj)} {b : Nat → Bool} {lT : Addr} {s : Shared} {Q E : Value → Shared → Prop}
    (F : Fr h₀ L s.heap m) (X : K.In h₀) (N : News h₀ L s.heap news)
    (hTc : CellAt news cT (.ref lT)) (hT : (lT, LCg.lst (bools b 8)) ∈ news)
    (hret : ∀ D h' tk, Fr h₀ L h' m → News h₀ L h' ((D, LCg.lst ((List.range 5).map fun n => .bool (b (ks n)))) :: news) → Q (.ref D) { s with heap := h', toks := tk }) :
    wpAny (model prog w) (lawA dp un gd L a ccd cT cO cJ cI cM outer) (eval (rightOf (valOfS (forB 8))) (lawE L a ccd cT cO cJ cI cM)) Q E s := by
  show wpAny _ _ (eval (.ListComp cR9.elt [⟨.Name cR9.x cR9.px, cR9.iter, [], 0⟩] cR9.scope cR9.pos) _) _ _ _
  refine ListComp_tup (cl := [(Str.ofString "told", cT)]) (G := fun its => ∃ t0 t1 t2 t3 t4, its = ksIts t0 t1 t2 t3 t4) (n := 5) rfl rfl (by decide) rfl (by decide) rfl ?_ (by decide) ?_ (by intro _; rfl) ?_ hret
  · rintro its ⟨t0, t1, t2, t3, t4, rfl⟩
    rfl
  · refine ev_ks2 X F N ?_
    intro ax h' tk o t0 t1 t2 t3 t4 F' N' h1 h2
    exact ⟨ax, h', tk, o, _, ⟨t0, t1, t2, t3, t4, rfl⟩, rfl, rfl, F', N', h1, 0, h2⟩
  · rintro its ⟨t0, t1, t2, t3, t4, rfl⟩
    exact elt_r9 X hTc hT

set_option maxHeartbeats 1000000 in
set_option maxRecDepth 100000 in
theorem st_if8 {news : List (Addr × Obj)} {i j : Int} {ti tj : Tok} {s : Shared} {Q : Flow → Shared → Prop} {E : Value → Shared → Prop} {lT lM : Addr} {fs : Nat → Addr}
    (B : Below A₀ base outer h₀) (F : Fr h₀ L s.heap m) (X : K.In h₀) (N : News h₀ L s.heap news) (T : Top p loose mean mg mb h₀)
    (hI : CellAt news cI (.int i ti)) (hJ : CellAt news cJ (.int j tj)) (hmul : IntMulOk j i)
    (hMc : CellAt news cM (.ref lM)) (hl : ∀ k, k < 8 → LamAt k news (fs k)) (hM : (lM, LCg.lst ((List.range 8).map fun k => .ref (fs k))) ∈ news)
    (hTc : CellAt news cT (.ref lT)) (hT : (lT, LCg.lst (bools (fun k => mk k i j) 8)) ∈ news) (hr : dp + 1 < recursionLimit) (hu : un + 64 < cLine)
    (hret : ∀ h' tk, Fr h₀ L h' m → News h₀ L h' news → Q .next { s with heap := h', toks := tk }) :
    wpAny (model prog w) (lawA dp un gd L a ccd cT cO cJ cI cM outer) (exec (forB 8) (lawE L a ccd cT cO cJ cI cM)) Q E s := by
  conv in (exec _ _) => arg 1; whnf
  iterate 2 walk1
  refine comp_l9 B F X N T hI hJ hMc hl hM hmul hr hu ?_
  intro D h' tk' F' N'
  refine comp_r9 F' X N' (CellAt.mono hTc (fun p hp => .tail _ hp)) (.tail _ hT) ?_
  intro D2 h2 tk2 F2 N2
  have e : ((List.range 5).map fun n => Value.bool (mk (ks n) j i)) = ((List.range 5).map fun n => Value.bool (mk (ks n) i j)) := by
    refine List.map_congr_left ?_
    intro n hn
    rw [mk_swap]
    have hn' : n < 5 := List.mem_range.mp hn
    match n, hn' with
    | 0, _ => exact .inl rfl
    | 1, _ => exact .inr (.inl rfl)
    | 2, _ => exact .inr (.inr (.inl rfl))
    | 3, _ => exact .inr (.inr (.inr (.inl rfl)))
    | 4, _ => exact .inr (.inr (.inr (.inr rfl)))
  rw [e] at N2
  have e2 : ((List.range 5).map fun n => Value.bool (mk (ks n) i j)) = ((List.range 5).map fun n => mk (ks n) i j).map Value.bool := by simp
  rw [e2] at N2
  refine ne_bools N2 (.tail _ (.head _)) (.head _) hu ?_
  replace N2 := cb_drop N2 (fun p hp => .tail _ (.tail _ hp))
  clear F N F' N'
  k_steps
  exact hret _ _ (by assumption) (by assumption)
end
end
section
section
variable {prog : Program} {w : World} {K : Frag} {p : Program} {loose : List Str} {mean : ExcName → Option Value} {mg mb : Str → Option Value}
    {dp un : Nat} {gd : Option (List Code)} {a : Addr} {ccd : Value} {outer : List Env} {A₀ : Around} {base h₀ : Heap} {L : Addr} {m : Str → Option Value} {cT cO cJ cI cM : Addr}

abbrev ab (x : Int) : Int := if x < 0 then -x else x
abbrev P30 : Int := 10 ^ Int.toNat 30
abbrev P20 : Int := 10 ^ Int.toNat 20
structure Apart (cT cO cJ cI : Addr) (rest : List (Addr × Obj)) : Prop where
  t1 : cT ≠ cO
  t2 : cT ≠ cJ
  t3 : cT ≠ cI
  o1 : cO ≠ cJ
  o2 : cO ≠ cI
  j1 : cJ ≠ cI
  t : ∀ p ∈ rest, p.1 ≠ cT
  o : ∀ p ∈ rest, p.1 ≠ cO
  j : ∀ p ∈ rest, p.1 ≠ cJ
  i : ∀ p ∈ rest, p.1 ≠ cI

set_option maxRecDepth 100000 in
theorem storeX_Cg {s : Shared} {E : Value → Shared → Prop} {x : Str} {v : Value} {Q : Unit → Shared → Prop} {news : List (Addr × Obj)} {g : Obj → List (Addr × Obj)} {c : Addr} {o : Obj} {v₀ : Option Value} {A : Around} {M : Model}
    (F : Fr h₀ L s.heap m) (N : News h₀ L s.heap news) (hc : (lawCl cT cO cJ cI cM).lookup x = some c) (U : UpdF c o news g) (hd : o.data = .cell v₀)
    (h : ∀ h' o' tk, Fr h₀ L h' m → News h₀ L h' (g o') → o'.data = .cell (some v) → Q () { s with heap := h', toks := tk })
    (hx : (lawE L a ccd cT cO cJ cI cM).kindOf x = some .cell) : wpAny M A (storeName (lawE L a ccd cT cO cJ cI cM) x v) Q E s :=
  storeX_C F N hc U hd (fun h' o' F' N' d => h h' o' s.toks F' N' d) rfl hx
local macro_rules | `(tactic| k_mem) => `(tactic| assumption)
local macro_rules | `(tactic| k_is) => `(tactic| assumption)
local macro_rules | `(tactic| walk_at "eval Name") => `(tactic| (k_dflt (refine nameX_L (by assumption) (by assumption) ?_)))
set_option maxRecDepth 100000 in
theorem st_0 {rest : List (Addr × Obj)} {oT oO oJ oI : Obj} {vO vJ vI : Option Value} {x : Int} {tx : Tok} {s : Shared} {Q : Flow → Shared → Prop} {E : Value → Shared → Prop}
    (F : Fr h₀ L s.heap m) (X : K.In h₀) (N : News h₀ L s.heap ((cT, oT) :: (cO, oO) :: (cJ, oJ) :: (cI, oI) :: rest)) (T : Top p loose mean mg mb h₀) (ap : Apart cT cO cJ cI rest)
    (g1 : nsIn K mainGlobals (Str.ofString "abs") = some none)
    (hO : oO.data = .cell vO) (hJ : oJ.data = .cell vJ) (hI : oI.data = .cell vI) (hx : m (Str.ofString "x") = some (.int x tx))
    (hret : ∀ oO' oJ' oI' ti tj t_o h' tk, Fr h₀ L h' m → News h₀ L h' ((cT, oT) :: (cO, oO') :: (cJ, oJ') :: (cI, oI') :: rest) →
      oI'.data = .cell (some (.int ((ab x).fmod 41) ti)) → oJ'.data = .cell (some (.int (((ab x).fdiv 41).fmod 43) tj)) → oO'.data = .cell (some (.int ((ab x).fdiv 1763) t_o)) → Q .next { s with heap := h', toks := tk }) :
    wpAny (model prog w) (lawA dp un gd L a ccd cT cO cJ cI cM outer) (exec (forB 0) (lawE L a ccd cT cO cJ cI cM)) Q E s := by
  obtain ⟨t1, t2, t3, o1, o2, j1, at1, ao1, aj1, ai1⟩ := ap
  have uI : ∀ a b c d, UpdF cI d ((cT, a) :: (cO, b) :: (cJ, c) :: (cI, d) :: rest) (fun d' => (cT, a) :: (cO, b) :: (cJ, c) :: (cI, d') :: rest) := fun a b c d => .tail t3 (.tail o2 (.tail j1 (.head ai1)))
  have uJ : ∀ a b c d, UpdF cJ c ((cT, a) :: (cO, b) :: (cJ, c) :: (cI, d) :: rest) (fun c' => (cT, a) :: (cO, b) :: (cJ, c') :: (cI, d) :: rest) := fun a b c d => .tail t2 (.tail o1 (.head (fun p hp => by
    rcases List.mem_cons.mp hp with rfl | hp
    · exact Ne.symm j1
    · exact aj1 p hp)))
  have uO : ∀ a b c d, UpdF cO b ((cT, a) :: (cO, b) :: (cJ, c) :: (cI, d) :: rest) (fun b' => (cT, a) :: (cO, b') :: (cJ, c) :: (cI, d) :: rest) := fun a b c d => .tail t1 (.head (fun p hp => by
    rcases List.mem_cons.mp hp with rfl | hp
    · exact Ne.symm o1
    rcases List.mem_cons.mp hp with rfl | hp
    · exact Ne.symm o2
    · exact ao1 p hp))
  conv in (exec _ _) => arg 1; whnf
  k_steps
  rename News _ _ _ _ => N1
  rename Fr _ _ _ _ => F1
  replace N1 := cb_drop N1 (fun p hp => .tail _ hp)
  dsimp only
  refine storeX_Cg F1 N1 rfl (uI _ _ _ _) hI ?_ rfl
  intro h2 oI' tk2 F2 N2 dI
  dsimp only
  clear F1 N1
  k_steps
  refine storeX_Cg F2 N2 rfl (uJ _ _ _ _) hJ ?_ rfl
  intro h3 oJ' tk3 F3 N3 dJ
  dsimp only
  clear F2 N2
  k_steps
  refine storeX_Cg F3 N3 rfl (uO _ _ _ _) hO ?_ rfl
  intro h4 oO' tk4 F4 N4 dO
  dsimp only
  clear F3 N3
  k_steps
  exact hret _ _ _ _ _ _ _ _ F4 N4 dI dJ dO

set_option maxRecDepth 100000 in
theorem st_1 {rest : List (Addr × Obj)} {oT oO oJ oI : Obj} {i j o : Int} {ti tj t_o : Tok} {s : Shared} {Q : Flow → Shared → Prop} {E : Value → Shared → Prop}
    (F : Fr h₀ L s.heap m) (X : K.In h₀) (N : News h₀ L s.heap ((cT, oT) :: (cO, oO) :: (cJ, oJ) :: (cI, oI) :: rest)) (T : Top p loose mean mg mb h₀) (ap : Apart cT cO cJ cI rest)
    (hO : oO.data = .cell (some (.int o t_o))) (hJ : oJ.data = .cell (some (.int j tj))) (hI : oI.data = .cell (some (.int i ti)))
    (hret : ∀ oJ' oI' ti tj h' tk, Fr h₀ L h' m → News h₀ L h' ((cT, oT) :: (cO, oO) :: (cJ, oJ') :: (cI, oI') :: rest) →
      oI'.data = .cell (some (.int (i + o.fmod P30) ti)) → oJ'.data = .cell (some (.int (j + (o.fdiv 7).fmod P20) tj)) → Q .next { s with heap := h', toks := tk }) :
    wpAny (model prog w) (lawA dp un gd L a ccd cT cO cJ cI cM outer) (exec (forB 1) (lawE L a ccd cT cO cJ cI cM)) Q E s := by
  obtain ⟨t1, t2, t3, o1, o2, j1, at1, ao1, aj1, ai1⟩ := ap
  have uI : ∀ a b c d, UpdF cI d ((cT, a) :: (cO, b) :: (cJ, c) :: (cI, d) :: rest) (fun d' => (cT, a) :: (cO, b) :: (cJ, c) :: (cI, d') :: rest) := fun a b c d => .tail t3 (.tail o2 (.tail j1 (.head ai1)))
  have uJ : ∀ a b c d, UpdF cJ c ((cT, a) :: (cO, b) :: (cJ, c) :: (cI, d) :: rest) (fun c' => (cT, a) :: (cO, b) :: (cJ, c') :: (cI, d) :: rest) := fun a b c d => .tail t2 (.tail o1 (.head (fun p hp => by
    rcases List.mem_cons.mp hp with rfl | hp
    · exact Ne.symm j1
    · exact aj1 p hp)))
  have mI : (cI, oI) ∈ ((cT, oT) :: (cO, oO) :: (cJ, oJ) :: (cI, oI) :: rest) := .tail _ (.tail _ (.tail _ (.head _)))
  have mJ : (cJ, oJ) ∈ ((cT, oT) :: (cO, oO) :: (cJ, oJ) :: (cI, oI) :: rest) := .tail _ (.tail _ (.head _))
  have mO : (cO, oO) ∈ ((cT, oT) :: (cO, oO) :: (cJ, oJ) :: (cI, oI) :: rest) := .tail _ (.head _)
  conv in (exec _ _) => arg 1; whnf
  k_steps
  rename News _ _ _ _ => N1
  rename Fr _ _ _ _ => F1
  replace N1 := cb_drop N1 (fun p hp => .tail _ hp)
  dsimp only
  clear mI mJ mO
  refine storeX_Cg F1 N1 rfl (uI _ _ _ _) hI ?_ rfl
  intro h2 oI' tk2 F2 N2 dI
  dsimp only
  clear F1 N1
  k_steps
  refine storeX_Cg F2 N2 rfl (uJ _ _ _ _) hJ ?_ rfl
  intro h3 oJ' tk3 F3 N3 dJ
  dsimp only
  clear F2 N2
  k_steps
  exact hret _ _ _ _ _ _ F3 N3 dI dJ
end
end
section
set_option maxRecDepth 100000 in
theorem bits_le {k : Int} (h1 : -(2 ^ 128) < k) (h2 : k < 2 ^ 128) : Builtin.Int.intBits k ≤ 2 ^ 20 := by
  have : Builtin.Int.intBits k ≤ 128 := by
    unfold Builtin.Int.intBits
    split
    · exact Nat.zero_le _
    · have hn : k.natAbs < 2 ^ 128 := by omega
      have : k.natAbs.log2 < 128 := by
        rcases Nat.eq_zero_or_pos k.natAbs with h0 | hp
        · rw [h0]; decide
        · exact (Nat.log2_lt (Nat.ne_of_gt hp)).mpr hn
      omega
  omega
set_option maxRecDepth 100000 in
theorem mulOk {a b : Int} (ha : -(2 ^ 128) < a) (ha' : a < 2 ^ 128) (hb : -(2 ^ 128) < b) (hb' : b < 2 ^ 128) : IntMulOk a b := IntMulOk.of_bits (bits_le ha ha') (bits_le hb hb')
set_option maxRecDepth 100000 in
theorem p30 : P30 = 1000000000000000000000000000000 := by decide
set_option maxRecDepth 100000 in
theorem p20 : P20 = 100000000000000000000 := by decide
set_option maxRecDepth 100000 in
theorem fm_bounds (a : Int) {b : Int} (hb : 0 < b) : 0 ≤ a.fmod b ∧ a.fmod b < b := ⟨Int.fmod_nonneg_of_pos a hb, Int.fmod_lt_of_pos a hb⟩
set_option maxRecDepth 100000 in
theorem off1_of {D : Addr} : ∀ {l : List (Addr × Obj)}, (∀ p ∈ l, p.1 ≠ D) → LCg.Off1 D l
  | [], _ => trivial
  | _ :: _, h => ⟨h _ List.mem_cons_self, off1_of fun p hp => h p (List.mem_cons_of_mem _ hp)⟩
section
variable {prog : Program} {w : World} {K : Frag} {p : Program} {loose : List Str} {mean : ExcName → Option Value} {mg mb : Str → Option Value}
    {dp un : Nat} {gd : Option (List Code)} {a : Addr} {ccd : Value} {outer : List Env} {A₀ : Around} {base h₀ : Heap} {L : Addr} {m : Str → Option Value} {cT cO cJ cI cM : Addr}

set_option maxHeartbeats 4000000 in
set_option maxRecDepth 100000 in
theorem turn {rest : List (Addr × Obj)} {oT oO oJ oI : Obj} {vT vO vJ vI : Option Value} {x : Int} {tx : Tok} {s : Shared} {Q : Flow → Shared → Prop} {E : Value → Shared → Prop} {lM : Addr} {fs : Nat → Addr}
    (B : Below A₀ base outer h₀) (F : Fr h₀ L s.heap m) (X : K.In h₀) (N : News h₀ L s.heap ((cT, oT) :: (cO, oO) :: (cJ, oJ) :: (cI, oI) :: rest)) (T : Top p loose mean mg mb h₀) (ap : Apart cT cO cJ cI rest)
    (g1 : nsIn K mainGlobals (Str.ofString "abs") = some none) (g2 : nsIn K mainGlobals (Str.ofString "isinstance") = some none) (g3 : nsIn K mainGlobals (Str.ofString "bool") = some none)
    (hr : dp + 1 < recursionLimit) (hu : un + 64 < cLine)
    (hMc : CellAt rest cM (.ref lM)) (hl : ∀ k, k < 8 → LamAt k rest (fs k)) (hM : (lM, LCg.lst ((List.range 8).map fun k => .ref (fs k))) ∈ rest)
    (hT : oT.data = .cell vT) (hO : oO.data = .cell vO) (hJ : oJ.data = .cell vJ) (hI : oI.data = .cell vI) (hx : m (Str.ofString "x") = some (.int x tx))
    (hret : ∀ oT' oO' oJ' oI' vT' vO' vJ' vI' h' tk, Fr h₀ L h' m → News h₀ L h' ((cT, oT') :: (cO, oO') :: (cJ, oJ') :: (cI, oI') :: rest) →
      oT'.data = .cell vT' → oO'.data = .cell vO' → oJ'.data = .cell vJ' → oI'.data = .cell vI' → Q .next { s with heap := h', toks := tk }) :
    wpAny (model prog w) (lawA dp un gd L a ccd cT cO cJ cI cM outer) (execs (bodyOf (lawB 1)) (lawE L a ccd cT cO cJ cI cM)) Q E s := by
  show wpAny _ _ (execs [forB 0, forB 1, forB 2, forB 3, forB 4, forB 5, forB 6, forB 7, forB 8] _) Q E s
  refine wpAny_execs_cons (st_0 F X N T ap g1 hO hJ hI hx ?_)
  intro oO1 oJ1 oI1 ti tj t_o h1 tk1 F1 N1 dI dJ dO
  dsimp only
  clear F N
  refine wpAny_execs_cons (st_1 F1 X N1 T ap dO dJ dI ?_)
  intro oJ2 oI2 ti2 tj2 h2 tk2 F2 N2 dI2 dJ2
  dsimp only
  clear F1 N1 dI dJ
  have bi : 0 ≤ (ab x).fmod 41 + ((ab x).fdiv 1763).fmod P30 ∧ (ab x).fmod 41 + ((ab x).fdiv 1763).fmod P30 < 2 ^ 120 := by
    have b1 := fm_bounds (ab x) (b := 41) (by decide)
    have b2 := fm_bounds ((ab x).fdiv 1763) (b := P30) (by decide)
    rw [p30] at b2 ⊢
    omega
  have bj : 0 ≤ ((ab x).fdiv 41).fmod 43 + (((ab x).fdiv 1763).fdiv 7).fmod P20 ∧ ((ab x).fdiv 41).fmod 43 + (((ab x).fdiv 1763).fdiv 7).fmod P20 < 2 ^ 120 := by
    have b1 := fm_bounds ((ab x).fdiv 41) (b := 43) (by decide)
    have b2 := fm_bounds (((ab x).fdiv 1763).fdiv 7) (b := P20) (by decide)
    rw [p20] at b2 ⊢
    omega
  revert dO dI2 dJ2 bi bj
  generalize (ab x).fdiv 1763 = o
  generalize (ab x).fmod 41 + o.fmod P30 = i
  generalize ((ab x).fdiv 41).fmod 43 + (o.fdiv 7).fmod P20 = j
  intro dO dI2 dJ2 bi bj
  have c1 := fm_bounds o (b := 3) (by decide)
  have c2 := fm_bounds (o.fdiv 3) (b := 3) (by decide)
  have hij : IntMulOk i j := mulOk (by omega) (by omega) (by omega) (by omega)
  have hji : IntMulOk j i := mulOk (by omega) (by omega) (by omega) (by omega)
  have h12 : IntMulOk (i + 12 * (1 + o.fmod 3)) j := mulOk (by omega) (by omega) (by omega) (by omega)
  have h21 : IntMulOk i (j + 12 * (1 + (o.fdiv 3).fmod 3)) := mulOk (by omega) (by omega) (by omega) (by omega)
  have h0 : IntMulOk 0 (i + j) := mulOk (by omega) (by omega) (by omega) (by omega)
  have h23 : IntMulOk (i.fdiv 2) (j.fdiv 3) := by
    rw [fd2, fd3]
    exact mulOk (by omega) (by omega) (by omega) (by omega)
  clear bi bj c1 c2
  have offT : LCg.Off1 cT ((cO, oO1) :: (cJ, oJ2) :: (cI, oI2) :: rest) := off1_of (fun p hp => by
    rcases List.mem_cons.mp hp with rfl | hp
    · exact Ne.symm ap.t1
    rcases List.mem_cons.mp hp with rfl | hp
    · exact Ne.symm ap.t2
    rcases List.mem_cons.mp hp with rfl | hp
    · exact Ne.symm ap.t3
    · exact ap.t p hp)
  have up3 : ∀ p ∈ rest, p ∈ ((cO, oO1) :: (cJ, oJ2) :: (cI, oI2) :: rest : List (Addr × Obj)) := fun p hp => .tail _ (.tail _ (.tail _ hp))
  refine wpAny_execs_cons (st_told (lM := lM) (fs := fs) B F2 X N2 T hT offT (CellAt.mono hMc up3) (fun k hk => (hl k hk).mono up3) (up3 _ hM) ⟨oI2, .tail _ (.tail _ (.head _)), dI2⟩ ⟨oJ2, .tail _ (.head _), dJ2⟩ hij hr hu ?_)
  intro D oT3 h3 tk3 F3 N3 offD dT3
  dsimp only
  clear F2 N2 up3 offT
  have up5 : ∀ p ∈ rest, p ∈ ((D, LCg.lst (bools (fun k => mk k i j) 8)) :: (cT, oT3) :: (cO, oO1) :: (cJ, oJ2) :: (cI, oI2) :: rest : List (Addr × Obj)) := fun p hp => .tail _ (.tail _ (.tail _ (.tail _ (.tail _ hp))))
  have kT : CellAt ((D, LCg.lst (bools (fun k => mk k i j) 8)) :: (cT, oT3) :: (cO, oO1) :: (cJ, oJ2) :: (cI, oI2) :: rest) cT (.ref D) := ⟨oT3, .tail _ (.head _), dT3⟩
  have kO : CellAt ((D, LCg.lst (bools (fun k => mk k i j) 8)) :: (cT, oT3) :: (cO, oO1) :: (cJ, oJ2) :: (cI, oI2) :: rest) cO (.int o t_o) := ⟨oO1, .tail _ (.tail _ (.head _)), dO⟩
  have kJ : CellAt ((D, LCg.lst (bools (fun k => mk k i j) 8)) :: (cT, oT3) :: (cO, oO1) :: (cJ, oJ2) :: (cI, oI2) :: rest) cJ (.int j tj2) := ⟨oJ2, .tail _ (.tail _ (.tail _ (.head _))), dJ2⟩
  have kI : CellAt ((D, LCg.lst (bools (fun k => mk k i j) 8)) :: (cT, oT3) :: (cO, oO1) :: (cJ, oJ2) :: (cI, oI2) :: rest) cI (.int i ti2) := ⟨oI2, .tail _ (.tail _ (.tail _ (.tail _ (.head _)))), dI2⟩
  have kM := CellAt.mono hMc up5
  have kl := fun k hk => (hl k hk).mono up5
  have kMl := up5 _ hM
  refine wpAny_execs_cons (st_if3 B F3 X N3 T kM kl kMl kI kJ kO kT (.head _) h12 h21 hr hu ?_)
  intro h4 tk4 F4 N4
  dsimp only
  clear F3 N3
  refine wpAny_execs_cons (st_if4 (b := fun k => mk k i j) F4 X N4 T g2 g3 hu kT (.head _) ?_)
  intro h5 tk5 F5 N5
  dsimp only
  clear F4 N4
  refine wpAny_execs_cons (st_if5 F5 X N5 T kI kJ kT (.head _) ?_)
  intro h6 tk6 F6 N6
  dsimp only
  clear F5 N5
  refine wpAny_execs_cons (st_if6 B F6 X N6 T kI kJ h0 h23 kM kl kMl kT (.head _) hr hu ?_)
  intro h7 tk7 F7 N7
  dsimp only
  clear F6 N6
  refine wpAny_execs_cons (st_if7 F7 X N7 T kI kJ hij kT (.head _) ?_)
  intro h8 tk8 F8 N8
  dsimp only
  clear F7 N7
  refine wpAny_execs_cons (st_if8 B F8 X N8 T kI kJ hji kM kl kMl kT (.head _) hr hu ?_)
  intro h9 tk9 F9 N9
  dsimp only
  refine wpAny_execs_nil ?_
  exact hret oT3 oO1 oJ2 oI2 _ _ _ _ h9 tk9 F9 (cb_drop N9 (fun p hp => .tail _ hp)) dT3 dO dJ2 dI2
end
end
section
def cMk : CP := compParts (valOfS (lawB 0))
set_option maxRecDepth 100000 in
theorem updF_last {P : Addr} {o : Obj} : ∀ {l : List (Addr × Obj)}, (∀ q ∈ l, q.1 ≠ P) → UpdF P o (l ++ [(P, o)]) (fun o' => l ++ [(P, o')])
  | [], _ => .head (fun _ h => nomatch h)
  | q :: r, h => .tail (h q (.head _)) (updF_last fun q' hq' => h q' (.tail _ hq'))
set_option maxRecDepth 100000 in
theorem triples_ok : ∀ l : List (Pos × Addr), TriplesOk (triples l)
  | [] => trivial
  | (_, _) :: r => triples_ok r
set_option maxRecDepth 100000 in
theorem lam_lines : ∀ k, k < 8 → ∀ i, i < k → ¬ ((lam i).2.2.2.line = (lam k).2.2.2.line ∧ (lam i).2.2.2.col = (lam k).2.2.2.col) := by decide
section
variable {prog : Program} {w : World} {K : Frag} {p : Program} {loose : List Str} {mean : ExcName → Option Value} {mg mb : Str → Option Value}
    {dp un : Nat} {gd : Option (List Code)} {a : Addr} {ccd : Value} {outer : List Env} {A₀ : Around} {base h₀ : Heap} {L : Addr} {m : Str → Option Value} {cT cO cJ cI cM : Addr}

/- what the written part says of mask_func -/
structure MaskIn (K : Frag) (h₀ : Heap) (fM c P : Addr) : Prop where
  ns : nsIn K mainGlobals (Str.ofString "mask_func") = some (some (.ref fM))
  keep : keepIn K (.ref fM) = true
  obj : ∃ oc od doc pm an ct osl, K.lookup fM = some ⟨oc, od, .func (maskFn doc pm an c ct), osl⟩
  code : codeIn K (.ref c) (Str.ofString "mask_func") = true
  hd : CodeHd h₀ c P

local macro_rules | `(tactic| k_mem) => `(tactic| assumption)
local macro_rules | `(tactic| k_is) => `(tactic| assumption)
local macro_rules | `(tactic| walk_at "call ref") => `(tactic| (refine mask_call _ (by assumption) (by assumption) (by assumption) (by assumption) (by assumption) (by assumption) rfl (by assumption) (by assumption) (by assumption) (by assumption) (by assumption) (by assumption) (by assumption) (by assumption) ?_; intro f' c' oc' vs' t' ctv' h' tk' F' N' d1' d2' l1' l2'))

set_option maxRecDepth 100000 in
theorem elt_make {news : List (Addr × Obj)} {g : Obj → List (Addr × Obj)} {fM c P C : Addr} {oC : Obj} {m₂ : Str → Option Value} {ps : Array Value} {k : Nat} {tk : Tok} {s : Shared} {Q E : Value → Shared → Prop}
    (B : Below A₀ base outer h₀) (F : Fr h₀ L s.heap m) (X : K.In h₀) (N : News h₀ L s.heap news) (T : Top p loose mean mg mb h₀) (MI : MaskIn K h₀ fM c P)
    (hk : k < 8) (U : UpdF P (tabObj ps) news g) (ht : TriplesOk ps.toList) (hn : codeAmong (lam k).2.2.2 ps.toList = none)
    (hC : (C, oC) ∈ news) (hN : LCg.NsObj oC m₂) (hm : m₂ (Str.ofString "k") = some (.int (k : Int) tk))
    (hr : dp + 1 < recursionLimit) (hu : un + 64 < cLine)
    (hret : ∀ f' c' oc vs t ctv h' tk, Fr h₀ L h' m → News h₀ L h' ((f', lamObj k ((mg (Str.ofString "__name__")).getD .none) c' ctv) :: (c', oc) :: g (tabObj (ps ++ #[rawInt (lam k).2.2.2.line, rawInt (lam k).2.2.2.col, .ref c']))) →
      oc.data = .fields vs → vs[1]? = some (.str lamQ t) → (∀ q ∈ news, q.1 < c') → c' < f' → Q (.ref f') { s with heap := h', toks := tk }) :
    wpAny (model prog w) (lawA dp un gd L a ccd cT cO cJ cI cM outer) (eval cMk.elt (compEnvC cMk.scope [] C (lawE L a ccd cT cO cJ cI cM))) Q E s := by
  obtain ⟨m1, m2, ⟨oc, od, doc, pm, an, ct, osl, m3⟩, m4, m5⟩ := MI
  conv in (eval _ _) => arg 1; whnf
  k_steps
  exact hret _ _ _ _ _ _ _ _ (by assumption) (by assumption) (by assumption) (by assumption) (by assumption) (by assumption)

set_option maxRecDepth 100000 in
theorem rest_make {bs : List (Addr × Obj)} {fM c P : Addr} {s : Shared} {Fin : List Value → List (Addr × Obj) → Prop}
    (B : Below A₀ base outer h₀) (X : K.In h₀) (T : Top p loose mean mg mb h₀) (MI : MaskIn K h₀ fM c P)
    (hr : dp + 1 < recursionLimit) (hu : un + 64 < cLine)
    (hF : ∀ (fs : List Addr) (ps : Array Value) (made : List (Addr × Obj)), fs.length = 8 → (∀ n f, fs[n]? = some f → LamAt n made f) → (∀ q ∈ made, ∀ b ∈ bs, b.1 < q.1) → Fin (fs.map Value.ref) (made ++ (bs ++ [(P, tabObj ps)]))) :
    ∀ (k i : Nat) (fs : List Addr) (l : List (Pos × Addr)) (made : List (Addr × Obj)), k + i = 8 → fs.length = i → l.map (·.1) = (List.range i).map (fun n => (lam n).2.2.2) →
      (∀ q ∈ made, q.1 ≠ P) → (∀ q ∈ bs, q.1 ≠ P) → (∀ n f, fs[n]? = some f → LamAt n made f) → (∀ q ∈ made, ∀ b ∈ bs, b.1 < q.1) →
      LCg.CompRest prog w (lawA dp un gd L a ccd cT cO cJ cI cM outer) h₀ L m (lawE L a ccd cT cO cJ cI cM) cMk.elt cMk.x cMk.scope [] s (fun _ => True) (fun i v => ∃ t, v = .int (0 + (i : Int)) t) Fin k i (fs.map Value.ref) (made ++ (bs ++ [(P, tabObj (triples l).toArray)])) := by
  intro k
  induction k with
  | zero =>
    intro i fs l made hi hfs hl hm hb hla hlt
    exact LCg.CompRest.zero (hF fs _ made (by omega) hla hlt)
  | succ k ih =>
    intro i fs l made hi hfs hl hm hb hla hlt
    refine LCg.CompRest.succ ?_
    rintro v I oI C oC D m₂ h tk E' ⟨t, rfl⟩ hN hx F N off ne
    have off3 := off.mem
    have hx' : m₂ (Str.ofString "k") = some (.int (i : Int) t) := by
      have : m₂ (Str.ofString "k") = some (.int (0 + (i : Int)) t) := hx
      rw [Int.zero_add] at this
      exact this
    have hP := off3 (P, tabObj (triples l).toArray) (List.mem_append_right _ (List.mem_append_right _ (.head _)))
    have U : UpdF P (tabObj (triples l).toArray) (((I, oI) :: (C, oC) :: (D, LCg.lst (fs.map Value.ref)) :: (made ++ bs)) ++ [(P, tabObj (triples l).toArray)]) (fun o' => ((I, oI) :: (C, oC) :: (D, LCg.lst (fs.map Value.ref)) :: (made ++ bs)) ++ [(P, o')]) := updF_last (fun q hq => by
      rcases List.mem_cons.mp hq with rfl | hq
      · exact Ne.symm hP.1
      rcases List.mem_cons.mp hq with rfl | hq
      · exact Ne.symm hP.2.1
      rcases List.mem_cons.mp hq with rfl | hq
      · exact Ne.symm hP.2.2
      rcases List.mem_append.mp hq with hq | hq
      · exact hm q hq
      · exact hb q hq)
    have N' : News h₀ L h (((I, oI) :: (C, oC) :: (D, LCg.lst (fs.map Value.ref)) :: (made ++ bs)) ++ [(P, tabObj (triples l).toArray)]) := by
      refine cb_drop N ?_
      intro q hq
      simpa only [List.cons_append, List.append_assoc] using hq
    refine elt_make B F X N' T MI (by omega) U (triples_ok l) (codeAmong_triples _ l ?_) (.tail _ (.head _)) hN hx' hr hu ?_
    · intro q hq
      have h1 : q.1 ∈ l.map (·.1) := List.mem_map_of_mem hq
      rw [hl] at h1
      obtain ⟨n, hn, e⟩ := List.mem_map.mp h1
      rw [← e]
      exact lam_lines i (by omega) n (List.mem_range.mp hn)
    · intro f' c' oc vs t' ctv h' tk' F' N2 d1 d2 l1 l2
      have hI1 : I < c' := l1 (I, oI) (.head _)
      have hC1 : C < c' := l1 (C, oC) (.tail _ (.head _))
      have hD1 : D < c' := l1 (D, LCg.lst (fs.map Value.ref)) (.tail _ (.tail _ (.head _)))
      have hP1 : P < c' := l1 (P, tabObj (triples l).toArray) (List.mem_append_right _ (.head _))
      have hb1 : ∀ b ∈ bs, b.1 < c' := fun b hb => l1 b (List.mem_append_left _ (.tail _ (.tail _ (.tail _ (List.mem_append_right _ hb)))))
      have e : (triples (l ++ [((lam i).2.2.2, c')])).toArray = (triples l).toArray ++ #[rawInt (lam i).2.2.2.line, rawInt (lam i).2.2.2.col, .ref c'] := by
        rw [triples_append]; simp
      rw [← e] at N2
      refine LCg.CompEnd.intro F' N2 ((f', lamObj i ((mg (Str.ofString "__name__")).getD .none) c' ctv) :: (c', oc) :: made ++ (bs ++ [(P, tabObj (triples (l ++ [((lam i).2.2.2, c')])).toArray)])) ?_ ?_ trivial ?_
      · intro q hq
        simp only [List.mem_cons, List.mem_append, List.cons_append] at hq ⊢
        rcases hq with rfl | rfl | rfl | hq
        · exact .inr (.inr (.inl rfl))
        · exact .inr (.inr (.inr (.inl rfl)))
        · exact .inr (.inr (.inr (.inr (.inl rfl))))
        · rcases hq with rfl | rfl | hq | hq | hq
          · exact .inl rfl
          · exact .inr (.inl rfl)
          · exact .inr (.inr (.inr (.inr (.inr (.inl (.inl hq))))))
          · exact .inr (.inr (.inr (.inr (.inr (.inl (.inr hq))))))
          · exact .inr (.inr (.inr (.inr (.inr (.inr hq)))))
      · refine LCg.Off3.of ?_
        intro q hq
        simp only [List.mem_cons, List.mem_append, List.cons_append] at hq
        rcases hq with rfl | rfl | hq | hq | hq
        · exact ⟨Nat.ne_of_gt (Nat.lt_trans hI1 l2), Nat.ne_of_gt (Nat.lt_trans hC1 l2), Nat.ne_of_gt (Nat.lt_trans hD1 l2)⟩
        · exact ⟨Nat.ne_of_gt hI1, Nat.ne_of_gt hC1, Nat.ne_of_gt hD1⟩
        · exact off3 q (List.mem_append_left _ hq)
        · exact off3 q (List.mem_append_right _ (List.mem_append_left _ hq))
        · rcases hq with rfl | hq
          · exact hP
          · exact nomatch hq
      · have e2 : fs.map Value.ref ++ [Value.ref f'] = (fs ++ [f']).map Value.ref := by simp
        rw [e2]
        refine ih (i + 1) (fs ++ [f']) (l ++ [((lam i).2.2.2, c')]) _ (by omega) (by simp [hfs]) ?_ ?_ hb ?_ ?_
        · rw [List.map_append, hl, List.range_succ, List.map_append]; rfl
        · intro q hq
          rcases List.mem_cons.mp hq with rfl | hq
          · exact Nat.ne_of_gt (Nat.lt_trans hP1 l2)
          rcases List.mem_cons.mp hq with rfl | hq
          · exact Nat.ne_of_gt hP1
          · exact hm q hq
        · intro n f hf
          rw [List.getElem?_append] at hf
          split at hf
          · exact (hla n f hf).mono (fun q hq => .tail _ (.tail _ hq))
          · have hn : n = i := by
              have := List.getElem?_eq_some_iff.mp hf
              obtain ⟨h1, _⟩ := this
              simp at h1
              omega
            subst hn
            have : f' = f := by simpa [hfs] using hf
            subst this
            exact ⟨_, c', ctv, oc, vs, t', .head _, .tail _ (.head _), d1, d2⟩
        · intro q hq b hbm
          rcases List.mem_cons.mp hq with rfl | hq
          · exact Nat.lt_trans (hb1 b hbm) l2
          rcases List.mem_cons.mp hq with rfl | hq
          · exact hb1 b hbm
          · exact hlt q hq b hbm
end
end
section
section
variable {prog : Program} {w : World} {K : Frag} {p : Program} {loose : List Str} {mean : ExcName → Option Value} {mg mb : Str → Option Value}
    {dp un : Nat} {gd : Option (List Code)} {a : Addr} {ccd : Value} {outer : List Env} {A₀ : Around} {base h₀ : Heap} {L : Addr} {m : Str → Option Value} {cT cO cJ cI cM : Addr}
local macro_rules | `(tactic| k_mem) => `(tactic| assumption)
local macro_rules | `(tactic| k_is) => `(tactic| assumption)

set_option maxRecDepth 100000 in
theorem comp_mk {bs : List (Addr × Obj)} {fM c P : Addr} {s : Shared} {Q E : Value → Shared → Prop}
    (B : Below A₀ base outer h₀) (F : Fr h₀ L s.heap m) (X : K.In h₀) (N : News h₀ L s.heap (bs ++ [(P, tabObj #[])])) (T : Top p loose mean mg mb h₀) (MI : MaskIn K h₀ fM c P)
    (g1 : nsIn K mainGlobals (Str.ofString "range") = some none) (hb : ∀ q ∈ bs, q.1 ≠ P)
    (hr : dp + 1 < recursionLimit) (hu : un + 64 < cLine)
    (hret : ∀ D h' tk (fs : List Addr) (ps : Array Value) (made : List (Addr × Obj)), fs.length = 8 → (∀ n f, fs[n]? = some f → LamAt n made f) → (∀ q ∈ made, ∀ b ∈ bs, b.1 < q.1) →
      Fr h₀ L h' m → News h₀ L h' ((D, LCg.lst (fs.map Value.ref)) :: (made ++ (bs ++ [(P, tabObj ps)]))) → LCg.Off1 D (made ++ (bs ++ [(P, tabObj ps)])) → Q (.ref D) { s with heap := h', toks := tk }) :
    wpAny (model prog w) (lawA dp un gd L a ccd cT cO cJ cI cM outer) (eval (valOfS (lawB 0)) (lawE L a ccd cT cO cJ cI cM)) Q E s := by
  show wpAny _ _ (eval (.ListComp cMk.elt [⟨.Name cMk.x cMk.px, cMk.iter, [], 0⟩] cMk.scope cMk.pos) _) _ _ _
  refine LCg.ListComp_U F rfl (by decide) rfl (by decide) rfl ?_ (by intro _; rfl)
  conv in (eval _ _) => arg 1; whnf
  iterate 7 walk1
  refine LCg.CompSrc.range (n := 8) rfl (by assumption) (by assumption) (by assumption) (by decide) rfl (by decide) ?_
  intro g'
  refine rest_make (bs := bs) (P := P) B X T MI hr hu ?_ 8 0 [] [] [] rfl rfl rfl (fun _ h => nomatch h) hb (fun _ _ h => nomatch h) (fun _ h => nomatch h)
  intro fs ps made h8 hla hlt
  unfold LCg.FinE
  intro D h tk F' N' off
  exact hret D h tk fs ps made h8 hla hlt F' N' off

set_option maxRecDepth 100000 in
theorem st_masks {oT oO oJ oI oM : Obj} {vM : Option Value} {fM c P : Addr} {s : Shared} {Q : Flow → Shared → Prop} {E : Value → Shared → Prop}
    (B : Below A₀ base outer h₀) (F : Fr h₀ L s.heap m) (X : K.In h₀) (N : News h₀ L s.heap ([(cT, oT), (cO, oO), (cJ, oJ), (cI, oI), (cM, oM)] ++ [(P, tabObj #[])])) (T : Top p loose mean mg mb h₀) (MI : MaskIn K h₀ fM c P)
    (g1 : nsIn K mainGlobals (Str.ofString "range") = some none) (hP : ∀ q ∈ [(cT, oT), (cO, oO), (cJ, oJ), (cI, oI), (cM, oM)], q.1 ≠ P) (hd : cT ≠ cO ∧ cT ≠ cJ ∧ cT ≠ cI ∧ cT ≠ cM ∧ cO ≠ cJ ∧ cO ≠ cI ∧ cO ≠ cM ∧ cJ ≠ cI ∧ cJ ≠ cM ∧ cI ≠ cM)
    (hoM : oM.data = .cell vM) (hr : dp + 1 < recursionLimit) (hu : un + 64 < cLine)
    (hret : ∀ D oM' h' tk (ps : Array Value) (fs : List Addr) (made : List (Addr × Obj)), fs.length = 8 → (∀ n f, fs[n]? = some f → LamAt n made f) → oM'.data = .cell (some (.ref D)) →
      Fr h₀ L h' m → News h₀ L h' ((cT, oT) :: (cO, oO) :: (cJ, oJ) :: (cI, oI) :: ((cM, oM') :: (D, LCg.lst (fs.map Value.ref)) :: (P, tabObj ps) :: made)) → Apart cT cO cJ cI ((cM, oM') :: (D, LCg.lst (fs.map Value.ref)) :: (P, tabObj ps) :: made) → Q .next { s with heap := h', toks := tk }) :
    wpAny (model prog w) (lawA dp un gd L a ccd cT cO cJ cI cM outer) (exec (lawB 0) (lawE L a ccd cT cO cJ cI cM)) Q E s := by
  conv in (exec _ _) => arg 1; whnf
  walk1
  refine comp_mk B F X N T MI g1 hP hr hu ?_
  intro D h' tk fs ps made h8 hla hlt F' N' off
  obtain ⟨d1, d2, d3, d4, d5, d6, d7, d8, d9, d10⟩ := hd
  have offm := Off1.mem off
  have mb : ∀ b ∈ [(cT, oT), (cO, oO), (cJ, oJ), (cI, oI), (cM, oM)], b ∈ made ++ ([(cT, oT), (cO, oO), (cJ, oJ), (cI, oI), (cM, oM)] ++ [(P, tabObj ps)]) := fun b hb => List.mem_append_right _ (List.mem_append_left _ hb)
  have lT := fun q hq => Nat.ne_of_gt (hlt q hq (cT, oT) (.head _))
  have lO := fun q hq => Nat.ne_of_gt (hlt q hq (cO, oO) (.tail _ (.head _)))
  have lJ := fun q hq => Nat.ne_of_gt (hlt q hq (cJ, oJ) (.tail _ (.tail _ (.head _))))
  have lI := fun q hq => Nat.ne_of_gt (hlt q hq (cI, oI) (.tail _ (.tail _ (.tail _ (.head _)))))
  have lM := fun q hq => Nat.ne_of_gt (hlt q hq (cM, oM) (.tail _ (.tail _ (.tail _ (.tail _ (.head _))))))
  have eT := offm _ (mb _ (.head _))
  have eO := offm _ (mb _ (.tail _ (.head _)))
  have eJ := offm _ (mb _ (.tail _ (.tail _ (.head _))))
  have eI := offm _ (mb _ (.tail _ (.tail _ (.tail _ (.head _)))))
  have eM := offm _ (mb _ (.tail _ (.tail _ (.tail _ (.tail _ (.head _))))))
  have N2 : News h₀ L h' ((cT, oT) :: (cO, oO) :: (cJ, oJ) :: (cI, oI) :: ((cM, oM) :: (D, LCg.lst (fs.map Value.ref)) :: (P, tabObj ps) :: made)) := by
    refine cb_drop N' ?_
    intro q hq
    simp only [List.mem_cons, List.mem_append, List.cons_append] at hq ⊢
    rcases hq with rfl | rfl | rfl | rfl | rfl | rfl | rfl | hq
    · exact .inr (.inr (.inl rfl))
    · exact .inr (.inr (.inr (.inl rfl)))
    · exact .inr (.inr (.inr (.inr (.inl rfl))))
    · exact .inr (.inr (.inr (.inr (.inr (.inl rfl)))))
    · exact .inr (.inr (.inr (.inr (.inr (.inr (.inl rfl))))))
    · exact .inl rfl
    · exact .inr (.inr (.inr (.inr (.inr (.inr (.inr (.inr (.inl rfl))))))))
    · exact .inr (.inl hq)
  have U : UpdF cM oM ((cT, oT) :: (cO, oO) :: (cJ, oJ) :: (cI, oI) :: ((cM, oM) :: (D, LCg.lst (fs.map Value.ref)) :: (P, tabObj ps) :: made)) (fun o' => (cT, oT) :: (cO, oO) :: (cJ, oJ) :: (cI, oI) :: ((cM, o') :: (D, LCg.lst (fs.map Value.ref)) :: (P, tabObj ps) :: made)) :=
    .tail d4 (.tail d7 (.tail d9 (.tail d10 (.head (fun q hq => by
      rcases List.mem_cons.mp hq with rfl | hq
      · exact Ne.symm eM
      rcases List.mem_cons.mp hq with rfl | hq
      · exact Ne.symm (hP _ (.tail _ (.tail _ (.tail _ (.tail _ (.head _))))))
      · exact lM q hq)))))
  refine storeX_C F' N2 rfl U hoM ?_
  intro h'' oM' F'' N'' hd'
  refine hret D oM' h'' tk ps fs made h8 hla hd' F'' N'' ⟨d1, d2, d3, d5, d6, d8, ?_, ?_, ?_, ?_⟩
  all_goals (
    intro q hq
    rcases List.mem_cons.mp hq with rfl | hq
    · first | exact Ne.symm d4 | exact Ne.symm d7 | exact Ne.symm d9 | exact Ne.symm d10
    rcases List.mem_cons.mp hq with rfl | hq
    · first | exact Ne.symm eT | exact Ne.symm eO | exact Ne.symm eJ | exact Ne.symm eI
    rcases List.mem_cons.mp hq with rfl | hq
    · first | exact Ne.symm (hP (cT, oT) (.head _)) | exact Ne.symm (hP (cO, oO) (.tail _ (.head _))) | exact Ne.symm (hP (cJ, oJ) (.tail _ (.tail _ (.head _)))) | exact Ne.symm (hP (cI, oI) (.tail _ (.tail _ (.tail _ (.head _)))))
    · first | exact lT q hq | exact lO q hq | exact lJ q hq | exact lI q hq)
end
end
section
section
variable {prog : Program} {w : World} {K : Frag} {p : Program} {loose : List Str} {mean : ExcName → Option Value} {mg mb : Str → Option Value}
    {dp un : Nat} {gd : Option (List Code)} {a : Addr} {ccd : Value} {outer : List Env} {A₀ : Around} {base h₀ : Heap} {L : Addr} {m : Str → Option Value} {cT cO cJ cI cM : Addr}
local macro_rules | `(tactic| k_mem) => `(tactic| assumption)
local macro_rules | `(tactic| k_is) => `(tactic| assumption)
local macro_rules | `(tactic| walk_at "eval Name") => `(tactic| (k_dflt (refine nameX_L (by assumption) (by assumption) ?_)))

set_option maxRecDepth 100000 in
theorem ev_iter {news : List (Addr × Obj)} {l : Addr} {vs : List Value} {ns : List Int} {s : Shared} {Q E : Value → Shared → Prop}
    (F : Fr h₀ L s.heap m) (X : K.In h₀) (N : News h₀ L s.heap news) (T : Top p loose mean mg mb h₀)
    (g1 : nsIn K mainGlobals (Str.ofString "max") = some none) (g2 : nsIn K mainGlobals (Str.ofString "len") = some none)
    (hs : m (Str.ofString "script") = some (.ref l)) (hl : h₀.IsList l vs.toArray) (hi : IntsAre vs ns) (hn : ns.length ≤ 63) (hu : un + 64 < cLine)
    (hret : ∀ D its nn ns' h' tk, Fr h₀ L h' m → News h₀ L h' ((D, PySem.W.listOf (List.toArray its) nn) :: news) → IntsAre its ns' → Q (.ref D) { s with heap := h', toks := tk }) :
    wpAny (model prog w) (lawA dp un gd L a ccd cT cO cJ cI cM outer) (eval (valOfS (lawB 1)) (lawE L a ccd cT cO cJ cI cM)) Q E s := by
  conv in (eval _ _) => arg 1; whnf
  k_steps
  rename News _ _ _ _ => N1
  rename Fr _ _ _ _ => F1
  rename IntsAre _ _ => i1
  replace N1 : News h₀ L _ (_ :: news) := cb_drop N1 (fun p hp => by
    rcases List.mem_cons.mp hp with h | hp
    · rw [h]; exact .head _
    · exact .tail _ (.tail _ (.tail _ (.tail _ (.tail _ hp)))))
  dsimp only
  exact hret _ _ _ _ _ _ F1 N1 i1
end
end
section
def forPx : Stmt → Pos
  | .For (.Name _ px) _ _ _ _ => px
  | _ => nopos
set_option maxRecDepth 100000 in
theorem Apart.app {cT cO cJ cI : Addr} {l r : List (Addr × Obj)} (x : Apart cT cO cJ cI l) (h : ∀ p ∈ r, p.1 ≠ cT ∧ p.1 ≠ cO ∧ p.1 ≠ cJ ∧ p.1 ≠ cI) : Apart cT cO cJ cI (l ++ r) :=
  ⟨x.t1, x.t2, x.t3, x.o1, x.o2, x.j1,
    fun p hp => (List.mem_append.mp hp).elim (x.t p) (fun hp => (h p hp).1),
    fun p hp => (List.mem_append.mp hp).elim (x.o p) (fun hp => (h p hp).2.1),
    fun p hp => (List.mem_append.mp hp).elim (x.j p) (fun hp => (h p hp).2.2.1),
    fun p hp => (List.mem_append.mp hp).elim (x.i p) (fun hp => (h p hp).2.2.2)⟩
set_option maxRecDepth 100000 in
theorem Apart.cons {cT cO cJ cI : Addr} {l : List (Addr × Obj)} {q : Addr × Obj} (x : Apart cT cO cJ cI l) (h : q.1 ≠ cT ∧ q.1 ≠ cO ∧ q.1 ≠ cJ ∧ q.1 ≠ cI) : Apart cT cO cJ cI (q :: l) :=
  ⟨x.t1, x.t2, x.t3, x.o1, x.o2, x.j1,
    fun p hp => (List.mem_cons.mp hp).elim (fun e => e ▸ h.1) (x.t p),
    fun p hp => (List.mem_cons.mp hp).elim (fun e => e ▸ h.2.1) (x.o p),
    fun p hp => (List.mem_cons.mp hp).elim (fun e => e ▸ h.2.2.1) (x.j p),
    fun p hp => (List.mem_cons.mp hp).elim (fun e => e ▸ h.2.2.2) (x.i p)⟩
set_option maxRecDepth 100000 in
theorem ne_cell {h₀ h : Heap} {L : Addr} {news : List (Addr × Obj)} {D c : Addr} {oD o : Obj} {v : Option Value} {its : Array Value} {n : Nat} (N : News h₀ L h news) (h1 : (D, oD) ∈ news) (h2 : (c, o) ∈ news) (hd : oD.data = .seq its n) (hv : o.data = .cell v) : D ≠ c := by
  rintro rfl
  have e1 := N.get h1
  have e2 := N.get h2
  rw [e1] at e2
  cases e2
  rw [hd] at hv
  cases hv
section
variable {prog : Program} {w : World} {K : Frag} {p : Program} {loose : List Str} {mean : ExcName → Option Value} {mg mb : Str → Option Value}
    {dp un : Nat} {gd : Option (List Code)} {a : Addr} {ccd : Value} {outer : List Env} {A₀ : Around} {base h₀ : Heap} {L : Addr} {m : Str → Option Value} {cT cO cJ cI cM : Addr}

set_option maxRecDepth 100000 in
theorem st_for {rest : List (Addr × Obj)} {oT oO oJ oI : Obj} {vT vO vJ vI : Option Value} {s : Shared} {Q : Flow → Shared → Prop} {lM : Addr} {fs : Nat → Addr} {l : Addr} {vs : List Value} {ns : List Int}
    (B : Below A₀ base outer h₀) (F : Fr h₀ L s.heap m) (X : K.In h₀) (N : News h₀ L s.heap ((cT, oT) :: (cO, oO) :: (cJ, oJ) :: (cI, oI) :: rest)) (T : Top p loose mean mg mb h₀) (ap : Apart cT cO cJ cI rest)
    (g1 : nsIn K mainGlobals (Str.ofString "abs") = some none) (g2 : nsIn K mainGlobals (Str.ofString "isinstance") = some none) (g3 : nsIn K mainGlobals (Str.ofString "bool") = some none)
    (g4 : nsIn K mainGlobals (Str.ofString "max") = some none) (g5 : nsIn K mainGlobals (Str.ofString "len") = some none)
    (hr : dp + 1 < recursionLimit) (hu : un + 64 < cLine)
    (hMc : CellAt rest cM (.ref lM)) (hl : ∀ k, k < 8 → LamAt k rest (fs k)) (hM : (lM, LCg.lst ((List.range 8).map fun k => .ref (fs k))) ∈ rest)
    (hT : oT.data = .cell vT) (hO : oO.data = .cell vO) (hJ : oJ.data = .cell vJ) (hI : oI.data = .cell vI)
    (hs : m (Str.ofString "script") = some (.ref l)) (hls : h₀.IsList l vs.toArray) (hi : IntsAre vs ns) (hn : ns.length ≤ 63)
    (hret : ∀ m' news' h' tk, Fr h₀ L h' m' → News h₀ L h' news' → (∀ q ∈ rest, q ∈ news') → Q .next { s with heap := h', toks := tk }) :
    wpAny (model prog w) (lawA dp un gd L a ccd cT cO cJ cI cM outer) (exec (lawB 1) (lawE L a ccd cT cO cJ cI cM)) Q (fun _ _ => False) s := by
  show wpAny _ _ (exec (.For (.Name (Str.ofString "x") (forPx (lawB 1))) (valOfS (lawB 1)) (bodyOf (lawB 1)) [] _) _) Q _ s
  refine For_invV h₀ rfl rfl ?_ (by intro _; rfl) PassesOwn.never
  refine ev_iter F X N T g4 g5 hs hls hi hn hu ?_
  intro D its nn ns' h1 tk1 F1 N1 hi1
  have mT : (cT, oT) ∈ ((D, PySem.W.listOf its.toArray nn) :: (cT, oT) :: (cO, oO) :: (cJ, oJ) :: (cI, oI) :: rest) := .tail _ (.head _)
  have mO : (cO, oO) ∈ ((D, PySem.W.listOf its.toArray nn) :: (cT, oT) :: (cO, oO) :: (cJ, oJ) :: (cI, oI) :: rest) := .tail _ (.tail _ (.head _))
  have mJ : (cJ, oJ) ∈ ((D, PySem.W.listOf its.toArray nn) :: (cT, oT) :: (cO, oO) :: (cJ, oJ) :: (cI, oI) :: rest) := .tail _ (.tail _ (.tail _ (.head _)))
  have mI : (cI, oI) ∈ ((D, PySem.W.listOf its.toArray nn) :: (cT, oT) :: (cO, oO) :: (cJ, oJ) :: (cI, oI) :: rest) := .tail _ (.tail _ (.tail _ (.tail _ (.head _))))
  have ap1 : Apart cT cO cJ cI ((D, PySem.W.listOf its.toArray nn) :: rest) := ap.cons ⟨ne_cell N1 (.head _) mT rfl hT, ne_cell N1 (.head _) mO rfl hO, ne_cell N1 (.head _) mJ rfl hJ, ne_cell N1 (.head _) mI rfl hI⟩
  clear mT mO mJ mI
  have N2 : News h₀ L h1 ((cT, oT) :: (cO, oO) :: (cJ, oJ) :: (cI, oI) :: (D, PySem.W.listOf its.toArray nn) :: rest) := by
    refine cb_drop N1 ?_
    intro q hq
    simp only [List.mem_cons] at hq ⊢
    rcases hq with h | h | h | h | h | h
    · exact .inr (.inl h)
    · exact .inr (.inr (.inl h))
    · exact .inr (.inr (.inr (.inl h)))
    · exact .inr (.inr (.inr (.inr (.inl h))))
    · exact .inl h
    · exact .inr (.inr (.inr (.inr (.inr h))))
  clear N1
  refine iter_invNL (news := (cT, oT) :: (cO, oO) :: (cJ, oJ) :: (cI, oI) :: (D, PySem.W.listOf its.toArray nn) :: rest)
    (fun _ _ nx => ∃ oT' oO' oJ' oI' vT' vO' vJ' vI', nx = (cT, oT') :: (cO, oO') :: (cJ, oJ') :: (cI, oI') :: (D, PySem.W.listOf its.toArray nn) :: rest ∧ oT'.data = .cell vT' ∧ oO'.data = .cell vO' ∧ oJ'.data = .cell vJ' ∧ oI'.data = .cell vI')
    rfl (.tail _ (.tail _ (.tail _ (.tail _ (.head _))))) hi1 F1 N2 ⟨oT, oO, oJ, oI, vT, vO, vJ, vI, rfl, hT, hO, hJ, hI⟩ ?_ ?_
  · rintro i n t m₁ news₁ h tk own hin hadr hsep hmem ⟨oT1, oO1, oJ1, oI1, vT1, vO1, vJ1, vI1, rfl, dT1, dO1, dJ1, dI1⟩ F3 N3
    have ap3 : Apart cT cO cJ cI (((D, PySem.W.listOf its.toArray nn) :: rest) ++ own) := ap1.app (fun p hp => ⟨hsep p hp cT (.head _), hsep p hp cO (.tail _ (.head _)), hsep p hp cJ (.tail _ (.tail _ (.head _))), hsep p hp cI (.tail _ (.tail _ (.tail _ (.head _))))⟩)
    have up : ∀ q ∈ rest, q ∈ ((D, PySem.W.listOf its.toArray nn) :: rest) ++ own := fun q hq => List.mem_append_left _ (.tail _ hq)
    refine turn (rest := ((D, PySem.W.listOf its.toArray nn) :: rest) ++ own) (x := n) (tx := t) (lM := lM) (fs := fs) B F3 X N3 T ap3 g1 g2 g3 hr hu (CellAt.mono hMc up) (fun k hk => (hl k hk).mono up) (up _ hM) dT1 dO1 dJ1 dI1 (if_pos rfl) ?_
    intro oT2 oO2 oJ2 oI2 vT2 vO2 vJ2 vI2 h2 tk2 F4 N4 dT2 dO2 dJ2 dI2
    refine ⟨h2, tk2, _, _, (cT, oT2) :: (cO, oO2) :: (cJ, oJ2) :: (cI, oI2) :: (D, PySem.W.listOf its.toArray nn) :: rest, rfl, F4, N4, ?_, ?_, rfl, .tail _ (.tail _ (.tail _ (.tail _ (.head _)))), oT2, oO2, oJ2, oI2, vT2, vO2, vJ2, vI2, rfl, dT2, dO2, dJ2, dI2⟩
    · intro q hq
      exact List.mem_append_left own hq
    · intro q hq
      exact List.mem_append_right ((cT, oT2) :: (cO, oO2) :: (cJ, oJ2) :: (cI, oI2) :: (D, PySem.W.listOf its.toArray nn) :: rest) hq
  · rintro m₁ news₁ h tk _ ⟨oT1, oO1, oJ1, oI1, vT1, vO1, vJ1, vI1, rfl, _⟩ F3 N3
    exact hret m₁ _ h tk F3 N3 (fun q hq => .tail _ (.tail _ (.tail _ (.tail _ (.tail _ hq)))))
end
end
section
section
variable {prog : Program} {w : World} {K : Frag} {p : Program} {loose : List Str} {mean : ExcName → Option Value} {mg mb : Str → Option Value}
    {dp un : Nat} {gd : Option (List Code)} {a : Addr} {ccd : Value} {outer : List Env} {A₀ : Around} {base h₀ : Heap} {L : Addr} {m : Str → Option Value} {cT cO cJ cI cM : Addr}

set_option maxRecDepth 100000 in
theorem law_body {oT oO oJ oI oM : Obj} {vT vO vJ vI vM : Option Value} {s : Shared} {Q : Flow → Shared → Prop} {E : Value → Shared → Prop} {fM c P : Addr} {l : Addr} {vs : List Value} {ns : List Int}
    (B : Below A₀ base outer h₀) (F : Fr h₀ L s.heap m) (X : K.In h₀) (N : News h₀ L s.heap ([(cT, oT), (cO, oO), (cJ, oJ), (cI, oI), (cM, oM)] ++ [(P, tabObj #[])])) (T : Top p loose mean mg mb h₀) (MI : MaskIn K h₀ fM c P)
    (g1 : nsIn K mainGlobals (Str.ofString "abs") = some none) (g2 : nsIn K mainGlobals (Str.ofString "isinstance") = some none) (g3 : nsIn K mainGlobals (Str.ofString "bool") = some none)
    (g4 : nsIn K mainGlobals (Str.ofString "max") = some none) (g5 : nsIn K mainGlobals (Str.ofString "len") = some none) (g6 : nsIn K mainGlobals (Str.ofString "range") = some none)
    (hP : ∀ q ∈ [(cT, oT), (cO, oO), (cJ, oJ), (cI, oI), (cM, oM)], q.1 ≠ P) (hd : cT ≠ cO ∧ cT ≠ cJ ∧ cT ≠ cI ∧ cT ≠ cM ∧ cO ≠ cJ ∧ cO ≠ cI ∧ cO ≠ cM ∧ cJ ≠ cI ∧ cJ ≠ cM ∧ cI ≠ cM)
    (hT : oT.data = .cell vT) (hO : oO.data = .cell vO) (hJ : oJ.data = .cell vJ) (hI : oI.data = .cell vI) (hM : oM.data = .cell vM)
    (hr : dp + 1 < recursionLimit) (hu : un + 64 < cLine)
    (hs : m (Str.ofString "script") = some (.ref l)) (hls : h₀.IsList l vs.toArray) (hi : IntsAre vs ns) (hn : ns.length ≤ 63)
    (hret : ∀ m' news' h' tk ps, Fr h₀ L h' m' → News h₀ L h' news' → (P, tabObj ps) ∈ news' → Q (.ret (.bool true)) { s with heap := h', toks := tk }) :
    wpAny (model prog w) (lawA dp un gd L a ccd cT cO cJ cI cM outer) (execs (bodyOf (topSt 3)) (lawE L a ccd cT cO cJ cI cM)) Q E s := by
  refine wpAny_noRaise ?_
  show wpAny _ _ (execs [lawB 0, lawB 1, lawB 2] _) Q _ s
  refine wpAny_execs_cons (st_masks B F X N T MI g6 hP hd hM hr hu ?_)
  intro D oM' h1 tk1 ps fs made h8 hla dM F1 N1 ap
  dsimp only
  have e : fs.map Value.ref = (List.range 8).map fun k => Value.ref (fs.getD k 0) := by
    refine List.ext_getElem? ?_
    intro n
    simp only [List.getElem?_map]
    by_cases hn' : n < 8
    · have h2 : n < fs.length := by omega
      simp [hn', h2]
    · have h2 : ¬ n < fs.length := by omega
      simp [hn', h2]
  have hla' : ∀ k, k < 8 → LamAt k ((cM, oM') :: (D, LCg.lst (fs.map Value.ref)) :: (P, tabObj ps) :: made) (fs.getD k 0) := by
    intro k hk
    have h2 : k < fs.length := by omega
    refine (hla k (fs.getD k 0) ?_).mono (fun p hp => .tail _ (.tail _ (.tail _ hp)))
    simp [h2]
  refine wpAny_execs_cons (st_for (lM := D) (fs := fun k => fs.getD k 0) B F1 X N1 T ap g1 g2 g3 g4 g5 hr hu ⟨oM', .head _, dM⟩ hla' ?_ hT hO hJ hI hs hls hi hn ?_)
  · rw [e]
    exact .tail _ (.head _)
  intro m' news' h2 tk2 F2 N2 hin
  dsimp only
  have X2 := X
  conv in (execs _ _) => arg 1; arg 1; whnf
  clear F1 N1 F N
  refine wpAny_execs_cons ?_
  k_steps
  exact hret m' news' h2 tk2 ps F2 N2 (hin _ (.tail _ (.tail _ (.head _))))
end
end
section
set_option maxRecDepth 100000 in
theorem cells_off {S : Nat} {a b c d e : Obj} (h : 16 < S) : ∀ q ∈ ([(S + 1 + 1 + 1 + 1 + 1, a), (S + 1 + 1 + 1 + 1, b), (S + 1 + 1 + 1, c), (S + 1 + 1, d), (S + 1, e)] : List (Addr × Obj)), q.1 ≠ 16 := by
  intro q hq
  simp only [List.mem_cons, List.not_mem_nil, or_false] at hq
  rcases hq with rfl | rfl | rfl | rfl | rfl <;> exact Nat.ne_of_gt (by omega)
set_option maxRecDepth 100000 in
theorem cells_apart (S : Nat) : (S + 1 + 1 + 1 + 1 + 1 ≠ S + 1 + 1 + 1 + 1) ∧ (S + 1 + 1 + 1 + 1 + 1 ≠ S + 1 + 1 + 1) ∧ (S + 1 + 1 + 1 + 1 + 1 ≠ S + 1 + 1) ∧ (S + 1 + 1 + 1 + 1 + 1 ≠ S + 1) ∧ (S + 1 + 1 + 1 + 1 ≠ S + 1 + 1 + 1) ∧ (S + 1 + 1 + 1 + 1 ≠ S + 1 + 1) ∧ (S + 1 + 1 + 1 + 1 ≠ S + 1) ∧ (S + 1 + 1 + 1 ≠ S + 1 + 1) ∧ (S + 1 + 1 + 1 ≠ S + 1) ∧ (S + 1 + 1 ≠ S + 1) := by
  omega
end
end Mine
set_option maxRecDepth 100000 in
set_option maxHeartbeats 8000000 in
theorem PySem.Challenge.cw_ez0305_01_holds : PySem.Challenge.rw_ez0305_01.Holds := by
  w_on
  o_law
  k_head
  (case hw => w_witness2)
  k_go0
  (all_goals try k_fold)
  k_dflt (refine' Mine.law_body ?lawB ?lawF ?lawX ?lawN ?lawT ?lawMI ?lawg1 ?lawg2 ?lawg3 ?lawg4 ?lawg5 ?lawg6 ?lawhP ?lawhd ?lawhT ?lawhO ?lawhJ ?lawhI ?lawhM ?lawhr ?lawhu ?lawhs ?lawhls ?lawhi ?lawhn ?lawhret)
  case lawB => k_asm
  case lawF => k_asm
  case lawX => k_asm
  case lawN => k_asm
  case lawT => k_asm
  case lawMI => 
    refine ⟨by k_is, by k_is, ⟨_, _, _, _, _, _, _, by k_is⟩, by k_is, by assumption⟩
  case lawg1 => k_is
  case lawg2 => k_is
  case lawg3 => k_is
  case lawg4 => k_is
  case lawg5 => k_is
  case lawg6 => k_is
  case lawhT => k_asm
  case lawhO => k_asm
  case lawhJ => k_asm
  case lawhI => k_asm
  case lawhM => k_asm
  case lawhP => exact Mine.cells_off (by assumption)
  case lawhd => exact Mine.cells_apart _
  case lawhr => decide
  case lawhu => decide
  case lawhs => with_unfolding_all rfl
  case lawhls => k_asm
  case lawhi => k_asm
  case lawhn => omega
  case lawhret =>
    intro m' news' h' tk ps F' N' hin
    dsimp only
    refine ⟨?_, GrownAt.of N' hin, trivial⟩
    k_steps

