import PyProof.Rows.All
import Wide.All
import OpenK.AllK
import Wide.FinOn
import KE.BitLaws
import KE.KBits
import PySem.Challenge.RW_om0023_01
open PySem PySem.W PyProof.Rows
set_option Elab.async false
set_option maxRecDepth 100000
namespace Mine
set_option maxHeartbeats 8000000
open_top hd for PySem.Challenge.rw_om0023_01
section
theorem ex2 {A B : Type} {Y : A → B → Prop} {Z : Prop} (x : ∃ a b, Y a b) (y : ∀ a b, Y a b → Z) : Z := x.elim fun a x => x.elim fun b x => y a b x
theorem ex3 {A B C : Type} {Y : A → B → C → Prop} {Z : Prop} (x : ∃ a b c, Y a b c) (y : ∀ a b c, Y a b c → Z) : Z := x.elim fun a x => x.elim fun b x => x.elim fun c x => y a b c x
theorem ex4 {A B C D : Type} {Y : A → B → C → D → Prop} {Z : Prop} (x : ∃ a b c d, Y a b c d) (y : ∀ a b c d, Y a b c d → Z) : Z := x.elim fun a x => x.elim fun b x => x.elim fun c x => x.elim fun d x => y a b c d x
theorem ex5 {A B C D E : Type} {Y : A → B → C → D → E → Prop} {Z : Prop} (x : ∃ a b c d e, Y a b c d e) (y : ∀ a b c d e, Y a b c d e → Z) : Z := x.elim fun a x => x.elim fun b x => x.elim fun c x => x.elim fun d x => x.elim fun e x => y a b c d e x
theorem ex6 {A B C D E F : Type} {Y : A → B → C → D → E → F → Prop} {Z : Prop} (x : ∃ a b c d e f, Y a b c d e f) (y : ∀ a b c d e f, Y a b c d e f → Z) : Z := x.elim fun a x => x.elim fun b x => x.elim fun c x => x.elim fun d x => x.elim fun e x => x.elim fun f x => y a b c d e f x
theorem ex7 {A B C D E F G : Type} {Y : A → B → C → D → E → F → G → Prop} {Z : Prop} (x : ∃ a b c d e f g, Y a b c d e f g) (y : ∀ a b c d e f g, Y a b c d e f g → Z) : Z := x.elim fun a x => x.elim fun b x => x.elim fun c x => x.elim fun d x => x.elim fun e x => x.elim fun f x => x.elim fun g x => y a b c d e f g x
theorem ex10 {A B C D E F G H I J : Type} {Y : A → B → C → D → E → F → G → H → I → J → Prop} {Z : Prop} (x : ∃ a b c d e f g h i j, Y a b c d e f g h i j) (y : ∀ a b c d e f g h i j, Y a b c d e f g h i j → Z) : Z := x.elim fun a x => x.elim fun b x => x.elim fun c x => x.elim fun d x => x.elim fun e x => x.elim fun f x => x.elim fun g x => x.elim fun h x => x.elim fun i x => x.elim fun j x => y a b c d e f g h i j x
theorem and3 {a b c Z : Prop} (x : a ∧ b ∧ c) (y : a → b → c → Z) : Z := y x.1 x.2.1 x.2.2
theorem and4 {a b c d Z : Prop} (x : a ∧ b ∧ c ∧ d) (y : a → b → c → d → Z) : Z := y x.1 x.2.1 x.2.2.1 x.2.2.2
theorem and5 {a b c d e Z : Prop} (x : a ∧ b ∧ c ∧ d ∧ e) (y : a → b → c → d → e → Z) : Z := y x.1 x.2.1 x.2.2.1 x.2.2.2.1 x.2.2.2.2
theorem and6 {a b c d e f Z : Prop} (x : a ∧ b ∧ c ∧ d ∧ e ∧ f) (y : a → b → c → d → e → f → Z) : Z := y x.1 x.2.1 x.2.2.1 x.2.2.2.1 x.2.2.2.2.1 x.2.2.2.2.2
theorem and7 {a b c d e f g Z : Prop} (x : a ∧ b ∧ c ∧ d ∧ e ∧ f ∧ g) (y : a → b → c → d → e → f → g → Z) : Z := y x.1 x.2.1 x.2.2.1 x.2.2.2.1 x.2.2.2.2.1 x.2.2.2.2.2.1 x.2.2.2.2.2.2
theorem and8 {a b c d e f g h Z : Prop} (x : a ∧ b ∧ c ∧ d ∧ e ∧ f ∧ g ∧ h) (y : a → b → c → d → e → f → g → h → Z) : Z := y x.1 x.2.1 x.2.2.1 x.2.2.2.1 x.2.2.2.2.1 x.2.2.2.2.2.1 x.2.2.2.2.2.2.1 x.2.2.2.2.2.2.2
theorem and9 {a b c d e f g h i Z : Prop} (x : a ∧ b ∧ c ∧ d ∧ e ∧ f ∧ g ∧ h ∧ i) (y : a → b → c → d → e → f → g → h → i → Z) : Z := y x.1 x.2.1 x.2.2.1 x.2.2.2.1 x.2.2.2.2.1 x.2.2.2.2.2.1 x.2.2.2.2.2.2.1 x.2.2.2.2.2.2.2.1 x.2.2.2.2.2.2.2.2
theorem and10 {a b c d e f g h i j Z : Prop} (x : a ∧ b ∧ c ∧ d ∧ e ∧ f ∧ g ∧ h ∧ i ∧ j) (y : a → b → c → d → e → f → g → h → i → j → Z) : Z := y x.1 x.2.1 x.2.2.1 x.2.2.2.1 x.2.2.2.2.1 x.2.2.2.2.2.1 x.2.2.2.2.2.2.1 x.2.2.2.2.2.2.2.1 x.2.2.2.2.2.2.2.2.1 x.2.2.2.2.2.2.2.2.2
theorem and11 {a b c d e f g h i j k Z : Prop} (x : a ∧ b ∧ c ∧ d ∧ e ∧ f ∧ g ∧ h ∧ i ∧ j ∧ k) (y : a → b → c → d → e → f → g → h → i → j → k → Z) : Z := y x.1 x.2.1 x.2.2.1 x.2.2.2.1 x.2.2.2.2.1 x.2.2.2.2.2.1 x.2.2.2.2.2.2.1 x.2.2.2.2.2.2.2.1 x.2.2.2.2.2.2.2.2.1 x.2.2.2.2.2.2.2.2.2.1 x.2.2.2.2.2.2.2.2.2.2
theorem turn_lt {i n : Nat} (h : i < n) : n + 1 - (i + 1) < n + 1 - i := by omega
theorem last_turn {i n : Nat} (h : i ≤ n) (q : ¬ i < n) : i = n := Nat.le_antisymm h (Nat.not_lt.mp q)
theorem all3 {α : Type} {P : α → Prop} {a b c : α} (h1 : P a) (h2 : P b) (h3 : P c) : ∀ p ∈ [a, b, c], P p := List.forall_mem_cons.mpr ⟨h1, List.forall_mem_cons.mpr ⟨h2, List.forall_mem_cons.mpr ⟨h3, fun _ h => nomatch h⟩⟩⟩
theorem all4 {α : Type} {P : α → Prop} {a b c d : α} (h1 : P a) (h2 : P b) (h3 : P c) (h4 : P d) : ∀ p ∈ [a, b, c, d], P p := List.forall_mem_cons.mpr ⟨h1, all3 h2 h3 h4⟩
theorem all5 {α : Type} {P : α → Prop} {a b c d e : α} (h1 : P a) (h2 : P b) (h3 : P c) (h4 : P d) (h5 : P e) : ∀ p ∈ [a, b, c, d, e], P p := List.forall_mem_cons.mpr ⟨h1, all4 h2 h3 h4 h5⟩
theorem turn7 {α : Type} {a b c d e f g : α} : ∀ p ∈ [a, f, g, b, c, d, e], p ∈ [a, b, c, d, e, f, g] := by
  intro p hp
  simp only [List.mem_cons, List.not_mem_nil, or_false] at hp
  rcases hp with rfl | rfl | rfl | rfl | rfl | rfl | rfl <;> simp
theorem off4 {l sl ct cq : Nat} (h1 : l < sl) (h2 : ct < l) (h3 : cq < ct) : l ≠ sl ∧ l ≠ ct ∧ l ≠ cq := ⟨Nat.ne_of_lt h1, Nat.ne_of_gt h2, Nat.ne_of_gt (Nat.lt_trans h3 h2)⟩
end
set_option maxHeartbeats 8000000

abbrev LTop (mean : ExcName → Option Value) (mg mb : Str → Option Value) (h : Heap) : Prop := Top hd.view_39 (looseW hd.view_39 [Str.ofString "_filemode_table"]) mean mg mb h
abbrev LProg : Program := PySem.Challenge.rw_om0023_01.row.prog
abbrev LM (w : World) : Model := model PySem.Challenge.rw_om0023_01.row.prog w
abbrev NoE : Value → Shared → Prop := fun _ _ => False

/-- what a call finds: the frames below, the written part, the top -/
structure Rdy (w : World) (mean : ExcName → Option Value) (mg mb : Str → Option Value) (A : Around) (base : Heap) (frames : List Env) (h : Heap) : Prop where
  B : Below A base frames h
  X : (hd.heap_39 w.params).In h
  T : Top hd.view_39 (looseW hd.view_39 [Str.ofString "_filemode_table"]) mean mg mb h

section
variable {w : World} {mean : ExcName → Option Value} {mg mb : Str → Option Value} {A A₀ : Around} {base : Heap} {frames outer : List Env} {h₀ h h' : Heap} {s : Shared}

theorem Rdy.of {env : Env} {L : Addr} {m : Str → Option Value} (B : Below A₀ base outer h₀) (F : Fr h₀ L h m) (X : (hd.heap_39 w.params).In h₀) (T : Top hd.view_39 (looseW hd.view_39 [Str.ofString "_filemode_table"]) mean mg mb h₀) (hf : env.frame = some L) (hk : env.scope.kind = .function) :
    Rdy w mean mg mb (A₀.deeper env) base (env :: outer) h := ⟨pushX B F hf hk, X.keeps F.keep, T.keeps F.keep⟩

theorem enter_plain {Q : Value → Shared → Prop} {E : Value → Shared → Prop} {name qual : Str} {params : Arguments} {body : List Stmt} {scope : Scope} {dV kV doc pm cdv ct oc : Value} {an od : Option Addr} {osl : Array (Option Value)} {f : Addr} {vs : List Value} {binds : List (Str × Value)}
    (R : Rdy w mean mg mb A base frames s.heap)
    (ho : (hd.heap_39 w.params).lookup f = some ⟨oc, od, .func (fnOf name qual params body scope dV kV doc pm an cdv ct), osl⟩) (hcd : codeIn (hd.heap_39 w.params) cdv qual = true) (hroom : A.depth < recursionLimit)
    (hbind : BindsTo s (fnOf name qual params body scope dV kV doc pm an cdv ct) ⟨vs, []⟩ binds) (hloc : ∀ y ∈ binds, scope.names.lookup y.1 = some .local)
    (h : ∀ g L' h₁, g = s.heap → L' = s.heap.objs.size → Fr g L' h₁ (fun y => binds.reverse.lookup y) → News g L' h₁ [] → Below A base frames g → (hd.heap_39 w.params).In g → Top hd.view_39 (looseW hd.view_39 [Str.ofString "_filemode_table"]) mean mg mb g →
      wpAny (model PySem.Challenge.rw_om0023_01.row.prog w) (A.deeper (envOf qual scope L' f cdv)) (execs body (envOf qual scope L' f cdv))
        (fun fl s' => Q (match fl with | .ret v => v | _ => .none) s') (fun _ _ => False) { s with heap := h₁, toks := s.toks + binds.length })
    (hco : scope.isCoroutine = false) (hgen : scope.isGenerator = false) (hk : scope.kind = .function)
    (hcell : ∀ x ∈ scope.names, x.2 ≠ .cell) : wpAny (model PySem.Challenge.rw_om0023_01.row.prog w) A (call (.ref f) vs) Q E s := by
  refine wpAny_call ?_
  refine codeAny_call_def (fd := fnOf name qual params body scope dV kV doc pm an cdv ct) (body := body) (binds := binds) hroom (R.X _ _ ho) rfl R.T.nolimit (codeRec_of R.X hcd) rfl hbind hcell hloc (fun h₁ hns hk₁ => ?_) hco hgen hk
  refine wpAny_noRaise ?_
  exact h s.heap s.heap.objs.size h₁ rfl rfl ⟨hns, hk₁, Nat.le_refl _⟩ News.nil R.B R.X R.T

theorem enter_cells {Q : Value → Shared → Prop} {E : Value → Shared → Prop} {name qual : Str} {params : Arguments} {body : List Stmt} {scope : Scope} {dV kV doc pm cdv ct oc : Value} {an od : Option Addr} {osl : Array (Option Value)} {f : Addr} {vs : List Value} {binds : List (Str × Value)}
    (R : Rdy w mean mg mb A base frames s.heap)
    (ho : (hd.heap_39 w.params).lookup f = some ⟨oc, od, .func (fnOf name qual params body scope dV kV doc pm an cdv ct), osl⟩) (hcd : codeIn (hd.heap_39 w.params) cdv qual = true) (hroom : A.depth < recursionLimit)
    (hbind : BindsTo s (fnOf name qual params body scope dV kV doc pm an cdv ct) ⟨vs, []⟩ binds) (hkind : (binds.all fun y => scope.names.lookup y.1 == some .local || scope.names.lookup y.1 == some .cell) = true)
    (hnd : ((cellsFrom 0 scope.names []).map (·.1)).Nodup)
    (h : ∀ g L' h₁ tk cells, g = s.heap → L' = s.heap.objs.size → Fr g L' h₁ (bindL (envOfC qual scope L' f cdv).kindOf binds fun _ => none) → News g L' h₁ cells → CellsAre (bindC (envOfC qual scope L' f cdv).kindOf binds fun _ => none) (cellsFrom (L' + 1) scope.names []) cells → Below A base frames g → (hd.heap_39 w.params).In g → Top hd.view_39 (looseW hd.view_39 [Str.ofString "_filemode_table"]) mean mg mb g →
      wpAny (model PySem.Challenge.rw_om0023_01.row.prog w) (A.deeper (envOfC qual scope L' f cdv)) (execs body (envOfC qual scope L' f cdv))
        (fun fl s' => Q (match fl with | .ret v => v | _ => .none) s') (fun _ _ => False) { s with heap := h₁, toks := tk })
    (hco : scope.isCoroutine = false) (hgen : scope.isGenerator = false) (hk : scope.kind = .function) : wpAny (model PySem.Challenge.rw_om0023_01.row.prog w) A (call (.ref f) vs) Q E s := by
  refine wpAny_call ?_
  refine codeAny_call_function (fd := fnOf name qual params body scope dV kV doc pm an cdv ct) hroom (R.X _ _ ho) rfl hco hgen rfl (codeRec_of R.X hcd) (hbind _ _ _ _ ?_)
  refine wpAny_newFunctionEnv_cells hk (kindsX hkind _) fun env' he s' x => ?_
  subst he
  refine ⟨(R.T.nolimit).keeps x.toInCall.keep, codeAny_func ?_⟩
  obtain ⟨h₁, tk, rfl, _⟩ := x.done
  obtain ⟨cells, NC, Y⟩ := Cl.news (h₀ := s.heap) (Nat.le_refl _) fun n c hm => ⟨x.cell n c (lookup_of_mem_nodup (cellsFrom_names scope.names 0 (s.heap.objs.size + 1) [] [] rfl ▸ hnd) hm), x.above n c hm⟩
  refine wpAny_noRaise ?_
  exact h s.heap s.heap.objs.size h₁ tk cells rfl rfl ⟨x.toInCall.ns, x.toInCall.keep, Nat.le_refl _⟩ NC Y R.B R.X R.T
end

def Ended (P : Value → Prop) (s : Shared) (v : Value) (s' : Shared) : Prop := P v ∧ Keeps s s'
/-- a call of the def at f: it ends in a value of P's, and keeps what lay -/
def Spec (w : World) (k : Nat) (f : Addr) (vs : List Value) (P : Value → Prop) : Prop :=
  ∀ (mean : ExcName → Option Value) (mg mb : Str → Option Value) (base : Heap) (frames : List Env) (s : Shared) (A : Around) (E : Value → Shared → Prop), A.handled = none → A.depth + k < recursionLimit → Rdy w mean mg mb A base frames s.heap →
    wpAny (model PySem.Challenge.rw_om0023_01.row.prog w) A (call (.ref f) vs) (fun v s' => Ended P s v s') E s
abbrev IsInt (r : Int) : Value → Prop := fun v => ∃ t, v = .int r t
abbrev IsBool (r : Bool) : Value → Prop := fun v => v = .bool r
abbrev IsStr (r : Str) : Value → Prop := fun v => ∃ t, v = .str r t

section
variable {w : World} {mean : ExcName → Option Value} {mg mb : Str → Option Value} {A₀ : Around} {base : Heap} {outer : List Env} {h₀ : Heap} {s : Shared} {env : Env} {L : Addr} {m : Str → Option Value} {news : List (Addr × Obj)} {k : Nat} {f : Addr} {vs : List Value}
theorem keeps_fr {s s' : Shared} (K : Keeps s s') (F : Fr h₀ L s.heap m) (N : News h₀ L s.heap news) : ∃ h' tk, s' = { s with heap := h', toks := tk } ∧ Fr h₀ L h' m ∧ News h₀ L h' news := by
  obtain ⟨h', tk, e, hk⟩ := K
  exact ⟨h', tk, e, F.keeps hk, N.grown hk⟩
theorem keeps_of {g h' : Heap} {tk : Nat} {L' : Addr} {m' : Str → Option Value} (F : Fr g L' h' m') (e : g = s.heap) : Keeps s { s with heap := h', toks := tk } := ⟨h', tk, rfl, fun b o q => F.keep b o (e ▸ q)⟩
theorem Ended.intro {P : Value → Prop} {v : Value} {g h' : Heap} {tk : Nat} {L' : Addr} {m' : Str → Option Value} (F : Fr g L' h' m') (e : g = s.heap) (h : P v) : Ended P s v { s with heap := h', toks := tk } := ⟨h, keeps_of F e⟩
theorem call_spec_K {P : Value → Prop} {Q : Value → Shared → Prop} {E : Value → Shared → Prop} (S : Spec w k f vs P) (B : Below A₀ base outer h₀) (F : Fr h₀ L s.heap m) (X : (hd.heap_39 w.params).In h₀) (N : News h₀ L s.heap news) (T : Top hd.view_39 (looseW hd.view_39 [Str.ofString "_filemode_table"]) mean mg mb h₀)
    (hh : (A₀.deeper env).handled = none) (hroom : (A₀.deeper env).depth + k < recursionLimit) (hf : env.frame = some L) (hk : env.scope.kind = .function)
    (h : ∀ v h' tk, P v → Fr h₀ L h' m → News h₀ L h' news → Q v { s with heap := h', toks := tk }) :
    wpAny (model PySem.Challenge.rw_om0023_01.row.prog w) (A₀.deeper env) (call (.ref f) vs) Q E s := by
  refine wpAny_mono (S mean mg mb base (env :: outer) s (A₀.deeper env) E hh hroom (Rdy.of B F X T hf hk)) (fun v s' hv => ?_) fun _ _ e => e
  obtain ⟨h', tk, rfl, F', N'⟩ := keeps_fr hv.2 F N
  exact h v h' tk hv.1 F' N'
theorem call_int_K {r : Int} {Q : Value → Shared → Prop} {E : Value → Shared → Prop} (S : Spec w k f vs (IsInt r)) (B : Below A₀ base outer h₀) (F : Fr h₀ L s.heap m) (X : (hd.heap_39 w.params).In h₀) (N : News h₀ L s.heap news) (T : Top hd.view_39 (looseW hd.view_39 [Str.ofString "_filemode_table"]) mean mg mb h₀)
    (hh : (A₀.deeper env).handled = none) (hroom : (A₀.deeper env).depth + k < recursionLimit) (hf : env.frame = some L) (hk : env.scope.kind = .function)
    (h : ∀ t h' tk, Fr h₀ L h' m → News h₀ L h' news → Q (.int r t) { s with heap := h', toks := tk }) :
    wpAny (model PySem.Challenge.rw_om0023_01.row.prog w) (A₀.deeper env) (call (.ref f) vs) Q E s :=
  call_spec_K S B F X N T hh hroom hf hk fun v h' tk hv F' N' => by obtain ⟨t, rfl⟩ := hv; exact h t h' tk F' N'
theorem call_bool_K {r : Bool} {Q : Value → Shared → Prop} {E : Value → Shared → Prop} (S : Spec w k f vs (IsBool r)) (B : Below A₀ base outer h₀) (F : Fr h₀ L s.heap m) (X : (hd.heap_39 w.params).In h₀) (N : News h₀ L s.heap news) (T : Top hd.view_39 (looseW hd.view_39 [Str.ofString "_filemode_table"]) mean mg mb h₀)
    (hh : (A₀.deeper env).handled = none) (hroom : (A₀.deeper env).depth + k < recursionLimit) (hf : env.frame = some L) (hk : env.scope.kind = .function)
    (h : ∀ h' tk, Fr h₀ L h' m → News h₀ L h' news → Q (.bool r) { s with heap := h', toks := tk }) :
    wpAny (model PySem.Challenge.rw_om0023_01.row.prog w) (A₀.deeper env) (call (.ref f) vs) Q E s :=
  call_spec_K S B F X N T hh hroom hf hk fun v h' tk hv F' N' => by obtain rfl := hv; exact h h' tk F' N'
theorem call_str_K {r : Str} {Q : Value → Shared → Prop} {E : Value → Shared → Prop} (S : Spec w k f vs (IsStr r)) (B : Below A₀ base outer h₀) (F : Fr h₀ L s.heap m) (X : (hd.heap_39 w.params).In h₀) (N : News h₀ L s.heap news) (T : Top hd.view_39 (looseW hd.view_39 [Str.ofString "_filemode_table"]) mean mg mb h₀)
    (hh : (A₀.deeper env).handled = none) (hroom : (A₀.deeper env).depth + k < recursionLimit) (hf : env.frame = some L) (hk : env.scope.kind = .function)
    (h : ∀ t h' tk, Fr h₀ L h' m → News h₀ L h' news → Q (.str r t) { s with heap := h', toks := tk }) :
    wpAny (model PySem.Challenge.rw_om0023_01.row.prog w) (A₀.deeper env) (call (.ref f) vs) Q E s :=
  call_spec_K S B F X N T hh hroom hf hk fun v h' tk hv F' N' => by obtain ⟨t, rfl⟩ := hv; exact h t h' tk F' N'
end

example : PySem.Challenge.rw_om0023_01.prog = PySem.Challenge.rw_om0023_01.prog ∧ hd.heap_39 = hd.heap_39 := by k_fill; exact ⟨rfl, rfl⟩
set_option maxHeartbeats 8000000
local macro_rules | `(tactic| k_room) => `(tactic| ((try simp only [depth_deeper]); (try dsimp only); omega))
example : True := by
  k_with "MINE enter" => (w_top off; intro mean mg mb base frames s A E hh hroom R; obtain ⟨hd0, dp, fr0, gd0, un0⟩ := A; dsimp only at hh hroom; subst hh; refine' enter_plain ?R ?ho ?hcd ?room ?bind ?loc ?_ ?co ?gen ?k ?cell; (case R => assumption); (case ho => k_is); (case hcd => k_is); (case room => k_room); (case bind => exact BindsTo.of_eq rfl); (case loc => exact locs rfl); (case co => exact rfl); (case gen => exact rfl); (case k => exact rfl); (case cell => decide); k_whole; intro g' L' h' hg' hL' F' N' B' X' T'; (try dsimp only); k_fold)
  trivial
example : True := by
  k_with "MINE end" => ((try dsimp only); (with_reducible show Ended _ _ _ _); refine Ended.intro (by assumption) (by assumption) ?_)
  trivial
example : True := by
  k_with "MINE walk" => ((repeat' (first | (k_unfold; (try dsimp only)) | walk1 | (dsimp only; walk1))); (all_goals walk_at "MINE end"))
  trivial

theorem and_spec {w : World} {a b : Int} {t u : Tok} : Spec w 1 21 [.int a t, .int b u] (IsInt (Builtin.bitAnd a b)) := by
  walk_at "MINE enter"
  walk_at "MINE walk"
  all_goals exact ⟨_, rfl⟩

theorem or_spec {w : World} {a b : Int} {t u : Tok} : Spec w 1 49 [.int a t, .int b u] (IsInt (Builtin.bitOr a b)) := by
  walk_at "MINE enter"
  walk_at "MINE walk"
  all_goals exact ⟨_, rfl⟩

theorem xor_spec {w : World} {a b : Int} {t u : Tok} : Spec w 1 70 [.int a t, .int b u] (IsInt (Builtin.bitXor a b)) := by
  walk_at "MINE enter"
  walk_at "MINE walk"
  all_goals exact ⟨_, rfl⟩

theorem sub_spec {w : World} {a b : Int} {t u : Tok} : Spec w 1 63 [.int a t, .int b u] (IsInt (a - b)) := by
  walk_at "MINE enter"
  walk_at "MINE walk"
  all_goals exact ⟨_, rfl⟩

theorem inv_spec {w : World} {a : Int} {t : Tok} : Spec w 1 28 [.int a t] (IsInt (Builtin.bitNot a)) := by
  walk_at "MINE enter"
  walk_at "MINE walk"
  all_goals first | exact ⟨_, rfl⟩

theorem lshift_spec {w : World} {a b : Int} {t u : Tok} (h0 : 0 ≤ b) (h1 : b ≤ 1000) (ha : a.natAbs < 2 ^ 64) : Spec w 1 35 [.int a t, .int b u] (IsInt (a * 2 ^ b.toNat)) := by
  walk_at "MINE enter"
  walk_at "MINE walk"
  all_goals first | exact ⟨_, rfl⟩

theorem mod_spec {w : World} {a b : Int} {t u : Tok} (hb : 0 < b) : Spec w 1 42 [.int a t, .int b u] (IsInt (a % b)) := by
  rw [← Int.fmod_eq_emod_of_nonneg _ (Int.le_of_lt hb)]
  walk_at "MINE enter"
  walk_at "MINE walk"
  all_goals first | exact ⟨_, rfl⟩

theorem mod_K {w : World} {mean : ExcName → Option Value} {mg mb : Str → Option Value} {A₀ : Around} {base : Heap} {outer : List Env} {h₀ : Heap} {s : Shared} {env : Env} {L : Addr} {m : Str → Option Value} {news : List (Addr × Obj)} {a b : Int} {t u : Tok} {Q : Value → Shared → Prop} {E : Value → Shared → Prop} (hb : 0 < b) (B : Below A₀ base outer h₀) (F : Fr h₀ L s.heap m) (X : (hd.heap_39 w.params).In h₀) (N : News h₀ L s.heap news) (T : Top hd.view_39 (looseW hd.view_39 [Str.ofString "_filemode_table"]) mean mg mb h₀)
    (hh : (A₀.deeper env).handled = none) (hroom : (A₀.deeper env).depth + 1 < recursionLimit) (hf : env.frame = some L) (hk : env.scope.kind = .function)
    (h : ∀ t h' tk, 0 ≤ a % b → a % b < b → Fr h₀ L h' m → News h₀ L h' news → Q (.int (a % b) t) { s with heap := h', toks := tk }) :
    wpAny (model PySem.Challenge.rw_om0023_01.row.prog w) (A₀.deeper env) (call (.ref 42) [.int a t, .int b u]) Q E s :=
  call_int_K (mod_spec hb) B F X N T hh hroom hf hk fun t h' tk F' N' => h t h' tk (Int.emod_nonneg _ (by omega)) (Int.emod_lt_of_pos _ hb) F' N'
theorem kind_small (i : Nat) : ([8, 4, 10, 1, 12, 2, 6, 15].getD i 0 : Int).natAbs < 2 ^ 64 := by
  match i with
  | 0 | 1 | 2 | 3 | 4 | 5 | 6 | 7 => decide
  | n + 8 => simp [List.getD]

theorem rshift_spec {w : World} {a b : Int} {t u : Tok} (h0 : 0 ≤ b) (h1 : b ≤ 1000) : Spec w 1 56 [.int a t, .int b u] (IsInt (a / 2 ^ b.toNat)) := by
  rw [← Int.fdiv_eq_ediv_of_nonneg _ (Int.le_of_lt (Int.pow_pos (by decide)))]
  walk_at "MINE enter"
  walk_at "MINE walk"
  all_goals first | exact ⟨_, rfl⟩

theorem S_IMODE_spec {w : World} {a : Int} {t : Tok} : Spec w 1 77 [.int a t] (IsInt (Builtin.bitAnd a 4095)) := by
  walk_at "MINE enter"
  walk_at "MINE walk"
  all_goals exact ⟨_, rfl⟩

theorem S_IFMT_spec {w : World} {a : Int} {t : Tok} : Spec w 1 84 [.int a t] (IsInt (Builtin.bitAnd a 61440)) := by
  walk_at "MINE enter"
  walk_at "MINE walk"
  all_goals exact ⟨_, rfl⟩
local macro_rules | `(tactic| walk_at "call ref") => `(tactic| k_dflt (k_extra "call ref"))
example : True := by
  k_with "call ref" => (k_here; (with_reducible show wpAny _ _ (call (Value.ref 42) [Value.int _ _, Value.int _ _]) _ _ _); k_dflt (refine' mod_K  ?s1 ?B ?F ?X ?N ?T ?hh ?room ?hf ?hk ?_; (case s1 => side_arith); (case B => k_asm); (case F => k_asm); (case X => k_asm); (case N => k_asm); (case T => k_asm); (case hh => exact rfl); (case room => k_room); (case hf => exact rfl); (case hk => exact rfl); k_whole; intro tz' hz' tkz' hm1' hm2' Fz' Nz'; (try dsimp only); (try k_sweep)))
  trivial
example : True := by
  k_with "call ref" => (k_here; k_dflt (refine' call_int_K ?S ?B ?F ?X ?N ?T ?hh ?room ?hf ?hk ?_; (case S => first | exact and_spec | exact or_spec | exact xor_spec | exact sub_spec | exact inv_spec | exact S_IMODE_spec | exact S_IFMT_spec | exact lshift_spec (by side_arith) (by side_arith) (by first | side_arith | exact kind_small _) | exact rshift_spec (by side_arith) (by side_arith)); (case B => k_asm); (case F => k_asm); (case X => k_asm); (case N => k_asm); (case T => k_asm); (case hh => exact rfl); (case room => k_room); (case hf => exact rfl); (case hk => exact rfl); k_whole; intro tz' hz' tkz' Fz' Nz'; (try dsimp only); (try k_sweep)))
  trivial

theorem S_ISDIR_spec {w : World} {a : Int} {t : Tok} : Spec w 2 91 [.int a t] (IsBool (decide (Builtin.bitAnd a 61440 = 16384))) := by
  walk_at "MINE enter"
  walk_at "MINE walk"
  all_goals exact rfl

theorem S_ISCHR_spec {w : World} {a : Int} {t : Tok} : Spec w 2 98 [.int a t] (IsBool (decide (Builtin.bitAnd a 61440 = 8192))) := by
  walk_at "MINE enter"
  walk_at "MINE walk"
  all_goals exact rfl

theorem S_ISBLK_spec {w : World} {a : Int} {t : Tok} : Spec w 2 105 [.int a t] (IsBool (decide (Builtin.bitAnd a 61440 = 24576))) := by
  walk_at "MINE enter"
  walk_at "MINE walk"
  all_goals exact rfl

theorem S_ISREG_spec {w : World} {a : Int} {t : Tok} : Spec w 2 112 [.int a t] (IsBool (decide (Builtin.bitAnd a 61440 = 32768))) := by
  walk_at "MINE enter"
  walk_at "MINE walk"
  all_goals exact rfl

theorem S_ISFIFO_spec {w : World} {a : Int} {t : Tok} : Spec w 2 119 [.int a t] (IsBool (decide (Builtin.bitAnd a 61440 = 4096))) := by
  walk_at "MINE enter"
  walk_at "MINE walk"
  all_goals exact rfl

theorem S_ISLNK_spec {w : World} {a : Int} {t : Tok} : Spec w 2 126 [.int a t] (IsBool (decide (Builtin.bitAnd a 61440 = 40960))) := by
  walk_at "MINE enter"
  walk_at "MINE walk"
  all_goals exact rfl

theorem S_ISSOCK_spec {w : World} {a : Int} {t : Tok} : Spec w 2 133 [.int a t] (IsBool (decide (Builtin.bitAnd a 61440 = 49152))) := by
  walk_at "MINE enter"
  walk_at "MINE walk"
  all_goals exact rfl
section
set_option maxHeartbeats 8000000
example : True := by
  k_with "call ref" => (k_here; k_dflt (refine' call_bool_K ?S ?B ?F ?X ?N ?T ?hh ?room ?hf ?hk ?_; (case S => first | exact S_ISDIR_spec | exact S_ISCHR_spec | exact S_ISBLK_spec | exact S_ISREG_spec | exact S_ISFIFO_spec | exact S_ISLNK_spec | exact S_ISSOCK_spec); (case B => k_asm); (case F => k_asm); (case X => k_asm); (case N => k_asm); (case T => k_asm); (case hh => exact rfl); (case room => k_room); (case hf => exact rfl); (case hk => exact rfl); k_whole; intro hz' tkz' Fz' Nz'; (try dsimp only); (try k_sweep)))
  trivial

def gateI (g p q : Int) : Int :=
  if Builtin.bitAnd g 61440 = 32768 then Builtin.bitAnd p q
  else if Builtin.bitAnd g 61440 = 16384 then Builtin.bitOr p q
  else if Builtin.bitAnd g 61440 = 40960 then Builtin.bitXor p q
  else if Builtin.bitAnd g 61440 = 4096 then Builtin.bitAnd p (Builtin.bitNot q)
  else if Builtin.bitAnd g 61440 = 49152 then 65535 - Builtin.bitOr p q
  else if Builtin.bitAnd g 61440 = 8192 then Builtin.bitXor 65535 (Builtin.bitAnd p q)
  else if Builtin.bitAnd g 61440 = 24576 then 65535 - Builtin.bitXor p q
  else Builtin.bitOr p (Builtin.bitXor q 65535)

theorem gate_spec {w : World} {a b c : Int} {t u v : Tok} : Spec w 3 180 [.int a t, .int b u, .int c v] (IsInt (gateI a b c)) := by
  walk_at "MINE enter"
  walk_at "MINE walk"
  all_goals (simp only [decide_eq_true_eq, decide_eq_false_iff_not] at *)
  all_goals (refine ⟨_, congrArg (fun x => Value.int x _) ?_⟩)
  all_goals (unfold gateI; simp only [*]; try simp)
end
section
set_option maxHeartbeats 8000000
example : True := by
  k_with "call ref" => (k_here; (with_reducible show wpAny _ _ (call (Value.ref 180) [Value.int _ _, Value.int _ _, Value.int _ _]) _ _ _); k_dflt (refine' call_int_K gate_spec ?B ?F ?X ?N ?T ?hh ?room ?hf ?hk ?_; (case B => k_asm); (case F => k_asm); (case X => k_asm); (case N => k_asm); (case T => k_asm); (case hh => exact rfl); (case room => k_room); (case hf => exact rfl); (case hk => exact rfl); k_whole; intro tz' hz' tkz' Fz' Nz'; (try dsimp only); (try k_sweep)))
  trivial


def EndedG (P : Value → Heap → Heap → Prop) (s : Shared) (v : Value) (s' : Shared) : Prop := P v s.heap s'.heap ∧ Keeps s s'
def SpecG (w : World) (k : Nat) (f : Addr) (vs : List Value) (pre : Heap → Prop) (P : Value → Heap → Heap → Prop) : Prop :=
  ∀ (mean : ExcName → Option Value) (mg mb : Str → Option Value) (base : Heap) (frames : List Env) (s : Shared) (A : Around) (E : Value → Shared → Prop), A.handled = none → A.depth + k < recursionLimit → Rdy w mean mg mb A base frames s.heap → pre s.heap →
    wpAny (model PySem.Challenge.rw_om0023_01.row.prog w) A (call (.ref f) vs) (fun v s' => EndedG P s v s') E s
def IsInts (ns : List Int) (v : Value) (h h' : Heap) : Prop := ∃ D vs n, v = .ref D ∧ h.get? D = none ∧ h'.get? D = some (W.listOf (vs : List Value).toArray n) ∧ IntsAre vs ns

def fstep (fs : List Int) (n : Int) : List Int :=
  let g := Builtin.bitOr ([8, 4, 10, 1, 12, 2, 6, 15].getD (n.fmod 8).toNat 0 * 2 ^ Int.toNat 12) ((n.fdiv 8).fmod 4096)
  fs ++ [gateI g (fs.getD ((Builtin.bitAnd g 4095 / 2 ^ Int.toNat 6) % (fs.length : Int)).toNat 0) (fs.getD (Builtin.bitAnd g 63 % (fs.length : Int)).toNat 0)]
def filesF (ns : List Int) : List Int := ns.foldl fstep [43690, 52428, 61680, 65280]
theorem files_len (ns : List Int) : (filesF ns).length = ns.length + 4 := by
  unfold filesF
  suffices h : ∀ fs : List Int, (ns.foldl fstep fs).length = ns.length + fs.length by simpa using h [43690, 52428, 61680, 65280]
  induction ns with
  | nil => intro fs; simp
  | cons n r ih => intro fs; rw [List.foldl_cons, ih]; simp [fstep]; omega
theorem files_turn {pre : List Int} {n : Int} {fs : List Int} (h : fs = filesF pre ∧ fs.length = pre.length + 4) :
    fs ++ [gateI (Builtin.bitOr ([8, 4, 10, 1, 12, 2, 6, 15].getD (n.fmod 8).toNat 0 * 2 ^ Int.toNat 12) ((n.fdiv 8).fmod 4096))
      (fs.getD ((Builtin.bitAnd (Builtin.bitOr ([8, 4, 10, 1, 12, 2, 6, 15].getD (n.fmod 8).toNat 0 * 2 ^ Int.toNat 12) ((n.fdiv 8).fmod 4096)) 4095 / 2 ^ Int.toNat 6) % (fs.length : Int)).toNat 0)
      (fs.getD (Builtin.bitAnd (Builtin.bitOr ([8, 4, 10, 1, 12, 2, 6, 15].getD (n.fmod 8).toNat 0 * 2 ^ Int.toNat 12) ((n.fdiv 8).fmod 4096)) 63 % (fs.length : Int)).toNat 0)] = filesF (pre ++ [n])
    ∧ (fs ++ [gateI (Builtin.bitOr ([8, 4, 10, 1, 12, 2, 6, 15].getD (n.fmod 8).toNat 0 * 2 ^ Int.toNat 12) ((n.fdiv 8).fmod 4096))
      (fs.getD ((Builtin.bitAnd (Builtin.bitOr ([8, 4, 10, 1, 12, 2, 6, 15].getD (n.fmod 8).toNat 0 * 2 ^ Int.toNat 12) ((n.fdiv 8).fmod 4096)) 4095 / 2 ^ Int.toNat 6) % (fs.length : Int)).toNat 0)
      (fs.getD (Builtin.bitAnd (Builtin.bitOr ([8, 4, 10, 1, 12, 2, 6, 15].getD (n.fmod 8).toNat 0 * 2 ^ Int.toNat 12) ((n.fdiv 8).fmod 4096)) 63 % (fs.length : Int)).toNat 0)]).length = (pre ++ [n]).length + 4 := by
  refine ⟨?_, by simp only [List.length_append, List.length_singleton]; omega⟩
  unfold filesF at h ⊢
  rw [List.foldl_append, ← h.1]
  rfl
theorem EndedG.intro {P : Value → Heap → Heap → Prop} {s : Shared} {v : Value} {g h' : Heap} {tk : Nat} {L' : Addr} {m' : Str → Option Value} (F : Fr g L' h' m') (e : g = s.heap) (h : P v g h') : EndedG P s v { s with heap := h', toks := tk } := ⟨e ▸ h, keeps_of F e⟩
theorem IsInts.intro {g h' : Heap} {L' : Addr} {D : Addr} {vs : List Value} {ns : List Int} {n : Nat} {news : List (Addr × Obj)} (N : News g L' h' ((D, W.listOf vs.toArray n) :: news)) (hi : IntsAre vs ns) : IsInts ns (.ref D) g h' :=
  ⟨D, vs, n, rfl, (N _ (.head _)).2.2, (N _ (.head _)).1, hi⟩
local macro_rules | `(tactic| walk_at "pyIter ref") => `(tactic| k_dflt (k_extra "pyIter ref"))
theorem files_spec {w : World} {D : Addr} {vs : List Value} {ns : List Int} (hi : IntsAre vs ns) (hlen : ns.length ≤ 20) : SpecG w 4 187 [.ref D] (fun h => h.IsList D vs.toArray) (IsInts (filesF ns)) := by
  (w_top off; intro mean mg mb base frames s A E hh hroom R hpre; obtain ⟨hd0, dp, fr0, gd0, un0⟩ := A; dsimp only at hh hroom; subst hh; refine' enter_plain ?R ?ho ?hcd ?room ?bind ?loc ?_ ?co ?gen ?k ?cell; (case R => assumption); (case ho => k_is); (case hcd => k_is); (case room => k_room); (case bind => exact BindsTo.of_eq rfl); (case loc => exact locs rfl); (case co => exact rfl); (case gen => exact rfl); (case k => exact rfl); (case cell => decide); k_whole; intro g' L' h' hg' hL' F' N' B' X' T'; rw [← hg'] at hpre; (try dsimp only); k_fold)
  k_with "pyIter ref" => (k_of "number" => k_state (fun pre files => files = filesF pre ∧ files.length = pre.length + 4) "files")
  k_with "state" => first | exact files_turn (by assumption) | exact files_turn ⟨by assumption, by assumption⟩
  k_steps
  k_with_none
  dsimp only
  refine EndedG.intro (by assumption) (by assumption) ?_
  refine IsInts.intro (by assumption) ?_
  (rename _ = filesF ns => e1)
  rw [← e1]
  assumption
example : True := by
  k_with "MINE enter" => (w_top off; intro mean mg mb base frames s A E hh hroom R; obtain ⟨hd0, dp, fr0, gd0, un0⟩ := A; dsimp only at hh hroom; subst hh; refine' enter_plain ?R ?ho ?hcd ?room ?bind ?loc ?_ ?co ?gen ?k ?cell; (case R => assumption); (case ho => k_is); (case hcd => k_is); (case room => k_room); (case bind => exact BindsTo.of_eq rfl); (case loc => exact locs rfl); (case co => exact rfl); (case gen => exact rfl); (case k => exact rfl); (case cell => decide); k_whole; intro g' L' h' hg' hL' F' N' B' X' T'; (try dsimp only); k_fold)
  trivial
example : True := by
  k_with "MINE end" => ((try dsimp only); (with_reducible show Ended _ _ _ _); refine Ended.intro (by assumption) (by assumption) ?_)
  trivial
example : True := by
  k_with "MINE walk" => ((repeat' (first | (k_unfold; (try dsimp only)) | walk1 | (dsimp only; walk1))); (all_goals walk_at "MINE end"))
  trivial
example : True := by
  k_with "call ref" => (k_here; (with_reducible show wpAny _ _ (call (Value.ref 42) [Value.int _ _, Value.int _ _]) _ _ _); k_dflt (refine' mod_K  ?s1 ?B ?F ?X ?N ?T ?hh ?room ?hf ?hk ?_; (case s1 => side_arith); (case B => k_asm); (case F => k_asm); (case X => k_asm); (case N => k_asm); (case T => k_asm); (case hh => exact rfl); (case room => k_room); (case hf => exact rfl); (case hk => exact rfl); k_whole; intro tz' hz' tkz' hm1' hm2' Fz' Nz'; (try dsimp only); (try k_sweep)))
  trivial
example : True := by
  k_with "call ref" => (k_here; k_dflt (refine' call_int_K ?S ?B ?F ?X ?N ?T ?hh ?room ?hf ?hk ?_; (case S => first | exact and_spec | exact or_spec | exact xor_spec | exact sub_spec | exact inv_spec | exact S_IMODE_spec | exact S_IFMT_spec | exact lshift_spec (by side_arith) (by side_arith) (by first | side_arith | exact kind_small _) | exact rshift_spec (by side_arith) (by side_arith)); (case B => k_asm); (case F => k_asm); (case X => k_asm); (case N => k_asm); (case T => k_asm); (case hh => exact rfl); (case room => k_room); (case hf => exact rfl); (case hk => exact rfl); k_whole; intro tz' hz' tkz' Fz' Nz'; (try dsimp only); (try k_sweep)))
  trivial
end
section
theorem or_xor_and (a : Nat) : ∀ b : Nat, a ||| b = (a ^^^ b) + (a &&& b) := by
  induction a using Nat.strongRecOn with
  | _ a ih =>
    intro b
    by_cases h : a = 0
    · subst h; simp
    · have := ih (a / 2) (by omega) (b / 2)
      have e1 := Nat.div_add_mod (a ||| b) 2
      have e2 := Nat.div_add_mod (a ^^^ b) 2
      have e3 := Nat.div_add_mod (a &&& b) 2
      rw [Nat.or_div_two] at e1
      rw [Nat.xor_div_two] at e2
      rw [Nat.and_div_two] at e3
      have m1 : (a ||| b) % 2 = (a ^^^ b) % 2 + (a &&& b) % 2 := by
        have ha := Nat.mod_two_eq_zero_or_one a
        have hb := Nat.mod_two_eq_zero_or_one b
        have x1 : (a ||| b) % 2 = (a % 2 ||| b % 2) := by
          have := Nat.or_mod_two_pow (a := a) (b := b) (n := 1); simpa using this
        have x2 : (a ^^^ b) % 2 = (a % 2 ^^^ b % 2) := by
          have := Nat.xor_mod_two_pow (a := a) (b := b) (n := 1); simpa using this
        have x3 : (a &&& b) % 2 = (a % 2 &&& b % 2) := by
          have := Nat.and_mod_two_pow (a := a) (b := b) (n := 1); simpa using this
        rw [x1, x2, x3]
        rcases ha with ha | ha <;> rcases hb with hb | hb <;> rw [ha, hb] <;> decide
      omega

theorem bitAnd_nat (a b : Nat) : Builtin.bitAnd (a : Int) (b : Int) = ((a &&& b : Nat) : Int) := by
  unfold Builtin.bitAnd
  simp
theorem bitOr_nat (a b : Nat) : Builtin.bitOr (a : Int) (b : Int) = ((a ||| b : Nat) : Int) := by
  unfold Builtin.bitOr Builtin.bitAnd
  have h1 : decide (0 ≤ Builtin.bitNot (a : Int)) = false := by simp [Builtin.bitNot]; omega
  have h2 : decide (0 ≤ Builtin.bitNot (b : Int)) = false := by simp [Builtin.bitNot]; omega
  rw [h1, h2]
  simp only [Builtin.bitNot]
  have h3 : (-(-(a : Int) - 1) - 1).toNat = a := by omega
  have h4 : (-(-(b : Int) - 1) - 1).toNat = b := by omega
  rw [h3, h4]
  omega
theorem bitXor_nat (a b : Nat) : Builtin.bitXor (a : Int) (b : Int) = ((a ^^^ b : Nat) : Int) := by
  unfold Builtin.bitXor
  rw [bitOr_nat, bitAnd_nat, or_xor_and]
  omega
theorem bitAndNot_nat (a b : Nat) : Builtin.bitAnd (a : Int) (Builtin.bitNot (b : Int)) = ((a - (a &&& b) : Nat) : Int) := by
  unfold Builtin.bitAnd
  have h2 : decide (0 ≤ Builtin.bitNot (b : Int)) = false := by simp [Builtin.bitNot]; omega
  rw [h2]
  simp only [Int.natCast_nonneg, decide_true, Builtin.bitNot]
  have h4 : (-(-(b : Int) - 1) - 1).toNat = b := by omega
  rw [h4]
  have : a &&& b ≤ a := Nat.and_le_left
  simp
  omega
end
section
set_option maxHeartbeats 4000000
section
variable {prog : Program} {w : World} {A : Around} {E : Value → Shared → Prop} {s : Shared}

theorem nextTup_item {it l : Addr} {i : Nat} {items : Array Value} {x : Value} {Q : Value → Shared → Prop} (hit : s.heap.IsTupleIter it l i) (hl : s.heap.IsTuple l items) (hx : items[i]? = some x)
    (hQ : ∀ h', h'.IsTupleIter it l (i + 1) → Heap.SameBut it s.heap h' → Q x { s with heap := h' }) :
    wpAny (model prog w) A (Builtin.SmallTypes.nextOf (.ref it)) Q E s := by
  obtain ⟨o, ho, hc, hd⟩ := id hit
  obtain ⟨ol, hol, _, nl, hdl⟩ := hl
  unfold Builtin.SmallTypes.nextOf
  refine wpAny_bind (wpAny_callSpecial?_slot (name := Str.ofString "__next__") hit.typeIs F.slot_tuple_iterator_next
    (wpAny_call_entry F.slot_tuple_iterator_next hit.typeIs F.entry_tuple_iterator_next ?_ (F.args_tuple_iterator_next_1 _)))
  show wpAny _ _ (field (.ref it) 0 >>= _) _ _ s
  refine wpAny_bind (wpAny_field ho hd (x := .ref l) rfl ?_)
  show wpAny _ _ (if (Value.ref l == Value.none) = true then _ else _) _ _ s
  rw [if_neg (show ¬ ((Value.ref l == Value.none) = true) from Bool.false_ne_true)]
  show wpAny _ _ (field (.ref it) 1 >>= _) _ _ s
  refine wpAny_bind (wpAny_field ho hd (x := .int i 0) rfl ?_)
  show wpAny _ _ (seqItems? (.ref l) >>= _) _ _ s
  refine wpAny_bind (wpAny_seqItems hol hdl ?_)
  simp only [Int.toNat_natCast, hx]
  refine wpAny_bind (wpAny_setField ho hd (by simp) (wpAny_pure ⟨x, rfl, wpAny_pure (hQ _ ?_ (Heap.SameBut.update ..))⟩))
  exact ⟨_, Heap.get?_update_self _ ho (Obj.isFreed_of_fields (Obj.data_mapFields hd _)), (Obj.cls_mapFields ..).trans hc, by
    rw [Obj.data_mapFields hd]; simp [rawInt]⟩

theorem nextTup_end {it l : Addr} {i : Nat} {items : Array Value} {Q : Value → Shared → Prop} (hh : A.handled = none) (hit : s.heap.IsTupleIter it l i) (hl : s.heap.IsTuple l items) (hx : items[i]? = none)
    (hE : ∀ h' e, Heap.ExtBut it s.heap h' → (∃ o, h'.get? e = some o ∧ o.cls = .type "StopIteration") → E (.ref e) { s with heap := h' }) :
    wpAny (model prog w) A (Builtin.SmallTypes.nextOf (.ref it)) Q E s := by
  obtain ⟨o, ho, hc, hd⟩ := id hit
  obtain ⟨ol, hol, _, nl, hdl⟩ := hl
  unfold Builtin.SmallTypes.nextOf
  refine wpAny_bind (wpAny_callSpecial?_slot (name := Str.ofString "__next__") hit.typeIs F.slot_tuple_iterator_next
    (wpAny_call_entry F.slot_tuple_iterator_next hit.typeIs F.entry_tuple_iterator_next ?_ (F.args_tuple_iterator_next_1 _)))
  show wpAny _ _ (field (.ref it) 0 >>= _) _ _ s
  refine wpAny_bind (wpAny_field ho hd (x := .ref l) rfl ?_)
  show wpAny _ _ (if (Value.ref l == Value.none) = true then _ else _) _ _ s
  rw [if_neg (show ¬ ((Value.ref l == Value.none) = true) from Bool.false_ne_true)]
  show wpAny _ _ (field (.ref it) 1 >>= _) _ _ s
  refine wpAny_bind (wpAny_field ho hd (x := .int i 0) rfl ?_)
  show wpAny _ _ (seqItems? (.ref l) >>= _) _ _ s
  refine wpAny_bind (wpAny_seqItems hol hdl ?_)
  simp only [Int.toNat_natCast, hx]
  refine wpAny_bind (wpAny_rule (wpAny_bind (wpAny_setField ho hd (by simp) ?_)))
  show wpAny _ _ (newExc (.type "StopIteration") [] >>= _) _ _ _
  refine wpAny_bind ?_
  simp only [newExc, newTuple]
  refine wpAny_bind (wpAny_newObj_type ?_ (by size_fits))
  refine wpAny_bind (m := firstArgMember _ _) (wpAny_of_eq (a := Value.none) (by first | rfl | (simp only [firstArgMember]; rfl)) ?_)
  refine wpAny_newObj_type ?_ (by size_fits)
  simp only [raiseNew]
  refine wpAny_bind (wpAny_handled ?_)
  first | rw [show A.in1.handled = none from hh] | rw [hh]
  refine wpAny_bind (wpAny_pure (wpAny_throw ?_))
  exact hE _ _ (((Heap.SameBut.update ..).extBut.push _).push _) ⟨_, Heap.get?_push_size _ rfl, rfl⟩

theorem drawsTup (hh : A.handled = none) (it l : Addr) (hne : l ≠ it) (items : Array Value) :
    Draws prog w A it [it, l] items.size (fun i v => items[i]? = some v) (fun i h => h.IsTupleIter it l i ∧ h.IsTuple l items) where
  live := fun _ _ st => let ⟨o, ho, _⟩ := st.1; ⟨o, ho⟩
  frame := fun _ _ _ st hk => ⟨st.1.at fun o e => hk it (by simp) o e, st.2.at fun o e => hk l (by simp) o e⟩
  item := fun i s Q E hi st hQ => by
    refine nextTup_item st.1 st.2 (x := items[i]) (by simp [hi]) fun h' hit' hs' => ?_
    exact hQ _ h' s.toks (by simp [hi]) ⟨hit', st.2.extBut hs'.extBut hne⟩ hs'
  done := fun s Q E st hE => nextTup_end hh st.1 st.2 (by simp) hE
end

open AutoSeq1 (wpAny_loadPart') in
theorem meets_enumT (l : Addr) (items : Array Value) (n : Nat) (dct : Option Addr) (sl : Array (Option Value)) :
    Meets (Builtin.«enumerate.__new__» ⟨[.type "enumerate", .ref l], []⟩) (fun _ R s => s.heap.get? l = some { cls := .type "tuple", dict := dct, data := .seq items n, slots := sl } ∧
      R (.ok (.ret (.ref (s.heap.push { cls := .type "tuple_iterator", data := .fields #[.ref l, .int 0 0] }).objs.size)))
        { s with heap := (s.heap.push { cls := .type "tuple_iterator", data := .fields #[.ref l, .int 0 0] }).push { cls := .type "enumerate", data := .fields #[.none, .bool false, .ref s.heap.objs.size, rawInt 0, .none, .none] } }) :=
  .of_wp fun prog w A R s h => by
    obtain ⟨hp, g, d, tk, os⟩ := s; obtain ⟨hl, h⟩ := h
    have hsub := sub_enumerate
    have hL : Heap.IsTuple (Shared.heap ⟨hp, g, d, tk, os⟩) l items := ⟨_, hl, rfl, n, rfl⟩
    wp_walk using wpAny_loadPart' hl
    refine wpAny_stack_any fun st => wpAny_pure ?_
    split
    · rename_i c _ _ _ _ _
      cases (c == Value.type "enumerate")
      · wp_walk using wpAny_loadPart' hl, wpAny_pyIter_tuple hL
        exact ⟨_, rfl, h⟩
      · wp_walk using wpAny_loadPart' hl, wpAny_pyIter_tuple hL
        exact ⟨_, rfl, h⟩
    · wp_walk using wpAny_loadPart' hl, wpAny_pyIter_tuple hL
      exact ⟨_, rfl, h⟩

theorem call_enumT {prog : Program} {w : World} {A : Around} {E : Value → Shared → Prop} {s : Shared} {l : Addr} {items : Array Value} {Q : Value → Shared → Prop} (hL : s.heap.IsTuple l items)
    (h : ∀ h', IsEnum h' (s.heap.objs.size + 1) s.heap.objs.size 0 .none → h'.IsTupleIter s.heap.objs.size l 0 → h'.objs.size = s.heap.objs.size + 2 →
      (∀ b o, s.heap.get? b = some o → h'.get? b = some o) → Q (.ref (s.heap.objs.size + 1)) { s with heap := h' }) :
    wpAny (model prog w) A (call (.type "enumerate") [.ref l]) Q E s := by
  obtain ⟨⟨c, dct, dt, sl⟩, hl, hc, n, hd⟩ := hL
  replace hc : c = .type "tuple" := hc
  replace hd : dt = .seq items n := hd
  subst hc hd
  refine callType_new F.called_enumerate (by decide) (F.typeCall_enumerate_1 _) (F.newCall_enumerate_1 _) (fun obj => F.args_object_init_2 obj _) F.entry_enumerate_new
    (meets_enumT l items n dct sl) ⟨hl, ?_⟩
  have hz : (s.heap.push { cls := .type "tuple_iterator", data := .fields #[.ref l, .int 0 0] }).objs.size = s.heap.objs.size + 1 := Heap.size_push ..
  show _ ∧ _
  rw [hz]
  have he : IsEnum ((s.heap.push { cls := .type "tuple_iterator", data := .fields #[.ref l, .int 0 0] }).push
      { cls := .type "enumerate", data := .fields #[.none, .bool false, .ref s.heap.objs.size, rawInt 0, .none, .none] }) (s.heap.objs.size + 1) s.heap.objs.size 0 .none := by
    have := Heap.get?_push_size (s.heap.push { cls := .type "tuple_iterator", data := .fields #[.ref l, .int 0 0] })
      (o := { cls := .type "enumerate", data := .fields #[.none, .bool false, .ref s.heap.objs.size, rawInt 0, .none, .none] }) rfl
    rw [hz] at this; exact this
  refine ⟨⟨_, he, rfl⟩, h _ he ⟨_, Heap.get?_push_of_some _ (Heap.get?_push_size _ rfl), rfl, rfl⟩ (by rw [Heap.size_push, hz]) fun b o x => Heap.get?_push_of_some _ (Heap.get?_push_of_some _ x)⟩
end
section
set_option maxHeartbeats 4000000
section
variable {prog : Program} {w : World} {A : Around} {s : Shared} {env : Env} {h₀ : Heap} {target : Expr} {body orelse : List Stmt} {Q : Flow → Shared → Prop}

/-- the end of a turn -/
def TurnEnd (h₀ : Heap) (L : Addr) (wr : List Addr) (own : List (Addr × Obj)) (Jn : (Str → Option Value) → List (Addr × Obj) → Prop) (s₁ : Shared) (Q : Flow → Shared → Prop) (f : Flow) (s₂ : Shared) : Prop :=
  match f with
  | .ret v => Q (.ret v) s₂
  | .brk => Q .next s₂
  | _ => ∃ h' tk m₂ news₂, s₂ = { s₁ with heap := h', toks := tk } ∧ Fr h₀ L h' m₂ ∧ News h₀ L h' (own ++ news₂) ∧ (∀ p ∈ news₂, p.1 ∉ wr) ∧ Jn m₂ news₂
theorem TurnEnd.next {L : Addr} {wr : List Addr} {own news₂ : List (Addr × Obj)} {Jn : (Str → Option Value) → List (Addr × Obj) → Prop} {s₁ : Shared} {h' : Heap} {tk : Nat} {m₂ : Str → Option Value}
    (F : Fr h₀ L h' m₂) (N : News h₀ L h' (own ++ news₂)) (hw : ∀ p ∈ news₂, p.1 ∉ wr) (hJ : Jn m₂ news₂) : TurnEnd h₀ L wr own Jn s₁ Q .next { s₁ with heap := h', toks := tk } := ⟨h', tk, m₂, news₂, rfl, F, N, hw, hJ⟩

theorem TurnEnd.brk {L : Addr} {wr : List Addr} {own : List (Addr × Obj)} {Jn : (Str → Option Value) → List (Addr × Obj) → Prop} {s₁ s₂ : Shared} (h : Q .next s₂) : TurnEnd h₀ L wr own Jn s₁ Q .brk s₂ := h

/-- what a loop wants of its iterator, its word and its turn -/
def TurnsE (prog : Program) (w : World) (A : Around) (h₀ : Heap) (env : Env) (target : Expr) (body orelse : List Stmt) (Q : Flow → Shared → Prop) (it : Value) (s₂ : Shared) : Prop :=
  ∃ (I : Addr) (fp wr : List Addr) (n : Nat) (P Md : Nat → Value → Heap → Prop) (St : Nat → Heap → Prop) (m : Str → Option Value) (news : List (Addr × Obj)) (J : Nat → (Str → Option Value) → List (Addr × Obj) → Prop),
    it = .ref I ∧ KTurns prog w A target I fp wr n P Md St ∧ env.locals ∉ fp ∧ (∀ b ∈ wr, h₀.get? b = none) ∧ (∀ p ∈ news, p.1 ∉ wr) ∧ St 0 s₂.heap ∧ Fr h₀ env.locals s₂.heap m ∧ News h₀ env.locals s₂.heap news ∧ J 0 m news ∧
    (∀ i v m₁ news₁ h₁ tk₁ own, i < n → P i v h₁ → J i m₁ news₁ → (∀ p ∈ news₁, p.1 ∉ wr) → (∀ p ∈ own, p.1 ∈ fp) → (∀ b ∈ fp, h₀.get? b = none → ∀ o, h₁.get? b = some o → (b, o) ∈ own) → St (i + 1) h₁ → Fr h₀ env.locals h₁ m₁ → News h₀ env.locals h₁ (own ++ news₁) →
      wpAny (model prog w) A (assign target env v) (fun _ s₃ => wpAny (model prog w) A (execs body env) (TurnEnd h₀ env.locals wr own (J (i + 1)) { s₂ with heap := h₁, toks := tk₁ } Q) (fun _ _ => False) s₃) (fun _ _ => False) { s₂ with heap := h₁, toks := tk₁ }) ∧
    ∀ h' tk m' news', Fr h₀ env.locals h' m' → News h₀ env.locals h' news' → (∀ p ∈ news', p.1 ∉ wr) → J n m' news' → wpAny (model prog w) A (execs orelse env) Q (fun _ _ => False) { s₂ with heap := h', toks := tk }

theorem TurnsE.intro {I : Addr} {fp wr : List Addr} {n : Nat} {P Md : Nat → Value → Heap → Prop} {St : Nat → Heap → Prop} {m : Str → Option Value} {news : List (Addr × Obj)} {J : Nat → (Str → Option Value) → List (Addr × Obj) → Prop} {s₂ : Shared}
    (W : KTurns prog w A target I fp wr n P Md St) (h1 : env.locals ∉ fp) (h2 : ∀ b ∈ wr, h₀.get? b = none) (h3 : ∀ p ∈ news, p.1 ∉ wr) (h4 : St 0 s₂.heap) (h5 : Fr h₀ env.locals s₂.heap m) (h6 : News h₀ env.locals s₂.heap news) (h7 : J 0 m news)
    (h8 : ∀ i v m₁ news₁ h₁ tk₁ own, i < n → P i v h₁ → J i m₁ news₁ → (∀ p ∈ news₁, p.1 ∉ wr) → (∀ p ∈ own, p.1 ∈ fp) → (∀ b ∈ fp, h₀.get? b = none → ∀ o, h₁.get? b = some o → (b, o) ∈ own) → St (i + 1) h₁ → Fr h₀ env.locals h₁ m₁ → News h₀ env.locals h₁ (own ++ news₁) →
      wpAny (model prog w) A (assign target env v) (fun _ s₃ => wpAny (model prog w) A (execs body env) (TurnEnd h₀ env.locals wr own (J (i + 1)) { s₂ with heap := h₁, toks := tk₁ } Q) (fun _ _ => False) s₃) (fun _ _ => False) { s₂ with heap := h₁, toks := tk₁ })
    (h9 : ∀ h' tk m' news', Fr h₀ env.locals h' m' → News h₀ env.locals h' news' → (∀ p ∈ news', p.1 ∉ wr) → J n m' news' → wpAny (model prog w) A (execs orelse env) Q (fun _ _ => False) { s₂ with heap := h', toks := tk }) :
    TurnsE prog w A h₀ env target body orelse Q (.ref I) s₂ := ⟨I, fp, wr, n, P, Md, St, m, news, J, rfl, W, h1, h2, h3, h4, h5, h6, h7, h8, h9⟩

theorem never_noted {M : Model} {R : Result → Shared → Prop} : ∀ (e : Value) (s' : Shared), False → notedBy M A env (fun e s' => R (.error e) s') e s' := fun _ _ h => h.elim

theorem loopE {R : Result → Shared → Prop} (hR : ∀ f s', Q f s' → R (.ok f) s') {it : Value} (h : TurnsE prog w A h₀ env target body orelse Q it s) : codeAny (model prog w) A (.forLoop target it body orelse env) R s := by
  refine ex10 h fun I fp wr n P Md St m news J hz => and11 hz fun e W hLf hwr hnw hst F N h0 step hE => ?_
  clear h hz
  subst e
  have hLw : env.locals ∉ wr := fun h => hLf (W.sub _ h)
  have old : ∀ b o, h₀.get? b = some o → b ∉ wr := fun b o e hb => by rw [hwr b hb] at e; cases e
  refine codeAny_forLoop_any
    (fun k s' => ∃ h' tk m' news' i, s' = { s with heap := h', toks := tk } ∧ St i h' ∧ Fr h₀ env.locals h' m' ∧ News h₀ env.locals h' news' ∧ (∀ p ∈ news', p.1 ∉ wr) ∧ J i m' news' ∧ i ≤ n ∧ k = n + 1 - i) ?_ (n + 1)
    ⟨s.heap, s.toks, m, news, 0, rfl, hst, F, N, hnw, h0, Nat.zero_le _, rfl⟩
  intro k s' hk
  refine ex5 hk fun h' tk m' news' i hz => and8 hz fun e hst' F' N' hnw' hJ hi ek => ?_
  clear hk hz
  subst e ek
  have next : ∀ h₁ : Heap, (∀ b o, b ∉ wr → h'.get? b = some o → h₁.get? b = some o) → Fr h₀ env.locals h₁ m' ∧ News h₀ env.locals h₁ news' := fun h₁ hk₁ =>
    ⟨⟨F'.ns.at' fun o e => hk₁ _ o hLw e, fun b o e => hk₁ b o (old b o e) (F'.keep b o e), F'.above⟩, fun p hp => ⟨hk₁ _ _ (hnw' p hp) (N' p hp).1, (N' p hp).2⟩⟩
  by_cases hlt : i < n
  · refine W.item i _ _ _ hlt hst' fun v h₁ tk₁ hMd hk₁ => ?_
    refine W.go i v _ _ _ hMd fun h₂ hP hst₂ hk₂ => ?_
    obtain ⟨F₂, N₂⟩ := next h₂ fun b o hb x => hk₂ b o hb (hk₁ b o hb x)
    have Nown : News h₀ env.locals h₂ (PyProof.Rows.ownOf h₀ fp h₂) := news_ownOf hLf
    have up : ∀ (h₃' : Heap) m₂ news₂, Fr h₀ env.locals h₃' m₂ → News h₀ env.locals h₃' (PyProof.Rows.ownOf h₀ fp h₂ ++ news₂) → St (i + 1) h₃' := fun h₃' m₂ news₂ F₃ N₃ => by
      refine W.frame _ _ _ hst₂ fun b hb o e => ?_
      cases hn : h₀.get? b with
      | some o₀ =>
        have : o₀ = o := by have q := F₂.keep b o₀ hn; rw [e] at q; exact (Option.some.inj q).symm
        exact this ▸ F₃.keep b o₀ hn
      | none => exact (N₃ _ (List.mem_append_left _ (mem_ownOf hb hn e))).1
    refine wpAny_mono (step i v m' news' h₂ tk₁ (PyProof.Rows.ownOf h₀ fp h₂) hlt hP hJ hnw' ownOf_sub (fun b hb hn o e => mem_ownOf hb hn e) hst₂ F₂ (Nown.append N₂)) (fun _ s₂ h₂' => wpAny_mono h₂' (fun f s₃ h₃ => ?_) never_noted) never_noted
    cases f with
    | ret v => exact hR _ _ h₃
    | brk => exact hR _ _ h₃
    | cont =>
      refine ex4 h₃ fun h₃' tk₃ m₂ news₂ hz => and5 hz fun e F₃ N₃ ha₃ hJ₃ => ?_
      clear h₃ hz
      subst e
      exact ⟨n + 1 - (i + 1), turn_lt hlt, h₃', tk₃, m₂, news₂, i + 1, rfl, up _ _ _ F₃ N₃, F₃, N₃.right, ha₃, hJ₃, hlt, rfl⟩
    | next =>
      refine ex4 h₃ fun h₃' tk₃ m₂ news₂ hz => and5 hz fun e F₃ N₃ ha₃ hJ₃ => ?_
      clear h₃ hz
      subst e
      exact ⟨n + 1 - (i + 1), turn_lt hlt, h₃', tk₃, m₂, news₂, i + 1, rfl, up _ _ _ F₃ N₃, F₃, N₃.right, ha₃, hJ₃, hlt, rfl⟩
  · have hin : i = n := last_turn hi hlt
    subst hin
    refine W.done _ _ _ hst' fun h₁ tk₁ hk₁ => ?_
    obtain ⟨F₁, N₁⟩ := next h₁ hk₁
    exact wpAny_mono (hE h₁ tk₁ m' news' F₁ N₁ hnw' hJ) (fun f s' x => hR _ _ x) never_noted

theorem forE {iter : Expr} {pos : Pos}
    (h : wpAny (model prog w) A (eval iter env) (fun xv s₁ => wpAny (model prog w) A (pyIter xv) (fun it s₂ => TurnsE prog w A h₀ env target body orelse Q it s₂) (fun _ _ => False) s₁) (fun _ _ => False) s)
    (hs : ∀ x, foldedSetIterable iter env x = pure x) :
    wpAny (model prog w) A (exec (.For target iter body orelse pos) env) Q (fun _ _ => False) s :=
  wpAny_For (wpAny_mono h (fun _ _ h₁ => wpAny_mono h₁ (fun _ _ h₂ => loopE (fun _ _ q => q) h₂) fun _ _ e => e) fun _ _ e => e) hs

theorem forEF {iter : Expr} {pos : Pos} {m : Str → Option Value} (_F : Fr h₀ env.locals s.heap m)
    (hs : ∀ x, foldedSetIterable iter env x = pure x)
    (h : wpAny (model prog w) A (eval iter env) (fun xv s₁ => wpAny (model prog w) A (pyIter xv) (fun it s₂ => TurnsE prog w A h₀ env target body orelse Q it s₂) (fun _ _ => False) s₁) (fun _ _ => False) s) :
    wpAny (model prog w) A (exec (.For target iter body orelse pos) env) Q (fun _ _ => False) s := forE h hs

/-- over a tuple that the call made -/
theorem turnsTupL {ax : Addr} {vs : Array Value} {m : Str → Option Value} {news news₀ : List (Addr × Obj)} (J : Nat → (Str → Option Value) → List (Addr × Obj) → Prop)
    (hh : A.handled = none) (hl : s.heap.IsTuple ax vs) (hax : ax ≠ env.locals) (F : Fr h₀ env.locals s.heap m) (N₀ : News h₀ env.locals s.heap news₀) (hsub : ∀ p ∈ news, p ∈ news₀) (h0 : J 0 m news)
    (step : ∀ I i v m₁ news₁ h₁ tk₁ own, i < vs.size → vs[i]? = some v → J i m₁ news₁ → (∀ p ∈ news₁, p.1 ∉ [I]) → (∀ p ∈ own, p.1 ∈ [I, ax]) → (∀ p ∈ news₀, p.1 < I) → Fr h₀ env.locals h₁ m₁ → News h₀ env.locals h₁ (own ++ news₁) →
      wpAny (model prog w) A (assign target env v) (fun _ s₃ => wpAny (model prog w) A (execs body env) (TurnEnd h₀ env.locals [I] own (J (i + 1)) { s with heap := h₁, toks := tk₁ } Q) (fun _ _ => False) s₃) (fun _ _ => False) { s with heap := h₁, toks := tk₁ })
    (hE : ∀ h' tk m' news', Fr h₀ env.locals h' m' → News h₀ env.locals h' news' → J vs.size m' news' → wpAny (model prog w) A (execs orelse env) Q (fun _ _ => False) { s with heap := h', toks := tk }) :
    wpAny (model prog w) A (pyIter (.ref ax)) (fun it s₂ => TurnsE prog w A h₀ env target body orelse Q it s₂) (fun _ _ => False) s := by
  have N : News h₀ env.locals s.heap news := fun p hp => N₀ p (hsub p hp)
  obtain ⟨ol, hol, _⟩ := id hl
  have hlt : ax < s.heap.objs.size := Heap.lt_size hol
  have hne : ax ≠ s.heap.objs.size := Nat.ne_of_lt hlt
  refine wpAny_pyIter_tuple hl ?_
  refine TurnsE.intro (fp := [s.heap.objs.size, ax]) (wr := [s.heap.objs.size]) (n := vs.size) (J := J) (KTurns.ofWalks (Walks.tuple hh s.heap.objs.size ax hne vs) fun i v s Q E st q => letGo_tupleiter st.1 q) ?_ ?_ ?_
    ⟨⟨_, Heap.get?_push_size _ rfl, rfl, rfl⟩, hl.at fun o e => Heap.get?_push_of_some _ e⟩ (F.push _) (fun p hp => ⟨Heap.get?_push_of_some _ (N p hp).1, (N p hp).2⟩) h0 ?_ ?_
  · intro hI
    rcases List.mem_cons.mp hI with e | hI
    · exact absurd F.ns.lt (e ▸ Nat.lt_irrefl _)
    · exact hax (List.mem_singleton.mp hI).symm
  · intro b hb
    rw [List.mem_singleton.mp hb]; exact next_is_new F
  · intro p hp hI
    exact absurd (Heap.lt_size (N p hp).1) ((List.mem_singleton.mp hI) ▸ Nat.lt_irrefl _)
  · intro i v m₁ news₁ h₁ tk₁ own hi hP hJ hw ho _ _ F₁ N₁
    exact step s.heap.objs.size i v m₁ news₁ h₁ tk₁ own hi hP hJ hw ho (fun p hp => Heap.lt_size (N₀ p hp).1) F₁ N₁
  · intro h' tk m' news' F' N' _ hJ
    exact hE h' tk m' news' F' N' hJ

/-- over a tuple of the ground -/
theorem turnsTup {ax : Addr} {vs : Array Value} {m : Str → Option Value} {news : List (Addr × Obj)} (J : Nat → (Str → Option Value) → List (Addr × Obj) → Prop)
    (hh : A.handled = none) (hl : h₀.IsTuple ax vs) (F : Fr h₀ env.locals s.heap m) (N : News h₀ env.locals s.heap news) (h0 : J 0 m news)
    (step : ∀ I i v m₁ news₁ h₁ tk₁ own, i < vs.size → vs[i]? = some v → J i m₁ news₁ → (∀ p ∈ news₁, p.1 ∉ [I]) → (∀ p ∈ own, p.1 ∈ [I, ax]) → (∀ p ∈ news, p.1 < I) → Fr h₀ env.locals h₁ m₁ → News h₀ env.locals h₁ (own ++ news₁) →
      wpAny (model prog w) A (assign target env v) (fun _ s₃ => wpAny (model prog w) A (execs body env) (TurnEnd h₀ env.locals [I] own (J (i + 1)) { s with heap := h₁, toks := tk₁ } Q) (fun _ _ => False) s₃) (fun _ _ => False) { s with heap := h₁, toks := tk₁ })
    (hE : ∀ h' tk m' news', Fr h₀ env.locals h' m' → News h₀ env.locals h' news' → J vs.size m' news' → wpAny (model prog w) A (execs orelse env) Q (fun _ _ => False) { s with heap := h', toks := tk }) :
    wpAny (model prog w) A (pyIter (.ref ax)) (fun it s₂ => TurnsE prog w A h₀ env target body orelse Q it s₂) (fun _ _ => False) s := by
  refine turnsTupL J hh (hl.at fun o e => F.keep _ o e) ?_ F N (fun _ h => h) h0 step hE
  intro e
  obtain ⟨_, hol, _⟩ := hl
  exact absurd (Heap.lt_size hol) (Nat.not_lt.mpr (e ▸ F.above))

/-- over enumerate of a tuple of the ground -/
theorem turnsEnum {elts : List Expr} {k : Nat} {pos : Pos} {ax : Addr} {vs : Array Value} {m : Str → Option Value} {news : List (Addr × Obj)} (J : Nat → (Str → Option Value) → List (Addr × Obj) → Prop)
    (hh : A.handled = none) (hl : h₀.IsTuple ax vs) (F : Fr h₀ env.locals s.heap m) (N : News h₀ env.locals s.heap news) (h0 : J 0 m news)
    (step : ∀ I i T t v m₁ news₁ h₁ tk₁ own, i < vs.size → vs[i]? = some v → IsTup h₁ T #[.int (i : Int) t, v] → J i m₁ news₁ → (∀ p ∈ news₁, p.1 ∉ [I + 1, I]) → (∀ p ∈ own, p.1 ∈ [I + 1, I, ax]) → (∀ p ∈ news, p.1 < I) → Fr h₀ env.locals h₁ m₁ → News h₀ env.locals h₁ (own ++ news₁) →
      wpAny (model prog w) A (assign (.Tuple elts k pos) env (.ref T)) (fun _ s₃ => wpAny (model prog w) A (execs body env) (TurnEnd h₀ env.locals [I + 1, I] own (J (i + 1)) { s with heap := h₁, toks := tk₁ } Q) (fun _ _ => False) s₃) (fun _ _ => False) { s with heap := h₁, toks := tk₁ })
    (hE : ∀ h' tk m' news', Fr h₀ env.locals h' m' → News h₀ env.locals h' news' → J vs.size m' news' → wpAny (model prog w) A (execs orelse env) Q (fun _ _ => False) { s with heap := h', toks := tk }) :
    wpAny (model prog w) A (call (.type "enumerate") [.ref ax]) (fun xv s₁ => wpAny (model prog w) A (pyIter xv) (fun it s₂ => TurnsE prog w A h₀ env (.Tuple elts k pos) body orelse Q it s₂) (fun _ _ => False) s₁) (fun _ _ => False) s := by
  have hl' : s.heap.IsTuple ax vs := hl.at fun o e => F.keep _ o e
  obtain ⟨ol, hol, _⟩ := id hl
  have hlt : ax < s.heap.objs.size := Heap.lt_size (F.keep _ _ hol)
  have hLs : env.locals < s.heap.objs.size := F.ns.lt
  refine call_enumT hl' fun h' hEn hI hsz hk => ?_
  refine wpAny_pyIter_enum hEn ?_
  refine TurnsE.intro (fp := [s.heap.objs.size + 1, s.heap.objs.size, ax]) (wr := [s.heap.objs.size + 1, s.heap.objs.size]) (n := vs.size) (J := J) (KTurns.ofWalksU (WalksT.enumerateD (drawsTup (A := A.in1) hh s.heap.objs.size ax (Nat.ne_of_lt hlt) vs) (s.heap.objs.size + 1) (Nat.succ_ne_self _) (by simp; exact fun e => ktu_ne 1 hlt e.symm) (by simp)).toU) ?_ ?_ ?_
    ⟨⟨.none, hEn⟩, hI, hl'.at fun o e => hk _ o e⟩ (F.keeps hk) (N.grown hk) h0 ?_ ?_
  · intro hI'
    have hb' : env.locals = s.heap.objs.size + 1 ∨ env.locals = s.heap.objs.size ∨ env.locals = ax := by simpa using hI'
    rcases hb' with e | e | e
    · exact ktu_ne 1 hLs e
    · exact Nat.ne_of_lt hLs e
    · exact absurd (Heap.lt_size hol) (Nat.not_lt.mpr (e ▸ F.above))
  · intro b hb
    have hb' : b = s.heap.objs.size + 1 ∨ b = s.heap.objs.size := by simpa using hb
    rcases hb' with rfl | rfl
    · exact ktu_new F (Nat.le_add_right _ _)
    · exact ktu_new F (Nat.le_refl _)
  · intro p hp hI'
    have hb' : p.1 = s.heap.objs.size + 1 ∨ p.1 = s.heap.objs.size := by simpa using hI'
    have hlp := Heap.lt_size (N p hp).1
    rcases hb' with e | e
    · exact ktu_ne 1 hlp e
    · exact Nat.ne_of_lt hlp e
  · rintro i v m₁ news₁ h₁ tk₁ own hi ⟨T, vals, rfl, ⟨t, x, hx, rfl⟩, hT⟩ hJ hw ho _ _ F₁ N₁
    exact step s.heap.objs.size i T t x m₁ news₁ h₁ tk₁ own hi hx hT hJ hw ho (fun p hp => Heap.lt_size (N p hp).1) F₁ N₁
  · intro h' tk m' news' F' N' _ hJ
    exact hE h' tk m' news' F' N' hJ
end
end
section
set_option maxHeartbeats 8000000

def tabD : List (List (Int × Str)) := [[(40960, Str.ofString "l"), (49152, Str.ofString "s"), (32768, Str.ofString "-"), (24576, Str.ofString "b"), (16384, Str.ofString "d"), (8192, Str.ofString "c"), (4096, Str.ofString "p")], [(256, Str.ofString "r")], [(128, Str.ofString "w")], [(2112, Str.ofString "s"), (2048, Str.ofString "S"), (64, Str.ofString "x")], [(32, Str.ofString "r")], [(16, Str.ofString "w")], [(1032, Str.ofString "s"), (1024, Str.ofString "S"), (8, Str.ofString "x")], [(4, Str.ofString "r")], [(2, Str.ofString "w")], [(513, Str.ofString "t"), (512, Str.ofString "T"), (1, Str.ofString "x")]]

def RowIs (g : Heap) (v : Value) (row : List (Int × Str)) : Prop :=
  ∃ a its, v = .ref a ∧ g.IsTuple a its ∧ its.size = row.length ∧ ∀ (j : Nat) (b : Int) (c : Str), row[j]? = some (b, c) → ∃ T tb tc, its[j]? = some (.ref T) ∧ IsTup g T #[.int b tb, .str c tc]
theorem row_141 {w : World} {g : Heap} (X : (hd.heap_39 w.params).In g) : RowIs g (.ref 141) [(40960, Str.ofString "l"), (49152, Str.ofString "s"), (32768, Str.ofString "-"), (24576, Str.ofString "b"), (16384, Str.ofString "d"), (8192, Str.ofString "c"), (4096, Str.ofString "p")] := by
  refine ⟨141, #[.ref 134, .ref 135, .ref 136, .ref 137, .ref 138, .ref 139, .ref 140], rfl, tupK (l := [.ref 134, .ref 135, .ref 136, .ref 137, .ref 138, .ref 139, .ref 140]) X (by k_is), rfl, ?_⟩
  intro j b c h
  match j, h with
  | 0, h =>
    obtain ⟨rfl, rfl⟩ : 40960 = b ∧ Str.ofString "l" = c := by simpa using h
    exact ⟨134, _, _, rfl, tupK (l := [_, _]) X (by k_is)⟩
  | 1, h =>
    obtain ⟨rfl, rfl⟩ : 49152 = b ∧ Str.ofString "s" = c := by simpa using h
    exact ⟨135, _, _, rfl, tupK (l := [_, _]) X (by k_is)⟩
  | 2, h =>
    obtain ⟨rfl, rfl⟩ : 32768 = b ∧ Str.ofString "-" = c := by simpa using h
    exact ⟨136, _, _, rfl, tupK (l := [_, _]) X (by k_is)⟩
  | 3, h =>
    obtain ⟨rfl, rfl⟩ : 24576 = b ∧ Str.ofString "b" = c := by simpa using h
    exact ⟨137, _, _, rfl, tupK (l := [_, _]) X (by k_is)⟩
  | 4, h =>
    obtain ⟨rfl, rfl⟩ : 16384 = b ∧ Str.ofString "d" = c := by simpa using h
    exact ⟨138, _, _, rfl, tupK (l := [_, _]) X (by k_is)⟩
  | 5, h =>
    obtain ⟨rfl, rfl⟩ : 8192 = b ∧ Str.ofString "c" = c := by simpa using h
    exact ⟨139, _, _, rfl, tupK (l := [_, _]) X (by k_is)⟩
  | 6, h =>
    obtain ⟨rfl, rfl⟩ : 4096 = b ∧ Str.ofString "p" = c := by simpa using h
    exact ⟨140, _, _, rfl, tupK (l := [_, _]) X (by k_is)⟩
  | n + 7, h => simp at h
theorem row_143 {w : World} {g : Heap} (X : (hd.heap_39 w.params).In g) : RowIs g (.ref 143) [(256, Str.ofString "r")] := by
  refine ⟨143, #[.ref 142], rfl, tupK (l := [.ref 142]) X (by k_is), rfl, ?_⟩
  intro j b c h
  match j, h with
  | 0, h =>
    obtain ⟨rfl, rfl⟩ : 256 = b ∧ Str.ofString "r" = c := by simpa using h
    exact ⟨142, _, _, rfl, tupK (l := [_, _]) X (by k_is)⟩
  | n + 1, h => simp at h
theorem row_145 {w : World} {g : Heap} (X : (hd.heap_39 w.params).In g) : RowIs g (.ref 145) [(128, Str.ofString "w")] := by
  refine ⟨145, #[.ref 144], rfl, tupK (l := [.ref 144]) X (by k_is), rfl, ?_⟩
  intro j b c h
  match j, h with
  | 0, h =>
    obtain ⟨rfl, rfl⟩ : 128 = b ∧ Str.ofString "w" = c := by simpa using h
    exact ⟨144, _, _, rfl, tupK (l := [_, _]) X (by k_is)⟩
  | n + 1, h => simp at h
theorem row_149 {w : World} {g : Heap} (X : (hd.heap_39 w.params).In g) : RowIs g (.ref 149) [(2112, Str.ofString "s"), (2048, Str.ofString "S"), (64, Str.ofString "x")] := by
  refine ⟨149, #[.ref 146, .ref 147, .ref 148], rfl, tupK (l := [.ref 146, .ref 147, .ref 148]) X (by k_is), rfl, ?_⟩
  intro j b c h
  match j, h with
  | 0, h =>
    obtain ⟨rfl, rfl⟩ : 2112 = b ∧ Str.ofString "s" = c := by simpa using h
    exact ⟨146, _, _, rfl, tupK (l := [_, _]) X (by k_is)⟩
  | 1, h =>
    obtain ⟨rfl, rfl⟩ : 2048 = b ∧ Str.ofString "S" = c := by simpa using h
    exact ⟨147, _, _, rfl, tupK (l := [_, _]) X (by k_is)⟩
  | 2, h =>
    obtain ⟨rfl, rfl⟩ : 64 = b ∧ Str.ofString "x" = c := by simpa using h
    exact ⟨148, _, _, rfl, tupK (l := [_, _]) X (by k_is)⟩
  | n + 3, h => simp at h
theorem row_151 {w : World} {g : Heap} (X : (hd.heap_39 w.params).In g) : RowIs g (.ref 151) [(32, Str.ofString "r")] := by
  refine ⟨151, #[.ref 150], rfl, tupK (l := [.ref 150]) X (by k_is), rfl, ?_⟩
  intro j b c h
  match j, h with
  | 0, h =>
    obtain ⟨rfl, rfl⟩ : 32 = b ∧ Str.ofString "r" = c := by simpa using h
    exact ⟨150, _, _, rfl, tupK (l := [_, _]) X (by k_is)⟩
  | n + 1, h => simp at h
theorem row_153 {w : World} {g : Heap} (X : (hd.heap_39 w.params).In g) : RowIs g (.ref 153) [(16, Str.ofString "w")] := by
  refine ⟨153, #[.ref 152], rfl, tupK (l := [.ref 152]) X (by k_is), rfl, ?_⟩
  intro j b c h
  match j, h with
  | 0, h =>
    obtain ⟨rfl, rfl⟩ : 16 = b ∧ Str.ofString "w" = c := by simpa using h
    exact ⟨152, _, _, rfl, tupK (l := [_, _]) X (by k_is)⟩
  | n + 1, h => simp at h
theorem row_157 {w : World} {g : Heap} (X : (hd.heap_39 w.params).In g) : RowIs g (.ref 157) [(1032, Str.ofString "s"), (1024, Str.ofString "S"), (8, Str.ofString "x")] := by
  refine ⟨157, #[.ref 154, .ref 155, .ref 156], rfl, tupK (l := [.ref 154, .ref 155, .ref 156]) X (by k_is), rfl, ?_⟩
  intro j b c h
  match j, h with
  | 0, h =>
    obtain ⟨rfl, rfl⟩ : 1032 = b ∧ Str.ofString "s" = c := by simpa using h
    exact ⟨154, _, _, rfl, tupK (l := [_, _]) X (by k_is)⟩
  | 1, h =>
    obtain ⟨rfl, rfl⟩ : 1024 = b ∧ Str.ofString "S" = c := by simpa using h
    exact ⟨155, _, _, rfl, tupK (l := [_, _]) X (by k_is)⟩
  | 2, h =>
    obtain ⟨rfl, rfl⟩ : 8 = b ∧ Str.ofString "x" = c := by simpa using h
    exact ⟨156, _, _, rfl, tupK (l := [_, _]) X (by k_is)⟩
  | n + 3, h => simp at h
theorem row_159 {w : World} {g : Heap} (X : (hd.heap_39 w.params).In g) : RowIs g (.ref 159) [(4, Str.ofString "r")] := by
  refine ⟨159, #[.ref 158], rfl, tupK (l := [.ref 158]) X (by k_is), rfl, ?_⟩
  intro j b c h
  match j, h with
  | 0, h =>
    obtain ⟨rfl, rfl⟩ : 4 = b ∧ Str.ofString "r" = c := by simpa using h
    exact ⟨158, _, _, rfl, tupK (l := [_, _]) X (by k_is)⟩
  | n + 1, h => simp at h
theorem row_161 {w : World} {g : Heap} (X : (hd.heap_39 w.params).In g) : RowIs g (.ref 161) [(2, Str.ofString "w")] := by
  refine ⟨161, #[.ref 160], rfl, tupK (l := [.ref 160]) X (by k_is), rfl, ?_⟩
  intro j b c h
  match j, h with
  | 0, h =>
    obtain ⟨rfl, rfl⟩ : 2 = b ∧ Str.ofString "w" = c := by simpa using h
    exact ⟨160, _, _, rfl, tupK (l := [_, _]) X (by k_is)⟩
  | n + 1, h => simp at h
theorem row_165 {w : World} {g : Heap} (X : (hd.heap_39 w.params).In g) : RowIs g (.ref 165) [(513, Str.ofString "t"), (512, Str.ofString "T"), (1, Str.ofString "x")] := by
  refine ⟨165, #[.ref 162, .ref 163, .ref 164], rfl, tupK (l := [.ref 162, .ref 163, .ref 164]) X (by k_is), rfl, ?_⟩
  intro j b c h
  match j, h with
  | 0, h =>
    obtain ⟨rfl, rfl⟩ : 513 = b ∧ Str.ofString "t" = c := by simpa using h
    exact ⟨162, _, _, rfl, tupK (l := [_, _]) X (by k_is)⟩
  | 1, h =>
    obtain ⟨rfl, rfl⟩ : 512 = b ∧ Str.ofString "T" = c := by simpa using h
    exact ⟨163, _, _, rfl, tupK (l := [_, _]) X (by k_is)⟩
  | 2, h =>
    obtain ⟨rfl, rfl⟩ : 1 = b ∧ Str.ofString "x" = c := by simpa using h
    exact ⟨164, _, _, rfl, tupK (l := [_, _]) X (by k_is)⟩
  | n + 3, h => simp at h
theorem tab_facts {w : World} {g : Heap} (X : (hd.heap_39 w.params).In g) : ∃ vs : Array Value, g.IsTuple 166 vs ∧ vs.size = 10 ∧ ∀ (i : Nat) (v : Value), vs[i]? = some v → RowIs g v (tabD.getD i []) := by
  refine ⟨#[.ref 141, .ref 143, .ref 145, .ref 149, .ref 151, .ref 153, .ref 157, .ref 159, .ref 161, .ref 165], tupK (l := [.ref 141, .ref 143, .ref 145, .ref 149, .ref 151, .ref 153, .ref 157, .ref 159, .ref 161, .ref 165]) X (by k_is), rfl, ?_⟩
  intro i v h
  match i, h with
  | 0, h =>
    obtain rfl : Value.ref 141 = v := by simpa using h
    exact row_141 X
  | 1, h =>
    obtain rfl : Value.ref 143 = v := by simpa using h
    exact row_143 X
  | 2, h =>
    obtain rfl : Value.ref 145 = v := by simpa using h
    exact row_145 X
  | 3, h =>
    obtain rfl : Value.ref 149 = v := by simpa using h
    exact row_149 X
  | 4, h =>
    obtain rfl : Value.ref 151 = v := by simpa using h
    exact row_151 X
  | 5, h =>
    obtain rfl : Value.ref 153 = v := by simpa using h
    exact row_153 X
  | 6, h =>
    obtain rfl : Value.ref 157 = v := by simpa using h
    exact row_157 X
  | 7, h =>
    obtain rfl : Value.ref 159 = v := by simpa using h
    exact row_159 X
  | 8, h =>
    obtain rfl : Value.ref 161 = v := by simpa using h
    exact row_161 X
  | 9, h =>
    obtain rfl : Value.ref 165 = v := by simpa using h
    exact row_165 X
  | n + 10, h => simp at h
end
section
set_option maxHeartbeats 4000000
def pickF (z : Bool) (x : Int) : List (Int × Str) → Str
  | [] => if z then Str.ofString "?" else Str.ofString "-"
  | (b, c) :: r => if (if z then Builtin.bitAnd x 61440 = b else Builtin.bitAnd x b = b) then c else pickF z x r
def rowF (x : Int) (i : Nat) : Str := pickF (i == 0) x (tabD.getD i [])
def permsF (x : Int) (i : Nat) : List Str := (List.range i).map (rowF x)
theorem permsF_succ (x : Int) (i : Nat) : permsF x (i + 1) = permsF x i ++ [rowF x i] := by simp [permsF, List.range_succ]
theorem pick_hit {z : Bool} {x : Int} {row : List (Int × Str)} {j : Nat} {b : Int} {c : Str} (hj : row[j]? = some (b, c)) (hp : pickF z x (row.drop j) = pickF z x row) (h : if z then Builtin.bitAnd x 61440 = b else Builtin.bitAnd x b = b) : c = pickF z x row := by
  have hlt : j < row.length := (List.getElem?_eq_some_iff.mp hj).1
  rw [← hp, List.drop_eq_getElem_cons hlt, Option.some.inj ((List.getElem?_eq_getElem hlt).symm.trans hj), pickF, if_pos h]
theorem pick_miss {z : Bool} {x : Int} {row : List (Int × Str)} {j : Nat} {b : Int} {c : Str} (hj : row[j]? = some (b, c)) (hp : pickF z x (row.drop j) = pickF z x row) (h : ¬ (if z then Builtin.bitAnd x 61440 = b else Builtin.bitAnd x b = b)) : pickF z x (row.drop (j + 1)) = pickF z x row := by
  have hlt : j < row.length := (List.getElem?_eq_some_iff.mp hj).1
  rw [← hp, List.drop_eq_getElem_cons hlt, Option.some.inj ((List.getElem?_eq_getElem hlt).symm.trans hj), pickF, if_neg h]

theorem pick_len {z : Bool} {x : Int} : ∀ {row : List (Int × Str)}, (∀ p ∈ row, p.2.length = 1) → (pickF z x row).length = 1
  | [], _ => by unfold pickF; cases z <;> decide
  | (b, c) :: r, h => by
    rw [pickF]
    by_cases q : (if z then Builtin.bitAnd x 61440 = b else Builtin.bitAnd x b = b)
    · rw [if_pos q]; exact h (b, c) (List.mem_cons_self ..)
    · rw [if_neg q]; exact pick_len fun p hp => h p (List.mem_cons_of_mem _ hp)
theorem tab_len : ∀ i : Nat, ∀ p ∈ tabD.getD i [], p.2.length = 1
  | 0 | 1 | 2 | 3 | 4 | 5 | 6 | 7 | 8 | 9 => by decide +kernel
  | n + 10 => by simp [tabD]
theorem row_len (x : Int) (i : Nat) : (rowF x i).length = 1 := pick_len (tab_len i)
theorem perms_sum (x : Int) (i : Nat) : ((permsF x i).map (·.length)).sum + (permsF x i).length = 2 * i := by
  induction i with
  | zero => rfl
  | succ i ih => rw [permsF_succ]; simp only [List.map_append, List.sum_append, List.length_append, List.map_cons, List.map_nil, List.sum_cons, List.sum_nil, List.length_cons, List.length_nil, row_len]; omega

theorem hit0 {i : Nat} {x : Int} {row : List (Int × Str)} {j : Nat} {b : Int} {c : Str} (hj : row[j]? = some (b, c)) (hp : pickF (i == 0) x (row.drop j) = pickF (i == 0) x row) (hi : (i : Int) = 0) (h : Builtin.bitAnd x 61440 = b) : c = pickF (i == 0) x row :=
  pick_hit hj hp (by have : (i == 0) = true := by simp; omega
                     rw [this]; exact h)
theorem hit1 {i : Nat} {x : Int} {row : List (Int × Str)} {j : Nat} {b : Int} {c : Str} (hj : row[j]? = some (b, c)) (hp : pickF (i == 0) x (row.drop j) = pickF (i == 0) x row) (hi : (i : Int) ≠ 0) (h : Builtin.bitAnd x b = b) : c = pickF (i == 0) x row :=
  pick_hit hj hp (by have : (i == 0) = false := by simp; omega
                     rw [this]; exact h)
theorem miss0 {i : Nat} {x : Int} {row : List (Int × Str)} {j : Nat} {b : Int} {c : Str} (hj : row[j]? = some (b, c)) (hp : pickF (i == 0) x (row.drop j) = pickF (i == 0) x row) (hi : (i : Int) = 0) (h : Builtin.bitAnd x 61440 ≠ b) : pickF (i == 0) x (row.drop (j + 1)) = pickF (i == 0) x row :=
  pick_miss hj hp (by have : (i == 0) = true := by simp; omega
                      rw [this]; exact h)
theorem miss1 {i : Nat} {x : Int} {row : List (Int × Str)} {j : Nat} {b : Int} {c : Str} (hj : row[j]? = some (b, c)) (hp : pickF (i == 0) x (row.drop j) = pickF (i == 0) x row) (hi : (i : Int) ≠ 0) (h : Builtin.bitAnd x b ≠ b) : pickF (i == 0) x (row.drop (j + 1)) = pickF (i == 0) x row :=
  pick_miss hj hp (by have : (i == 0) = false := by simp; omega
                      rw [this]; exact h)
theorem else0 {i : Nat} {x : Int} (hp : pickF (i == 0) x [] = pickF (i == 0) x (tabD.getD i [])) (hi : (i : Int) = 0) : Str.ofString "?" = rowF x i := by
  have : (i == 0) = true := by simp; omega
  unfold rowF; rw [← hp, this]; rfl
theorem else1 {i : Nat} {x : Int} (hp : pickF (i == 0) x [] = pickF (i == 0) x (tabD.getD i [])) (hi : (i : Int) ≠ 0) : Str.ofString "-" = rowF x i := by
  have : (i == 0) = false := by simp; omega
  unfold rowF; rw [← hp, this]; rfl

/-- a frame's map, but for the names of ys -/
abbrev butM (ys : List Str) (u m : Str → Option Value) : Str → Option Value := fun y => if ys.contains y then u y else m y
theorem butM_of {ys : List Str} {m m' : Str → Option Value} (h : ∀ y, ys.contains y = false → m' y = m y) : m' = butM ys m' m := by
  funext y
  show m' y = if ys.contains y = true then m' y else m y
  cases e : ys.contains y with
  | true => simp
  | false => simp [h y e]

def FmJ (ys : List Str) (m₀ : Str → Option Value) (l : Addr) (x : Int) (i : Nat) (m : Str → Option Value) (news : List (Addr × Obj)) : Prop :=
  (∃ u, m = butM ys u m₀) ∧ ∃ vs n, news = [(l, W.listOf (vs : List Value).toArray n)] ∧ StrsAre vs (permsF x i)
def InJ (ys : List Str) (m₀ : Str → Option Value) (news₀ : List (Addr × Obj)) (z : Bool) (x : Int) (row : List (Int × Str)) (j : Nat) (m : Str → Option Value) (news : List (Addr × Obj)) : Prop :=
  (∃ u, m = butM ys u m₀) ∧ news = news₀ ∧ pickF z x (row.drop j) = pickF z x row
section
variable {prog : Program} {w : World} {A : Around} {s : Shared} {env : Env} {h₀ : Heap} {target : Expr} {body orelse : List Stmt} {Q : Flow → Shared → Prop}

theorem fm_outer {elts : List Expr} {k : Nat} {pos : Pos} {tv : Array Value} {m₀ : Str → Option Value} {l : Addr} (ys : List Str) (x : Int)
    (hh : A.handled = none) (ht : h₀.IsTuple 166 tv) (hsz : tv.size = 10) (hrow : ∀ (i : Nat) (v : Value), tv[i]? = some v → RowIs h₀ v (tabD.getD i [])) (F : Fr h₀ env.locals s.heap m₀) (N : News h₀ env.locals s.heap [(l, W.listOf #[] 0)])
    (step : ∀ I i T t v u vs n h₁ tk₁ own, i < 10 → RowIs h₀ v (tabD.getD i []) → IsTup h₁ T #[.int (i : Int) t, v] → StrsAre vs (permsF x i) → OwnOff own [l] → l < I → Fr h₀ env.locals h₁ (butM ys u m₀) → News h₀ env.locals h₁ ((l, W.listOf (vs : List Value).toArray n) :: own) →
      wpAny (model prog w) A (assign (.Tuple elts k pos) env (.ref T)) (fun _ s₃ => wpAny (model prog w) A (execs body env) (TurnEnd h₀ env.locals [I + 1, I] own (FmJ ys m₀ l x (i + 1)) { s with heap := h₁, toks := tk₁ } Q) (fun _ _ => False) s₃) (fun _ _ => False) { s with heap := h₁, toks := tk₁ })
    (hE : ∀ u vs n h' tk, StrsAre vs (permsF x 10) → Fr h₀ env.locals h' (butM ys u m₀) → News h₀ env.locals h' [(l, W.listOf (vs : List Value).toArray n)] → wpAny (model prog w) A (execs orelse env) Q (fun _ _ => False) { s with heap := h', toks := tk }) :
    wpAny (model prog w) A (call (.type "enumerate") [.ref 166]) (fun xv s₁ => wpAny (model prog w) A (pyIter xv) (fun it s₂ => TurnsE prog w A h₀ env (.Tuple elts k pos) body orelse Q it s₂) (fun _ _ => False) s₁) (fun _ _ => False) s := by
  refine turnsEnum (FmJ ys m₀ l x) hh ht F N ⟨⟨m₀, butM_of fun _ _ => rfl⟩, [], 0, rfl, .nil⟩ ?_ ?_
  · rintro I i T t v m₁ news₁ h₁ tk₁ own hi hv hT ⟨⟨u, rfl⟩, vs, n, rfl, hS⟩ hw ho hlt F₁ N₁
    have hl : l < I := hlt (l, _) (List.mem_singleton.mpr rfl)
    refine step I i T t v u vs n h₁ tk₁ own (hsz ▸ hi) (hrow i v hv) hT hS ?_ hl F₁ (fun p hp => N₁ p ?_)
    · intro p hp b hb e
      rw [List.mem_singleton.mp hb] at e
      have h1 := ho p hp
      have h2 := hw (l, _) (List.mem_singleton.mpr rfl)
      rcases List.mem_cons.mp h1 with q | q
      · exact h2 (by rw [← e, q]; simp)
      · rcases List.mem_cons.mp q with q | q
        · exact h2 (by rw [← e, q]; simp)
        · have h3 := (N (l, _) (List.mem_singleton.mpr rfl)).2.2
          obtain ⟨o, ho', _⟩ := ht
          rw [← e, List.mem_singleton.mp q, ho'] at h3
          cases h3
    · rcases List.mem_cons.mp hp with rfl | hp
      · exact List.mem_append_right _ (List.mem_singleton.mpr rfl)
      · exact List.mem_append_left _ hp
  · rintro h' tk m' news' F' N' ⟨⟨u, rfl⟩, vs, n, rfl, hS⟩
    rw [hsz] at hS
    exact hE u vs n h' tk hS F' N'

theorem fm_inner {v : Value} {row : List (Int × Str)} {m₀ : Str → Option Value} {l : Addr} {o : Obj} {own₀ : List (Addr × Obj)} (ys : List Str) (z : Bool) (x : Int)
    (hh : A.handled = none) (hrow : RowIs h₀ v row) (hoff : OwnOff own₀ [l]) (F : Fr h₀ env.locals s.heap m₀) (N : News h₀ env.locals s.heap ((l, o) :: own₀))
    (step : ∀ I j b c T tb tc u h₁ tk₁ own own', row[j]? = some (b, c) → IsTup h₁ T #[.int b tb, .str c tc] → pickF z x (row.drop j) = pickF z x row → OwnOff own [l] → (∀ p ∈ own₀, p ∈ own) → (∀ p ∈ own', p ∈ own) → (∀ p ∈ (l, o) :: own₀, p.1 ∉ [I]) → Fr h₀ env.locals h₁ (butM ys u m₀) → News h₀ env.locals h₁ ((l, o) :: own) →
      wpAny (model prog w) A (assign target env (.ref T)) (fun _ s₃ => wpAny (model prog w) A (execs body env) (TurnEnd h₀ env.locals [I] own' (InJ ys m₀ ((l, o) :: own₀) z x row (j + 1)) { s with heap := h₁, toks := tk₁ } Q) (fun _ _ => False) s₃) (fun _ _ => False) { s with heap := h₁, toks := tk₁ })
    (hE : ∀ u h' tk, pickF z x [] = pickF z x row → Fr h₀ env.locals h' (butM ys u m₀) → News h₀ env.locals h' ((l, o) :: own₀) → wpAny (model prog w) A (execs orelse env) Q (fun _ _ => False) { s with heap := h', toks := tk }) :
    wpAny (model prog w) A (pyIter v) (fun it s₂ => TurnsE prog w A h₀ env target body orelse Q it s₂) (fun _ _ => False) s := by
  obtain ⟨a, its, rfl, ht, hsz, hit⟩ := hrow
  refine turnsTup (InJ ys m₀ ((l, o) :: own₀) z x row) hh ht F N ⟨⟨m₀, butM_of fun _ _ => rfl⟩, rfl, rfl⟩ ?_ ?_
  · rintro I j v m₁ news₁ h₁ tk₁ own hj hv ⟨⟨u, rfl⟩, rfl, hp⟩ hw ho hlt F₁ N₁
    have hj' : j < row.length := hsz ▸ hj
    obtain ⟨T, tb, tc, e, hT⟩ := hit j row[j].1 row[j].2 (by simp [hj'])
    obtain rfl : Value.ref T = v := Option.some.inj (e.symm.trans hv)
    refine step I j row[j].1 row[j].2 T tb tc u h₁ tk₁ (own ++ own₀) own (by simp [hj']) (IsTup.keeps hT F₁.keep) hp ?_ (fun p hp => List.mem_append_right _ hp) (fun p hp => List.mem_append_left _ hp) hw F₁ (fun p hp => N₁ p ?_)
    · intro p hp b hb e
      rw [List.mem_singleton.mp hb] at e
      rcases List.mem_append.mp hp with hp | hp
      · have h1 := ho p hp
        rcases List.mem_cons.mp h1 with q | q
        · exact hw (l, o) (List.mem_cons_self ..) (by rw [← e, q]; simp)
        · have h3 := (N (l, o) (List.mem_cons_self ..)).2.2
          obtain ⟨o, ho', _⟩ := ht
          rw [← e, List.mem_singleton.mp q, ho'] at h3
          cases h3
      · exact hoff p hp l (List.mem_singleton.mpr rfl) e
    · rcases List.mem_cons.mp hp with rfl | hp
      · exact List.mem_append_right _ (List.mem_cons_self ..)
      · rcases List.mem_append.mp hp with hp | hp
        · exact List.mem_append_left _ hp
        · exact List.mem_append_right _ (List.mem_cons_of_mem _ hp)
  · rintro h' tk m' news' F' N' ⟨⟨u, rfl⟩, rfl, hp⟩
    rw [List.drop_eq_nil_of_le (by omega)] at hp
    exact hE u h' tk hp F' N'

theorem in_end {I : Addr} {own all own₀ own₁ : List (Addr × Obj)} {ys : List Str} {m₀ m' : Str → Option Value} {l : Addr} {o : Obj} {z : Bool} {x : Int} {row : List (Int × Str)} {j : Nat} {s₁ : Shared} {h' : Heap} {tk : Nat}
    (hw : ∀ p ∈ (l, o) :: own₀, p.1 ∉ [I]) (h1 : ∀ p ∈ own₀, p ∈ own) (h2 : ∀ p ∈ own₁, p ∈ own) (F : Fr h₀ env.locals h' m') (N : News h₀ env.locals h' ((l, o) :: all)) (ha : ∀ p ∈ own, p ∈ all) (hm : ∀ y, ys.contains y = false → m' y = m₀ y) (hp : pickF z x (row.drop j) = pickF z x row) :
    TurnEnd h₀ env.locals [I] own₁ (InJ ys m₀ ((l, o) :: own₀) z x row j) s₁ Q .next { s₁ with heap := h', toks := tk } :=
  .next F (fun p hp => N p (by
    rcases List.mem_append.mp hp with hp | hp
    · exact List.mem_cons_of_mem _ (ha p (h2 p hp))
    · rcases List.mem_cons.mp hp with rfl | hp
      · exact List.mem_cons_self ..
      · exact List.mem_cons_of_mem _ (ha p (h1 p hp)))) hw ⟨⟨m', butM_of hm⟩, rfl, hp⟩

theorem fm_end {I : Addr} {own all : List (Addr × Obj)} {ys : List Str} {m₀ m' : Str → Option Value} {l : Addr} {x : Int} {i n : Nat} {s₁ : Shared} {h' : Heap} {tk : Nat} {vs : List Value} {c : Str} {tc : Tok}
    (hl : l < I) (hS : StrsAre vs (permsF x i)) (F : Fr h₀ env.locals h' m') (N : News h₀ env.locals h' ((l, W.listOf (vs.toArray.push (.str c tc)) n) :: all)) (ha : ∀ p ∈ own, p ∈ all) (hm : ∀ y, ys.contains y = false → m' y = m₀ y) (hc : c = rowF x i) :
    TurnEnd h₀ env.locals [I + 1, I] own (FmJ ys m₀ l x (i + 1)) s₁ Q .next { s₁ with heap := h', toks := tk } :=
  .next F (news₂ := [(l, W.listOf (vs ++ [Value.str c tc]).toArray n)]) (fun p hp => N p (by
    rcases List.mem_append.mp hp with hp | hp
    · exact List.mem_cons_of_mem _ (ha p hp)
    · rw [List.mem_singleton.mp hp]
      simp))
    (fun p hp => by
      rw [List.mem_singleton.mp hp]
      intro q
      have hb' : l = I + 1 ∨ l = I := by simpa using q
      rcases hb' with e | e
      · exact ktu_ne 1 hl e
      · exact Nat.ne_of_lt hl e)
    ⟨⟨m', butM_of hm⟩, _, n, rfl, by
      rw [permsF_succ, ← hc]
      exact StrsAre.append' hS (.cons _ _ .nil)⟩
end
end
section
set_option maxHeartbeats 8000000
local macro_rules | `(tactic| walk_at "exec For Tuple Call") => `(tactic| (k_here; k_dflt ((rename Fr _ _ _ _ => lF'); (with_unfolding_all refine' forEF lF' ?hs ?_; (case hs => intro _; with_unfolding_all rfl); k_whole))))
local macro_rules | `(tactic| walk_at "exec For Tuple Name") => `(tactic| (k_here; k_dflt ((rename Fr _ _ _ _ => lF'); (with_unfolding_all refine' forEF lF' ?hs ?_; (case hs => intro _; with_unfolding_all rfl); k_whole))))
local macro_rules | `(tactic| walk_at "exec For Tuple Name cons cons") => `(tactic| (k_here; k_dflt ((rename Fr _ _ _ _ => lF'); (with_unfolding_all refine' forEF lF' ?hs ?_; (case hs => intro _; with_unfolding_all rfl); k_whole))))

theorem fm_spec {w : World} {x : Int} {t : Tok} : Spec w 2 173 [.int x t] (IsStr (Txt.join (Str.ofString "") (permsF x 10))) := by
  walk_at "MINE enter"
  repeat' (first | walk1 | (dsimp only; walk1))
  (rename Frag.In _ _ => hX); (rename Fr _ _ _ _ => hF); (rename News _ _ _ _ => hN)
  obtain ⟨tv, ht, hsz, hrow⟩ := tab_facts hX
  with_unfolding_all refine' fm_outer [Str.ofString "index", Str.ofString "table", Str.ofString "bit", Str.ofString "char"] x (by rfl) ht hsz hrow hF hN ?_ ?_
  · clear hF hN
    intro I i T tt v u vs n h₁ tk₁ own hi hr hT hS hoff hl hF hN
    have hlen := hS.length
    have hlen2 := perms_sum x i
    repeat' (first | walk1 | (dsimp only; walk1))
    (rename Fr _ _ _ _ => hF2); (rename News _ _ _ _ => hN2)
    with_unfolding_all refine' fm_inner [Str.ofString "bit", Str.ofString "char"] (i == 0) x (by rfl) hr hoff hF2 hN2 ?_ ?_
    · clear hF2 hN2
      intro I2 j b c T2 tb tc u2 h₂ tk₂ own2 own2' hj hT2 hp hoff2 hs1 hs2 hw2 hF3 hN3
      repeat' (first | walk1 | (dsimp only; walk1))
      all_goals (try dsimp only)
      all_goals first
        | (with_unfolding_all refine in_end hw2 hs1 hs2 (by assumption) (by assumption) (fun _ h => h) ?_ ?_
           · intro y hy
             have h1 : y ≠ Str.ofString "bit" := by rintro rfl; exact absurd hy (by decide)
             have h2 : y ≠ Str.ofString "char" := by rintro rfl; exact absurd hy (by decide)
             simp only [butM, if_neg h1, if_neg h2, hy, Bool.false_eq_true, if_false]
           · first | exact miss0 hj hp (by assumption) (by assumption) | exact miss1 hj hp (by assumption) (by assumption))
        | (refine TurnEnd.brk ?_
           repeat' (first | walk1 | (dsimp only; walk1))
           with_unfolding_all refine fm_end hl hS (by assumption) (by assumption) hs1 ?_ ?_
           · intro y hy
             have h1 : y ≠ Str.ofString "bit" := by rintro rfl; exact absurd hy (by decide)
             have h2 : y ≠ Str.ofString "char" := by rintro rfl; exact absurd hy (by decide)
             have h3 : y ≠ Str.ofString "index" := by rintro rfl; exact absurd hy (by decide)
             have h4 : y ≠ Str.ofString "table" := by rintro rfl; exact absurd hy (by decide)
             have h5 : [Str.ofString "bit", Str.ofString "char"].contains y = false := by simp [h1, h2]
             simp only [butM, if_neg h1, if_neg h2, if_neg h3, if_neg h4, h5, hy, Bool.false_eq_true, if_false]
           · first | exact hit0 hj hp (by assumption) (by assumption) | exact hit1 hj hp (by assumption) (by assumption))
    · clear hF2 hN2
      intro u2 h₂ tk₂ hp hF3 hN3
      repeat' (first | walk1 | (dsimp only; walk1))
      all_goals (try dsimp only)
      all_goals (with_unfolding_all refine fm_end hl hS (by assumption) (by assumption) (fun _ h => h) ?_ ?_)
      · intro y hy
        have h1 : y ≠ Str.ofString "bit" := by rintro rfl; exact absurd hy (by decide)
        have h2 : y ≠ Str.ofString "char" := by rintro rfl; exact absurd hy (by decide)
        have h3 : y ≠ Str.ofString "index" := by rintro rfl; exact absurd hy (by decide)
        have h4 : y ≠ Str.ofString "table" := by rintro rfl; exact absurd hy (by decide)
        have h5 : [Str.ofString "bit", Str.ofString "char"].contains y = false := by simp [h1, h2]
        simp only [butM, if_neg h3, if_neg h4, h5, hy, Bool.false_eq_true, if_false]
      · exact else0 hp (by assumption)
      · intro y hy
        have h3 : y ≠ Str.ofString "index" := by rintro rfl; exact absurd hy (by decide)
        have h4 : y ≠ Str.ofString "table" := by rintro rfl; exact absurd hy (by decide)
        have h1 : y ≠ Str.ofString "bit" := by rintro rfl; exact absurd hy (by decide)
        have h2 : y ≠ Str.ofString "char" := by rintro rfl; exact absurd hy (by decide)
        have h5 : [Str.ofString "bit", Str.ofString "char"].contains y = false := by simp [h1, h2]
        simp only [butM, if_neg h3, if_neg h4, h5, hy, Bool.false_eq_true, if_false]
      · exact else1 hp (by assumption)
  · clear hF hN
    intro u vs n h' tk hS F' N'
    repeat' (first | walk1 | (dsimp only; walk1))
    refine join_listW (News.isList (by assumption) (List.Mem.head _)) (by simpa using hS) (by decide +kernel) (by have := perms_sum x 10; omega) ?_
    intro t' k'
    walk_at "MINE end"
    exact ⟨_, rfl⟩
end
section
set_option maxHeartbeats 4000000
/-- a goal that the walk does not know: it stops there -/
structure Hold (P : Prop) : Prop where
  out : P
def StrEl (news : List (Addr × Obj)) (r : Str) (y : Value) (news' : List (Addr × Obj)) : Prop := news' = news ∧ ∃ t : Tok, y = .str r t
def IntEl (news : List (Addr × Obj)) (r : Int) (y : Value) (news' : List (Addr × Obj)) : Prop := news' = news ∧ ∃ t : Tok, y = .int r t
section
variable {prog : Program} {w : World} {A : Around} {h₀ : Heap} {L : Addr} {m : Str → Option Value} {env : Env} {elt ct : Expr} {x : Str} {scope : Scope} {cl : List (Str × Addr)} {s : Shared} {S : List (Addr × Obj) → Prop} {Fin : List Value → List (Addr × Obj) → Prop} {news : List (Addr × Obj)}
theorem comp_strs {n : Nat} {a : Int} (g : Int → Str)
    (turn : ∀ k t I oI C oC D m₂ ys h tk (E' : Value → Shared → Prop), a ≤ k → k < a + (n : Int) → LCg.NsObj oC m₂ → m₂ x = some (.int k t) → Fr h₀ L h m → News h₀ L h ((I, oI) :: (C, oC) :: (D, LCg.lst ys) :: news) → LCg.Off3 I C D news → ((@Ne Nat I C) ∧ (@Ne Nat I D) ∧ (@Ne Nat C D)) →
      wpAny (model prog w) A (eval elt (compEnvC scope cl C env)) (LCg.CompEnd h₀ L m { s with heap := h, toks := tk } I oI C oC D (LCg.lst ys) S (fun y news' => StrEl news (g k) y news')) E' { s with heap := h, toks := tk })
    (fin : ∀ ys, StrsAre ys ((List.range n).map fun (i : Nat) => g (a + (i : Int))) → Fin ys news) : LCg.CompRest prog w A h₀ L m env elt x scope cl s S (fun i v => ∃ t, v = .int (a + (i : Int)) t) Fin n 0 [] news := by
  have key : ∀ (j i : Nat) (ys : List Value), i + j = n → StrsAre ys ((List.range i).map fun (i : Nat) => g (a + (i : Int))) → LCg.CompRest prog w A h₀ L m env elt x scope cl s S (fun i v => ∃ t, v = .int (a + (i : Int)) t) Fin j i ys news := by
    intro j
    induction j with
    | zero =>
      intro i ys hi hy
      obtain rfl : i = n := by omega
      exact LCg.CompRest.zero (fin ys hy)
    | succ j ih =>
      intro i ys hi hy
      refine LCg.CompRest.succ ?_
      intro v I oI C oC D m₂ h tk E' hv hC hx F N off ne
      obtain ⟨t, rfl⟩ := hv
      refine wpAny_mono (turn _ t I oI C oC D m₂ ys h tk E' (by omega) (by omega) hC hx F N off ne) (fun y s₂ hq => ?_) fun _ _ e => e
      obtain ⟨h', tk', nw, e, F', N', off', hS, hn, t', hy'⟩ := hq
      rw [hn] at N' off' hS
      refine ⟨h', tk', news, e, F', N', off', hS, ?_⟩
      rw [hy']
      refine ih (i + 1) _ (by omega) ?_
      rw [List.range_succ, List.map_append]
      exact StrsAre.append' hy (.cons _ t' .nil)
  exact key n 0 [] (by omega) .nil
end
theorem strEl {news news' : List (Addr × Obj)} {r r' : Str} {t : Tok} (e : r' = r) (hn : news' = news) : StrEl news r (.str r' t) news' := by subst e; exact ⟨hn, t, rfl⟩
theorem intEl {news news' : List (Addr × Obj)} {r r' : Int} {t : Tok} (e : r' = r) (hn : news' = news) : IntEl news r (.int r' t) news' := by subst e; exact ⟨hn, t, rfl⟩
end
section
set_option maxHeartbeats 4000000
section
variable {prog : Program} {w : World} {A : Around} {s : Shared} {env : Env} {h₀ : Heap} {target : Expr} {body orelse : List Stmt} {Q : Flow → Shared → Prop}
abbrev tupO (vs : Array Value) : Obj := { cls := .type "tuple", data := .seq vs }
def spotD : List (Int × Int × Str) := [(11, 3, Str.ofString "Ss"), (10, 6, Str.ofString "Ss"), (9, 9, Str.ofString "Tt")]
def spotS (hs : List Int) (sg : List Str) : Nat → List Str
  | 0 => sg
  | i + 1 => match spotD[i]? with
    | some (ab, sp, pr) => if hs.getD ab.toNat 0 = 1 then (spotS hs sg i).set sp.toNat (Txt.item pr (hs.getD (9 - sp).toNat 0)) else spotS hs sg i
    | none => spotS hs sg i
theorem spotS_len (hs : List Int) (sg : List Str) : ∀ i, (spotS hs sg i).length = sg.length
  | 0 => rfl
  | i + 1 => by
    unfold spotS
    split
    · split
      · rw [List.length_set]; exact spotS_len hs sg i
      · exact spotS_len hs sg i
    · exact spotS_len hs sg i
def ShJ (ys : List Str) (m₀ : Str → Option Value) (l : Addr) (rest : List (Addr × Obj)) (hs : List Int) (sg : List Str) (i : Nat) (m : Str → Option Value) (news : List (Addr × Obj)) : Prop :=
  (∃ u, m = butM ys u m₀) ∧ ∃ vs n, news = (l, W.listOf (vs : List Value).toArray n) :: rest ∧ StrsAre vs (spotS hs sg i)

theorem sh_loop {m₀ : Str → Option Value} {l c ax T1 T2 T3 : Addr} {o : Obj} {t11 t12 t13 t21 t22 t23 t31 t32 t33 : Tok} {n₀ : Nat} {vs₀ : List Value} {sg : List Str} {news₀ : List (Addr × Obj)} (ys : List Str) (hs : List Int)
    (hh : A.handled = none) (F : Fr h₀ env.locals s.heap m₀) (N₀ : News h₀ env.locals s.heap news₀) (hS : StrsAre vs₀ sg) (hlen : sg.length = 10)
    (ma : (ax, tupO #[.ref T1, .ref T2, .ref T3]) ∈ news₀) (ml : (l, W.listOf vs₀.toArray n₀) ∈ news₀) (mc : (c, o) ∈ news₀)
    (m1 : (T1, tupO #[.int 11 t11, .int 3 t12, .str (Str.ofString "Ss") t13]) ∈ news₀) (m2 : (T2, tupO #[.int 10 t21, .int 6 t22, .str (Str.ofString "Ss") t23]) ∈ news₀) (m3 : (T3, tupO #[.int 9 t31, .int 9 t32, .str (Str.ofString "Tt") t33]) ∈ news₀)
    (na : @Ne Nat ax l) (nc : @Ne Nat c l) (n1 : @Ne Nat T1 l) (n2 : @Ne Nat T2 l) (n3 : @Ne Nat T3 l)
    (step : ∀ I i ab sp pr T ta tb tc u vs n h₁ tk₁ own own', spotD[i]? = some (ab, sp, pr) → IsTup h₁ T #[.int ab ta, .int sp tb, .str pr tc] → StrsAre vs (spotS hs sg i) → vs.length = 10 → OwnOff own [l] → l < I → (∀ p ∈ own', p ∈ own) → (c, o) ∈ own → (∀ p ∈ [(T1, tupO #[.int 11 t11, .int 3 t12, .str (Str.ofString "Ss") t13]), (T2, tupO #[.int 10 t21, .int 6 t22, .str (Str.ofString "Ss") t23]), (T3, tupO #[.int 9 t31, .int 9 t32, .str (Str.ofString "Tt") t33])], p ∈ own) →
      (∀ p ∈ (c, o) :: [(T1, tupO #[.int 11 t11, .int 3 t12, .str (Str.ofString "Ss") t13]), (T2, tupO #[.int 10 t21, .int 6 t22, .str (Str.ofString "Ss") t23]), (T3, tupO #[.int 9 t31, .int 9 t32, .str (Str.ofString "Tt") t33])], p.1 < I) →
      Fr h₀ env.locals h₁ (butM ys u m₀) → News h₀ env.locals h₁ ((l, W.listOf (vs : List Value).toArray n) :: (c, o) :: own) →
      wpAny (model prog w) A (assign target env (.ref T)) (fun _ s₃ => wpAny (model prog w) A (execs body env) (TurnEnd h₀ env.locals [I] own' (ShJ ys m₀ l ((c, o) :: [(T1, tupO #[.int 11 t11, .int 3 t12, .str (Str.ofString "Ss") t13]), (T2, tupO #[.int 10 t21, .int 6 t22, .str (Str.ofString "Ss") t23]), (T3, tupO #[.int 9 t31, .int 9 t32, .str (Str.ofString "Tt") t33])]) hs sg (i + 1)) { s with heap := h₁, toks := tk₁ } Q) (fun _ _ => False) s₃) (fun _ _ => False) { s with heap := h₁, toks := tk₁ })
    (hE : ∀ u vs n h' tk, StrsAre vs (spotS hs sg 3) → Fr h₀ env.locals h' (butM ys u m₀) → News h₀ env.locals h' [(l, W.listOf (vs : List Value).toArray n)] → wpAny (model prog w) A (execs orelse env) Q (fun _ _ => False) { s with heap := h', toks := tk }) :
    wpAny (model prog w) A (pyIter (.ref ax)) (fun it s₂ => TurnsE prog w A h₀ env target body orelse Q it s₂) (fun _ _ => False) s := by
  refine turnsTupL (news := (l, W.listOf vs₀.toArray n₀) :: (c, o) :: [(T1, tupO #[.int 11 t11, .int 3 t12, .str (Str.ofString "Ss") t13]), (T2, tupO #[.int 10 t21, .int 6 t22, .str (Str.ofString "Ss") t23]), (T3, tupO #[.int 9 t31, .int 9 t32, .str (Str.ofString "Tt") t33])])
    (ShJ ys m₀ l ((c, o) :: [(T1, tupO #[.int 11 t11, .int 3 t12, .str (Str.ofString "Ss") t13]), (T2, tupO #[.int 10 t21, .int 6 t22, .str (Str.ofString "Ss") t23]), (T3, tupO #[.int 9 t31, .int 9 t32, .str (Str.ofString "Tt") t33])]) hs sg)
    hh (vs := #[.ref T1, .ref T2, .ref T3]) ⟨_, (N₀ _ ma).1, rfl, _, rfl⟩ (N₀ _ ma).2.1 F N₀ ?_ ⟨⟨m₀, butM_of fun _ _ => rfl⟩, vs₀, n₀, rfl, hS⟩ ?_ ?_
  · exact all5 ml mc m1 m2 m3
  · intro I i v m₁ news₁ h₁ tk₁ own hi hv hJ hw ho hlt F₁ N₁
    refine hJ.1.elim fun u eu => ex2 hJ.2 fun vs n hz => ?_
    have hS' := hz.2
    have en := hz.1
    clear hJ hz
    subst eu en
    have hl : l < I := hlt _ ml
    have len : vs.length = 10 := by rw [hS'.length, spotS_len, hlen]
    have rl : ∀ p ∈ (c, o) :: [(T1, tupO #[.int 11 t11, .int 3 t12, .str (Str.ofString "Ss") t13]), (T2, tupO #[.int 10 t21, .int 6 t22, .str (Str.ofString "Ss") t23]), (T3, tupO #[.int 9 t31, .int 9 t32, .str (Str.ofString "Tt") t33])], p.1 < I := all4 (hlt _ mc) (hlt _ m1) (hlt _ m2) (hlt _ m3)
    have off : OwnOff (own ++ ((c, o) :: [(T1, tupO #[.int 11 t11, .int 3 t12, .str (Str.ofString "Ss") t13]), (T2, tupO #[.int 10 t21, .int 6 t22, .str (Str.ofString "Ss") t23]), (T3, tupO #[.int 9 t31, .int 9 t32, .str (Str.ofString "Tt") t33])])) [l] := by
      intro p hp b hb e
      rw [List.mem_singleton.mp hb] at e
      rcases List.mem_append.mp hp with hp | hp
      · have h1 := ho p hp
        rcases List.mem_cons.mp h1 with q | q
        · exact absurd hl (by rw [← e, q]; exact Nat.lt_irrefl _)
        · exact na ((List.mem_singleton.mp q).symm.trans e)
      · exact all4 (P := fun p => p.1 ≠ l) nc n1 n2 n3 p hp e
    have fin : ∀ ab sp pr T ta tb tc, spotD[i]? = some (ab, sp, pr) → v = .ref T → IsTup h₁ T #[.int ab ta, .int sp tb, .str pr tc] → wpAny (model prog w) A (assign target env v) (fun _ s₃ => wpAny (model prog w) A (execs body env) (TurnEnd h₀ env.locals [I] own (ShJ ys m₀ l ((c, o) :: [(T1, tupO #[.int 11 t11, .int 3 t12, .str (Str.ofString "Ss") t13]), (T2, tupO #[.int 10 t21, .int 6 t22, .str (Str.ofString "Ss") t23]), (T3, tupO #[.int 9 t31, .int 9 t32, .str (Str.ofString "Tt") t33])]) hs sg (i + 1)) { s with heap := h₁, toks := tk₁ } Q) (fun _ _ => False) s₃) (fun _ _ => False) { s with heap := h₁, toks := tk₁ } := by
      intro ab sp pr T ta tb tc hd hv' hT
      subst hv'
      refine step I i ab sp pr T ta tb tc u vs n h₁ tk₁ _ own hd hT hS' len off hl (fun p hp => List.mem_append_left _ hp) (List.mem_append_right _ (List.mem_cons_self ..)) (fun p hp => List.mem_append_right _ (List.mem_cons_of_mem _ hp)) rl F₁ (fun p hp => N₁ p ?_)
      rcases List.mem_cons.mp hp with rfl | hp
      · exact List.mem_append_right _ (List.mem_cons_self ..)
      · rcases List.mem_cons.mp hp with rfl | hp
        · exact List.mem_append_right _ (List.mem_cons_of_mem _ (List.mem_cons_self ..))
        · rcases List.mem_append.mp hp with hp | hp
          · exact List.mem_append_left _ hp
          · exact List.mem_append_right _ (List.mem_cons_of_mem _ hp)
    have get : ∀ p ∈ [(T1, tupO #[.int 11 t11, .int 3 t12, .str (Str.ofString "Ss") t13]), (T2, tupO #[.int 10 t21, .int 6 t22, .str (Str.ofString "Ss") t23]), (T3, tupO #[.int 9 t31, .int 9 t32, .str (Str.ofString "Tt") t33])], h₁.get? p.1 = some p.2 := fun p hp => (N₁ p (List.mem_append_right _ (List.mem_cons_of_mem _ (List.mem_cons_of_mem _ hp)))).1
    match i, hv with
    | 0, hv => exact fin _ _ _ T1 t11 t12 t13 rfl (by simpa using hv.symm) ⟨_, get _ (List.mem_cons_self ..), rfl, _, rfl⟩
    | 1, hv => exact fin _ _ _ T2 t21 t22 t23 rfl (by simpa using hv.symm) ⟨_, get _ (List.mem_cons_of_mem _ (List.mem_cons_self ..)), rfl, _, rfl⟩
    | 2, hv => exact fin _ _ _ T3 t31 t32 t33 rfl (by simpa using hv.symm) ⟨_, get _ (List.mem_cons_of_mem _ (List.mem_cons_of_mem _ (List.mem_cons_self ..))), rfl, _, rfl⟩
    | k + 3, hv => simp at hv
  · intro h' tk m' news' F' N' hJ
    refine hJ.1.elim fun u eu => ex2 hJ.2 fun vs n hz => ?_
    have hS' := hz.2
    have en := hz.1
    clear hJ hz
    subst eu en
    exact hE u vs n h' tk hS' F' (fun p hp => N' p (by rw [List.mem_singleton.mp hp]; exact List.mem_cons_self ..))

theorem sh_loop' {m₀ : Str → Option Value} {l c ax T1 T2 T3 : Addr} {o : Obj} {t11 t12 t13 t21 t22 t23 t31 t32 t33 : Tok} {n₀ : Nat} {vs₀ : List Value} {sg : List Str} {D4 : Addr} {o4 : Obj} (ys : List Str) (hs : List Int)
    (hh : A.handled = none) (F : Fr h₀ env.locals s.heap m₀) (N₀ : News h₀ env.locals s.heap [(ax, tupO #[.ref T1, .ref T2, .ref T3]), (T3, tupO #[.int 9 t31, .int 9 t32, .str (Str.ofString "Tt") t33]), (T2, tupO #[.int 10 t21, .int 6 t22, .str (Str.ofString "Ss") t23]), (T1, tupO #[.int 11 t11, .int 3 t12, .str (Str.ofString "Ss") t13]), (D4, o4), (l, W.listOf vs₀.toArray n₀), (c, o)]) (hS : StrsAre vs₀ sg) (hlen : sg.length = 10)
    (na : @Ne Nat ax l) (nc : @Ne Nat c l) (n1 : @Ne Nat T1 l) (n2 : @Ne Nat T2 l) (n3 : @Ne Nat T3 l)
    (step : ∀ I i ab sp pr T ta tb tc u vs n h₁ tk₁ own own', spotD[i]? = some (ab, sp, pr) → IsTup h₁ T #[.int ab ta, .int sp tb, .str pr tc] → StrsAre vs (spotS hs sg i) → vs.length = 10 → OwnOff own [l] → l < I → (∀ p ∈ own', p ∈ own) → (c, o) ∈ own → (∀ p ∈ [(T1, tupO #[.int 11 t11, .int 3 t12, .str (Str.ofString "Ss") t13]), (T2, tupO #[.int 10 t21, .int 6 t22, .str (Str.ofString "Ss") t23]), (T3, tupO #[.int 9 t31, .int 9 t32, .str (Str.ofString "Tt") t33])], p ∈ own) →
      (∀ p ∈ (c, o) :: [(T1, tupO #[.int 11 t11, .int 3 t12, .str (Str.ofString "Ss") t13]), (T2, tupO #[.int 10 t21, .int 6 t22, .str (Str.ofString "Ss") t23]), (T3, tupO #[.int 9 t31, .int 9 t32, .str (Str.ofString "Tt") t33])], p.1 < I) →
      Fr h₀ env.locals h₁ (butM ys u m₀) → News h₀ env.locals h₁ ((l, W.listOf (vs : List Value).toArray n) :: (c, o) :: own) →
      wpAny (model prog w) A (assign target env (.ref T)) (fun _ s₃ => wpAny (model prog w) A (execs body env) (TurnEnd h₀ env.locals [I] own' (ShJ ys m₀ l ((c, o) :: [(T1, tupO #[.int 11 t11, .int 3 t12, .str (Str.ofString "Ss") t13]), (T2, tupO #[.int 10 t21, .int 6 t22, .str (Str.ofString "Ss") t23]), (T3, tupO #[.int 9 t31, .int 9 t32, .str (Str.ofString "Tt") t33])]) hs sg (i + 1)) { s with heap := h₁, toks := tk₁ } Q) (fun _ _ => False) s₃) (fun _ _ => False) { s with heap := h₁, toks := tk₁ })
    (hE : ∀ u vs n h' tk, StrsAre vs (spotS hs sg 3) → Fr h₀ env.locals h' (butM ys u m₀) → News h₀ env.locals h' [(l, W.listOf (vs : List Value).toArray n)] → wpAny (model prog w) A (execs orelse env) Q (fun _ _ => False) { s with heap := h', toks := tk }) :
    wpAny (model prog w) A (pyIter (.ref ax)) (fun it s₂ => TurnsE prog w A h₀ env target body orelse Q it s₂) (fun _ _ => False) s :=
  sh_loop ys hs hh F N₀ hS hlen (by k_mem) (by k_mem) (by k_mem) (by k_mem) (by k_mem) (by k_mem) na nc n1 n2 n3 step hE

theorem sh_end {I c l : Addr} {o : Obj} {rest own own' all : List (Addr × Obj)} {ys : List Str} {m₀ m' : Str → Option Value} {hs : List Int} {sg : List Str} {i n : Nat} {s₁ : Shared} {h' : Heap} {tk : Nat} {vs : List Value}
    (hl : l < I) (h1 : ∀ p ∈ own', p ∈ own) (hr : ∀ p ∈ rest, p ∈ own) (rl : ∀ p ∈ (c, o) :: rest, p.1 < I) (hS : StrsAre vs (spotS hs sg i)) (F : Fr h₀ env.locals h' m') (N : News h₀ env.locals h' ((l, W.listOf vs.toArray n) :: (c, o) :: all)) (ha : ∀ p ∈ own, p ∈ all) (hm : ∀ y, ys.contains y = false → m' y = m₀ y) :
    TurnEnd h₀ env.locals [I] own' (ShJ ys m₀ l ((c, o) :: rest) hs sg i) s₁ Q .next { s₁ with heap := h', toks := tk } :=
  .next F (news₂ := (l, W.listOf vs.toArray n) :: (c, o) :: rest) (fun p hp => N p (by
    rcases List.mem_append.mp hp with hp | hp
    · exact List.mem_cons_of_mem _ (List.mem_cons_of_mem _ (ha p (h1 p hp)))
    · rcases List.mem_cons.mp hp with rfl | hp
      · exact List.mem_cons_self ..
      · rcases List.mem_cons.mp hp with rfl | hp
        · exact List.mem_cons_of_mem _ (List.mem_cons_self ..)
        · exact List.mem_cons_of_mem _ (List.mem_cons_of_mem _ (ha p (hr p hp)))))
    (fun p hp q => by
      rcases List.mem_cons.mp hp with rfl | hp
      · exact absurd hl ((List.mem_singleton.mp q) ▸ Nat.lt_irrefl _)
      · exact absurd (rl p hp) ((List.mem_singleton.mp q) ▸ Nat.lt_irrefl _))
    ⟨⟨m', butM_of hm⟩, vs, n, rfl, hS⟩
end
theorem spot_hit {hs : List Int} {sg : List Str} {i : Nat} {ab sp : Int} {pr : Str} (hd : spotD[i]? = some (ab, sp, pr)) (h : hs.getD ab.toNat 0 = 1) : spotS hs sg (i + 1) = (spotS hs sg i).set sp.toNat (Txt.item pr (hs.getD (9 - sp).toNat 0)) := by
  rw [spotS, hd]; exact if_pos h
theorem spot_miss {hs : List Int} {sg : List Str} {i : Nat} {ab sp : Int} {pr : Str} (hd : spotD[i]? = some (ab, sp, pr)) (h : ¬ hs.getD ab.toNat 0 = 1) : spotS hs sg (i + 1) = spotS hs sg i := by
  rw [spotS, hd]; exact if_neg h
theorem spot_facts {i : Nat} {ab sp : Int} {pr : Str} (hd : spotD[i]? = some (ab, sp, pr)) : 9 ≤ ab ∧ ab ≤ 11 ∧ 3 ≤ sp ∧ sp ≤ 9 ∧ pr.length = 2 := by
  match i, hd with
  | 0, hd | 1, hd | 2, hd =>
    obtain ⟨rfl, rfl, rfl⟩ : _ = ab ∧ _ = sp ∧ _ = pr := by simpa [spotD] using hd
    refine ⟨by decide, by decide, by decide, by decide, by decide +kernel⟩
  | k + 3, hd => simp [spotD] at hd
theorem strs_set {x : Str} {u : Tok} : ∀ {vs : List Value} {ns : List Str}, StrsAre vs ns → ∀ j : Nat, StrsAre (vs.set j (.str x u)) (ns.set j x)
  | _, _, .nil, _ => .nil
  | _, _, .cons _ _ h, 0 => .cons x u h
  | _, _, .cons i t h, j + 1 => .cons i t (strs_set h j)
theorem setAtK {prog : Program} {w : World} {A : Around} {E : Value → Shared → Prop} {s : Shared} {h₀ : Heap} {L D : Addr} {m : Str → Option Value} {news news' : List (Addr × Obj)} {vs : List Value} {n : Nat} {k : Int} {t : Tok} {v : Value} {Q : Unit → Shared → Prop}
    (F : Fr h₀ L s.heap m) (N : News h₀ L s.heap news) (U : Upd D (W.listOf vs.toArray n) (W.listOf (vs.set k.toNat v).toArray n) news news') (h0 : 0 ≤ k) (h1 : k < (vs.length : Int)) (hfit : k < 2 ^ 63)
    (h : ∀ h', Fr h₀ L h' m → News h₀ L h' news' → Q () { s with heap := h' }) :
    wpAny (model prog w) A (setItem (.ref D) (.int k t) v) Q E s := by
  obtain ⟨pre, post, rfl, rfl, a, b⟩ := U.split
  have z := N (D, W.listOf vs.toArray n) (List.mem_append.mpr (.inr (.head _)))
  refine ki_setAt z.1 h0 hfit (by rw [List.size_toArray]; omega) (h _ (F.change (Heap.SameBut.update ..) z.2.1 z.2.2) (ki_turn _ N a b ?_ ?_))
  · apply Array.toList_inj.mp
    simp
  · simp
theorem spot_one (hs : List Int) (sg : List Str) (h : ∀ x ∈ sg, x.length = 1) : ∀ i, ∀ x ∈ spotS hs sg i, x.length = 1
  | 0, x, hx => h x hx
  | i + 1, x, hx => by
    unfold spotS at hx
    split at hx
    · split at hx
      · rcases List.mem_or_eq_of_mem_set hx with q | rfl
        · exact spot_one hs sg h i x q
        · rfl
      · exact spot_one hs sg h i x hx
    · exact spot_one hs sg h i x hx
theorem sum_ones : ∀ {l : List Str}, (∀ x ∈ l, x.length = 1) → (l.map (·.length)).sum = l.length
  | [], _ => rfl
  | a :: r, h => by
    rw [List.map_cons, List.sum_cons, sum_ones fun x hx => h x (List.mem_cons_of_mem _ hx), h a (List.mem_cons_self ..), List.length_cons]
    omega
end
section
set_option maxHeartbeats 8000000

local macro_rules | `(tactic| walk_at "exec For Tuple Tuple cons nil") => `(tactic| (k_here; k_dflt ((rename Fr _ _ _ _ => lF'); (with_unfolding_all refine' forEF lF' ?hs ?_; (case hs => intro _; with_unfolding_all rfl); k_whole))))
def ledStep (o : Int) (k : Int) (m : Int) : Int := Builtin.bitXor o (Builtin.bitAnd (o * 2 ^ Int.toNat k) m)
def ledI (x : Int) : Int := ledStep (ledStep (ledStep (ledStep x 1 43690) 2 52428) 4 61680) 8 65280
theorem bitXor_lt {a b : Int} (ha : 0 ≤ a ∧ a < 65536) (hb : 0 ≤ b ∧ b < 65536) : 0 ≤ Builtin.bitXor a b ∧ Builtin.bitXor a b < 65536 := by
  obtain ⟨x, rfl⟩ := Int.eq_ofNat_of_zero_le ha.1
  obtain ⟨y, rfl⟩ := Int.eq_ofNat_of_zero_le hb.1
  rw [bitXor_nat]
  have : x ^^^ y < 2 ^ 16 := Nat.xor_lt_two_pow (by omega) (by omega)
  omega
theorem led_lt {o : Int} {k : Int} {m : Int} (ho : 0 ≤ o ∧ o < 65536) (hm : 0 ≤ m ∧ m < 65536) : 0 ≤ ledStep o k m ∧ ledStep o k m < 65536 := by
  unfold ledStep
  refine bitXor_lt ho ?_
  have := bitAnd_range (o * 2 ^ Int.toNat k) hm.1
  omega
def ledT (x : Int) : Nat → Int
  | 0 => x
  | 1 => ledStep x 1 43690
  | 2 => ledStep (ledStep x 1 43690) 2 52428
  | 3 => ledStep (ledStep (ledStep x 1 43690) 2 52428) 4 61680
  | _ => ledI x
theorem ledT_lt {x : Int} (hx : 0 ≤ x ∧ x < 65536) : ∀ i, 0 ≤ ledT x i ∧ ledT x i < 65536
  | 0 => hx
  | 1 => led_lt hx (by decide)
  | 2 => led_lt (led_lt hx (by decide)) (by decide)
  | 3 => led_lt (led_lt (led_lt hx (by decide)) (by decide)) (by decide)
  | _ + 4 => led_lt (led_lt (led_lt (led_lt hx (by decide)) (by decide)) (by decide)) (by decide)
abbrev ledM (o : Value) (u m : Str → Option Value) : Str → Option Value := fun y => if y = Str.ofString "out" then some o else butM [Str.ofString "step", Str.ofString "some"] u m y
theorem ledM_of {o : Value} {m m' : Str → Option Value} (h1 : m' (Str.ofString "out") = some o) (h2 : ∀ y, y ≠ Str.ofString "out" → [Str.ofString "step", Str.ofString "some"].contains y = false → m' y = m y) : m' = ledM o m' m := by
  funext y
  show m' y = if _ then _ else if _ then _ else _
  by_cases q : y = Str.ofString "out"
  · rw [if_pos q, q, h1]
  · rw [if_neg q]
    split
    · rfl
    · exact h2 y q (Bool.eq_false_iff.mpr (by assumption))
section
variable {prog : Program} {w : World} {A : Around} {s : Shared} {env : Env} {h₀ : Heap} {target : Expr} {body orelse : List Stmt} {Q : Flow → Shared → Prop}
def LedJ (m₀ : Str → Option Value) (ts : List (Addr × Obj)) (x : Int) (i : Nat) (m : Str → Option Value) (news : List (Addr × Obj)) : Prop := (∃ t u, m = ledM (.int (ledT x i) t) u m₀) ∧ news = ts
theorem led_turn {T1 T2 T3 T4 : Addr} {a1 a2 a3 a4 b1 b2 b3 b4 : Tok} {x : Int} {i : Nat} {v : Value} {Z : Prop} (hv : (#[.ref T1, .ref T2, .ref T3, .ref T4] : Array Value)[i]? = some v)
    (f : ∀ k mm T a b, ledT x (i + 1) = ledStep (ledT x i) k mm → 0 ≤ k → k ≤ 8 → Value.ref T = v → (T, tupO #[.int k a, .int mm b]) ∈ [(T4, tupO #[.int 8 a4, .int 65280 b4]), (T3, tupO #[.int 4 a3, .int 61680 b3]), (T2, tupO #[.int 2 a2, .int 52428 b2]), (T1, tupO #[.int 1 a1, .int 43690 b1])] → Z) : Z := by
  match i, hv with
  | 0, hv => exact f 1 43690 T1 a1 b1 rfl (by decide) (by decide) (Option.some.inj hv) (by k_mem)
  | 1, hv => exact f 2 52428 T2 a2 b2 rfl (by decide) (by decide) (Option.some.inj hv) (by k_mem)
  | 2, hv => exact f 4 61680 T3 a3 b3 rfl (by decide) (by decide) (Option.some.inj hv) (by k_mem)
  | 3, hv => exact f 8 65280 T4 a4 b4 rfl (by decide) (by decide) (Option.some.inj hv) (by k_mem)
  | k + 4, hv => cases hv
theorem led_loop {m₀ : Str → Option Value} {ax T1 T2 T3 T4 : Addr} {a1 a2 a3 a4 b1 b2 b3 b4 t : Tok} {x : Int}
    (hh : A.handled = none) (F : Fr h₀ env.locals s.heap m₀) (N₀ : News h₀ env.locals s.heap [(ax, tupO #[.ref T1, .ref T2, .ref T3, .ref T4]), (T4, tupO #[.int 8 a4, .int 65280 b4]), (T3, tupO #[.int 4 a3, .int 61680 b3]), (T2, tupO #[.int 2 a2, .int 52428 b2]), (T1, tupO #[.int 1 a1, .int 43690 b1])])
    (hm : m₀ (Str.ofString "out") = some (.int x t))
    (step : ∀ ts I i k mm T a b t u h₁ tk₁ own own', ledT x (i + 1) = ledStep (ledT x i) k mm → 0 ≤ k → k ≤ 8 → IsTup h₁ T #[.int k a, .int mm b] → (∀ p ∈ own' ++ ts, p ∈ own) → (∀ p ∈ ts, p.1 ∉ [I]) →
      Fr h₀ env.locals h₁ (ledM (.int (ledT x i) t) u m₀) → News h₀ env.locals h₁ own →
      wpAny (model prog w) A (assign target env (.ref T)) (fun _ s₃ => wpAny (model prog w) A (execs body env) (TurnEnd h₀ env.locals [I] own' (LedJ m₀ ts x (i + 1)) { s with heap := h₁, toks := tk₁ } Q) (fun _ _ => False) s₃) (fun _ _ => False) { s with heap := h₁, toks := tk₁ })
    (hE : ∀ t u h' tk, Fr h₀ env.locals h' (ledM (.int (ledI x) t) u m₀) → News h₀ env.locals h' [] → wpAny (model prog w) A (execs orelse env) Q (fun _ _ => False) { s with heap := h', toks := tk }) :
    wpAny (model prog w) A (pyIter (.ref ax)) (fun it s₂ => TurnsE prog w A h₀ env target body orelse Q it s₂) (fun _ _ => False) s := by
  have Na := N₀ _ (List.mem_cons_self ..)
  refine turnsTupL (LedJ m₀ _ x) hh ⟨_, Na.1, rfl, _, rfl⟩ Na.2.1 F N₀ (fun p hp => List.mem_cons_of_mem _ hp) ⟨⟨t, m₀, ledM_of hm fun _ _ _ => rfl⟩, rfl⟩ ?_ ?_
  · intro I i v m₁ news₁ h₁ tk₁ own _ hv hJ hw _ _ F₁ N₁
    refine ex2 hJ.1 fun t u e => ?_
    have e' := hJ.2
    clear hJ
    subst e e'
    refine led_turn (x := x) (a1 := a1) (a2 := a2) (a3 := a3) (a4 := a4) (b1 := b1) (b2 := b2) (b3 := b3) (b4 := b4) hv fun k mm T a b h1 h2 h3 h4 h5 => ?_
    subst h4
    exact step _ I i k mm T a b t u h₁ tk₁ _ own h1 h2 h3 ⟨_, (N₁ _ (List.mem_append_right _ h5)).1, rfl, _, rfl⟩ (fun _ h => h) hw F₁ N₁
  · intro h' tk m' news' F' N' hJ
    exact ex2 hJ.1 fun t u e => hE t u h' tk (e ▸ F') fun _ h => nomatch h
theorem led_end {I : Addr} {own own' ts : List (Addr × Obj)} {m₀ m' : Str → Option Value} {x k mm : Int} {i tk : Nat} {t : Tok} {s₁ : Shared} {h' : Heap} (he : ledT x (i + 1) = ledStep (ledT x i) k mm) (hs : ∀ p ∈ own' ++ ts, p ∈ own) (hw : ∀ p ∈ ts, p.1 ∉ [I])
    (F : Fr h₀ env.locals h' m') (N : News h₀ env.locals h' own) (h1 : m' (Str.ofString "out") = some (.int (ledStep (ledT x i) k mm) t)) (h2 : ∀ y, y ≠ Str.ofString "out" → [Str.ofString "step", Str.ofString "some"].contains y = false → m' y = m₀ y) :
    TurnEnd h₀ env.locals [I] own' (LedJ m₀ ts x (i + 1)) s₁ Q .next { s₁ with heap := h', toks := tk } :=
  .next F (news₂ := ts) (fun p hp => N p (hs p hp)) hw ⟨⟨t, m', ledM_of (he ▸ h1) h2⟩, rfl⟩
end
theorem led_spec {w : World} {x : Int} {t : Tok} (hx : 0 ≤ x ∧ x < 65536) : Spec w 2 194 [.int x t] (IsInt (ledI x)) := by
  walk_at "MINE enter"
  repeat' (first | walk1 | (dsimp only; walk1))
  (rename Fr _ _ _ _ => hF); (rename News _ _ _ _ => hN)
  k_dflt (refine' led_loop (x := x) ?hh hF hN ?hm ?_ ?_)
  (case hh => exact rfl)
  (case hm => exact rfl)
  · clear hF hN
    intro ts I i k mm T a b t u h₁ tk₁ own own' he h0 h8 hT hsub hw hF hN
    have hr := ledT_lt hx i
    repeat' (first | walk1 | (dsimp only; walk1))
    k_dflt (refine led_end he hsub hw (by assumption) (by assumption) rfl ?_)
    intro y h0 hy
    have h1 : y ≠ Str.ofString "some" := by rintro rfl; exact absurd hy (by decide)
    have h2 : y ≠ Str.ofString "step" := by rintro rfl; exact absurd hy (by decide)
    simp only [butM, if_neg h0, if_neg h1, if_neg h2, hy, Bool.false_eq_true, if_false]
  · clear hF hN
    intro t u h' tk hF hN
    repeat' (first | walk1 | (dsimp only; walk1))
    walk_at "MINE end"
    exact ⟨_, rfl⟩
end
section
local macro_rules | `(tactic| walk_at "MINE Shown") => `(tactic| fail)
set_option maxHeartbeats 8000000

local macro_rules | `(tactic| walk_at "exec For Tuple Tuple cons nil") => `(tactic| (k_here; k_dflt ((rename Fr _ _ _ _ => lF'); (with_unfolding_all refine' forEF lF' ?hs ?_; (case hs => intro _; with_unfolding_all rfl); k_whole))))
local macro_rules | `(tactic| walk_at "CompSrc") => `(tactic| refine Hold.out ?_)
local macro_rules | `(tactic| walk_at "CompSrcT") => `(tactic| refine Hold.out ?_)
def signF (hs : List Int) (k : Int) : Str := if hs.getD (8 - k).toNat 0 = 1 then Txt.item (Str.ofString "rwxrwxrwx") k else Str.ofString "-"
theorem signF_len {hs : List Int} {k : Int} (h0 : 0 ≤ k) (h1 : k < 9) : (signF hs k).length = 1 := by
  unfold signF
  split
  · obtain ⟨n, rfl⟩ := Int.eq_ofNat_of_zero_le h0
    exact (by decide +kernel : ∀ n : Fin 9, (Txt.item (Str.ofString "rwxrwxrwx") (n.val : Int)).length = 1) ⟨n, by omega⟩
  · decide +kernel
def shownF (hs : List Int) : List Str :=
  spotS hs [Txt.item (Str.ofString "?pc?d?b?-?l?s???") (8 * hs.getD (Int.toNat 15) 0 + 4 * hs.getD (Int.toNat 14) 0 + 2 * hs.getD (Int.toNat 13) 0 + hs.getD (Int.toNat 12) 0),
   signF hs 0, signF hs 1, signF hs 2, signF hs 3, signF hs 4, signF hs 5, signF hs 6, signF hs 7, signF hs 8] 3
local macro_rules | `(tactic| k_ne) => `(tactic| (refine neN ?_; (try dsimp only); first | assumption | exact Ne.symm (by assumption) | exact Nat.ne_of_lt (by assumption) | exact Nat.ne_of_gt (by assumption) | omega))
theorem strs9 {a0 a1 a2 a3 a4 a5 a6 a7 a8 : Str} {P : List Value → Prop} (k : ∀ t0 t1 t2 t3 t4 t5 t6 t7 t8, P [.str a0 t0, .str a1 t1, .str a2 t2, .str a3 t3, .str a4 t4, .str a5 t5, .str a6 t6, .str a7 t7, .str a8 t8]) : ∀ ys, StrsAre ys [a0, a1, a2, a3, a4, a5, a6, a7, a8] → P ys := by
  intro ys h
  obtain ⟨t0, y0, e0, q0⟩ := h.cons_inv
  obtain ⟨t1, y1, e1, q1⟩ := q0.cons_inv
  obtain ⟨t2, y2, e2, q2⟩ := q1.cons_inv
  obtain ⟨t3, y3, e3, q3⟩ := q2.cons_inv
  obtain ⟨t4, y4, e4, q4⟩ := q3.cons_inv
  obtain ⟨t5, y5, e5, q5⟩ := q4.cons_inv
  obtain ⟨t6, y6, e6, q6⟩ := q5.cons_inv
  obtain ⟨t7, y7, e7, q7⟩ := q6.cons_inv
  obtain ⟨t8, y8, e8, q8⟩ := q7.cons_inv
  have e9 := q8.nil_inv
  subst e9 e8 e7 e6 e5 e4 e3 e2 e1 e0
  exact k t0 t1 t2 t3 t4 t5 t6 t7 t8
theorem shown_spec {w : World} {D : Addr} {vs : List Value} {hs : List Int} (hi : IntsAre vs hs) (hlen : hs.length = 16) (hb : ∀ i, 0 ≤ hs.getD i 0 ∧ hs.getD i 0 ≤ 1) : SpecG w 4 204 [.ref D] (fun h => h.IsList D vs.toArray) (fun v _ _ => ∃ t, v = .str (Txt.join (Str.ofString "") (shownF hs)) t) := by
  have b12 := hb (Int.toNat 12)
  have b13 := hb (Int.toNat 13)
  have b14 := hb (Int.toNat 14)
  have b15 := hb (Int.toNat 15)
  (w_top off; intro mean mg mb base frames s A E hh hroom R hpre; obtain ⟨hd0, dp, fr0, gd0, un0⟩ := A; dsimp only at hh hroom; subst hh; refine' enter_cells ?R ?ho ?hcd ?room ?bind ?kind ?nd ?_ ?co ?gen ?k; (case R => assumption); (case ho => k_is); (case hcd => k_is); (case room => k_room); (case bind => exact BindsTo.of_eq rfl); (case kind => exact rfl); (case nd => decide +kernel); (case co => exact rfl); (case gen => exact rfl); (case k => exact rfl); k_whole; intro g' L' h' tk' cells' hg' hL' F' N' Y' B' X' T'; k_cells Y'; rw [← hg'] at hpre; (try dsimp only); (with_reducible show wpAny _ _ _ _ _ _); (try k_fold))
  repeat' (first | walk1 | (dsimp only; walk1))
  refine Hold.mk ?_
  k_dflt (refine LCg.CompSrc.range (by rfl) (by k_asm) (by k_asm) (by assumption) (by decide) (n := 9) (by rfl) (by exact Nat.le_of_ble_eq_true rfl) ?_)
  intro g9
  refine comp_strs (signF hs) ?_ ?_
  · intro k' t' I' oI' C' oC' D' m' ys' h' tk' E' hlo' hhi' hC' hx' F' N' off' ne'
    simp only [LCg.Off3, and_true] at off'
    obtain ⟨⟨of1, of2, of3⟩, of4, of5, of6⟩ := off'
    k_fold
    repeat' (first | walk1 | (dsimp only; walk1))
    all_goals refine strEl ?_ rfl
    all_goals unfold signF
    · rw [if_pos (by assumption)]
    · rw [if_neg (by assumption)]
  · intro ys hys
    replace hys : StrsAre ys [signF hs 0, signF hs 1, signF hs 2, signF hs 3, signF hs 4, signF hs 5, signF hs 6, signF hs 7, signF hs 8] := hys
    revert ys
    refine strs9 ?_
    intro t0 t1 t2 t3 t4 t5 t6 t7 t8
    repeat' (first | walk1 | (dsimp only; walk1))
    (rename Fr _ _ _ _ => hF); (rename News _ _ _ _ => hN)
    k_dflt (refine' sh_loop' [Str.ofString "above", Str.ofString "spot", Str.ofString "pair"] hs ?hh hF hN ?hS ?hlen ?na ?nc ?n1 ?n2 ?n3 ?_ ?_)
    (case hh => exact rfl)
    (case hS => exact (.cons _ _ (.cons _ _ (.cons _ _ (.cons _ _ (.cons _ _ (.cons _ _ (.cons _ _ (.cons _ _ (.cons _ _ (.cons _ _ .nil)))))))))))
    (case hlen => exact rfl)
    (case na => k_ne)
    (case nc => k_ne)
    (case n1 => k_ne)
    (case n2 => k_ne)
    (case n3 => k_ne)
    · clear hF hN
      intro I i ab sp pr T ta tb tc u vs9 n h₁ tk₁ own own' hd9 hT hS hvl hoff hl hs1 hco hs2 hrl hF hN
      have hsf := spot_facts hd9
      have hbs := hb (9 - sp).toNat
      have hbl := hS.length
      repeat' (first | walk1 | (dsimp only; walk1))
      · k_dflt (refine KXi.item (n := 2) hsf.2.2.2.2 (by omega) (by omega) (by decide) ?_)
        intro _
        repeat' (first | walk1 | (dsimp only; walk1))
        k_dflt (refine' setAtK ?F ?N ?U ?a ?b ?c ?_; (case F => k_asm); (case N => k_asm); (case U => k_upd); (case a => omega); (case b => omega); (case c => omega))
        intro h' F' N'
        repeat' (first | walk1 | (dsimp only; walk1))
        k_dflt (refine' sh_end hl hs1 hs2 hrl ?hS ?F ?N (fun _ h => h) ?_)
        (case F => assumption)
        (case N => assumption)
        (case hS => rw [spot_hit hd9 (by assumption)]; exact strs_set hS _)
        intro y hy
        have h1 : y ≠ Str.ofString "above" := by rintro rfl; exact absurd hy (by decide)
        have h2 : y ≠ Str.ofString "spot" := by rintro rfl; exact absurd hy (by decide)
        have h3 : y ≠ Str.ofString "pair" := by rintro rfl; exact absurd hy (by decide)
        simp only [butM, if_neg h1, if_neg h2, if_neg h3, hy, Bool.false_eq_true, if_false]
      · k_dflt (refine sh_end hl hs1 hs2 hrl (by rw [spot_miss hd9 (by assumption)]; exact hS) (by assumption) (by assumption) (fun _ h => h) ?_)
        intro y hy
        have h1 : y ≠ Str.ofString "above" := by rintro rfl; exact absurd hy (by decide)
        have h2 : y ≠ Str.ofString "spot" := by rintro rfl; exact absurd hy (by decide)
        have h3 : y ≠ Str.ofString "pair" := by rintro rfl; exact absurd hy (by decide)
        simp only [butM, if_neg h1, if_neg h2, if_neg h3, hy, Bool.false_eq_true, if_false]
    · clear hF hN
      intro u vs9 n h' tk9 hS hF hN
      repeat' (first | walk1 | (dsimp only; walk1))
      refine join_listW (News.isList (by assumption) (List.Mem.head _)) (by simpa using hS) (by decide +kernel) ?_ ?_
      · rw [sum_ones (spot_one hs _ (by simp [signF_len, PyProof.Rows.len_item]) 3)]; simp only [spotS_len, List.length_cons, List.length_nil]; decide
      · intro t' k'
        dsimp only
        exact EndedG.intro (by assumption) (by assumption) ⟨_, rfl⟩
end
section
set_option maxHeartbeats 4000000
section
variable {prog : Program} {w : World} {A : Around} {s : Shared} {env cenv : Env}

abbrev orE (xa xb : Str) (p1 p2 p3 : Pos) : Expr := .BinOp (.Name xa p1) .BitOr (.Name xb p2) p3
abbrev comp2 (xa xb xq : Str) (itp : Expr) (p1 p2 p3 pa pb pq : Pos) (scope : Scope) (pos : Pos) : Expr :=
  .ListComp (orE xa xb p1 p2 p3) [⟨.Name xa pa, itp, [], 0⟩, ⟨.Name xb pb, .Name xq pq, [], 0⟩] scope pos

theorem turn2_1 (xa xb xq : Str) (itp : Expr) (p1 p2 p3 pa pb pq : Pos) (scope : Scope) (pos : Pos) (it acc : Value) :
    compTurn (comp2 xa xb xq itp p1 p2 p3 pa pb pq scope pos) 1 it acc cenv = (standAt pq >>= fun _ => pyNext it >>= fun r => match r with
      | none => pure (.done .next)
      | some v => letOwnedTupleGo (.Name xb pb) it v >>= fun _ => assign (.Name xb pb) cenv v >>= fun _ =>
        (eval (orE xa xb p1 p2 p3) cenv >>= fun x => call (.builtin "list.append") [acc, x] >>= fun _ => pure ()) >>= fun _ =>
          again (.compLoop (comp2 xa xb xq itp p1 p2 p3 pa pb pq scope pos) 1 it acc cenv)) := by rfl
theorem turn2_0 (xa xb xq : Str) (itp : Expr) (p1 p2 p3 pa pb pq : Pos) (scope : Scope) (pos : Pos) (it acc : Value) :
    compTurn (comp2 xa xb xq itp p1 p2 p3 pa pb pq scope pos) 0 it acc cenv = (standAt itp.pos >>= fun _ => pyNext it >>= fun r => match r with
      | none => pure (.done .next)
      | some v => letOwnedTupleGo (.Name xa pa) it v >>= fun _ => assign (.Name xa pa) cenv v >>= fun _ =>
        eval (.Name xq pq) cenv >>= fun x => standAt pq >>= fun _ => foldedSetIterable (.Name xq pq) cenv x >>= fun x => holding [x] (pyIter x) >>= fun i => runOwn (.compStart (comp2 xa xb xq itp p1 p2 p3 pa pb pq scope pos) 1 i acc cenv) cenv >>= fun _ =>
          again (.compLoop (comp2 xa xb xq itp p1 p2 p3 pa pb pq scope pos) 0 it acc cenv)) := by rfl

theorem start2_1 {R : Result → Shared → Prop} {xa xb xq : Str} {itp : Expr} {p1 p2 p3 pa pb pq : Pos} {scope : Scope} {pos : Pos} {it acc : Value}
    (h0 : codeAny (model prog w) A (.compLoop (comp2 xa xb xq itp p1 p2 p3 pa pb pq scope pos) 1 it acc cenv) R s)
    (h : wpAny (model prog w) A (pyIter it) (fun it' s' => codeAny (model prog w) A (.compLoop (comp2 xa xb xq itp p1 p2 p3 pa pb pq scope pos) 1 it' acc cenv) R s') (fun _ _ => False) s) :
    codeAny (model prog w) A (.compStart (comp2 xa xb xq itp p1 p2 p3 pa pb pq scope pos) 1 it acc cenv) R s := by
  refine codeAny_of_tree ?_
  show wpAny _ _ ((compStart (comp2 xa xb xq itp p1 p2 p3 pa pb pq scope pos) 1 it acc cenv).onRaise (fun x => do noteFrame x cenv; standAt theWindowsPlace)) _ _ s
  refine wpAny_notedAt ?_
  refine wpAny_mono (E := fun _ _ => False) ?_ (fun _ _ q => q) fun _ _ h => h.elim
  unfold compStart
  show wpAny _ _ (ask >>= _) _ _ s
  refine wpAny_bind (wpAny_askSetting (wpAny_ite ?_))
  split
  · first
      | exact wpAny_bind (wpAny_pure (wpAny_pure (And.intro rfl h0)))
      | exact wpAny_pure (And.intro rfl h0)
  · first
      | exact wpAny_bind (wpAny_rule (wpAny_bind (wpAny_standAt (wpAny_bind (wpAny_mono h (fun it' s' h' => wpAny_pure (And.intro rfl h')) fun _ _ x => x)))))
      | (refine wpAny_bind (wpAny_rule ?_); show wpAny _ _ (standAt pq >>= _) _ _ s; exact wpAny_bind (wpAny_standAt (wpAny_bind (wpAny_mono h (fun it' s' h' => wpAny_pure (And.intro rfl h')) fun _ _ x => x))))

/-- the inner clause: over q, one a -/
theorem inner2 {R : Result → Shared → Prop} {xa xb xq : Str} {itp : Expr} {p1 p2 p3 pa pb pq : Pos} {scope : Scope} {pos : Pos} {I D C qa : Addr} {ys zs : List Value} {qs : List Int} {a : Int} {ta : Tok} {m : Str → Option Value}
    (hh : A.handled = none) (hC : cenv.locals = C) (hk : cenv.scope.kind = .function) (hxa : cenv.kindOf xa = some .local) (hxb : cenv.kindOf xb = some .local) (hab : xa ≠ xb) (da : (xa == ("__debug__" : Str)) = false) (db : (xb == ("__debug__" : Str)) = false)
    (hi : IntsAre ys qs) (hit : s.heap.IsListIter I qa 0) (hl : s.heap.IsList qa ys.toArray) (hD : s.heap.get? D = some (LCg.lst zs)) (hn : s.heap.Ns C m) (ha : m xa = some (.int a ta))
    (hID : I ≠ D) (hIC : I ≠ C) (hIq : qa ≠ I) (hDC : D ≠ C) (hqD : qa ≠ D) (hqC : qa ≠ C) (hsz : zs.length + qs.length ≤ 1000000)
    (hR : ∀ h' tk m' zs', h'.get? D = some (LCg.lst (zs ++ zs')) → IntsAre zs' (qs.map (Builtin.bitOr a)) → h'.Ns C m' → (∀ b o, b ≠ I → b ≠ D → b ≠ C → s.heap.get? b = some o → h'.get? b = some o) → R (.ok .next) { s with heap := h', toks := tk }) :
    codeAny (model prog w) A (.compLoop (comp2 xa xb xq itp p1 p2 p3 pa pb pq scope pos) 1 (.ref I) (.ref D) cenv) R s := by
  subst hC
  have hp : (cenv.scope.kind == .class || (cenv.scope.kind == .module && cenv.locals != cenv.globals)) = false := by rw [hk]; rfl
  refine codeAny_loop rfl (fun k s' => ∃ H tk m' j zs', s' = { s with heap := H, toks := tk } ∧ j ≤ qs.length ∧ k = qs.length + 1 - j ∧ H.IsListIter I qa j ∧ H.IsList qa ys.toArray ∧ H.get? D = some (LCg.lst (zs ++ zs')) ∧ IntsAre zs' ((qs.take j).map (Builtin.bitOr a)) ∧ H.Ns cenv.locals m' ∧ m' xa = some (.int a ta) ∧
    (∀ b o, b ≠ I → b ≠ D → b ≠ cenv.locals → s.heap.get? b = some o → H.get? b = some o)) ?_ (qs.length + 1)
    ⟨s.heap, s.toks, m, 0, [], rfl, Nat.zero_le _, rfl, hit, hl, by simpa using hD, .nil, hn, ha, fun _ _ _ _ _ e => e⟩
  intro k s' hx0
  refine ex5 hx0 fun H tk m' j zs' hx1 => and10 hx1 fun e1 hj e2 hit' hl' hD' hz hn' ha' hk' => ?_
  clear hx0 hx1
  subst e1 e2
  show wpAny _ A ((compTurn (comp2 xa xb xq itp p1 p2 p3 pa pb pq scope pos) 1 (.ref I) (.ref D) cenv).onRaise (fun x => do noteFrame x cenv; theTreesLotGoes x)) _ _ _
  refine wpAny_noted ?_
  refine wpAny_mono (E := fun _ _ => False) ?_ (fun _ _ q => q) fun _ _ h => h.elim
  rw [turn2_1]
  have hyl : ys.length = qs.length := hi.length
  by_cases hlt : j < qs.length
  · obtain ⟨tq, hx⟩ := hi.get j qs[j] (by simp [hlt])
    refine wpAny_bind (wpAny_standAt (wpAny_bind (wpAny_pyNext_list_item hit' hl' (x := .int qs[j] tq) (by simpa using hx) fun h₁ hit₁ hs₁ => ?_)))
    dsimp only
    refine wpAny_bind (wpAny_of_eq (a := ()) (by rfl) (wpAny_bind ?_))
    have hn₁ : h₁.Ns cenv.locals m' := hn'.sameBut hs₁ (Ne.symm hIC)
    refine wpAny_assign_Name (wpAny_storeName_local hxb hn₁ (fun h₂ hn₂ hs₂ => ?_) hp)
    refine wpAny_bind (wpAny_bind (wpAny_BinOp ?_))
    have ha₂ : (fun x => if x = xb then some (Value.int qs[j] tq) else m' x) xa = some (.int a ta) := by
      show (if xa = xb then _ else m' xa) = _
      rw [if_neg hab]; exact ha'
    have hb₂ : (fun x => if x = xb then some (Value.int qs[j] tq) else m' x) xb = some (.int qs[j] tq) := by
      show (if xb = xb then _ else _) = _
      rw [if_pos rfl]
    refine wpAny_Name (wpAny_loadName_local hk hxa hn₂ ha₂ ?_) da
    refine wpAny_Name (wpAny_loadName_local hk hxb hn₂ hb₂ ?_) db
    refine or_int ?_
    have hD₂ : h₂.get? D = some (LCg.lst (zs ++ zs')) := hs₂.extBut _ _ hDC (hs₁.extBut _ _ (Ne.symm hID) hD')
    have hzl : zs'.length ≤ qs.length := by
      rw [hz.length]; simp; omega
    refine wpAny_bind (append_at (hsz := by
      show (zs ++ zs').toArray.size ≤ sizeLine
      rw [List.size_toArray, List.length_append, sizeLine_eq]; omega) hD₂ fun h₃ hs₃ hD₃ => ?_)
    have hD₄ : ∃ t, h₃.get? D = some (LCg.lst (zs ++ zs' ++ [.int (Builtin.bitOr a qs[j]) t])) := ⟨_, hD₃.trans (congrArg some (LCg.lst_snoc (zs ++ zs') _))⟩
    obtain ⟨tt, hD₄⟩ := hD₄
    refine wpAny_pure (wpAny_pure ⟨rfl, qs.length + 1 - (j + 1), turn_lt hlt, h₃, _, _, j + 1, zs' ++ [.int (Builtin.bitOr a qs[j]) tt], rfl, hlt, rfl, ?_, ?_, ?_, ?_, hn₂.sameBut hs₃ (Ne.symm hDC), ha₂, ?_⟩)
    · exact (hit₁.extBut hs₂.extBut hIC).extBut hs₃.extBut hID
    · exact ((hl'.extBut hs₁.extBut hIq).extBut hs₂.extBut hqC).extBut hs₃.extBut hqD
    · rw [← List.append_assoc]; exact hD₄
    · rw [List.take_add_one, List.getElem?_eq_getElem hlt, Option.toList_some, List.map_append]
      exact IntsAre.append hz (.cons _ _ .nil)
    · intro b o h1 h2 h3 e
      exact hs₃.extBut _ _ h2 (hs₂.extBut _ _ h3 (hs₁.extBut _ _ h1 (hk' b o h1 h2 h3 e)))
  · obtain rfl : j = qs.length := last_turn hj hlt
    refine wpAny_bind (wpAny_standAt (wpAny_bind (wpAny_pyNext_list_end hh hit' hl' (by simp [hyl]) fun h₁ he₁ => ?_)))
    dsimp only
    refine wpAny_pure ?_
    rw [List.take_length] at hz
    exact hR h₁ tk m' zs' (he₁ _ _ (Ne.symm hID) hD') hz (hn'.at' fun o e => he₁ _ o (Ne.symm hIC) e) fun b o h1 h2 h3 e => he₁ _ _ h1 (hk' b o h1 h2 h3 e)

theorem flat_len (ps qs : List Int) : (ps.flatMap fun a => qs.map (Builtin.bitOr a)).length = ps.length * qs.length := by
  induction ps with
  | nil => simp
  | cons a r ih => rw [List.flatMap_cons, List.length_append, ih, List.length_map, List.length_cons, Nat.succ_mul]; omega

/-- the outer clause: over p -/
theorem outer2 {R : Result → Shared → Prop} {xa xb xq : Str} {itp : Expr} {p1 p2 p3 pa pb pq : Pos} {scope : Scope} {pos : Pos} {I D C pad qa cq : Addr} {xs ys : List Value} {ps qs : List Int} {m : Str → Option Value}
    (hh : A.handled = none) (hC : cenv.locals = C) (hk : cenv.scope.kind = .function) (hxa : cenv.kindOf xa = some .local) (hxb : cenv.kindOf xb = some .local) (hab : xa ≠ xb) (da : (xa == ("__debug__" : Str)) = false) (db : (xb == ("__debug__" : Str)) = false)
    (hq : ∀ (s' : Shared) (Q : Value → Shared → Prop), s'.heap.IsCell cq (some (.ref qa)) → Q (.ref qa) s' → wpAny (model prog w) A (eval (.Name xq pq) cenv) Q (fun _ _ => False) s')
    (hip : IntsAre xs ps) (hiq : IntsAre ys qs) (hit : s.heap.IsListIter I pad 0) (hlp : s.heap.IsList pad xs.toArray) (hlq : s.heap.IsList qa ys.toArray) (hcq : s.heap.IsCell cq (some (.ref qa))) (hD : s.heap.get? D = some (LCg.lst [])) (hn : s.heap.Ns C m)
    (hID : I ≠ D) (hIC : I ≠ C) (hDC : D ≠ C) (hpI : pad ≠ I) (hpD : pad ≠ D) (hpC : pad ≠ C) (hqI : qa ≠ I) (hqD : qa ≠ D) (hqC : qa ≠ C) (hcI : cq ≠ I) (hcD : cq ≠ D) (hcC : cq ≠ C) (hs1 : ps.length ≤ 64) (hs2 : qs.length ≤ 64)
    (hR : ∀ h' tk m' zs, h'.get? D = some (LCg.lst zs) → IntsAre zs (ps.flatMap fun a => qs.map (Builtin.bitOr a)) → h'.Ns C m' → (∀ b o, b ≠ I → b ≠ D → b ≠ C → s.heap.get? b = some o → h'.get? b = some o) → R (.ok .next) { s with heap := h', toks := tk }) :
    codeAny (model prog w) A (.compLoop (comp2 xa xb xq itp p1 p2 p3 pa pb pq scope pos) 0 (.ref I) (.ref D) cenv) R s := by
  subst hC
  have hp : (cenv.scope.kind == .class || (cenv.scope.kind == .module && cenv.locals != cenv.globals)) = false := by rw [hk]; rfl
  refine codeAny_loop rfl (fun k s' => ∃ H tk m' j zs, s' = { s with heap := H, toks := tk } ∧ j ≤ ps.length ∧ k = ps.length + 1 - j ∧ H.IsListIter I pad j ∧ H.get? D = some (LCg.lst zs) ∧ IntsAre zs ((ps.take j).flatMap fun a => qs.map (Builtin.bitOr a)) ∧ H.Ns cenv.locals m' ∧
    (∀ b o, b ≠ I → b ≠ D → b ≠ cenv.locals → s.heap.get? b = some o → H.get? b = some o)) ?_ (ps.length + 1)
    ⟨s.heap, s.toks, m, 0, [], rfl, Nat.zero_le _, rfl, hit, hD, .nil, hn, fun _ _ _ _ _ e => e⟩
  intro k s' hx0
  refine ex5 hx0 fun H tk m' j zs hx1 => and8 hx1 fun e1 hj e2 hit' hD' hz hn' hk' => ?_
  clear hx0 hx1
  subst e1 e2
  have hlp' : H.IsList pad xs.toArray := hlp.at fun o e => hk' _ o hpI hpD hpC e
  have hlq' : H.IsList qa ys.toArray := hlq.at fun o e => hk' _ o hqI hqD hqC e
  have hcq' : H.IsCell cq (some (.ref qa)) := let ⟨o, e, r⟩ := hcq; ⟨o, hk' _ o hcI hcD hcC e, r⟩
  show wpAny _ A ((compTurn (comp2 xa xb xq itp p1 p2 p3 pa pb pq scope pos) 0 (.ref I) (.ref D) cenv).onRaise (fun x => do noteFrame x cenv; theTreesLotGoes x)) _ _ _
  refine wpAny_noted ?_
  refine wpAny_mono (E := fun _ _ => False) ?_ (fun _ _ q => q) fun _ _ h => h.elim
  rw [turn2_0]
  have hxl : xs.length = ps.length := hip.length
  by_cases hlt : j < ps.length
  · obtain ⟨tp, hx⟩ := hip.get j ps[j] (by simp [hlt])
    refine wpAny_bind (wpAny_standAt (wpAny_bind (wpAny_pyNext_list_item hit' hlp' (x := .int ps[j] tp) (by simpa using hx) fun h₁ hit₁ hs₁ => ?_)))
    dsimp only
    refine wpAny_bind (wpAny_of_eq (a := ()) (by rfl) (wpAny_bind ?_))
    have hn₁ : h₁.Ns cenv.locals m' := hn'.sameBut hs₁ (Ne.symm hIC)
    refine wpAny_assign_Name (wpAny_storeName_local hxa hn₁ (fun h₂ hn₂ hs₂ => ?_) hp)
    have hcq₂ : h₂.IsCell cq (some (.ref qa)) := let ⟨o, e, r⟩ := hcq'; ⟨o, hs₂.extBut _ _ hcC (hs₁.extBut _ _ hcI e), r⟩
    have hlq₂ : h₂.IsList qa ys.toArray := (hlq'.extBut hs₁.extBut hqI).extBut hs₂.extBut hqC
    have hD₂ : h₂.get? D = some (LCg.lst zs) := hs₂.extBut _ _ hDC (hs₁.extBut _ _ (Ne.symm hID) hD')
    have hit₂ : h₂.IsListIter I pad (j + 1) := hit₁.extBut hs₂.extBut hIC
    refine wpAny_bind (hq _ _ hcq₂ ?_)
    refine wpAny_bind (wpAny_standAt (wpAny_bind (wpAny_of_eq (a := Value.ref qa) (by rfl) (wpAny_bind (wpAny_holding ?_)))))
    refine wpAny_pyIter_list hlq₂ ?_
    have hold : ∀ b o, h₂.get? b = some o → (h₂.push { cls := .type "list_iterator", data := .fields #[.ref qa, .int 0 0] }).get? b = some o := fun b o e => Heap.get?_push_of_some _ e
    have ne : ∀ {b : Addr} {o : Obj}, h₂.get? b = some o → h₂.objs.size ≠ b := fun e => Nat.ne_of_gt (Heap.lt_size e)
    have nC : h₂.objs.size ≠ cenv.locals := by obtain ⟨o, _, _, e, _⟩ := hn₂; exact ne e
    have nq : qa ≠ h₂.objs.size := by obtain ⟨o, e, _⟩ := hlq₂; exact (ne e).symm
    have nI : I ≠ h₂.objs.size := by obtain ⟨o, e, _⟩ := hit₂; exact (ne e).symm
    have hzl : zs.length ≤ 64 * 64 := by
      rw [hz.length, flat_len]
      refine Nat.mul_le_mul ?_ hs2
      rw [List.length_take]; omega
    refine wpAny_bind (wpAny_runOwn ?_)
    have loop : ∀ R' : Result → Shared → Prop, (∀ h' tk m' zs', h'.get? D = some (LCg.lst (zs ++ zs')) → IntsAre zs' (qs.map (Builtin.bitOr ps[j])) → h'.Ns cenv.locals m' → (∀ b o, b ≠ h₂.objs.size → b ≠ D → b ≠ cenv.locals → h₂.get? b = some o → h'.get? b = some o) → R' (.ok .next) { s with heap := h', toks := tk }) →
        codeAny (model prog w) A (.compLoop (comp2 xa xb xq itp p1 p2 p3 pa pb pq scope pos) 1 (.ref h₂.objs.size) (.ref D) cenv) R' { s with heap := h₂.push { cls := .type "list_iterator", data := .fields #[.ref qa, .int 0 0] }, toks := tk + 1 } := fun R' hR' =>
      inner2 (I := h₂.objs.size) (D := D) (C := cenv.locals) (qa := qa) (zs := zs) (qs := qs) (a := ps[j]) (ta := tp) hh rfl hk hxa hxb hab da db hiq ⟨_, Heap.get?_push_size _ rfl, rfl, rfl⟩ (hlq₂.at fun o e => hold _ o e) (hold _ _ hD₂) (hn₂.at' fun o e => hold _ o e) (by show (if xa = xa then _ else _) = _; rw [if_pos rfl])
        (ne hD₂) nC nq hDC hqD hqC (by omega) fun h' tk' m'' zs' e1 e2 e3 e4 => hR' h' tk' m'' zs' e1 e2 e3 fun b o h1 h2 h3 e => e4 b o h1 h2 h3 (hold b o e)
    refine start2_1 (loop _ ?_) (wpAny_pyIter_listiter ⟨_, Heap.get?_push_size _ rfl, rfl, rfl⟩ (loop _ ?_))
    all_goals
      intro h' tk' m'' zs' e1 e2 e3 e4
      dsimp only
      refine wpAny_pure ⟨rfl, ps.length + 1 - (j + 1), turn_lt hlt, h', tk', m'', j + 1, zs ++ zs', rfl, hlt, rfl, ?_, e1, ?_, e3, ?_⟩
      · exact hit₂.at fun o e => e4 _ o nI hID hIC e
      · rw [List.take_add_one, List.getElem?_eq_getElem hlt, Option.toList_some, List.flatMap_append]
        refine IntsAre.append hz ?_
        rw [List.flatMap_cons, List.flatMap_nil, List.append_nil]
        exact e2
      · intro b o h1 h2 h3 e
        have e' := hs₂.extBut _ _ h3 (hs₁.extBut _ _ h1 (hk' b o h1 h2 h3 e))
        exact e4 b o (ne e').symm h2 h3 e'
  · obtain rfl : j = ps.length := last_turn hj hlt
    refine wpAny_bind (wpAny_standAt (wpAny_bind (wpAny_pyNext_list_end hh hit' hlp' (by simp [hxl]) fun h₁ he₁ => ?_)))
    dsimp only
    refine wpAny_pure ?_
    rw [List.take_length] at hz
    exact hR h₁ tk m' zs (he₁ _ _ (Ne.symm hID) hD') hz (hn'.at' fun o e => he₁ _ o (Ne.symm hIC) e) fun b o h1 h2 h3 e => he₁ _ _ h1 (hk' b o h1 h2 h3 e)

theorem assign_comp2 {h₀ : Heap} {m : Str → Option Value} {news : List (Addr × Obj)} {y xa xb xq : Str} {itp : Expr} {p1 p2 p3 pa pb pq py : Pos} {scope : Scope} {cl : List (Str × Addr)} {pos spos : Pos} {pad qa cq : Addr} {xs ys : List Value} {ps qs : List Int} {Q : Flow → Shared → Prop}
    (hh : A.handled = none) (hsw : swapsWith (comp2 xa xb xq itp p1 p2 p3 pa pb pq scope pos) (some (.Name y py)) spos.line env = pure true)
    (hclos : closureFor scope env = pure cl) (hcell : ∀ z ∈ scope.names, z.2 ≠ .cell) (hkind : scope.kind = .function)
    (hnames : ∀ z ∈ scope.names, z.2 = .local → scope.names.lookup z.1 = some .local) (hxa : scope.names.lookup xa = some .local) (hxb : scope.names.lookup xb = some .local) (hab : xa ≠ xb) (da : (xa == ("__debug__" : Str)) = false) (db : (xb == ("__debug__" : Str)) = false)
    (hy : env.kindOf y = some .local) (hp : (env.scope.kind == .class || (env.scope.kind == .module && env.locals != env.globals)) = false)
    (hs : ∀ x, foldedSetIterable itp env x = pure x)
    (hit : ∀ Q : Value → Shared → Prop, Q (.ref pad) s → wpAny (model prog w) A (eval itp env) Q (fun _ _ => False) s)
    (hq : ∀ (C : Addr) (s' : Shared) (Q : Value → Shared → Prop), s'.heap.IsCell cq (some (.ref qa)) → Q (.ref qa) s' → wpAny (model prog w) A (eval (.Name xq pq) (compEnvC scope cl C env)) Q (fun _ _ => False) s')
    (hip : IntsAre xs ps) (hiq : IntsAre ys qs) (hlp : s.heap.IsList pad xs.toArray) (hlq : s.heap.IsList qa ys.toArray) (hcq : s.heap.IsCell cq (some (.ref qa))) (hs1 : ps.length ≤ 64) (hs2 : qs.length ≤ 64)
    (F : Fr h₀ env.locals s.heap m) (N : News h₀ env.locals s.heap news)
    (h : ∀ D h' tk zs, IntsAre zs (ps.flatMap fun a => qs.map (Builtin.bitOr a)) → Fr h₀ env.locals h' (fun z => if z = y then some (.ref D) else m z) → News h₀ env.locals h' ((D, LCg.lst zs) :: news) → (∀ p ∈ news, p.1 < D) → Q .next { s with heap := h', toks := tk }) :
    wpAny (model prog w) A (exec (.Assign [.Name y py] (comp2 xa xb xq itp p1 p2 p3 pa pb pq scope pos) spos) env) Q (fun _ _ => False) s := by
  rw [exec_Assign_Name_used _ _ _ _ hsw]
  refine wpAny_bind (wpAny_standAt (wpAny_bind ?_))
  show wpAny _ A (do let _ ← comprehension (comp2 xa xb xq itp p1 p2 p3 pa pb pq scope pos) scope env _ (newList []) false (eval itp env) (some (assign (.Name y py) env))) _ _ s
  refine wpAny_bind (wpAny_mono (wpAny_comprehension_free (use := some (assign (.Name y py) env)) (Q := fun _ s' => Q .next s') rfl hs hclos hkind hnames (hit _ (wpAny_pyIter_list hlp ?_))) (fun _ s' hq => wpAny_pure (wpAny_pure hq)) fun _ _ e => e)
  refine wpAny_newObj_type (wpAny_newFunctionEnv hcell (by intro y hy; simp at hy) (fun h₁ hns₁ hsb₁ => ?_) hkind)
  dsimp only at hns₁ hsb₁ ⊢
  generalize hS2 : s.heap.push { cls := .type "list_iterator", data := .fields #[.ref pad, .int 0 0] } = S2 at hns₁ hsb₁ ⊢
  generalize hH2 : S2.push { cls := .type "list", dict := none, data := .seq ([] : List Value).toArray } = H2 at hns₁ hsb₁ ⊢
  have zS : S2.objs.size = s.heap.objs.size + 1 := by rw [← hS2, Heap.size_push]
  have zH : H2.objs.size = s.heap.objs.size + 2 := by rw [← hH2, Heap.size_push, zS]
  have nI : ∀ {b : Addr}, b < s.heap.objs.size → b ≠ s.heap.objs.size := fun e => Nat.ne_of_lt e
  have nD : ∀ {b : Addr}, b < s.heap.objs.size → b ≠ S2.objs.size := fun e => by rw [zS]; exact Nat.ne_of_lt (Nat.lt_succ_of_lt e)
  have nC : ∀ {b : Addr}, b < s.heap.objs.size → b ≠ H2.objs.size := fun e => by rw [zH]; exact Nat.ne_of_lt (Nat.lt_succ_of_lt (Nat.lt_succ_of_lt e))
  have hID : s.heap.objs.size ≠ S2.objs.size := by rw [zS]; exact Nat.ne_of_lt (Nat.lt_succ_self _)
  have hIC : s.heap.objs.size ≠ H2.objs.size := by rw [zH]; exact Nat.ne_of_lt (Nat.lt_succ_of_lt (Nat.lt_succ_self _))
  have hDC : S2.objs.size ≠ H2.objs.size := by rw [zH, zS]; exact Nat.ne_of_lt (Nat.lt_succ_self _)
  have upS : ∀ b o, S2.get? b = some o → h₁.get? b = some o := fun b o e => hsb₁.extBut b o (by rw [zH]; exact Nat.ne_of_lt (by have := Heap.lt_size e; rw [zS] at this; exact Nat.lt_succ_of_lt this)) (Heap.get?_push_of_some _ (hH2 ▸ Heap.get?_push_of_some _ e))
  have up : ∀ b o, s.heap.get? b = some o → h₁.get? b = some o := fun b o e => upS b o (hS2 ▸ Heap.get?_push_of_some _ e)
  have hitI : h₁.IsListIter s.heap.objs.size pad 0 := ⟨_, upS _ _ (hS2 ▸ Heap.get?_push_size _ rfl), rfl, rfl⟩
  have hacc : h₁.get? S2.objs.size = some (LCg.lst []) := hsb₁.extBut _ _ hDC (Heap.get?_push_of_some _ (hH2 ▸ Heap.get?_push_size _ rfl))
  have eL := F.ns.lt
  have eP : pad < s.heap.objs.size := let ⟨_, e, _⟩ := hlp; Heap.lt_size e
  have eQ : qa < s.heap.objs.size := let ⟨_, e, _⟩ := hlq; Heap.lt_size e
  have eC : cq < s.heap.objs.size := let ⟨_, e, _⟩ := hcq; Heap.lt_size e
  have fresh₀ : ∀ a, s.heap.objs.size ≤ a → h₀.get? a = none := fun a ha => by
    cases e : h₀.get? a with
    | none => rfl
    | some o' => exact absurd (Heap.lt_size (F.keep a o' e)) (Nat.not_lt.mpr ha)
  have loop : ∀ s₃ : Shared, s₃ = { s with heap := h₁, toks := s.toks + ([] : List (Str × Value)).length } →
      codeAny (model prog w) A (.compLoop (comp2 xa xb xq itp p1 p2 p3 pa pb pq scope pos) 0 (.ref s.heap.objs.size) (.ref S2.objs.size) (compEnvC scope cl H2.objs.size env))
        (compPost (model prog w) A (fun _ _ => False) (some (assign (.Name y py) env)) (fun _ s' => Q .next s') (.ref S2.objs.size) H2.objs.size) s₃ := by
    rintro s₃ rfl
    refine outer2 (cenv := compEnvC scope cl H2.objs.size env) (I := s.heap.objs.size) (D := S2.objs.size) (C := H2.objs.size) (pad := pad) (qa := qa) (cq := cq) (ps := ps) (qs := qs) hh rfl (by simp [compEnvC, relabel, hkind]) (lookup_relabel_local hxa) (lookup_relabel_local hxb) hab da db (fun s' Q c q => hq _ s' Q c q)
      hip hiq hitI (hlp.at fun o e => up _ o e) (hlq.at fun o e => up _ o e) (let ⟨o, e, r⟩ := hcq; ⟨o, up _ _ e, r⟩) hacc hns₁ hID hIC hDC (nI eP) (nD eP) (nC eP) (nI eQ) (nD eQ) (nC eQ) (nI eC) (nD eC) (nC eC) hs1 hs2 ?_
    intro h' tk m' zs e1 e2 e3 e4
    have keep : ∀ b o, s.heap.get? b = some o → h'.get? b = some o := fun b o e => e4 b o (nI (Heap.lt_size e)) (nD (Heap.lt_size e)) (nC (Heap.lt_size e)) (up b o e)
    show wpAny _ A (assign (.Name y py) env (.ref S2.objs.size)) _ _ _
    refine wpAny_assign_Name (wpAny_storeName_local hy (F.keeps keep).ns (fun h₂ hn₂ hs₂ => ?_) hp)
    have hLC : env.locals ≠ H2.objs.size := nC eL
    have hLD : env.locals ≠ S2.objs.size := nD eL
    have F₂ : Fr h₀ env.locals h₂ (fun z => if z = y then some (.ref S2.objs.size) else m z) := (F.keeps keep).set hn₂ hs₂
    refine ⟨m', e3.sameBut hs₂ (Ne.symm hLC), fun h'' hs'' => ?_⟩
    refine h S2.objs.size h'' _ zs e2 (F₂.change hs'' (Ne.symm hLC) (fresh₀ _ (by rw [zH]; exact Nat.le_add_right _ _))) (fun p hp => ?_) fun p hp => ?_
    · rcases List.mem_cons.mp hp with rfl | hp
      · exact ⟨hs''.extBut _ _ hDC (hs₂.extBut _ _ (Ne.symm hLD) e1), Ne.symm hLD, fresh₀ _ (by rw [zS]; exact Nat.le_add_right _ _)⟩
      · exact ⟨hs''.extBut _ _ (nC (Heap.lt_size (N p hp).1)) (hs₂.extBut _ _ (N p hp).2.1 (keep _ _ (N p hp).1)), (N p hp).2⟩
    · rw [zS]; exact Nat.lt_succ_of_lt (Heap.lt_size (N p hp).1)
  exact codeAny_compStart_list (loop _ rfl) (wpAny_pyIter_listiter hitI (loop _ rfl))
end
end
section
set_option maxHeartbeats 4000000
section
variable {prog : Program} {w : World} {A : Around} {s : Shared} {env : Env} {h₀ : Heap} {target : Expr} {body orelse : List Stmt} {Q : Flow → Shared → Prop}
/-- over a list -/
theorem turnsListL {ax : Addr} {vs : Array Value} {m : Str → Option Value} {news news₀ : List (Addr × Obj)} (J : Nat → (Str → Option Value) → List (Addr × Obj) → Prop)
    (hh : A.handled = none) (hl : s.heap.IsList ax vs) (hax : ax ≠ env.locals) (F : Fr h₀ env.locals s.heap m) (N₀ : News h₀ env.locals s.heap news₀) (hsub : ∀ p ∈ news, p ∈ news₀) (h0 : J 0 m news)
    (step : ∀ I i v m₁ news₁ h₁ tk₁ own, i < vs.size → vs[i]? = some v → J i m₁ news₁ → (∀ p ∈ news₁, p.1 ∉ [I]) → (∀ p ∈ own, p.1 ∈ [I, ax]) → (∃ o, (I, o) ∈ own) → (∀ p ∈ news₀, p.1 < I) → Fr h₀ env.locals h₁ m₁ → News h₀ env.locals h₁ (own ++ news₁) →
      wpAny (model prog w) A (assign target env v) (fun _ s₃ => wpAny (model prog w) A (execs body env) (TurnEnd h₀ env.locals [I] own (J (i + 1)) { s with heap := h₁, toks := tk₁ } Q) (fun _ _ => False) s₃) (fun _ _ => False) { s with heap := h₁, toks := tk₁ })
    (hE : ∀ h' tk m' news', Fr h₀ env.locals h' m' → News h₀ env.locals h' news' → J vs.size m' news' → wpAny (model prog w) A (execs orelse env) Q (fun _ _ => False) { s with heap := h', toks := tk }) :
    wpAny (model prog w) A (pyIter (.ref ax)) (fun it s₂ => TurnsE prog w A h₀ env target body orelse Q it s₂) (fun _ _ => False) s := by
  have N : News h₀ env.locals s.heap news := fun p hp => N₀ p (hsub p hp)
  obtain ⟨ol, hol, _⟩ := id hl
  have hlt : ax < s.heap.objs.size := Heap.lt_size hol
  have hne : ax ≠ s.heap.objs.size := Nat.ne_of_lt hlt
  refine wpAny_pyIter_list hl ?_
  refine TurnsE.intro (fp := [s.heap.objs.size, ax]) (wr := [s.heap.objs.size]) (n := vs.size) (J := J) (KTurns.ofWalks (Walks.list hh s.heap.objs.size ax hne vs) fun i v s Q E st q => letGo_listiter st.1 q) ?_ ?_ ?_
    ⟨⟨_, Heap.get?_push_size _ rfl, rfl, rfl⟩, hl.at fun o e => Heap.get?_push_of_some _ e⟩ (F.push _) (fun p hp => ⟨Heap.get?_push_of_some _ (N p hp).1, (N p hp).2⟩) h0 ?_ ?_
  · intro hI
    rcases List.mem_cons.mp hI with e | hI
    · exact absurd F.ns.lt (e ▸ Nat.lt_irrefl _)
    · exact hax (List.mem_singleton.mp hI).symm
  · intro b hb
    rw [List.mem_singleton.mp hb]; exact next_is_new F
  · intro p hp hI
    exact absurd (Heap.lt_size (N p hp).1) ((List.mem_singleton.mp hI) ▸ Nat.lt_irrefl _)
  · intro i v m₁ news₁ h₁ tk₁ own hi hP hJ hw ho hall hst F₁ N₁
    exact step s.heap.objs.size i v m₁ news₁ h₁ tk₁ own hi hP hJ hw ho (by obtain ⟨o, e, _⟩ := hst.1; exact ⟨o, hall _ (List.mem_cons_self ..) (next_is_new F) o e⟩) (fun p hp => Heap.lt_size (N₀ p hp).1) F₁ N₁
  · intro h' tk m' news' F' N' _ hJ
    exact hE h' tk m' news' F' N' hJ

def bump (ts : List Int) (t : Int) : List Int := ts.set t.toNat (ts.getD t.toNat 0 + 1)
theorem bump_len (ts : List Int) (t : Int) : (bump ts t).length = ts.length := List.length_set ..
theorem bumps_len (l : List Int) : ∀ ts : List Int, (l.foldl bump ts).length = ts.length := by
  induction l with
  | nil => intro ts; rfl
  | cons a r ih => intro ts; rw [List.foldl_cons, ih, bump_len]

/-- what a turn of «times[term] += 1» leaves -/
def BumpPost (h₀ : Heap) (L : Addr) (ys : List Str) (m₀ : Str → Option Value) (tm ct : Addr) (ot : Obj) (own : List (Addr × Obj)) (cs : List Int) (t : Int) (s₁ : Shared) (f : Flow) (s₂ : Shared) : Prop :=
  f = .next ∧ ∃ h' tk m' tvs n, s₂ = { s₁ with heap := h', toks := tk } ∧ Fr h₀ L h' m' ∧ (∀ y, ys.contains y = false → m' y = m₀ y) ∧ News h₀ L h' ((tm, W.listOf (tvs : List Value).toArray n) :: (ct, ot) :: own) ∧ IntsAre tvs (bump cs t)
theorem BumpPost.intro {L : Addr} {ys : List Str} {m₀ m' : Str → Option Value} {tm ct : Addr} {ot : Obj} {own : List (Addr × Obj)} {cs cs' : List Int} {t : Int} {s₁ : Shared} {h' : Heap} {tk n : Nat} {tvs : List Value}
    (F : Fr h₀ L h' m') (N : News h₀ L h' ((tm, W.listOf tvs.toArray n) :: (ct, ot) :: own)) (hm : ∀ y, ys.contains y = false → m' y = m₀ y) (hi : IntsAre tvs cs') (e : cs' = bump cs t) : BumpPost h₀ L ys m₀ tm ct ot own cs t s₁ .next { s₁ with heap := h', toks := tk } :=
  ⟨rfl, h', tk, m', tvs, n, rfl, F, hm, N, e ▸ hi⟩

theorem bump_loop {m₀ : Str → Option Value} {tm ct ad : Addr} {ot : Obj} {tvs₀ vs : List Value} {n₀ : Nat} {cs ts : List Int} {all : List (Addr × Obj)} {g : Obj → List (Addr × Obj)} (ys : List Str)
    (hh : A.handled = none) (F : Fr h₀ env.locals s.heap m₀) (N : News h₀ env.locals s.heap all) (U : UpdF tm (W.listOf tvs₀.toArray n₀) all g) (_hct : ot.data = .cell (some (.ref tm))) (mct : (ct, ot) ∈ all) (nct : @Ne Nat ct tm) (had : s.heap.IsList ad vs.toArray) (nad : ad ≠ env.locals) (nad2 : @Ne Nat ad tm)
    (hi : IntsAre vs ts) (hts : ∀ t ∈ ts, 0 ≤ t ∧ t < 16) (hcs : IntsAre tvs₀ cs) (hlen : cs.length = 16)
    (step : ∀ t tt u tvs n cs' h₁ tk₁ own, 0 ≤ t → t < 16 → IntsAre tvs cs' → cs'.length = 16 → OwnOff own [tm] → Fr h₀ env.locals h₁ (butM ys u m₀) → News h₀ env.locals h₁ ((tm, W.listOf (tvs : List Value).toArray n) :: (ct, ot) :: own) →
      wpAny (model prog w) A (assign target env (.int t tt)) (fun _ s₃ => wpAny (model prog w) A (execs body env) (BumpPost h₀ env.locals ys m₀ tm ct ot own cs' t { s with heap := h₁, toks := tk₁ }) (fun _ _ => False) s₃) (fun _ _ => False) { s with heap := h₁, toks := tk₁ })
    (hE : ∀ u tvs n h' tk, IntsAre tvs (ts.foldl bump cs) → Fr h₀ env.locals h' (butM ys u m₀) → News h₀ env.locals h' (g (W.listOf (tvs : List Value).toArray n)) → Q .next { s with heap := h', toks := tk }) :
    wpAny (model prog w) A (pyIter (.ref ad)) (fun it s₂ => TurnsE prog w A h₀ env target body [] Q it s₂) (fun _ _ => False) s := by
  obtain ⟨pre, post, hall, hg, off1, off2⟩ := U.split
  have hlv : vs.length = ts.length := hi.length
  have offAll : ∀ p ∈ pre ++ post, p.1 ≠ tm := fun p hp => (List.mem_append.mp hp).elim (off1 p) (off2 p)
  refine turnsListL (news := g (W.listOf tvs₀.toArray n₀)) (fun j m news => (∃ u, m = butM ys u m₀) ∧ ∃ tvs n, news = g (W.listOf (tvs : List Value).toArray n) ∧ IntsAre tvs ((ts.take j).foldl bump cs)) hh had nad F N (fun p hp => by rw [hg] at hp; rw [hall]; exact hp) ⟨⟨m₀, butM_of fun _ _ => rfl⟩, tvs₀, n₀, rfl, by simpa using hcs⟩ ?_ ?_
  · intro I j v m₁ news₁ h₁ tk₁ own hj hv hJ hw ho _ hlt F₁ N₁
    refine hJ.1.elim fun u eu => ex2 hJ.2 fun tvs n hz => ?_
    have hI := hz.2
    have en := hz.1
    clear hJ hz
    subst eu en
    have hj' : j < ts.length := by simpa [hlv] using hj
    obtain ⟨tt, hx⟩ := hi.get j ts[j] (by simp [hj'])
    have ev : v = .int ts[j] tt := by
      have : vs[j]? = some v := by simpa using hv
      rw [hx] at this; exact (Option.some.inj this).symm
    subst ev
    have hb := hts ts[j] (List.getElem_mem ..)
    have mct' : (ct, ot) ∈ pre ++ post := by
      have := mct
      rw [hall] at this
      rcases List.mem_append.mp this with q | q
      · exact List.mem_append_left _ q
      · rcases List.mem_cons.mp q with q | q
        · exact absurd (congrArg Prod.fst q) nct
        · exact List.mem_append_right _ q
    have hI' : tm < I := hlt (tm, _) (by rw [hall]; exact List.mem_append_right _ (List.mem_cons_self ..))
    refine wpAny_mono (step ts[j] tt u tvs n _ h₁ tk₁ (own ++ (pre ++ post)) hb.1 hb.2 hI (by rw [bumps_len]; exact hlen) ?_ F₁ (fun p hp => ?_)) (fun _ s₃ h₃ => wpAny_mono h₃ (fun f s₄ h₄ => ?_) fun _ _ e => e) fun _ _ e => e
    · intro p hp b hb' e
      rw [List.mem_singleton.mp hb'] at e
      rcases List.mem_append.mp hp with hp | hp
      · rcases List.mem_cons.mp (ho p hp) with q | q
        · exact absurd hI' (by rw [← e, q]; exact Nat.lt_irrefl _)
        · exact nad2 ((List.mem_singleton.mp q).symm.trans e)
      · exact offAll p hp e
    · rcases List.mem_cons.mp hp with rfl | hp
      · exact N₁ _ (List.mem_append_right _ (by rw [hg]; exact List.mem_append_right _ (List.mem_cons_self ..)))
      · have hp' : p ∈ own ++ (pre ++ post) := by
          rcases List.mem_cons.mp hp with rfl | hp
          · exact List.mem_append_right _ mct'
          · exact hp
        rcases List.mem_append.mp hp' with q | q
        · exact N₁ _ (List.mem_append_left _ q)
        · refine N₁ _ (List.mem_append_right _ ?_)
          rw [hg]
          rcases List.mem_append.mp q with q | q
          · exact List.mem_append_left _ q
          · exact List.mem_append_right _ (List.mem_cons_of_mem _ q)
    · have ef := h₄.1
      refine ex5 h₄.2 fun h' tk m' tvs' n' hz => and5 hz fun es F' hm N' hI'' => ?_
      clear h₄ hz
      subst ef es
      refine TurnEnd.next F' (news₂ := g (W.listOf tvs'.toArray n')) (fun p hp => ?_) (fun p hp q => ?_) ⟨⟨m', butM_of hm⟩, tvs', n', rfl, ?_⟩
      · rcases List.mem_append.mp hp with hp | hp
        · exact N' p (List.mem_cons_of_mem _ (List.mem_cons_of_mem _ (List.mem_append_left _ hp)))
        · rw [hg] at hp
          rcases List.mem_append.mp hp with hp | hp
          · exact N' p (List.mem_cons_of_mem _ (List.mem_cons_of_mem _ (List.mem_append_right _ (List.mem_append_left _ hp))))
          · rcases List.mem_cons.mp hp with rfl | hp
            · exact N' _ (List.mem_cons_self ..)
            · exact N' p (List.mem_cons_of_mem _ (List.mem_cons_of_mem _ (List.mem_append_right _ (List.mem_append_right _ hp))))
      · rw [hg] at hp
        rcases List.mem_append.mp hp with hp | hp
        · exact absurd (hlt p (by rw [hall]; exact List.mem_append_left _ hp)) ((List.mem_singleton.mp q) ▸ Nat.lt_irrefl _)
        · rcases List.mem_cons.mp hp with rfl | hp
          · exact absurd hI' ((List.mem_singleton.mp q) ▸ Nat.lt_irrefl _)
          · exact absurd (hlt p (by rw [hall]; exact List.mem_append_right _ (List.mem_cons_of_mem _ hp))) ((List.mem_singleton.mp q) ▸ Nat.lt_irrefl _)
      · rw [List.take_add_one, List.getElem?_eq_getElem hj', Option.toList_some, List.foldl_append]
        exact hI''
  · intro h' tk m' news' F' N' hJ
    refine hJ.1.elim fun u eu => ex2 hJ.2 fun tvs n hz => ?_
    have hI := hz.2
    have en := hz.1
    clear hJ hz
    subst eu en
    refine wpAny_execs_nil ?_
    refine hE u tvs n h' tk ?_ F' N'
    have : ts.take vs.toArray.size = ts := List.take_of_length_le (by simp [hlv])
    rw [this] at hI
    exact hI
end
end
section
set_option maxHeartbeats 4000000

def selP (k : Nat) (p : List Int) : List Int := match k with | 0 => [] | 1 | 2 | 3 => p | 4 => [0] ++ p | 5 => [0] | 6 => [0] ++ p | _ => [0]
def selQ (k : Nat) (q : List Int) : List Int := match k with | 0 => [] | 1 | 2 => q | 3 => [] | 4 => q | 5 => [] | _ => q
def selB (k : Nat) (b : List Int) : List Int := match k with | 0 | 1 => b | 2 => [] | 3 | 4 | 5 => b | 6 => [] | _ => b
def flat2 (ps qs : List Int) : List Int := ps.flatMap fun a => qs.map (Builtin.bitOr a)
def timesF (k : Nat) (p q : List Int) : List Int := (selB k (flat2 p q)).foldl bump ((selQ k q).foldl bump ((selP k p).foldl bump ((rangeKs 0 16).map fun _ => 0)))
def oddG (ts : List Int) (l : List Int) (t : Int) : List Int := if (ts.getD t.toNat 0).fmod 2 = 1 then l ++ [t] else l
def oddF (ts : List Int) : List Int := (rangeKs 0 16).foldl (oddG ts) []
def sumStep (ss : List (List Int)) (n : Int) : List (List Int) :=
  ss ++ [oddF (timesF (n.fmod 8).toNat (ss.getD (((n.fdiv 512).fmod 64).fmod (ss.length : Int)).toNat []) (ss.getD (((n.fdiv 8).fmod 64).fmod (ss.length : Int)).toNat []))]
def sumsF (ns : List Int) : List (List Int) := ns.foldl sumStep [[1], [2], [4], [8]]
theorem sums_len (ns : List Int) : (sumsF ns).length = ns.length + 4 := by
  unfold sumsF
  suffices h : ∀ fs : List (List Int), (ns.foldl sumStep fs).length = ns.length + fs.length by simpa using h [[1], [2], [4], [8]]
  induction ns with
  | nil => intro fs; simp
  | cons n r ih => intro fs; rw [List.foldl_cons, ih]; simp [sumStep]; omega
theorem odd_foldl (ts : List Int) : ∀ (l acc : List Int), l.foldl (oddG ts) acc = acc ++ l.filter fun t => decide ((ts.getD t.toNat 0).fmod 2 = 1)
  | [], acc => by simp
  | a :: r, acc => by
    rw [List.foldl_cons, odd_foldl ts r]
    unfold oddG
    by_cases h : (ts.getD a.toNat 0).fmod 2 = 1
    · rw [if_pos h, List.filter_cons_of_pos (by simpa using h)]; simp
    · rw [if_neg h, List.filter_cons_of_neg (by simpa using h)]
theorem odd_mem {ts : List Int} {t : Int} (h : t ∈ oddF ts) : 0 ≤ t ∧ t < 16 := by
  unfold oddF at h
  rw [odd_foldl, List.nil_append] at h
  have := mem_rangeKs (List.mem_filter.mp h).1
  omega
theorem odd_len (ts : List Int) : (oddF ts).length ≤ 16 := by
  unfold oddF
  rw [odd_foldl, List.nil_append]
  exact Nat.le_trans (List.length_filter_le _ _) (Nat.le_of_eq (rangeKs_length ..))
/-- a row of terms -/
def RowOk (r : List Int) : Prop := r.length ≤ 16 ∧ ∀ t ∈ r, 0 ≤ t ∧ t < 16
theorem sums_ok (ns : List Int) : ∀ r ∈ sumsF ns, RowOk r := by
  unfold sumsF
  suffices h : ∀ fs : List (List Int), (∀ r ∈ fs, RowOk r) → ∀ r ∈ ns.foldl sumStep fs, RowOk r from h _ (by
    intro r hr
    simp only [List.mem_cons, List.not_mem_nil, or_false] at hr
    rcases hr with rfl | rfl | rfl | rfl <;> exact ⟨by decide, by decide⟩)
  induction ns with
  | nil => intro fs h; exact h
  | cons n r ih =>
    intro fs h
    rw [List.foldl_cons]
    refine ih _ fun q hq => ?_
    unfold sumStep at hq
    rcases List.mem_append.mp hq with hq | hq
    · exact h q hq
    · rw [List.mem_singleton.mp hq]; exact ⟨odd_len _, fun t ht => odd_mem ht⟩
theorem getD_ok {ss : List (List Int)} (h : ∀ r ∈ ss, RowOk r) (i : Nat) : RowOk (ss.getD i []) := by
  rw [List.getD_eq_getElem?_getD]
  cases e : ss[i]? with
  | none => exact ⟨by decide, fun t ht => nomatch ht⟩
  | some r => exact h r (List.mem_of_getElem? e)
theorem bitOr_16 {a b : Int} (ha : 0 ≤ a ∧ a < 16) (hb : 0 ≤ b ∧ b < 16) : 0 ≤ Builtin.bitOr a b ∧ Builtin.bitOr a b < 16 := by
  obtain ⟨x, rfl⟩ := Int.eq_ofNat_of_zero_le ha.1
  obtain ⟨y, rfl⟩ := Int.eq_ofNat_of_zero_le hb.1
  rw [bitOr_nat]
  have : x ||| y < 2 ^ 4 := Nat.or_lt_two_pow (by omega) (by omega)
  omega
theorem flat_ok {ps qs : List Int} (hp : RowOk ps) (hq : RowOk qs) : ∀ t ∈ flat2 ps qs, 0 ≤ t ∧ t < 16 := by
  intro t ht
  unfold flat2 at ht
  obtain ⟨a, ha, ht⟩ := List.mem_flatMap.mp ht
  obtain ⟨b, hb, rfl⟩ := List.mem_map.mp ht
  exact bitOr_16 (hp.2 a ha) (hq.2 b hb)
theorem selP_ok {p : List Int} (h : ∀ t ∈ p, 0 ≤ t ∧ t < 16) (k : Nat) : ∀ t ∈ selP k p, 0 ≤ t ∧ t < 16 := by
  have h0 : ∀ t ∈ ([0] : List Int), 0 ≤ t ∧ t < 16 := by decide
  have h1 : ∀ t ∈ [0] ++ p, 0 ≤ t ∧ t < 16 := fun t ht => (List.mem_append.mp ht).elim (h0 t) (h t)
  unfold selP
  split
  · exact fun t ht => nomatch ht
  all_goals first | exact h | exact h0 | exact h1
theorem selQ_ok {p : List Int} (h : ∀ t ∈ p, 0 ≤ t ∧ t < 16) (k : Nat) : ∀ t ∈ selQ k p, 0 ≤ t ∧ t < 16 := by
  unfold selQ
  split <;> first | exact h | exact fun t ht => nomatch ht
theorem selB_ok {p : List Int} (h : ∀ t ∈ p, 0 ≤ t ∧ t < 16) (k : Nat) : ∀ t ∈ selB k p, 0 ≤ t ∧ t < 16 := by
  unfold selB
  split <;> first | exact h | exact fun t ht => nomatch ht

/-- the rows of the list of lists -/
def RowsAt (rows : List (Addr × Obj)) (refs : List Value) (data : List (List Int)) : Prop :=
  refs.length = data.length ∧ ∀ (j : Nat) (d : List Int), data[j]? = some d → ∃ a vs k, refs[j]? = some (.ref a) ∧ (a, W.listOf (vs : List Value).toArray k) ∈ rows ∧ IntsAre vs d
theorem RowsAt.mono {rows rows' : List (Addr × Obj)} {refs : List Value} {data : List (List Int)} (h : RowsAt rows refs data) (hs : ∀ p ∈ rows, p ∈ rows') : RowsAt rows' refs data :=
  ⟨h.1, fun j d e => let ⟨a, vs, k, e1, e2, e3⟩ := h.2 j d e; ⟨a, vs, k, e1, hs _ e2, e3⟩⟩
theorem RowsAt.nil {rows : List (Addr × Obj)} : RowsAt rows [] [] := ⟨rfl, fun _ _ e => nomatch e⟩
theorem RowsAt.snoc {rows : List (Addr × Obj)} {refs : List Value} {data : List (List Int)} {a : Addr} {vs : List Value} {k : Nat} {d : List Int} (h : RowsAt rows refs data) (hm : (a, W.listOf vs.toArray k) ∈ rows) (hi : IntsAre vs d) : RowsAt rows (refs ++ [.ref a]) (data ++ [d]) := by
  refine ⟨by simp [h.1], fun j d' e => ?_⟩
  by_cases hj : j < data.length
  · rw [List.getElem?_append_left hj] at e
    obtain ⟨b, ws, k', e1, e2, e3⟩ := h.2 j d' e
    exact ⟨b, ws, k', by rw [List.getElem?_append_left (h.1 ▸ hj)]; exact e1, e2, e3⟩
  · have : j = data.length := by
      have := (List.getElem?_eq_some_iff.mp e).1
      simp at this; omega
    subst this
    rw [List.getElem?_append_right (Nat.le_refl _)] at e
    obtain rfl : d = d' := by simpa using e
    exact ⟨a, vs, k, by rw [← h.1, List.getElem?_append_right (Nat.le_refl _)]; simp, hm, hi⟩

section
variable {prog : Program} {w : World} {A : Around} {E : Value → Shared → Prop} {s : Shared} {env : Env} {h₀ : Heap} {L : Addr}
theorem row_sub {value slice : PySem.Expr} {all bag : List (Addr × Obj)} {refs : List Value} {k : Nat} {data : List (List Int)} {sl : Addr} {e : Int} {u : Tok} {Q : Value → Shared → Prop} (N : News h₀ L s.heap all) (hsl : (sl, W.listOf refs.toArray k) ∈ all) (hb : ∀ p ∈ bag, p ∈ all) (R : RowsAt bag refs data) (h0 : 0 ≤ e) (h1 : e < (data.length : Int)) (h63 : e < 2 ^ 63)
    (h : ∀ a vs k', (a, W.listOf (vs : List Value).toArray k') ∈ bag → IntsAre vs (data.getD e.toNat []) → News h₀ L s.heap ((a, W.listOf vs.toArray k') :: all) → Q (.ref a) s)
    (hs : subscripted slice false (.ref sl) (.int e u) = operate [.ref sl, .int e u] (getItem (.ref sl) (.int e u)) := by with_unfolding_all rfl) :
    wpAny (model prog w) A (subscriptTail value slice (.ref sl) (.int e u)) Q E s := by
  have hl : s.heap.IsList sl refs.toArray := ⟨_, (N _ hsl).1, rfl, k, rfl⟩
  have hj : e.toNat < data.length := by omega
  obtain ⟨a, vs, k', e1, e2, e3⟩ := R.2 e.toNat data[e.toNat] (by simp [hj])
  have ed : data.getD e.toNat [] = data[e.toNat] := by simp [List.getD_eq_getElem?_getD, hj]
  refine tail_any hl.typeIs slot_list_getitem.lookup (wpAny_getItem_list hl h0 h63 (by simpa using e1) (h a vs k' e2 (ed ▸ e3) fun p hp => ?_)) hs
  rcases List.mem_cons.mp hp with rfl | hp
  · exact N _ (hb _ e2)
  · exact N p hp
theorem sel_sub {value slice : PySem.Expr} {all : List (Addr × Obj)} {items : List Value} {sel : Nat → List Int} {T tm : Addr} {e : Int} {u : Tok} {Q : Value → Shared → Prop} (N : News h₀ L s.heap all) (hT : (T, tupO items.toArray) ∈ all) (hlen : items.length = 8) (h0 : 0 ≤ e) (h1 : e < 8)
    (H : ∀ i : Nat, i < 8 → ∃ a vs n, items[i]? = some (.ref a) ∧ (a, W.listOf (vs : List Value).toArray n) ∈ all ∧ IntsAre vs (sel i) ∧ @Ne Nat a tm)
    (h : ∀ a vs n, (a, W.listOf (vs : List Value).toArray n) ∈ all → IntsAre vs (sel e.toNat) → @Ne Nat a tm → News h₀ L s.heap ((a, W.listOf vs.toArray n) :: all) → Q (.ref a) s)
    (hs : subscripted slice false (.ref T) (.int e u) = operate [.ref T, .int e u] (getItem (.ref T) (.int e u)) := by with_unfolding_all rfl) :
    wpAny (model prog w) A (subscriptTail value slice (.ref T) (.int e u)) Q E s := by
  obtain ⟨a, vs, n, e1, e2, e3, e4⟩ := H e.toNat (by omega)
  have hT' : IsTup s.heap T items.toArray := ⟨_, (N _ hT).1, rfl, _, rfl⟩
  have hj : seqIndex? e items.length = some e.toNat := by
    rw [hlen]
    obtain ⟨n, rfl⟩ := Int.eq_ofNat_of_zero_le (show 0 ≤ e by assumption)
    exact (by decide +kernel : ∀ n : Fin 8, seqIndex? (n.val : Int) 8 = some (n.val : Int).toNat) ⟨n, by omega⟩
  refine item_tupleT hT' (by omega) (by omega) hj e1 (h a vs n e2 e3 e4 fun p hp => ?_) hs
  rcases List.mem_cons.mp hp with rfl | hp
  · exact N _ e2
  · exact N p hp
theorem len_refs {all bag : List (Addr × Obj)} {refs : List Value} {k : Nat} {data : List (List Int)} {sl : Addr} {Q : Value → Shared → Prop} (N : News h₀ L s.heap all) (hsl : (sl, W.listOf refs.toArray k) ∈ all) (R : RowsAt bag refs data) (hfit : data.length < 2 ^ 62)
    (h : ∀ t tk, Q (.int (data.length : Int) t) { s with toks := tk }) : wpAny (model prog w) A (call (.builtin "len") [.ref sl]) Q E s := by
  have hl : s.heap.IsList sl refs.toArray := ⟨_, (N _ hsl).1, rfl, k, rfl⟩
  have e : refs.toArray.size = data.length := by rw [List.size_toArray]; exact R.1
  refine len_list hl (by rw [e]; omega) ?_
  rw [e]
  exact h _ _
theorem off1_own {D : Addr} : ∀ {l : List (Addr × Obj)}, LCg.Off1 D l → OwnOff l [D]
  | [], _, _, h => nomatch h
  | q :: r, h, p, hp => by
    intro b hb e
    rw [List.mem_singleton.mp hb] at e
    rcases List.mem_cons.mp hp with rfl | hp
    · exact h.1 e
    · exact off1_own h.2 p hp D (List.mem_singleton.mpr rfl) e
theorem own_cons {own : List (Addr × Obj)} {a : Addr} {l : List Addr} (h1 : OwnOff own [a]) (h2 : OwnOff own l) : OwnOff own (a :: l) := by
  intro p hp b hb
  rcases List.mem_cons.mp hb with rfl | hb
  · exact h1 p hp _ (List.mem_singleton.mpr rfl)
  · exact h2 p hp b hb
theorem news_tail {h₀ h : Heap} {L : Addr} {p : Addr × Obj} {r : List (Addr × Obj)} (N : News h₀ L h (p :: r)) : News h₀ L h r := fun q hq => N q (List.mem_cons_of_mem _ hq)
theorem fmod_bd {a b : Int} (hb : 0 < b) : 0 ≤ a.fmod b ∧ a.fmod b < b := by
  rw [Int.fmod_eq_emod_of_nonneg _ (Int.le_of_lt hb)]
  exact ⟨Int.emod_nonneg _ (by omega), Int.emod_lt_of_pos _ hb⟩

def SuJ (ys : List Str) (m₀ : Str → Option Value) (sl ct cq : Addr) (ns : List Int) (i : Nat) (m : Str → Option Value) (news : List (Addr × Obj)) : Prop :=
  (∃ u, m = butM ys u m₀) ∧ ∃ refs k ot oq vt vq rows, news = (sl, W.listOf (refs : List Value).toArray k) :: (ct, ot) :: (cq, oq) :: rows ∧ (ot : Obj).data = .cell vt ∧ (oq : Obj).data = .cell vq ∧ RowsAt rows refs (sumsF (ns.take i)) ∧ ∀ p ∈ rows, @Ne Nat p.1 sl ∧ @Ne Nat p.1 ct ∧ @Ne Nat p.1 cq
variable {target : Expr} {body orelse : List Stmt} {Q : Flow → Shared → Prop}
theorem su_loop {m₀ : Str → Option Value} {D sl ct cq l1 l2 l3 l4 : Addr} {vs : List Value} {ns : List Int} {ot₀ oq₀ : Obj} {vt₀ vq₀ : Option Value} {t1 t2 t3 t4 : Tok} (ys : List Str)
    (hh : A.handled = none) (hl : h₀.IsList D vs.toArray) (hi : IntsAre vs ns) (F : Fr h₀ env.locals s.heap m₀)
    (N : News h₀ env.locals s.heap [(sl, W.listOf #[.ref l1, .ref l2, .ref l3, .ref l4] 0), (l4, W.listOf #[.int 8 t4] 0), (l3, W.listOf #[.int 4 t3] 0), (l2, W.listOf #[.int 2 t2] 0), (l1, W.listOf #[.int 1 t1] 0), (ct, ot₀), (cq, oq₀)])
    (dt : ot₀.data = .cell vt₀) (dq : oq₀.data = .cell vq₀) (a1 : @LT.lt Nat _ l1 sl ∧ @LT.lt Nat _ l2 sl ∧ @LT.lt Nat _ l3 sl ∧ @LT.lt Nat _ l4 sl) (a2 : @LT.lt Nat _ ct l1 ∧ @LT.lt Nat _ ct l2 ∧ @LT.lt Nat _ ct l3 ∧ @LT.lt Nat _ ct l4) (a3 : @LT.lt Nat _ cq ct)
    (step : ∀ I i n t u refs k ot oq vt vq rows h₁ tk₁ own own', i < ns.length → ns[i]? = some n → (ot : Obj).data = .cell vt → (oq : Obj).data = .cell vq → RowsAt rows refs (sumsF (ns.take i)) → refs.length = i + 4 → (∀ p ∈ rows, @Ne Nat p.1 sl ∧ @Ne Nat p.1 ct ∧ @Ne Nat p.1 cq) → (∀ p ∈ rows, p.1 ∉ [I]) → (∀ p ∈ rows, p ∈ own) → OwnOff own [sl, ct, cq] → (∀ p ∈ own', p ∈ own) → (∃ o, (I, o) ∈ own) → @LT.lt Nat _ sl I → @LT.lt Nat _ ct I → @LT.lt Nat _ cq I →
      Fr h₀ env.locals h₁ (butM ys u m₀) → News h₀ env.locals h₁ ((sl, W.listOf (refs : List Value).toArray k) :: (ct, ot) :: (cq, oq) :: own) →
      wpAny (model prog w) A (assign target env (.int n t)) (fun _ s₃ => wpAny (model prog w) A (execs body env) (TurnEnd h₀ env.locals [I] own' (SuJ ys m₀ sl ct cq ns (i + 1)) { s with heap := h₁, toks := tk₁ } Q) (fun _ _ => False) s₃) (fun _ _ => False) { s with heap := h₁, toks := tk₁ })
    (hE : ∀ u refs k rows h' tk, RowsAt rows refs (sumsF ns) → Fr h₀ env.locals h' (butM ys u m₀) → News h₀ env.locals h' ((sl, W.listOf (refs : List Value).toArray k) :: rows) → wpAny (model prog w) A (execs orelse env) Q (fun _ _ => False) { s with heap := h', toks := tk }) :
    wpAny (model prog w) A (pyIter (.ref D)) (fun it s₂ => TurnsE prog w A h₀ env target body orelse Q it s₂) (fun _ _ => False) s := by
  have hlv : vs.length = ns.length := hi.length
  obtain ⟨oD, eD, _⟩ := id hl
  have hDL : D ≠ env.locals := fun e => absurd (Heap.lt_size eD) (Nat.not_lt.mpr (e ▸ F.above))
  refine turnsListL (news := (sl, W.listOf #[.ref l1, .ref l2, .ref l3, .ref l4] 0) :: (ct, ot₀) :: (cq, oq₀) :: [(l4, W.listOf #[.int 8 t4] 0), (l3, W.listOf #[.int 4 t3] 0), (l2, W.listOf #[.int 2 t2] 0), (l1, W.listOf #[.int 1 t1] 0)]) (SuJ ys m₀ sl ct cq ns) hh (hl.at fun o e => F.keep _ o e) hDL F N ?_ ?_ ?_ ?_
  · exact turn7
  · refine ⟨⟨m₀, butM_of fun _ _ => rfl⟩, [.ref l1, .ref l2, .ref l3, .ref l4], 0, ot₀, oq₀, vt₀, vq₀, _, rfl, dt, dq, ?_, ?_⟩
    · exact (((RowsAt.nil.snoc (vs := [.int 1 t1]) (k := 0) (d := [1]) (by k_mem) (.cons _ _ .nil)).snoc (vs := [.int 2 t2]) (k := 0) (d := [2]) (by k_mem) (.cons _ _ .nil)).snoc (vs := [.int 4 t3]) (k := 0) (d := [4]) (by k_mem) (.cons _ _ .nil)).snoc (vs := [.int 8 t4]) (k := 0) (d := [8]) (by k_mem) (.cons _ _ .nil)
    · exact all4 (off4 a1.2.2.2 a2.2.2.2 a3) (off4 a1.2.2.1 a2.2.2.1 a3) (off4 a1.2.1 a2.2.1 a3) (off4 a1.1 a2.1 a3)
  · intro I i v m₁ news₁ h₁ tk₁ own hj hv hJ hw ho hIo hlt F₁ N₁
    refine hJ.1.elim fun u eu => ex7 hJ.2 fun refs k ot oq vt vq rows hz => and5 hz fun en dt' dq' R off => ?_
    clear hJ hz
    subst eu en
    have hj' : i < ns.length := by simpa [hlv] using hj
    obtain ⟨tt, hx⟩ := hi.get i ns[i] (by simp [hj'])
    have ev : v = .int ns[i] tt := by
      have : vs[i]? = some v := by simpa using hv
      rw [hx] at this; exact (Option.some.inj this).symm
    subst ev
    have lsl : sl < I := hlt (sl, W.listOf #[.ref l1, .ref l2, .ref l3, .ref l4] 0) (List.mem_cons_self ..)
    have lct : ct < I := hlt (ct, ot₀) (by k_mem)
    have lcq : cq < I := hlt (cq, oq₀) (by k_mem)
    have base : ∀ b, b = sl ∨ b = ct ∨ b = cq → h₀.get? b = none := by
      intro b hb
      rcases hb with rfl | rfl | rfl
      · exact (N (b, W.listOf #[.ref l1, .ref l2, .ref l3, .ref l4] 0) (List.mem_cons_self ..)).2.2
      · exact (N (b, ot₀) (by k_mem)).2.2
      · exact (N (b, oq₀) (by k_mem)).2.2
    have lt3 : ∀ b, b = sl ∨ b = ct ∨ b = cq → b < I := by
      intro b hb
      rcases hb with rfl | rfl | rfl <;> assumption
    refine step I i ns[i] tt u refs k ot oq vt vq rows h₁ tk₁ (own ++ rows) own hj' (by simp [hj']) dt' dq' R ?_ off (fun p hp => hw p (List.mem_cons_of_mem _ (List.mem_cons_of_mem _ (List.mem_cons_of_mem _ hp)))) (fun p hp => List.mem_append_right _ hp) ?_ (fun p hp => List.mem_append_left _ hp) ?_ lsl lct lcq F₁ (fun p hp => N₁ p ?_)
    · rw [R.1, sums_len, List.length_take]; omega
    · intro p hp b hb e
      have hb' : b = sl ∨ b = ct ∨ b = cq := by simpa using hb
      rcases List.mem_append.mp hp with hp | hp
      · rcases List.mem_cons.mp (ho p hp) with q | q
        · have := lt3 b hb'
          rw [← e, q] at this
          exact Nat.lt_irrefl _ this
        · have := base b hb'
          rw [← e, List.mem_singleton.mp q, eD] at this
          cases this
      · have := off p hp
        rcases hb' with rfl | rfl | rfl
        · exact this.1 e
        · exact this.2.1 e
        · exact this.2.2 e
    · obtain ⟨o, h⟩ := hIo; exact ⟨o, List.mem_append_left _ h⟩
    · rcases List.mem_cons.mp hp with rfl | hp
      · exact List.mem_append_right _ (List.mem_cons_self ..)
      · rcases List.mem_cons.mp hp with rfl | hp
        · exact List.mem_append_right _ (List.mem_cons_of_mem _ (List.mem_cons_self ..))
        · rcases List.mem_cons.mp hp with rfl | hp
          · exact List.mem_append_right _ (List.mem_cons_of_mem _ (List.mem_cons_of_mem _ (List.mem_cons_self ..)))
          · rcases List.mem_append.mp hp with hp | hp
            · exact List.mem_append_left _ hp
            · exact List.mem_append_right _ (List.mem_cons_of_mem _ (List.mem_cons_of_mem _ (List.mem_cons_of_mem _ hp)))
  · intro h' tk m' news' F' N' hJ
    refine hJ.1.elim fun u eu => ex7 hJ.2 fun refs k ot oq vt vq rows hz => ?_
    have R := hz.2.2.2.1
    have en := hz.1
    clear hJ hz
    subst eu en
    have : ns.take vs.toArray.size = ns := List.take_of_length_le (by simp [hlv])
    rw [this] at R
    refine hE u refs k rows h' tk R F' fun p hp => N' p ?_
    rcases List.mem_cons.mp hp with rfl | hp
    · exact List.mem_cons_self ..
    · exact List.mem_cons_of_mem _ (List.mem_cons_of_mem _ (List.mem_cons_of_mem _ hp))

theorem su_end {I sl ct cq D' : Addr} {ot oq : Obj} {vt vq : Option Value} {rows own own' all : List (Addr × Obj)} {ys : List Str} {m₀ m' : Str → Option Value} {ns : List Int} {i k k' : Nat} {n : Int} {s₁ : Shared} {h' : Heap} {tk : Nat} {refs zs : List Value} {d : List Int}
    (lsl : @LT.lt Nat _ sl I) (lct : @LT.lt Nat _ ct I) (lcq : @LT.lt Nat _ cq I) (hn : ns[i]? = some n) (R : RowsAt rows refs (sumsF (ns.take i))) (off : ∀ p ∈ rows, @Ne Nat p.1 sl ∧ @Ne Nat p.1 ct ∧ @Ne Nat p.1 cq) (hw : ∀ p ∈ rows, p.1 ∉ [I]) (hro : ∀ p ∈ rows, p ∈ own) (h1 : ∀ p ∈ own', p ∈ own)
    (F : Fr h₀ env.locals h' m') (N : News h₀ env.locals h' all) (msl : (sl, W.listOf (refs.toArray.push (.ref D')) k) ∈ all) (mct : (ct, ot) ∈ all) (mcq : (cq, oq) ∈ all) (mD : (D', W.listOf zs.toArray k') ∈ all) (ha : ∀ p ∈ own, p ∈ all)
    (dt : ot.data = .cell vt) (dq : oq.data = .cell vq) (hD : @Ne Nat D' sl ∧ @Ne Nat D' ct ∧ @Ne Nat D' cq ∧ @Ne Nat D' I) (hz : IntsAre zs d) (hd : sumsF (ns.take i ++ [n]) = sumsF (ns.take i) ++ [d]) (hm : ∀ y, ys.contains y = false → m' y = m₀ y) :
    TurnEnd h₀ env.locals [I] own' (SuJ ys m₀ sl ct cq ns (i + 1)) s₁ Q .next { s₁ with heap := h', toks := tk } :=
  .next F (news₂ := (sl, W.listOf (refs ++ [Value.ref D']).toArray k) :: (ct, ot) :: (cq, oq) :: (D', W.listOf zs.toArray k') :: rows)
    (fun p hp => N p (by
      rcases List.mem_append.mp hp with hp | hp
      · exact ha p (h1 p hp)
      · rcases List.mem_cons.mp hp with rfl | hp
        · simpa using msl
        · rcases List.mem_cons.mp hp with rfl | hp
          · exact mct
          · rcases List.mem_cons.mp hp with rfl | hp
            · exact mcq
            · rcases List.mem_cons.mp hp with rfl | hp
              · exact mD
              · exact ha p (hro p hp)))
    (fun p hp q => by
      rcases List.mem_cons.mp hp with rfl | hp
      · exact absurd lsl ((List.mem_singleton.mp q) ▸ Nat.lt_irrefl _)
      · rcases List.mem_cons.mp hp with rfl | hp
        · exact absurd lct ((List.mem_singleton.mp q) ▸ Nat.lt_irrefl _)
        · rcases List.mem_cons.mp hp with rfl | hp
          · exact absurd lcq ((List.mem_singleton.mp q) ▸ Nat.lt_irrefl _)
          · rcases List.mem_cons.mp hp with rfl | hp
            · exact hD.2.2.2 (List.mem_singleton.mp q)
            · exact hw p hp q)
    ⟨⟨m', butM_of hm⟩, _, k, ot, oq, vt, vq, _, rfl, dt, dq, by
      rw [List.take_add_one, hn, Option.toList_some, hd]
      exact (R.mono fun p hp => List.mem_cons_of_mem _ hp).snoc (List.mem_cons_self ..) hz, fun p hp => by
        rcases List.mem_cons.mp hp with rfl | hp
        · exact ⟨hD.1, hD.2.1, hD.2.2.1⟩
        · exact off p hp⟩
theorem sums_snoc (l : List Int) (n : Int) : sumsF (l ++ [n]) = sumStep (sumsF l) n := by unfold sumsF; rw [List.foldl_append]; rfl
end

/-- the list of lists that a call hands back -/
def IsRows (data : List (List Int)) (v : Value) (h h' : Heap) : Prop :=
  ∃ D refs k rows, v = .ref D ∧ h.get? D = none ∧ h'.get? D = some (W.listOf (refs : List Value).toArray k) ∧ RowsAt rows refs data ∧ ∀ p ∈ rows, h.get? p.1 = none ∧ h'.get? p.1 = some p.2
theorem IsRows.intro {g h' : Heap} {L D : Addr} {refs : List Value} {k : Nat} {rows : List (Addr × Obj)} {data : List (List Int)} (N : News g L h' ((D, W.listOf refs.toArray k) :: rows)) (R : RowsAt rows refs data) : IsRows data (.ref D) g h' :=
  ⟨D, refs, k, rows, rfl, (N _ (List.mem_cons_self ..)).2.2, (N _ (List.mem_cons_self ..)).1, R, fun p hp => ⟨(N p (List.mem_cons_of_mem _ hp)).2.2, (N p (List.mem_cons_of_mem _ hp)).1⟩⟩
end
section
set_option maxHeartbeats 8000000
local macro_rules | `(tactic| walk_at "CompSrc") => `(tactic| refine Hold.out ?_)
local macro_rules | `(tactic| walk_at "CompSrcT") => `(tactic| refine Hold.out ?_)
local macro_rules | `(tactic| walk_at "exec For Name Name cons nil") => `(tactic| (k_here; k_dflt ((rename Fr _ _ _ _ => lF'); (with_unfolding_all refine' forEF lF' ?hs ?_; (case hs => intro _; with_unfolding_all rfl); k_whole))))
local macro_rules | `(tactic| walk_at "exec For Name Subscript cons nil") => `(tactic| (k_here; k_dflt ((rename Fr _ _ _ _ => lF'); (with_unfolding_all refine' forEF lF' ?hs ?_; (case hs => intro _; with_unfolding_all rfl); k_whole))))
local macro_rules | `(tactic| walk_at "exec Assign cons ListComp") => `(tactic| ((with_reducible show wpAny _ _ (exec (Stmt.Assign [Expr.Name (Str.ofString "both") _] _ _) _) _ _ _); refine Hold.out ?_))
local macro_rules | `(tactic| walk_at "subscriptTail Name BinOp ref int") => `(tactic| refine Hold.out ?_)
local macro_rules | `(tactic| walk_at "FinE") => `(tactic| refine Hold.out ?_)
local macro_rules | `(tactic| walk_at "call builtin:len") => `(tactic| (k_here; (with_reducible show wpAny _ _ (call (Value.builtin "len") [Value.ref _]) _ _ _); k_dflt (refine' len_refs ?N ?m ?R ?f ?_; (case N => k_asm); (case m => k_mem); (case R => assumption); (case f => omega)); intro tL tkL; (try dsimp only)))
local macro_rules | `(tactic| walk_at "subscriptTail Tuple cons BinOp ref int") => `(tactic| refine Hold.out ?_)
local macro_rules | `(tactic| walk_at "subscriptTail Tuple cons") => `(tactic| refine Hold.out ?_)

local macro_rules | `(tactic| k_ne) => `(tactic| (refine neN ?_; (try dsimp only); first | assumption | exact Ne.symm (by assumption) | exact Nat.ne_of_lt (by assumption) | exact Nat.ne_of_gt (by assumption) | omega))
theorem sums_spec {w : World} {D : Addr} {vs : List Value} {ns : List Int} (hi : IntsAre vs ns) (hlen : ns.length ≤ 20) : SpecG w 4 199 [.ref D] (fun h => h.IsList D vs.toArray) (IsRows (sumsF ns)) := by
  (w_top off; intro mean mg mb base frames s A E hh hroom R hpre; obtain ⟨hd0, dp, fr0, gd0, un0⟩ := A; dsimp only at hh hroom; subst hh; refine' enter_cells ?R ?ho ?hcd ?room ?bind ?kind ?nd ?_ ?co ?gen ?k; (case R => assumption); (case ho => k_is); (case hcd => k_is); (case room => k_room); (case bind => exact BindsTo.of_eq rfl); (case kind => exact rfl); (case nd => decide +kernel); (case co => exact rfl); (case gen => exact rfl); (case k => exact rfl); k_whole; intro g' L' h' tk' cells' hg' hL' F' N' Y' B' X' T'; k_cells Y'; rw [← hg'] at hpre; (try dsimp only); (with_reducible show wpAny _ _ _ _ _ _); (try k_fold))
  repeat' (first | walk1 | (dsimp only; walk1))
  (rename Fr _ _ _ _ => hF); (rename News _ _ _ _ => hN); (rename Heap.IsList _ _ _ => hL)
  k_dflt (refine' su_loop [Str.ofString "number", Str.ofString "p", Str.ofString "both", Str.ofString "term"] ?hh hL hi hF hN ?dt ?dq ?a1 ?a2 ?a3 ?_ ?_)
  (case hh => exact rfl)
  (case dt => assumption)
  (case dq => assumption)
  (case a1 => omega)
  (case a2 => omega)
  (case a3 => omega)
  · clear hF hN
    (rename _ < _ ∧ _ => lz)
    have lA := lz.2.2.2.2
    clear lz
    revert lA
    repeat ((rename _ < _ ∧ _ => lz); clear lz)
    intro lA
    obtain ⟨lA1, lA2⟩ := lA
    intro I i n t u refs k ot oq vt vq rows h₁ tk₁ own own' hi' hn dt dq R hrl off hw hro hoff ho' hIo lsl lct lcq hF hN
    have hok := sums_ok (ns.take i)
    have hsl := sums_len (ns.take i)
    have htk : (ns.take i).length = i := by rw [List.length_take]; omega
    repeat' (first | walk1 | (dsimp only; walk1))
    refine Hold.mk ?_
    (rename News _ _ _ _ => hN1)
    have hb1 := fmod_bd (a := (n.fdiv 512).fmod 64) (b := ((sumsF (ns.take i)).length : Int)) (by omega)
    k_dflt (refine' row_sub hN1 (by k_mem) (fun p hp => List.mem_cons_of_mem _ (List.mem_cons_of_mem _ (List.mem_cons_of_mem _ (hro p hp)))) R hb1.1 hb1.2 (by omega) ?_ (by with_unfolding_all rfl))
    intro pa pvs pk mpa hpi hN2
    clear hN1
    obtain ⟨opa1, opa2, opa3⟩ := off _ mpa
    dsimp only at opa1 opa2 opa3
    repeat' (first | walk1 | (dsimp only; walk1))
    refine Hold.mk ?_
    (rename News _ _ _ _ => hN1)
    have hb2 := fmod_bd (a := (n.fdiv 8).fmod 64) (b := ((sumsF (ns.take i)).length : Int)) (by omega)
    k_dflt (refine' row_sub hN1 (by k_mem) (fun p hp => List.mem_cons_of_mem _ (List.mem_cons_of_mem _ (List.mem_cons_of_mem _ (List.mem_cons_of_mem _ (hro p hp))))) R hb2.1 hb2.2 (by omega) ?_ (by with_unfolding_all rfl))
    intro qa qvs qk mqa hqi hN2
    clear hN1
    obtain ⟨oqa1, oqa2, oqa3⟩ := off _ mqa
    dsimp only at oqa1 oqa2 oqa3
    have okp := getD_ok hok (((n.fdiv 512).fmod 64).fmod ((sumsF (ns.take i)).length : Int)).toNat
    have okq := getD_ok hok (((n.fdiv 8).fmod 64).fmod ((sumsF (ns.take i)).length : Int)).toNat
    generalize hp9 : (sumsF (ns.take i)).getD (((n.fdiv 512).fmod 64).fmod ((sumsF (ns.take i)).length : Int)).toNat [] = P at hpi okp
    generalize hq9 : (sumsF (ns.take i)).getD (((n.fdiv 8).fmod 64).fmod ((sumsF (ns.take i)).length : Int)).toNat [] = QQ at hqi okq
    repeat' (first | walk1 | (dsimp only; walk1))
    refine Hold.mk ?_
    (rename News _ _ _ _ => hN1); (rename Fr _ _ _ _ => hF1)
    k_dflt (refine' assign_comp2 (pad := pa) (qa := qa) ?z1 ?z2 ?z3 ?z4 ?z5 ?z6 ?z7 ?z8 ?z9 ?z10 ?z11 ?z12 ?z13 ?z14 ?z15 ?z16 hpi hqi ?z17 ?z18 ?z19 ?z20 ?z21 hF1 hN1 ?_)
    (case z1 => exact rfl)
    (case z2 => with_unfolding_all rfl)
    (case z3 => with_unfolding_all rfl)
    (case z4 => decide)
    (case z5 => exact rfl)
    (case z6 => decide)
    (case z7 => exact rfl)
    (case z8 => exact rfl)
    (case z9 => decide)
    (case z10 => decide)
    (case z11 => decide)
    (case z12 => exact rfl)
    (case z13 => exact rfl)
    (case z14 => intro _; with_unfolding_all rfl)
    (case z15 => intro Q hQ; k_dflt (refine' nameX_L hF1 ?v hQ ?a ?b; (case v => rfl); (case a => rfl); (case b => rfl)))
    (case z17 => exact News.isList hN1 (by k_mem))
    (case z18 => exact News.isList hN1 (by k_mem))
    (case z20 => exact Nat.le_trans okp.1 (by decide))
    (case z21 => exact Nat.le_trans okq.1 (by decide))
    (case z19 => refine' ⟨_, News.get hN1 ?m, ?d⟩; (case d => assumption); (case m => k_mem))
    (case z16 => intro C s' Q hc hQ; exact wpAny_Name (wpAny_loadName_cell (by with_unfolding_all rfl) (by with_unfolding_all rfl) (by with_unfolding_all rfl) hc hQ) (by decide))
    intro bD h2 tk2 zs hz F' N' l1
    k_lt l1
    obtain ⟨l11, l12, l13, l14, l15, l16⟩ := l1
    clear hN1 hF1
    replace hz : IntsAre zs (flat2 P QQ) := hz
    have hzlen := hz.length
    repeat' (first | walk1 | (dsimp only; walk1))
    refine Hold.mk ?_
    k_dflt (refine LCg.CompSrc.range (by rfl) (by k_asm) (by k_asm) (by assumption) (by decide) (n := 16) (by rfl) (by exact Nat.le_of_ble_eq_true rfl) ?_)
    intro g9
    refine' kcf_range (fun _ => 0) (fun k' t' I' oI' C' oC' D' m' ys' h' tk' E' hlo' hhi' hC' hx' F' N' off' ne' hMark' => ?_) ?_
    · (try simp only [LCg.Off3, and_true] at off')
      k_fold
      repeat' (first | walk1 | (dsimp only; walk1))
    · unfold KPfDone
      intro tvs htv
      refine' (fun tmA h3 tk3 F' N' o1' => ?_)
      simp only [LCg.Off1] at o1'
      obtain ⟨ot1, ot2, ot3, ot4, ot5, ot6, o1'⟩ := o1'
      have hoT := own_cons (off1_own o1') hoff
      clear hoff
      have hpb := okp.1
      have hqb := okq.1
      try dsimp only
      repeat' (first | walk1 | (dsimp only; walk1))
      have hbk := fmod_bd (a := n) (b := 8) (by decide)
      (rename Obj.data _ = Data.cell (some (Value.ref tmA)) => hct)
      have fok := flat_ok okp okq
      refine Hold.mk ?_
      (rename News _ _ _ _ => hN1); (rename Fr _ _ _ _ => hF1)
      k_dflt (refine' sel_sub (sel := fun i => selP i P) (tm := tmA) hN1 ?z1 ?z2 hbk.1 hbk.2 ?z3 ?_ (by with_unfolding_all rfl))
      (case z1 => k_mem)
      (case z2 => exact rfl)
      (case z3 =>
        intro i8 hi8
        match i8, hi8 with
        | 0, _ | 1, _ | 2, _ | 3, _ | 4, _ | 5, _ | 6, _ | 7, _ =>
          k_dflt (refine' ⟨_, _, _, rfl, ?m, ?i, ?n⟩; (case m => k_mem); (case i => first | assumption | exact .nil | exact .cons _ _ .nil); (case n => k_ne)))
      intro sa81 svs81 sn81 msa81 hsi81 nsa81 hN2
      clear hN1
      repeat' (first | walk1 | (dsimp only; walk1))
      (rename News _ _ _ _ => hN1); (rename Fr _ _ _ _ => hF1)
      k_dflt (refine' bump_loop [Str.ofString "term"] ?z1 hF1 hN1 ?zU hct ?zc ?zn ?zl ?zm nsa81 hsi81 ?zt htv ?zh ?_ ?_)
      (case z1 => exact rfl)
      (case zc => k_mem)
      (case zU => k_updF)
      (case zn => k_ne)
      (case zl => exact News.isList hN1 (by k_mem))
      (case zm => exact (hN1 _ (List.Mem.head _)).2.1)
      (case zt => exact selP_ok okp.2 _)
      (case zh => simp only [bumps_len, List.length_map, rangeKs_length])
      · clear hF1 hN1
        intro t8 tt8 u8 tvs8 n8 cs8 h8 tk8 own8 h08 h18 hI8 hl8 ho8 F8 N8
        repeat' (first | walk1 | (dsimp only; walk1))
        refine BumpPost.intro (by assumption) (by assumption) ?_ (by assumption) rfl
        intro y hy
        have h1 : y ≠ Str.ofString "term" := by rintro rfl; exact absurd hy (by decide)
        simp only [butM, if_neg h1, hy, Bool.false_eq_true, if_false]
      · clear hF1 hN1 msa81 nsa81 hsi81
        intro u81 tvs81 n81 h81 tk81 hI81 F81 N81
        (try dsimp only at N81)
        iterate 9 (replace N81 := news_tail N81)
        (try dsimp only)
        repeat' (first | walk1 | (dsimp only; walk1))
        refine Hold.mk ?_
        (rename News _ _ _ _ => hN1); (rename Fr _ _ _ _ => hF1)
        k_dflt (refine' sel_sub (sel := fun i => selQ i QQ) (tm := tmA) hN1 ?z1 ?z2 hbk.1 hbk.2 ?z3 ?_ (by with_unfolding_all rfl))
        (case z1 => k_mem)
        (case z2 => exact rfl)
        (case z3 =>
          intro i8 hi8
          match i8, hi8 with
          | 0, _ | 1, _ | 2, _ | 3, _ | 4, _ | 5, _ | 6, _ | 7, _ =>
            k_dflt (refine' ⟨_, _, _, rfl, ?m, ?i, ?n⟩; (case m => k_mem); (case i => first | assumption | exact .nil | exact .cons _ _ .nil); (case n => k_ne)))
        intro sa82 svs82 sn82 msa82 hsi82 nsa82 hN2
        clear hN1
        repeat' (first | walk1 | (dsimp only; walk1))
        (rename News _ _ _ _ => hN1); (rename Fr _ _ _ _ => hF1)
        k_dflt (refine' bump_loop [Str.ofString "term"] ?z1 hF1 hN1 ?zU hct ?zc ?zn ?zl ?zm nsa82 hsi82 ?zt hI81 ?zh ?_ ?_)
        (case z1 => exact rfl)
        (case zc => k_mem)
        (case zU => k_updF)
        (case zn => k_ne)
        (case zl => exact News.isList hN1 (by k_mem))
        (case zm => exact (hN1 _ (List.Mem.head _)).2.1)
        (case zt => exact selQ_ok okq.2 _)
        (case zh => simp only [bumps_len, List.length_map, rangeKs_length])
        · clear hF1 hN1
          intro t8 tt8 u8 tvs8 n8 cs8 h8 tk8 own8 h08 h18 hI8 hl8 ho8 F8 N8
          repeat' (first | walk1 | (dsimp only; walk1))
          refine BumpPost.intro (by assumption) (by assumption) ?_ (by assumption) rfl
          intro y hy
          have h1 : y ≠ Str.ofString "term" := by rintro rfl; exact absurd hy (by decide)
          simp only [butM, if_neg h1, hy, Bool.false_eq_true, if_false]
        · clear hF1 hN1 msa82 nsa82 hsi82
          intro u82 tvs82 n82 h82 tk82 hI82 F82 N82
          (try dsimp only at N82)
          iterate 5 (replace N82 := news_tail N82)
          (try dsimp only)
          repeat' (first | walk1 | (dsimp only; walk1))
          refine Hold.mk ?_
          (rename News _ _ _ _ => hN1); (rename Fr _ _ _ _ => hF1)
          k_dflt (refine' sel_sub (sel := fun i => selB i (flat2 P QQ)) (tm := tmA) hN1 ?z1 ?z2 hbk.1 hbk.2 ?z3 ?_ (by with_unfolding_all rfl))
          (case z1 => k_mem)
          (case z2 => exact rfl)
          (case z3 =>
            intro i8 hi8
            match i8, hi8 with
            | 0, _ | 1, _ | 2, _ | 3, _ | 4, _ | 5, _ | 6, _ | 7, _ =>
              k_dflt (refine' ⟨_, _, _, rfl, ?m, ?i, ?n⟩; (case m => k_mem); (case i => first | assumption | exact .nil | exact .cons _ _ .nil); (case n => k_ne)))
          intro sa83 svs83 sn83 msa83 hsi83 nsa83 hN2
          clear hN1
          repeat' (first | walk1 | (dsimp only; walk1))
          (rename News _ _ _ _ => hN1); (rename Fr _ _ _ _ => hF1)
          k_dflt (refine' bump_loop [Str.ofString "term"] ?z1 hF1 hN1 ?zU hct ?zc ?zn ?zl ?zm nsa83 hsi83 ?zt hI82 ?zh ?_ ?_)
          (case z1 => exact rfl)
          (case zc => k_mem)
          (case zU => k_updF)
          (case zn => k_ne)
          (case zl => exact News.isList hN1 (by k_mem))
          (case zm => exact (hN1 _ (List.Mem.head _)).2.1)
          (case zt => exact selB_ok fok _)
          (case zh => simp only [bumps_len, List.length_map, rangeKs_length])
          · clear hF1 hN1
            intro t8 tt8 u8 tvs8 n8 cs8 h8 tk8 own8 h08 h18 hI8 hl8 ho8 F8 N8
            repeat' (first | walk1 | (dsimp only; walk1))
            refine BumpPost.intro (by assumption) (by assumption) ?_ (by assumption) rfl
            intro y hy
            have h1 : y ≠ Str.ofString "term" := by rintro rfl; exact absurd hy (by decide)
            simp only [butM, if_neg h1, hy, Bool.false_eq_true, if_false]
          · clear hF1 hN1 msa83 nsa83 hsi83
            intro u83 tvs83 n83 h83 tk83 hI83 F83 N83
            (try dsimp only at N83)
            iterate 4 (replace N83 := news_tail N83)
            (try dsimp only)
            repeat' (first | walk1 | (dsimp only; walk1))
            refine Hold.mk ?_
            replace hI83 : IntsAre tvs83 (timesF (n.fmod 8).toNat P QQ) := hI83
            have hl83 : (timesF (n.fmod 8).toNat P QQ).length = 16 := by unfold timesF; simp only [bumps_len, List.length_map, rangeKs_length]
            generalize htm : timesF (n.fmod 8).toNat P QQ = TT at hI83 hl83
            k_dflt (refine LCt.CompSrcT.range (by rfl) (by k_asm) (by k_asm) (by assumption) (by decide) (n := 16) (by rfl) (by exact Nat.le_of_ble_eq_true rfl) ?_)
            intro g9
            refine' kci_range (oddG TT) (fun k' t' I' oI' C' oC' D' m' ys' l' h' tk' E' hlo' hhi' hiy' hC' hx' F' N' off' ne' hMark' => ?_) ?_ ?_
            · have off0 := off'
              (try simp only [LCg.Off3, and_true] at off')
              (try k_fold)
              repeat' (first | walk1 | (dsimp only; walk1))
              · refine LCg.CompEnd.intro F' N' _ (fun _ h => h) off0 trivial ?_
                exact kci_el (a := k') (by unfold oddG; rw [if_pos (by assumption)]) rfl rfl
              · refine LCg.CompEnd.intro F' N' _ (fun _ h => h) off0 trivial ?_
                exact kci_no (by unfold oddG; rw [if_neg (by assumption)]) rfl
            · unfold KPfDone
              intro zs9 hz9 hzl9
              refine' (fun rD h9 tk9 F' N' o1' => ?_)
              simp only [LCg.Off1] at o1'
              obtain ⟨or1, or2, or3, or4, or5, or6, or7, o1'⟩ := o1'
              have hIr : @Ne Nat I rD := by
                obtain ⟨oI9, hI9⟩ := hIo
                exact off1_own o1' _ hI9 rD (List.mem_singleton.mpr rfl)
              try dsimp only
              repeat' (first | walk1 | (dsimp only; walk1))
              (rename News _ _ _ _ => hN1); (rename Fr _ _ _ _ => hF1)
              k_dflt (refine' su_end lsl lct lcq hn R off hw hro ho' hF1 hN1 ?zs ?zt ?zq ?zD ?za ?zdt ?zdq ?zh hz9 ?zd ?zm)
              (case zs => k_mem)
              (case zt => k_mem)
              (case zq => k_mem)
              (case zD => k_mem)
              (case za => intro p hp; repeat (first | exact hp | refine List.mem_cons_of_mem _ ?_))
              (case zdt => assumption)
              (case zdq => assumption)
              (case zh => refine ⟨?_, ?_, ?_, ?_⟩ <;> k_ne)
              (case zd => rw [sums_snoc]; unfold sumStep; rw [hp9, hq9, htm]; rfl)
              (case zm =>
                intro y hy
                have h1 : y ≠ Str.ofString "number" := by rintro rfl; exact absurd hy (by decide)
                have h2 : y ≠ Str.ofString "p" := by rintro rfl; exact absurd hy (by decide)
                have h3 : y ≠ Str.ofString "both" := by rintro rfl; exact absurd hy (by decide)
                have h4 : y ≠ Str.ofString "term" := by rintro rfl; exact absurd hy (by decide)
                have h5 : [Str.ofString "term"].contains y = false := by simp [h4]
                simp only [butM, if_neg h1, if_neg h2, if_neg h3, if_neg h4, h5, hy, Bool.false_eq_true, if_false])
            · intro l k
              unfold oddG
              split <;> simp
  · clear hF hN
    intro u refs k rows h' tk R hF hN
    repeat' (first | walk1 | (dsimp only; walk1))
    dsimp only
    exact EndedG.intro hF (by assumption) (IsRows.intro hN R)
end
section
set_option maxHeartbeats 4000000
section
variable {M : Model} {A : Around} {E : Value → Shared → Prop} {s : Shared} {env : Env}
/-- the room of a comprehension whose variable is a cell -/
theorem newEnv_cell {scope : Scope} {globals : Addr} {cl : List (Str × Addr)} {qual : Str} {Q : Env → Shared → Prop} {x : Str}
    (hc : ∀ c, cellsFrom c scope.names cl = (x, c) :: cl) (hp : ∀ h, pushCells h scope.names = h.push { cls := .type "cell", data := .cell none })
    (hQ : Q (newEnv scope s.heap.objs.size globals ((x, s.heap.objs.size + 1) :: cl) qual none .none (some env) builtinsNs) { s with heap := (s.heap.push { cls := .type "dict", data := .dict #[] }).push { cls := .type "cell", data := .cell none } }) :
    wpAny M A (newFunctionEnv scope globals cl [] qual none .none (some env)) Q E s := by
  simp only [newFunctionEnv, Option.isSome_some, if_true]
  refine wpAny_bind (wpAny_alloc ?_)
  refine wpAny_bind (wpAny_layCells _ (fun name kind cells => by cases hkc : kind == NameKind.cell <;> simp) _ _ _ _ ?_)
  rw [hc, hp]
  rw [show ({ s with heap := s.heap.push { cls := .type "dict", data := .dict #[] } } : Shared).heap.objs.size = s.heap.objs.size + 1 from Heap.size_push ..]
  rw [List.forIn_nil]
  exact wpAny_bind (wpAny_pure (wpAny_pure hQ))
end
section
variable {prog : Program} {w : World} {A : Around} {E : Value → Shared → Prop} {s : Shared} {h₀ : Heap} {L : Addr} {m : Str → Option Value} {env : Env}
def SrcCell (prog : Program) (w : World) (A : Around) (h₀ : Heap) (L : Addr) (m : Str → Option Value) (env : Env) (elt : Expr) (x : Str) (scope : Scope) (cl : List (Str × Addr)) (g : Int → Int) (n : Nat) (Q : Value → Shared → Prop) (xv : Value) (s₁ : Shared) : Prop :=
  ∃ r t u v news, xv = .ref r ∧ A.handled = none ∧ Fr h₀ L s₁.heap m ∧ News h₀ L s₁.heap news ∧ IsRange s₁.heap r 0 (n : Int) 1 t u v ∧ Builtin.Range.small 0 (n : Int) 1 = true ∧ Builtin.Range.rangeSize 0 (n : Int) 1 = (n : Int) ∧ n ≤ sizeLine ∧
    (∀ k t I oI C oC D cA oA ys h tk, 0 ≤ k → k < (n : Int) → (oA : Obj).data = .cell (some (.int k t)) → Fr h₀ L h m → News h₀ L h ((I, oI) :: (C, oC) :: (D, LCg.lst ys) :: (cA, oA) :: news) →
      wpAny (model prog w) A (eval elt (compEnvC scope ((x, cA) :: cl) C env)) (fun y s₂ => ∃ h' tk' t', y = .int (g k) t' ∧ s₂ = { s₁ with heap := h', toks := tk' } ∧ Fr h₀ L h' m ∧ News h₀ L h' ((I, oI) :: (C, oC) :: (D, LCg.lst ys) :: (cA, oA) :: news)) (fun _ _ => False) { s₁ with heap := h, toks := tk }) ∧
    ∀ D ys h tk, IntsAre ys ((rangeKs 0 n).map g) → Fr h₀ L h m → News h₀ L h ((D, LCg.lst ys) :: news) → LCg.Off1 D news → Q (.ref D) { s₁ with heap := h, toks := tk }

theorem rangeKs_succ (i : Nat) : rangeKs 0 (i + 1) = rangeKs 0 i ++ [(i : Int)] := by
  unfold rangeKs
  rw [List.range_succ, List.map_append]
  simp

theorem off1 {D : Addr} : ∀ {l : List (Addr × Obj)}, (∀ p ∈ l, p.1 ≠ D) → LCg.Off1 D l
  | [], _ => trivial
  | _ :: _, h => ⟨h _ List.mem_cons_self, off1 fun p hp => h p (List.mem_cons_of_mem _ hp)⟩

theorem comp_cell {elt iter : Expr} {x : Str} {px : Pos} {scope : Scope} {cl : List (Str × Addr)} {pos : Pos} {Q : Value → Shared → Prop} (g : Int → Int) (n : Nat) (_F : Fr h₀ L s.heap m)
    (hclos : closureFor scope env = pure cl) (hkind : scope.kind = .function)
    (hnames : ∀ y ∈ scope.names, y.2 = .local → scope.names.lookup y.1 = some .local)
    (hc : ∀ c, cellsFrom c scope.names cl = (x, c) :: cl) (hp : ∀ h, pushCells h scope.names = h.push { cls := .type "cell", data := .cell none })
    (hx : ∀ cl C, (compEnvC scope cl C env).kindOf x = some .cell)
    (h : wpAny (model prog w) A (eval iter env) (SrcCell prog w A h₀ L m env elt x scope cl g n Q) (fun _ _ => False) s)
    (hs : ∀ x, foldedSetIterable iter env x = pure x) :
    wpAny (model prog w) A (eval (.ListComp elt [⟨.Name x px, iter, [], 0⟩] scope pos) env) Q (fun _ _ => False) s := by
  rw [eval_ListComp]
  refine wpAny_comprehension_free (use := none) rfl hs hclos hkind hnames (wpAny_mono h (fun xv s₁ h₁ => ?_) fun _ _ e => e)
  refine ex5 h₁ fun r t u v news hz => and10 hz fun e hh F N hr hsm hn hsz turn fin => ?_
  clear h₁ hz h _F
  subst e
  refine wpAny_pyIter_range hr hsm ?_
  have W : Walks prog w A s₁.heap.objs.size [s₁.heap.objs.size] [s₁.heap.objs.size] n (fun i v => ∃ t, v = .int (0 + (i : Int)) t) (fun i h => IsRangeIter h s₁.heap.objs.size (0 + (i : Nat) * 1) ((n : Int) - (i : Nat)) 1) := LCg.range_walks hh 0 n
  refine wpAny_newObj_type (newEnv_cell hc hp ?_)
  dsimp only
  generalize hS2 : s₁.heap.push { cls := .type "range_iterator", data := .fields #[rawInt 0, rawInt (Builtin.Range.rangeSize 0 (n : Int) 1), rawInt 1] } = S2
  generalize hS3 : S2.push { cls := .type "list", dict := none, data := .seq ([] : List Value).toArray } = S3
  generalize hS4 : S3.push { cls := .type "dict", data := .dict #[] } = S4
  generalize hS5 : S4.push { cls := .type "cell", data := .cell none } = S5
  have z2 : S2.objs.size = s₁.heap.objs.size + 1 := by rw [← hS2, Heap.size_push]
  have z3 : S3.objs.size = s₁.heap.objs.size + 2 := by rw [← hS3, Heap.size_push, z2]
  have z4 : S4.objs.size = s₁.heap.objs.size + 3 := by rw [← hS4, Heap.size_push, z3]
  have z4' : S3.objs.size + 1 = S4.objs.size := by rw [z4, z3]
  rw [z4']
  have u4 : ∀ b o, S4.get? b = some o → S5.get? b = some o := fun b o e => hS5 ▸ Heap.get?_push_of_some _ e
  have u3 : ∀ b o, S3.get? b = some o → S5.get? b = some o := fun b o e => u4 b o (hS4 ▸ Heap.get?_push_of_some _ e)
  have u2 : ∀ b o, S2.get? b = some o → S5.get? b = some o := fun b o e => u3 b o (hS3 ▸ Heap.get?_push_of_some _ e)
  have up : ∀ b o, s₁.heap.get? b = some o → S5.get? b = some o := fun b o e => u2 b o (hS2 ▸ Heap.get?_push_of_some _ e)
  have gI : IsRangeIter S5 s₁.heap.objs.size (0 + ((0 : Nat) : Int) * 1) ((n : Int) - ((0 : Nat) : Int)) 1 := by
    show S5.get? _ = some _
    rw [hn] at hS2
    refine u2 _ _ ?_
    rw [← hS2]
    simpa using Heap.get?_push_size _ rfl
  have gD : S5.get? S2.objs.size = some (LCg.lst []) := u3 _ _ (hS3 ▸ Heap.get?_push_size _ rfl)
  have gC : S5.get? S3.objs.size = some { cls := .type "dict", data := .dict #[] } := u4 _ _ (hS4 ▸ Heap.get?_push_size _ rfl)
  have gA : S5.get? S4.objs.size = some { cls := .type "cell", data := .cell none } := hS5 ▸ Heap.get?_push_size _ rfl
  have fresh₀ : ∀ a, s₁.heap.objs.size ≤ a → h₀.get? a = none := fun a ha => by
    cases e : h₀.get? a with
    | none => rfl
    | some o' => exact absurd (Heap.lt_size (F.keep a o' e)) (Nat.not_lt.mpr ha)
  have hLlt : L < s₁.heap.objs.size := F.ns.lt
  have old : ∀ p ∈ news, p.1 < s₁.heap.objs.size := fun p hp => Heap.lt_size (N p hp).1
  generalize hI : s₁.heap.objs.size = I, hD : S2.objs.size = D, hC : S3.objs.size = C, hA : S4.objs.size = cA at *
  have nID : @Ne Nat I D := by omega
  have nIC : @Ne Nat I C := by omega
  have nIA : @Ne Nat I cA := by omega
  have nDC : @Ne Nat D C := by omega
  have nDA : @Ne Nat D cA := by omega
  have nCA : @Ne Nat C cA := by omega
  have nLI : @Ne Nat L I := Nat.ne_of_lt hLlt
  have nLD : @Ne Nat L D := by have : @LT.lt Nat _ L I := hLlt; omega
  have nLC : @Ne Nat L C := by have : @LT.lt Nat _ L I := hLlt; omega
  have nLA : @Ne Nat L cA := by have : @LT.lt Nat _ L I := hLlt; omega
  have fI : h₀.get? I = none := fresh₀ _ (Nat.le_refl _)
  have fD : h₀.get? D = none := fresh₀ _ (by show @LE.le Nat _ I D; omega)
  have fC : h₀.get? C = none := fresh₀ _ (by show @LE.le Nat _ I C; omega)
  have fA : h₀.get? cA = none := fresh₀ _ (by show @LE.le Nat _ I cA; omega)
  have off : ∀ p ∈ news, @Ne Nat p.1 I ∧ @Ne Nat p.1 D ∧ @Ne Nat p.1 C ∧ @Ne Nat p.1 cA := fun p hp => by
    have : @LT.lt Nat _ p.1 I := old p hp
    refine ⟨?_, ?_, ?_, ?_⟩ <;> omega
  have nsC : ∀ h : Heap, h.get? C = some { cls := .type "dict", data := .dict #[] } → h.Ns C (fun _ => none) := fun h e => by
    have q : (s₁.heap.push { cls := .type "dict", data := .dict #[] }).Ns s₁.heap.objs.size (fun _ => none) := Heap.Ns.new s₁.heap (.type "dict")
    obtain ⟨o, es, ep, e1, e2, e3⟩ := q
    rw [Heap.get?_push_size _ rfl] at e1
    cases e1
    exact ⟨_, es, ep, e, e2, e3⟩
  have loop : ∀ s₃ : Shared, s₃ = { s₁ with heap := S5, toks := s₁.toks } →
      codeAny (model prog w) A (.compLoop (.ListComp elt [⟨.Name x px, iter, [], 0⟩] scope pos) 0 (.ref I) (.ref D) (compEnvC scope ((x, cA) :: cl) C env))
        (compPost (model prog w) A (fun _ _ => False) none Q (.ref D) C) s₃ := by
    rintro s₃ rfl
    refine codeAny_compLoop_tests
      (fun k s' => ∃ h' tk i ys oA vA, s' = { s₁ with heap := h', toks := tk } ∧ i ≤ n ∧ k = n + 1 - i ∧ IntsAre ys ((rangeKs 0 i).map g) ∧ IsRangeIter h' I (0 + (i : Nat) * 1) ((n : Int) - (i : Nat)) 1 ∧ Fr h₀ L h' m ∧
        h'.get? C = some { cls := .type "dict", data := .dict #[] } ∧ h'.get? cA = some oA ∧ (oA : Obj).data = .cell vA ∧ News h₀ L h' ((D, LCg.lst ys) :: news)) ?_ (n + 1)
      ⟨S5, _, 0, [], _, _, rfl, Nat.zero_le _, rfl, .nil, gI, F.keeps up, gC, gA, rfl, fun p hp => ?_⟩
    · intro k s' hk
      refine ex6 hk fun h' tk i ys oA vA hz => and10 hz fun e hi ek hy hst' F' hC' hA' dA N' => ?_
      clear hk hz
      subst e ek
      have hyl : ys.length = i := by rw [hy.length, List.length_map, rangeKs_length]
      by_cases hlt : i < n
      · refine W.item i _ _ _ hlt hst' fun v h₂ tk₂ hPv hst₂ hk₂ => ?_
        obtain ⟨tv, rfl⟩ := hPv
        have k2 : ∀ b o, b ≠ I → h'.get? b = some o → h₂.get? b = some o := fun b o hb e => hk₂ b o (by simpa using hb) e
        refine wpAny_assign_Name (wpAny_storeName_cell (c := cA) (v₀ := vA) (by simp [compEnvC, relabel, hkind]) (hx _ _) (by simp [compEnvC]) ⟨oA, k2 _ _ (Ne.symm nIA) hA', dA⟩ fun h₃ hc₃ hs₃ => ?_)
        refine wpAny_tests_nil ?_
        simp only [if_true]
        have k3 : ∀ b o, b ≠ I → b ≠ cA → h'.get? b = some o → h₃.get? b = some o := fun b o h1 h2 e => hs₃.extBut _ _ h2 (k2 b o h1 e)
        refine hc₃.elim fun oA' hz => ?_
        have eA' := hz.1
        have dA' := hz.2
        clear hz hc₃
        have hst₃ : IsRangeIter h₃ I (0 + ((i + 1 : Nat) : Int) * 1) ((n : Int) - ((i + 1 : Nat) : Int)) 1 := hs₃.extBut _ _ nIA hst₂
        have F₃ : Fr h₀ L h₃ m := (LCg.fr_but F' hk₂ nLI fI).change hs₃ (Ne.symm nLA) fA
        refine Exists.elim (p := fun o => h₃.get? I = some o ∧ ∀ h : Heap, h.get? I = some o → IsRangeIter h I (0 + ((i + 1 : Nat) : Int) * 1) ((n : Int) - ((i + 1 : Nat) : Int)) 1) ⟨_, hst₃, fun _ e => e⟩ fun oI hz => ?_
        have eI := hz.1
        have bI := hz.2
        clear hz
        refine wpAny_mono (turn (0 + (i : Int)) tv I oI C { cls := .type "dict", data := .dict #[] } D cA oA' ys h₃ tk₂ (by omega) (by omega) dA' F₃ (fun p hp => ?_)) (fun y s₄ h₄ => ?_) fun _ _ e => e.elim
        · rcases List.mem_cons.mp hp with rfl | hp
          · exact ⟨eI, Ne.symm nLI, fI⟩
          · rcases List.mem_cons.mp hp with rfl | hp
            · exact ⟨k3 _ _ (Ne.symm nIC) nCA hC', Ne.symm nLC, fC⟩
            · rcases List.mem_cons.mp hp with rfl | hp
              · exact ⟨k3 _ _ (Ne.symm nID) nDA (N' _ (List.mem_cons_self ..)).1, Ne.symm nLD, fD⟩
              · rcases List.mem_cons.mp hp with rfl | hp
                · exact ⟨eA', Ne.symm nLA, fA⟩
                · exact ⟨k3 _ _ (off p hp).1 (off p hp).2.2.2 (N' p (List.mem_cons_of_mem _ hp)).1, (N' p (List.mem_cons_of_mem _ hp)).2⟩
        · refine ex3 h₄ fun h₄' tk₄ t₄ hz => and4 hz fun e1 e2 F₄ N₄ => ?_
          clear h₄ hz
          subst e1 e2
          have q : ∀ p, p ∈ (I, oI) :: (C, ({ cls := .type "dict", data := .dict #[] } : Obj)) :: (D, LCg.lst ys) :: (cA, oA') :: news → h₄'.get? p.1 = some p.2 := fun p hp => (N₄ p hp).1
          refine append_at (hsz := by show ys.toArray.size ≤ sizeLine; rw [List.size_toArray, hyl]; exact Nat.le_trans hi hsz) (q (D, LCg.lst ys) (by simp)) fun h₅ hs₅ hD₅ => ?_
          refine ⟨n + 1 - (i + 1), turn_lt hlt, h₅, tk₄, i + 1, ys ++ [.int (g (0 + (i : Int))) t₄], oA', _, rfl, hlt, rfl, ?_, bI _ (hs₅.extBut _ _ nID (q (I, oI) (by simp))), F₄.change hs₅ (Ne.symm nLD) fD,
            hs₅.extBut _ _ (Ne.symm nDC) (q (C, { cls := .type "dict", data := .dict #[] }) (by simp)), hs₅.extBut _ _ (Ne.symm nDA) (q (cA, oA') (by simp)), dA', fun p hp => ?_⟩
          · rw [rangeKs_succ, List.map_append, Int.zero_add]
            exact IntsAre.append hy (.cons _ t₄ .nil)
          · rcases List.mem_cons.mp hp with rfl | hp
            · exact ⟨hD₅.trans (congrArg some (LCg.lst_snoc ys _)), Ne.symm nLD, fD⟩
            · exact ⟨hs₅.extBut _ _ (off p hp).2.1 (q p (by simp [hp])), (N' p (List.mem_cons_of_mem _ hp)).2⟩
      · obtain rfl : i = n := Nat.le_antisymm hi (Nat.not_lt.mp hlt)
        refine W.done _ _ _ hst' fun h₂ tk₂ hk₂ => ?_
        have k2 : ∀ b o, b ≠ I → h'.get? b = some o → h₂.get? b = some o := fun b o hb e => hk₂ b o (by simpa using hb) e
        have F₂ : Fr h₀ L h₂ m := LCg.fr_but F' hk₂ nLI fI
        refine ⟨_, nsC _ (k2 _ _ (Ne.symm nIC) hC'), fun h'' hs'' => ?_⟩
        refine fin D ys h'' tk₂ hy (F₂.change hs'' (Ne.symm nLC) fC) (fun p hp => ?_) (off1 fun p hp => (off p hp).2.1)
        refine ⟨hs''.extBut _ _ ?_ (k2 _ _ ?_ (N' p hp).1), (N' p hp).2⟩
        · rcases List.mem_cons.mp hp with rfl | hp
          · exact nDC
          · exact (off p hp).2.2.1
        · rcases List.mem_cons.mp hp with rfl | hp
          · exact Ne.symm nID
          · exact (off p hp).1
    · rcases List.mem_cons.mp hp with rfl | hp
      · exact ⟨gD, Ne.symm nLD, fD⟩
      · exact ⟨up _ _ (N p hp).1, (N p hp).2⟩
  exact codeAny_compStart_list (loop _ rfl) (W.self 0 _ _ _ gI (loop _ rfl))
end
end
section
set_option maxHeartbeats 4000000
section
variable {w : World} {mean : ExcName → Option Value} {mg mb : Str → Option Value} {A₀ : Around} {base : Heap} {outer : List Env} {h₀ : Heap} {s : Shared} {env : Env} {L : Addr} {m : Str → Option Value} {news : List (Addr × Obj)} {k : Nat} {f : Addr} {vs : List Value}
theorem call_specG_K {pre : Heap → Prop} {P : Value → Heap → Heap → Prop} {Q : Value → Shared → Prop} {E : Value → Shared → Prop} (S : SpecG w k f vs pre P) (hpre : pre s.heap) (B : Below A₀ base outer h₀) (F : Fr h₀ L s.heap m) (X : (hd.heap_39 w.params).In h₀) (N : News h₀ L s.heap news) (T : Top hd.view_39 (looseW hd.view_39 [Str.ofString "_filemode_table"]) mean mg mb h₀)
    (hh : (A₀.deeper env).handled = none) (hroom : (A₀.deeper env).depth + k < recursionLimit) (hf : env.frame = some L) (hk : env.scope.kind = .function)
    (h : ∀ v h' tk, P v s.heap h' → Fr h₀ L h' m → News h₀ L h' news → Q v { s with heap := h', toks := tk }) :
    wpAny (model PySem.Challenge.rw_om0023_01.row.prog w) (A₀.deeper env) (call (.ref f) vs) Q E s := by
  refine wpAny_mono (S mean mg mb base (env :: outer) s (A₀.deeper env) E hh hroom (Rdy.of B F X T hf hk) hpre) (fun v s' hv => ?_) fun _ _ e => e
  obtain ⟨hP, K⟩ := hv
  obtain ⟨h', tk, rfl, F', N'⟩ := keeps_fr K F N
  exact h v h' tk hP F' N'
theorem new_at {s : Shared} {a : Addr} {o : Obj} (F : Fr h₀ L s.heap m) (h1 : s.heap.get? a = none) {h' : Heap} (h2 : h'.get? a = some o) : h'.get? a = some o ∧ a ≠ L ∧ h₀.get? a = none := by
  refine ⟨h2, fun e => ?_, ?_⟩
  · obtain ⟨o', _, _, e', _⟩ := F.ns
    rw [e, e'] at h1; cases h1
  · cases e : h₀.get? a with
    | none => rfl
    | some o' => rw [F.keep _ _ e] at h1; cases h1
theorem call_ints_K {pre : Heap → Prop} {ns : List Int} {Q : Value → Shared → Prop} {E : Value → Shared → Prop} (S : SpecG w k f vs pre (IsInts ns)) (hpre : pre s.heap) (B : Below A₀ base outer h₀) (F : Fr h₀ L s.heap m) (X : (hd.heap_39 w.params).In h₀) (N : News h₀ L s.heap news) (T : Top hd.view_39 (looseW hd.view_39 [Str.ofString "_filemode_table"]) mean mg mb h₀)
    (hh : (A₀.deeper env).handled = none) (hroom : (A₀.deeper env).depth + k < recursionLimit) (hf : env.frame = some L) (hk : env.scope.kind = .function)
    (h : ∀ D vs n h' tk, IntsAre vs ns → (∀ p ∈ news, @Ne Nat p.1 D) → Fr h₀ L h' m → News h₀ L h' ((D, W.listOf (vs : List Value).toArray n) :: news) → Q (.ref D) { s with heap := h', toks := tk }) :
    wpAny (model PySem.Challenge.rw_om0023_01.row.prog w) (A₀.deeper env) (call (.ref f) vs) Q E s :=
  call_specG_K S hpre B F X N T hh hroom hf hk fun v h' tk hP F' N' => by
    obtain ⟨D, us, n, rfl, h1, h2, hi⟩ := hP
    refine h D us n h' tk hi (fun p hp e => ?_) F' fun p hp => ?_
    · have := (N p hp).1
      rw [show p.1 = D from e, h1] at this; cases this
    · rcases List.mem_cons.mp hp with rfl | hp
      · exact new_at F h1 h2
      · exact N' p hp
theorem call_rows_K {pre : Heap → Prop} {data : List (List Int)} {Q : Value → Shared → Prop} {E : Value → Shared → Prop} (S : SpecG w k f vs pre (IsRows data)) (hpre : pre s.heap) (B : Below A₀ base outer h₀) (F : Fr h₀ L s.heap m) (X : (hd.heap_39 w.params).In h₀) (N : News h₀ L s.heap news) (T : Top hd.view_39 (looseW hd.view_39 [Str.ofString "_filemode_table"]) mean mg mb h₀)
    (hh : (A₀.deeper env).handled = none) (hroom : (A₀.deeper env).depth + k < recursionLimit) (hf : env.frame = some L) (hk : env.scope.kind = .function)
    (h : ∀ D refs n rows h' tk, RowsAt rows refs data → (∀ p ∈ news, @Ne Nat p.1 D) → (∀ p ∈ news, ∀ q ∈ rows, @Ne Nat q.1 p.1) → Fr h₀ L h' m → News h₀ L h' rows → News h₀ L h' ((D, W.listOf (refs : List Value).toArray n) :: news) → Q (.ref D) { s with heap := h', toks := tk }) :
    wpAny (model PySem.Challenge.rw_om0023_01.row.prog w) (A₀.deeper env) (call (.ref f) vs) Q E s :=
  call_specG_K S hpre B F X N T hh hroom hf hk fun v h' tk hP F' N' => by
    obtain ⟨D, refs, n, rows, rfl, h1, h2, R, hr⟩ := hP
    refine h D refs n rows h' tk R (fun p hp e => ?_) (fun p hp q hq e => ?_) F' (fun p hp => new_at F (hr p hp).1 (hr p hp).2) fun p hp => ?_
    · have := (N p hp).1
      rw [show p.1 = D from e, h1] at this; cases this
    · have := (N p hp).1
      rw [← show q.1 = p.1 from e, (hr q hq).1] at this; cases this
    · rcases List.mem_cons.mp hp with rfl | hp
      · exact new_at F h1 h2
      · exact N' p hp
end

section
variable {prog : Program} {w : World} {A : Around} {s : Shared} {env : Env} {h₀ : Heap} {body orelse : List Stmt} {Q : Flow → Shared → Prop}
def LwJ (ys : List Str) (m₀ : Str → Option Value) (ct ch : Addr) (bag : List (Addr × Obj)) (_i : Nat) (m : Str → Option Value) (news : List (Addr × Obj)) : Prop :=
  (∃ u, m = butM ys u m₀) ∧ ∃ ot oh vt vh, news = (ct, ot) :: (ch, oh) :: bag ∧ (ot : Obj).data = .cell vt ∧ (oh : Obj).data = .cell vh

/-- over zip of two lists that the call made -/
theorem law_loop {elts : List Expr} {k : Nat} {pos : Pos} {m₀ : Str → Option Value} {fa sl ct ch : Addr} {fvs refs : List Value} {k1 k2 : Nat} {fs : List Int} {data : List (List Int)} {ot₀ oh₀ : Obj} {vt₀ vh₀ : Option Value} {news₀ bag : List (Addr × Obj)} (ys : List Str)
    (hh : A.handled = none) (F : Fr h₀ env.locals s.heap m₀) (N₀ : News h₀ env.locals s.heap news₀) (NB : News h₀ env.locals s.heap bag)
    (mf : (fa, W.listOf fvs.toArray k1) ∈ news₀) (ms : (sl, W.listOf refs.toArray k2) ∈ news₀) (mt : (ct, ot₀) ∈ news₀) (mh : (ch, oh₀) ∈ news₀) (dt : ot₀.data = .cell vt₀) (dh : oh₀.data = .cell vh₀)
    (R : RowsAt bag refs data) (hi : IntsAre fvs fs) (hlen : fs.length = data.length)
    (offT : ∀ q ∈ bag, @Ne Nat q.1 ct) (offH : ∀ q ∈ bag, @Ne Nat q.1 ch) (nf : @Ne Nat fa ct ∧ @Ne Nat fa ch) (ns : @Ne Nat sl ct ∧ @Ne Nat sl ch) (nt : @Ne Nat ct ch)
    (step : ∀ wr i made terms T t ra tvs k' u ot oh vt vh h₁ tk₁ own own', fs[i]? = some made → data[i]? = some terms → IsTup h₁ T #[.int made t, .ref ra] → IntsAre tvs terms → OwnOff own [ct, ch] → @Ne Nat ra ct → @Ne Nat ra ch → (ct ∉ wr) → (ch ∉ wr) → (∀ p ∈ bag, p.1 ∉ wr) → (∀ p ∈ own', p ∈ own) → (∀ p ∈ bag, p ∈ own) → (ot : Obj).data = .cell vt → (oh : Obj).data = .cell vh →
      Fr h₀ env.locals h₁ (butM ys u m₀) → News h₀ env.locals h₁ ((ct, ot) :: (ch, oh) :: (ra, W.listOf (tvs : List Value).toArray k') :: own) →
      wpAny (model prog w) A (assign (.Tuple elts k pos) env (.ref T)) (fun _ s₃ => wpAny (model prog w) A (execs body env) (TurnEnd h₀ env.locals wr own' (LwJ ys m₀ ct ch bag (i + 1)) { s with heap := h₁, toks := tk₁ } Q) (fun _ _ => False) s₃) (fun _ _ => False) { s with heap := h₁, toks := tk₁ })
    (hE : ∀ u h' tk, Fr h₀ env.locals h' (butM ys u m₀) → News h₀ env.locals h' [] → wpAny (model prog w) A (execs orelse env) Q (fun _ _ => False) { s with heap := h', toks := tk }) :
    wpAny (model prog w) A (call (.type "zip") [.ref fa, .ref sl]) (fun xv s₁ => wpAny (model prog w) A (pyIter xv) (fun it s₂ => TurnsE prog w A h₀ env (.Tuple elts k pos) body orelse Q it s₂) (fun _ _ => False) s₁) (fun _ _ => False) s := by
  have hl1 : s.heap.IsList fa fvs.toArray := ⟨_, (N₀ _ mf).1, rfl, _, rfl⟩
  have hl2 : s.heap.IsList sl refs.toArray := ⟨_, (N₀ _ ms).1, rfl, _, rfl⟩
  have hLs : @LT.lt Nat _ env.locals s.heap.objs.size := F.ns.lt
  have lt0 : ∀ p ∈ news₀, @LT.lt Nat _ p.1 s.heap.objs.size := fun p hp => Heap.lt_size (N₀ p hp).1
  have ltB : ∀ p ∈ bag, @LT.lt Nat _ p.1 s.heap.objs.size := fun p hp => Heap.lt_size (NB p hp).1
  have lf := lt0 _ mf
  have ls := lt0 _ ms
  have lct := lt0 _ mt
  have lch := lt0 _ mh
  dsimp only at lf ls lct lch
  refine call_zip_2 hl1 hl2 fun h' hz hTI hTO h1 h2 hsz hk => ?_
  refine wpAny_pyIter_zip hz ?_
  generalize hI : s.heap.objs.size = z at *
  have D : ZipApart (z + 4) (z + 2) (z + 3) z (z + 1) fa sl := by
    constructor <;> (show @Ne Nat _ _; omega)
  have offW : ∀ {b : Addr}, @LT.lt Nat _ b z → b ∉ [z + 4, z + 3, z, z + 1] := fun {b} hb q => by
    have q' : b = z + 4 ∨ b = z + 3 ∨ b = z ∨ b = z + 1 := by simpa using q
    rcases q' with e | e | e | e
    · exact ktu_ne 4 hb e
    · exact ktu_ne 3 hb e
    · exact Nat.ne_of_lt hb e
    · exact ktu_ne 1 hb e
  have hN : News h₀ env.locals s.heap ((ct, ot₀) :: (ch, oh₀) :: bag) := fun p hp => by
    rcases List.mem_cons.mp hp with rfl | hp
    · exact N₀ _ mt
    · rcases List.mem_cons.mp hp with rfl | hp
      · exact N₀ _ mh
      · exact NB p hp
  have ltN : ∀ p ∈ (ct, ot₀) :: (ch, oh₀) :: bag, @LT.lt Nat _ p.1 z := fun p hp => by
    rcases List.mem_cons.mp hp with rfl | hp
    · exact lct
    · rcases List.mem_cons.mp hp with rfl | hp
      · exact lch
      · exact ltB p hp
  have szl : fvs.length = fs.length := hi.length
  have szr : refs.length = data.length := R.1
  refine TurnsE.intro (fp := [z + 4, z + 2, z + 3, z, z + 1, fa, sl]) (wr := [z + 4, z + 3, z, z + 1]) (m := m₀) (news := (ct, ot₀) :: (ch, oh₀) :: bag) (J := LwJ ys m₀ ct ch bag)
    (KTurns.ofWalksU (WalksT.zip2 hh (z + 4) (z + 2) (z + 3) z (z + 1) fa sl D fvs.toArray refs.toArray).toU) ?_ ?_ ?_
    ⟨hz, hTI, ⟨_, _, hTO⟩, h1, h2, hl1.at fun o e => hk _ o e, hl2.at fun o e => hk _ o e⟩ (F.keeps hk) (fun p hp => ?_) ⟨⟨m₀, butM_of fun _ _ => rfl⟩, ot₀, oh₀, vt₀, vh₀, rfl, dt, dh⟩ ?_ ?_
  · intro q
    have q' : env.locals = z + 4 ∨ env.locals = z + 2 ∨ env.locals = z + 3 ∨ env.locals = z ∨ env.locals = z + 1 ∨ env.locals = fa ∨ env.locals = sl := by simpa using q
    have n1 : @Ne Nat fa env.locals := (N₀ _ mf).2.1
    have n2 : @Ne Nat sl env.locals := (N₀ _ ms).2.1
    rcases q' with e | e | e | e | e | e | e
    · exact ktu_ne 4 hLs e
    · exact ktu_ne 2 hLs e
    · exact ktu_ne 3 hLs e
    · exact Nat.ne_of_lt hLs e
    · exact ktu_ne 1 hLs e
    · exact n1 e.symm
    · exact n2 e.symm
  · intro b hb
    have hb' : b = z + 4 ∨ b = z + 3 ∨ b = z ∨ b = z + 1 := by simpa using hb
    subst hI
    rcases hb' with rfl | rfl | rfl | rfl
    · exact ktu_new F (Nat.le_add_right _ _)
    · exact ktu_new F (Nat.le_add_right _ _)
    · exact ktu_new F (Nat.le_refl _)
    · exact ktu_new F (Nat.le_add_right _ _)
  · intro p hp
    exact offW (ltN p hp)
  · have e := hN p hp
    exact ⟨hk _ _ e.1, e.2⟩
  · intro i v m₁ news₁ h₁ tk₁ own hj hP hJ hw ho _ _ F₁ N₁
    refine ex2 hP fun T vals hz => and3 hz fun eT hxy hT => ex2 hxy fun x y hz' => and3 hz' fun hx hy ev => hJ.1.elim fun u eu => ex4 hJ.2 fun ot oh vt vh hz'' => and3 hz'' fun en dt' dh' => ?_
    clear hP hz hxy hz' hJ hz''
    subst eT ev eu en
    have hj1 : i < fs.length := by rw [← szl]; exact Nat.lt_of_lt_of_le hj (by simpa using Nat.min_le_left _ _)
    have hj2 : i < data.length := by rw [← hlen]; exact hj1
    obtain ⟨t, hx'⟩ := hi.get i fs[i] (by simp [hj1])
    obtain rfl : x = .int fs[i] t := by
      have : fvs[i]? = some x := by simpa using hx
      rw [hx'] at this; exact (Option.some.inj this).symm
    obtain ⟨ra, tvs, k', hy', mra, hti⟩ := R.2 i data[i] (by simp [hj2])
    obtain rfl : y = .ref ra := by
      have : refs[i]? = some y := by simpa using hy
      rw [hy'] at this; exact (Option.some.inj this).symm
    refine step [z + 4, z + 3, z, z + 1] i fs[i] data[i] T t ra tvs k' u ot oh vt vh h₁ tk₁ (own ++ bag) own (by simp [hj1]) (by simp [hj2]) hT hti ?_ (offT _ mra) (offH _ mra) (offW lct) (offW lch) (fun p hp => offW (ltB p hp))
      (fun p hp => List.mem_append_left _ hp) (fun p hp => List.mem_append_right _ hp) dt' dh' F₁ fun p hp => N₁ p ?_
    · intro p hp b hb e
      have hb' : b = ct ∨ b = ch := by simpa using hb
      rcases List.mem_append.mp hp with hp | hp
      · have q : p.1 = z + 4 ∨ p.1 = z + 2 ∨ p.1 = z + 3 ∨ p.1 = z ∨ p.1 = z + 1 ∨ p.1 = fa ∨ p.1 = sl := by simpa using ho p hp
        rw [e] at q
        rcases hb' with rfl | rfl
        · rcases q with q | q | q | q | q | q | q
          · exact ktu_ne 4 lct q
          · exact ktu_ne 2 lct q
          · exact ktu_ne 3 lct q
          · exact Nat.ne_of_lt lct q
          · exact ktu_ne 1 lct q
          · exact nf.1 q.symm
          · exact ns.1 q.symm
        · rcases q with q | q | q | q | q | q | q
          · exact ktu_ne 4 lch q
          · exact ktu_ne 2 lch q
          · exact ktu_ne 3 lch q
          · exact Nat.ne_of_lt lch q
          · exact ktu_ne 1 lch q
          · exact nf.2 q.symm
          · exact ns.2 q.symm
      · rcases hb' with rfl | rfl
        · exact offT p hp e
        · exact offH p hp e
    · rcases List.mem_cons.mp hp with rfl | hp
      · exact List.mem_append_right _ (List.mem_cons_self ..)
      · rcases List.mem_cons.mp hp with rfl | hp
        · exact List.mem_append_right _ (List.mem_cons_of_mem _ (List.mem_cons_self ..))
        · rcases List.mem_cons.mp hp with rfl | hp
          · exact List.mem_append_right _ (List.mem_cons_of_mem _ (List.mem_cons_of_mem _ mra))
          · rcases List.mem_append.mp hp with hp | hp
            · exact List.mem_append_left _ hp
            · exact List.mem_append_right _ (List.mem_cons_of_mem _ (List.mem_cons_of_mem _ hp))
  · intro h' tk m' news' F' N' _ hJ
    exact hJ.1.elim fun u eu => hE u h' tk (eu ▸ F') News.nil

theorem law_end {wr : List Addr} {ct ch : Addr} {ot oh : Obj} {vt vh : Option Value} {bag own own' all : List (Addr × Obj)} {ys : List Str} {m₀ m' : Str → Option Value} {i : Nat} {s₁ : Shared} {h' : Heap} {tk : Nat}
    (w1 : ct ∉ wr) (w2 : ch ∉ wr) (w3 : ∀ p ∈ bag, p.1 ∉ wr) (h1 : ∀ p ∈ own', p ∈ own) (h2 : ∀ p ∈ bag, p ∈ own)
    (F : Fr h₀ env.locals h' m') (N : News h₀ env.locals h' all) (mct : (ct, ot) ∈ all) (mch : (ch, oh) ∈ all) (ha : ∀ p ∈ own, p ∈ all)
    (dt : ot.data = .cell vt) (dh : oh.data = .cell vh) (hm : ∀ y, ys.contains y = false → m' y = m₀ y) :
    TurnEnd h₀ env.locals wr own' (LwJ ys m₀ ct ch bag (i + 1)) s₁ Q .next { s₁ with heap := h', toks := tk } :=
  .next F (news₂ := (ct, ot) :: (ch, oh) :: bag)
    (fun p hp => N p (by
      rcases List.mem_append.mp hp with hp | hp
      · exact ha p (h1 p hp)
      · rcases List.mem_cons.mp hp with rfl | hp
        · exact mct
        · rcases List.mem_cons.mp hp with rfl | hp
          · exact mch
          · exact ha p (h2 p hp)))
    (fun p hp => by
      rcases List.mem_cons.mp hp with rfl | hp
      · exact w1
      · rcases List.mem_cons.mp hp with rfl | hp
        · exact w2
        · exact w3 p hp)
    ⟨⟨m', butM_of hm⟩, ot, oh, vt, vh, rfl, dt, dh⟩
end

theorem SrcCell.intro {prog : Program} {w : World} {A : Around} {h₀ : Heap} {L : Addr} {m : Str → Option Value} {env : Env} {elt : Expr} {x : Str} {scope : Scope} {cl : List (Str × Addr)} {g : Int → Int} {n : Nat} {Q : Value → Shared → Prop} {s₁ : Shared} {r : Addr} {t u v : Tok} {news : List (Addr × Obj)} {b : Int}
    (hh : A.handled = none) (F : Fr h₀ L s₁.heap m) (N : News h₀ L s₁.heap news) (hr : IsRange s₁.heap r 0 b 1 t u v) (hb : b = (n : Int)) (hsm : Builtin.Range.small 0 (n : Int) 1 = true) (hn : Builtin.Range.rangeSize 0 (n : Int) 1 = (n : Int)) (hsz : n ≤ sizeLine)
    (turn : ∀ k t I oI C oC D cA oA ys h tk, 0 ≤ k → k < (n : Int) → (oA : Obj).data = .cell (some (.int k t)) → Fr h₀ L h m → News h₀ L h ((I, oI) :: (C, oC) :: (D, LCg.lst ys) :: (cA, oA) :: news) →
      wpAny (model prog w) A (eval elt (compEnvC scope ((x, cA) :: cl) C env)) (fun y s₂ => ∃ h' tk' t', y = .int (g k) t' ∧ s₂ = { s₁ with heap := h', toks := tk' } ∧ Fr h₀ L h' m ∧ News h₀ L h' ((I, oI) :: (C, oC) :: (D, LCg.lst ys) :: (cA, oA) :: news)) (fun _ _ => False) { s₁ with heap := h, toks := tk })
    (fin : ∀ D ys h tk, IntsAre ys ((rangeKs 0 n).map g) → Fr h₀ L h m → News h₀ L h ((D, LCg.lst ys) :: news) → LCg.Off1 D news → Q (.ref D) { s₁ with heap := h, toks := tk }) :
    SrcCell prog w A h₀ L m env elt x scope cl g n Q (.ref r) s₁ := ⟨r, t, u, v, news, rfl, hh, F, N, hb ▸ hr, hsm, hn, hsz, turn, fin⟩
theorem len_ints {prog : Program} {w : World} {A : Around} {E : Value → Shared → Prop} {s : Shared} {h₀ : Heap} {L : Addr} {all : List (Addr × Obj)} {ys : List Value} {l : List Int} {D : Addr} {Q : Value → Shared → Prop} (N : News h₀ L s.heap all) (hm : (D, LCg.lst ys) ∈ all) (hi : IntsAre ys l) (hfit : ys.length < 2 ^ 62)
    (h : ∀ t tk, Q (.int (l.length : Int) t) { s with toks := tk }) : wpAny (model prog w) A (call (.builtin "len") [.ref D]) Q E s := by
  have hl : s.heap.IsList D ys.toArray := ⟨_, (N _ hm).1, rfl, _, rfl⟩
  have e : ys.toArray.size = l.length := by rw [List.size_toArray]; exact hi.length
  refine len_list hl (by rw [List.size_toArray]; omega) ?_
  rw [e]
  exact h _ _
/-- the terms that an answer says yes to -/
def subG (a : Int) (l : List Int) (t : Int) : List Int := if Builtin.bitAnd t a = t then l ++ [t] else l
def holdG (terms : List Int) (a : Int) : Int := ((terms.foldl (subG a) []).length : Int).fmod 2
theorem ne_two {prog : Program} {w : World} {A : Around} {E : Value → Shared → Prop} {s : Shared} {h₀ : Heap} {L : Addr} {all : List (Addr × Obj)} {x y x' y' : Value} {l b : Addr} {k k' : Nat} {Q : Value → Shared → Prop} (N : News h₀ L s.heap all) (m1 : (l, W.listOf #[x, y] k) ∈ all) (m2 : (b, W.listOf #[x', y'] k') ∈ all) (hu : A.units < cLine)
    (e1 : SeqAt.EqAt A.in1 s x x' true) (e2 : SeqAt.EqAt A.in1 s y y' true) (h : Q (.bool false) s) : wpAny (model prog w) A (compareOp .NotEq (.ref l) (.ref b)) Q E s := by
  have hl : s.heap.IsList l #[x, y] := ⟨_, (N _ m1).1, rfl, _, rfl⟩
  have hb : s.heap.IsList b #[x', y'] := ⟨_, (N _ m2).1, rfl, _, rfl⟩
  exact SeqAt.RcNeAt.lists (e := fun _ => true) hl hb rfl hu (fun j h1 h2 => by
    match j, h1, h2 with
    | 0, _, _ => exact e1
    | 1, _, _ => exact e2
    | j + 2, h1, _ => exact absurd h1 (by simp)) prog w E Q h
theorem eq_ints {A : Around} {s : Shared} {a b : Int} {t u : Tok} (e : a = b) : SeqAt.EqAt A s (.int a t) (.int b u) true := by
  have := SeqAt.EqAt.int_int (A := A) (s := s) a t b u
  rwa [show (a == b) = true from by simpa using e] at this
theorem eq_strs {A : Around} {s : Shared} {a b : Str} {t u : Tok} (e : a = b) : SeqAt.EqAt A s (.str a t) (.str b u) true := by
  have := SeqAt.EqAt.str_str (A := A) (s := s) a t b u
  rwa [show (a == b) = true from by simpa using e] at this
def holdsF (terms : List Int) : List Int := (rangeKs 0 16).map (holdG terms)
theorem holdsF_len (terms : List Int) : (holdsF terms).length = 16 := by unfold holdsF; rw [List.length_map, rangeKs_length]
theorem holdsF_bd (terms : List Int) (i : Nat) : 0 ≤ (holdsF terms).getD i 0 ∧ (holdsF terms).getD i 0 ≤ 1 := by
  rw [List.getD_eq_getElem?_getD]
  cases e : (holdsF terms)[i]? with
  | none => exact ⟨Int.le_refl _, by decide⟩
  | some a =>
    obtain ⟨k, _, rfl⟩ := List.mem_map.mp (List.mem_of_getElem? e)
    have := fmod_bd (a := ((terms.foldl (subG k) []).length : Int)) (b := 2) (by decide)
    show 0 ≤ holdG terms k ∧ holdG terms k ≤ 1
    unfold holdG
    omega
def dueG (hs : List Int) (l : List Int) (a : Int) : List Int := if hs.getD a.toNat 0 = 1 then l ++ [2 ^ a.toNat] else l
def dueF (hs : List Int) : List Int := (rangeKs 0 16).foldl (dueG hs) []
end
section
/-- what the law asks of a file and its sum -/
structure LawOk (made : Int) (terms : List Int) : Prop where
  bd : 0 ≤ made ∧ made < 65536
  due : made = (dueF (holdsF terms)).sum
  shown : Txt.join (Str.ofString "") (permsF made 10) = Txt.join (Str.ofString "") (shownF (holdsF terms))
  led : ledI made = (terms.map fun t => 2 ^ t.toNat).sum
  lbd : 0 ≤ ledI made ∧ ledI made < 65536
  back : ledI (ledI made) = made
end
section
/-- the answers at which a product of questions holds -/
def baseN (t : Nat) : Nat := [65535, 43690, 52428, 34952, 61680, 41120, 49344, 32896, 65280, 43520, 52224, 34816, 61440, 40960, 49152, 32768].getD t 0
theorem base_lt (t : Nat) : baseN t < 65536 := by
  unfold baseN
  rcases Nat.lt_or_ge t 16 with h | h
  · exact (by decide +kernel : ∀ t : Fin 16, [65535, 43690, 52428, 34952, 61680, 41120, 49344, 32896, 65280, 43520, 52224, 34816, 61440, 40960, 49152, 32768].getD t.val 0 < 65536) ⟨t, h⟩
  · rw [List.getD_eq_getElem?_getD, List.getElem?_eq_none (by simpa using h)]; decide
theorem base_and {s t : Nat} (hs : s < 16) (ht : t < 16) : baseN s &&& baseN t = baseN (s ||| t) :=
  (by decide +kernel : ∀ s t : Fin 16, baseN s.val &&& baseN t.val = baseN (s.val ||| t.val)) ⟨s, hs⟩ ⟨t, ht⟩
theorem base_bit {t a : Nat} (ht : t < 16) (ha : a < 16) : (baseN t).testBit a = decide (t &&& a = t) :=
  (by decide +kernel : ∀ t a : Fin 16, (baseN t.val).testBit a.val = decide (t.val &&& a.val = t.val)) ⟨t, ht⟩ ⟨a, ha⟩

/-- the sum by 2 of the products -/
def polyN : List Int → Nat
  | [] => 0
  | t :: r => baseN t.toNat ^^^ polyN r
theorem poly_append (l : List Int) (k : List Int) : polyN (l ++ k) = polyN l ^^^ polyN k := by
  induction l with
  | nil => simp [polyN]
  | cons a r ih => rw [List.cons_append, polyN, polyN, ih, Nat.xor_assoc]
theorem poly_lt (l : List Int) : polyN l < 65536 := by
  induction l with
  | nil => decide
  | cons a r ih => rw [polyN]; exact Nat.xor_lt_two_pow (n := 16) (base_lt _) ih

theorem xor_bits (p q : Nat) : p ||| q = p ^^^ q ^^^ (p &&& q) := by
  apply Nat.eq_of_testBit_eq; intro i
  simp only [Nat.testBit_or, Nat.testBit_xor, Nat.testBit_and]
  cases p.testBit i <;> cases q.testBit i <;> rfl
theorem sub_bits (p q : Nat) : p - (p &&& q) = p ^^^ (p &&& q) := by
  have h := or_xor_and p (p &&& q)
  have e1 : p ||| (p &&& q) = p := by
    apply Nat.eq_of_testBit_eq; intro i
    simp only [Nat.testBit_or, Nat.testBit_and]
    cases p.testBit i <;> cases q.testBit i <;> rfl
  have e2 : p &&& (p &&& q) = p &&& q := by
    apply Nat.eq_of_testBit_eq; intro i
    simp only [Nat.testBit_and]
    cases p.testBit i <;> cases q.testBit i <;> rfl
  rw [e1, e2] at h
  omega
theorem and_full {p : Nat} (h : p < 65536) : 65535 &&& p = p := by
  rw [Nat.and_comm]
  have := Nat.and_two_pow_sub_one_eq_mod p 16
  rw [show (2 ^ 16 - 1 : Nat) = 65535 from rfl] at this
  rw [this]
  exact Nat.mod_eq_of_lt h
theorem not_bits {p : Nat} (h : p < 65536) : 65535 - p = 65535 ^^^ p := by
  have := sub_bits 65535 p
  rwa [and_full h] at this
theorem gap_bits {p q : Nat} (hp : p < 65536) (hq : q < 65536) : p ||| (q ^^^ 65535) = 65535 ^^^ q ^^^ (p &&& q) := by
  have e1 := and_full hp
  have e2 := and_full hq
  apply Nat.eq_of_testBit_eq; intro i
  have f1 := congrArg (fun x => x.testBit i) e1
  have f2 := congrArg (fun x => x.testBit i) e2
  simp only [Nat.testBit_and] at f1 f2
  simp only [Nat.testBit_or, Nat.testBit_xor, Nat.testBit_and]
  revert f1 f2
  cases p.testBit i <;> cases q.testBit i <;> cases (65535 : Nat).testBit i <;> decide

/-- led over, in naturals -/
def stepN (o k m : Nat) : Nat := o ^^^ ((o * 2 ^ k) &&& m)
def ledN (x : Nat) : Nat := stepN (stepN (stepN (stepN x 1 43690) 2 52428) 4 61680) 8 65280
theorem step_xor (a b k m : Nat) : stepN (a ^^^ b) k m = stepN a k m ^^^ stepN b k m := by
  unfold stepN
  simp only [← Nat.shiftLeft_eq]
  apply Nat.eq_of_testBit_eq; intro i
  simp only [Nat.testBit_xor, Nat.testBit_and, Nat.testBit_shiftLeft]
  cases a.testBit i <;> cases b.testBit i <;> cases a.testBit (i - k) <;> cases b.testBit (i - k) <;> cases decide (i ≥ k) <;> cases m.testBit i <;> rfl
theorem led_xor (a b : Nat) : ledN (a ^^^ b) = ledN a ^^^ ledN b := by
  unfold ledN
  simp only [step_xor]
theorem led_base {t : Nat} (h : t < 16) : ledN (baseN t) = 2 ^ t := (by decide +kernel : ∀ t : Fin 16, ledN (baseN t.val) = 2 ^ t.val) ⟨t, h⟩
theorem led_back {t : Nat} (h : t < 16) : ledN (2 ^ t) = baseN t := (by decide +kernel : ∀ t : Fin 16, ledN (2 ^ t.val) = baseN t.val) ⟨t, h⟩
def pows : List Int → Nat
  | [] => 0
  | t :: r => 2 ^ t.toNat ^^^ pows r
theorem led_poly : ∀ {l : List Int}, (∀ t ∈ l, 0 ≤ t ∧ t < 16) → ledN (polyN l) = pows l
  | [], _ => by decide
  | t :: r, h => by
    have := h t (List.mem_cons_self ..)
    rw [polyN, led_xor, led_base (by omega), led_poly fun x hx => h x (List.mem_cons_of_mem _ hx), pows]
theorem led_pows : ∀ {l : List Int}, (∀ t ∈ l, 0 ≤ t ∧ t < 16) → ledN (pows l) = polyN l
  | [], _ => by decide
  | t :: r, h => by
    have := h t (List.mem_cons_self ..)
    rw [pows, led_xor, led_back (by omega), led_pows fun x hx => h x (List.mem_cons_of_mem _ hx), polyN]
theorem pows_lt : ∀ {l : List Int}, (∀ t ∈ l, 0 ≤ t ∧ t < 16) → pows l < 65536
  | [], _ => by decide
  | t :: r, h => by
    have := h t (List.mem_cons_self ..)
    rw [pows]
    exact Nat.xor_lt_two_pow (n := 16) (Nat.pow_lt_pow_right (by decide) (by omega)) (pows_lt fun x hx => h x (List.mem_cons_of_mem _ hx))
theorem and_pow (x i : Nat) : x &&& 2 ^ i = if x.testBit i then 2 ^ i else 0 := by
  apply Nat.eq_of_testBit_eq; intro j
  rw [Nat.testBit_and, Nat.testBit_two_pow]
  by_cases h : i = j
  · subst h; cases e : x.testBit i <;> simp [Nat.testBit_two_pow]
  · cases e : x.testBit i <;> simp [h, Nat.testBit_two_pow]
theorem xor_pow {a t : Nat} (h : a < 2 ^ t) : a ^^^ 2 ^ t = a + 2 ^ t := by
  have h1 := or_xor_and a (2 ^ t)
  have h2 := Nat.two_pow_add_eq_or_of_lt h 1
  rw [Nat.mul_one, Nat.or_comm] at h2
  rw [and_pow, Nat.testBit_lt_two_pow h, if_neg (by decide), ← h2] at h1
  omega
theorem pows_acc : ∀ {l : List Int} {acc : Nat}, (∀ t ∈ l, 0 ≤ t) → l.Pairwise (· < ·) → (∀ t ∈ l, acc < 2 ^ t.toNat) → ((acc ^^^ pows l : Nat) : Int) = acc + (l.map fun t => (2 : Int) ^ t.toNat).sum
  | [], acc, _, _, _ => by simp [pows]
  | t :: r, acc, h0, hp, ha => by
    obtain ⟨hp1, hp2⟩ := List.pairwise_cons.mp hp
    have h1 := ha t (List.mem_cons_self ..)
    have ht0 := h0 t (List.mem_cons_self ..)
    rw [pows, ← Nat.xor_assoc, xor_pow h1, pows_acc (fun x hx => h0 x (List.mem_cons_of_mem _ hx)) hp2 ?_, List.map_cons, List.sum_cons]
    · push_cast; omega
    · intro x hx
      have := hp1 x hx
      have e : 2 ^ (t.toNat + 1) ≤ 2 ^ x.toNat := Nat.pow_le_pow_right (by decide) (by omega)
      rw [Nat.pow_succ] at e
      omega
theorem pows_sum {l : List Int} (h0 : ∀ t ∈ l, 0 ≤ t) (hp : l.Pairwise (· < ·)) : ((pows l : Nat) : Int) = (l.map fun t => (2 : Int) ^ t.toNat).sum := by
  have := pows_acc (acc := 0) h0 hp fun t _ => Nat.two_pow_pos _
  simpa using this
end
section
theorem poly_map {qs : List Int} {a : Int} (ha : 0 ≤ a ∧ a < 16) (hq : ∀ t ∈ qs, 0 ≤ t ∧ t < 16) : baseN a.toNat &&& polyN qs = polyN (qs.map (Builtin.bitOr a)) := by
  induction qs with
  | nil => simp [polyN]
  | cons b r ih =>
    have hb := hq b (List.mem_cons_self ..)
    rw [List.map_cons, polyN, polyN, Nat.and_xor_distrib_left, ih fun t ht => hq t (List.mem_cons_of_mem _ ht)]
    congr 1
    obtain ⟨x, rfl⟩ := Int.eq_ofNat_of_zero_le ha.1
    obtain ⟨y, rfl⟩ := Int.eq_ofNat_of_zero_le hb.1
    rw [bitOr_nat]
    simp only [Int.toNat_natCast]
    exact base_and (by omega) (by omega)
theorem poly_flat {ps qs : List Int} (hp : ∀ t ∈ ps, 0 ≤ t ∧ t < 16) (hq : ∀ t ∈ qs, 0 ≤ t ∧ t < 16) : polyN ps &&& polyN qs = polyN (flat2 ps qs) := by
  unfold flat2
  induction ps with
  | nil => simp [polyN]
  | cons a r ih =>
    rw [List.flatMap_cons, poly_append, polyN, Nat.and_xor_distrib_right, ih fun t ht => hp t (List.mem_cons_of_mem _ ht), poly_map (hp a (List.mem_cons_self ..)) hq]

/-- what the times say, by 2 -/
def pk (b : Int) (x : Nat) : Nat := if b.fmod 2 = 1 then x else 0
def timesV : List Int → Nat → Nat
  | [], _ => 0
  | a :: r, i => pk a (baseN i) ^^^ timesV r (i + 1)
theorem pk_succ (b : Int) (x : Nat) : pk (b + 1) x = pk b x ^^^ x := by
  unfold pk
  rw [Int.fmod_eq_emod_of_nonneg _ (by decide), Int.fmod_eq_emod_of_nonneg _ (by decide)]
  by_cases h : b % 2 = 1
  · rw [if_pos h, if_neg (by omega), Nat.xor_self]
  · rw [if_neg h, if_pos (by omega), Nat.zero_xor]
theorem timesV_set : ∀ (r : List Int) (i j : Nat), j < r.length → timesV (r.set j (r.getD j 0 + 1)) i = timesV r i ^^^ baseN (i + j)
  | [], _, _, h => absurd h (by simp)
  | a :: r, i, 0, _ => by
    simp only [List.set_cons_zero, List.getD_cons_zero, timesV, pk_succ, Nat.add_zero]
    rw [Nat.xor_assoc, Nat.xor_comm (baseN i), ← Nat.xor_assoc]
  | a :: r, i, j + 1, h => by
    simp only [List.set_cons_succ, List.getD_cons_succ, timesV]
    rw [timesV_set r (i + 1) j (by simpa using h), Nat.xor_assoc, show i + 1 + j = i + (j + 1) by omega]
theorem timesV_bumps : ∀ (l : List Int) (ts : List Int), ts.length = 16 → (∀ t ∈ l, 0 ≤ t ∧ t < 16) → timesV (l.foldl bump ts) 0 = timesV ts 0 ^^^ polyN l
  | [], ts, _, _ => by simp [polyN]
  | a :: r, ts, h, hl => by
    have ha := hl a (List.mem_cons_self ..)
    rw [List.foldl_cons, timesV_bumps r _ (by rw [bump_len, h]) fun t ht => hl t (List.mem_cons_of_mem _ ht), polyN]
    unfold bump
    rw [timesV_set _ _ _ (by omega), Nat.zero_add, Nat.xor_assoc]
theorem odd_poly (g : Int → Int) : ∀ (r : List Int) (i : Nat), (∀ j, j < r.length → g ((i : Int) + (j : Int)) = r.getD j 0) → polyN ((rangeKs i r.length).filter fun t => decide ((g t).fmod 2 = 1)) = timesV r i
  | [], i, _ => rfl
  | a :: r, i, h => by
    have h0 := h 0 (by simp)
    simp only [Int.natCast_zero, Int.add_zero, List.getD_cons_zero] at h0
    have ih := odd_poly g r (i + 1) fun j hj => by
      have := h (j + 1) (by simpa using hj)
      rw [List.getD_cons_succ] at this
      rw [← this]; congr 1; push_cast; omega
    rw [List.length_cons, kll_cons, timesV]
    push_cast at ih
    by_cases q : (g i).fmod 2 = 1
    · rw [List.filter_cons_of_pos (by simpa using q), polyN, ih, Int.toNat_natCast, pk, ← h0, if_pos q]
    · rw [List.filter_cons_of_neg (by simpa using q), ih, pk, ← h0, if_neg q, Nat.zero_xor]
theorem poly_odd {ts : List Int} (h : ts.length = 16) : polyN (oddF ts) = timesV ts 0 := by
  unfold oddF
  rw [odd_foldl, List.nil_append, ← h]
  exact odd_poly (fun t => ts.getD t.toNat 0) ts 0 fun j hj => by
    show ts.getD (((0 : Nat) : Int) + (j : Int)).toNat 0 = _
    congr 1; omega
theorem poly_times {k : Nat} {p q : List Int} (hp : RowOk p) (hq : RowOk q) : polyN (oddF (timesF k p q)) = polyN (selP k p) ^^^ polyN (selQ k q) ^^^ polyN (selB k (flat2 p q)) := by
  have h0 : ((rangeKs 0 16).map fun _ => (0 : Int)).length = 16 := by decide
  unfold timesF
  rw [poly_odd (by rw [bumps_len, bumps_len, bumps_len, h0]), timesV_bumps _ _ (by rw [bumps_len, bumps_len, h0]) (selB_ok (flat_ok hp hq) k), timesV_bumps _ _ (by rw [bumps_len, h0]) (selQ_ok hq.2 k), timesV_bumps _ _ h0 (selP_ok hp.2 k),
    show timesV ((rangeKs 0 16).map fun _ => (0 : Int)) 0 = 0 by decide +kernel, Nat.zero_xor]

/-- the gate of the kind's number -/
def gateN (k : Nat) (p q : Nat) : Nat := match k with
  | 0 => p &&& q
  | 1 => p ||| q
  | 2 => p ^^^ q
  | 3 => p - (p &&& q)
  | 4 => 65535 - (p ||| q)
  | 5 => 65535 ^^^ (p &&& q)
  | 6 => 65535 - (p ^^^ q)
  | _ => p ||| (q ^^^ 65535)
theorem gateN_poly {k : Nat} {p q : List Int} (hp : RowOk p) (hq : RowOk q) : gateN k (polyN p) (polyN q) = polyN (oddF (timesF k p q)) := by
  rw [poly_times hp hq]
  have f := poly_flat hp.2 hq.2
  have lp := poly_lt p
  have lq := poly_lt q
  have lo : polyN p ||| polyN q < 65536 := Nat.or_lt_two_pow (n := 16) lp lq
  have lx : polyN p ^^^ polyN q < 65536 := Nat.xor_lt_two_pow (n := 16) lp lq
  have b0 : polyN [0] = 65535 := by decide
  have n0 : polyN [] = 0 := rfl
  unfold gateN selP selQ selB
  split
  · simp only [n0, Nat.zero_xor]; exact f
  · rw [xor_bits, f]; rfl
  · simp only [n0, Nat.xor_zero]
  · simp only [n0, Nat.xor_zero]; rw [sub_bits, f]
  · simp only [poly_append, b0]; rw [not_bits lo, xor_bits, f, Nat.xor_assoc, Nat.xor_assoc, Nat.xor_assoc]
  · simp only [n0, b0, Nat.xor_zero]; rw [f]
  · simp only [poly_append, n0, b0, Nat.xor_zero]; rw [not_bits lx, Nat.xor_assoc]
  · simp only [b0]; rw [gap_bits lp lq, f]
end
section
theorem and_low {x : Nat} (h : x < 4096) : x &&& 61440 = 0 := by
  have e : x &&& 4095 = x := by
    have := Nat.and_two_pow_sub_one_eq_mod x 12
    rw [show (2 ^ 12 - 1 : Nat) = 4095 from rfl] at this
    rw [this]; exact Nat.mod_eq_of_lt h
  rw [← e, Nat.and_assoc, show (4095 &&& 61440 : Nat) = 0 from rfl, Nat.and_zero]
theorem gate_or {k r : Nat} (h : r < 4096) : (k * 4096) ||| r = k * 4096 + r := by
  have := Nat.two_pow_add_eq_or_of_lt (i := 12) (b := r) h k
  rw [Nat.mul_comm] at this
  exact this.symm
theorem gate_type {k r : Nat} (hk : k < 16) (h : r < 4096) : (k * 4096 + r) &&& 61440 = k * 4096 := by
  rw [← gate_or h, Nat.and_or_distrib_right, and_low h, Nat.or_zero]
  exact (by decide +kernel : ∀ k : Fin 16, (k.val * 4096) &&& 61440 = k.val * 4096) ⟨k, hk⟩
theorem gate_mode {k r : Nat} (h : r < 4096) : (k * 4096 + r) &&& 4095 = r := by
  have := Nat.and_two_pow_sub_one_eq_mod (k * 4096 + r) 12
  rw [show (2 ^ 12 - 1 : Nat) = 4095 from rfl, show (2 ^ 12 : Nat) = 4096 from rfl] at this
  rw [this]; omega
theorem gate_six {k r : Nat} : (k * 4096 + r) &&& 63 = r % 64 := by
  have := Nat.and_two_pow_sub_one_eq_mod (k * 4096 + r) 6
  rw [show (2 ^ 6 - 1 : Nat) = 63 from rfl, show (2 ^ 6 : Nat) = 64 from rfl] at this
  rw [this]; omega
/-- the number's gate -/
theorem gate_num (n : Int) : ∃ k r : Nat, k < 8 ∧ r < 4096 ∧ (n.fmod 8).toNat = k ∧ (n.fdiv 8).fmod 4096 = (r : Int) ∧ (n.fdiv 512).fmod 64 = ((r / 64 : Nat) : Int) ∧ (n.fdiv 8).fmod 64 = ((r % 64 : Nat) : Int) := by
  simp only [Int.fmod_eq_emod_of_nonneg _ (show (0 : Int) ≤ 8 by decide), Int.fmod_eq_emod_of_nonneg _ (show (0 : Int) ≤ 4096 by decide), Int.fmod_eq_emod_of_nonneg _ (show (0 : Int) ≤ 64 by decide), Int.fdiv_eq_ediv_of_nonneg _ (show (0 : Int) ≤ 8 by decide), Int.fdiv_eq_ediv_of_nonneg _ (show (0 : Int) ≤ 512 by decide)]
  refine ⟨(n % 8).toNat, (n / 8 % 4096).toNat, ?_, ?_, rfl, ?_, ?_, ?_⟩ <;> omega
theorem gate_case {k r : Nat} (hk : k < 8) (hr : r < 4096) {p q : Nat} (hp : p < 65536) (hq : q < 65536) : gateI (Builtin.bitOr ([8, 4, 10, 1, 12, 2, 6, 15].getD k 0 * 2 ^ Int.toNat 12) (r : Int)) (p : Int) (q : Int) = ((gateN k p q : Nat) : Int) := by
  have g : ∀ j : Nat, j < 16 → Builtin.bitAnd (Builtin.bitOr ((j : Int) * 2 ^ Int.toNat 12) (r : Int)) 61440 = ((j * 4096 : Nat) : Int) := by
    intro j hj
    have e : ((j : Int) * 2 ^ Int.toNat 12) = ((j * 4096 : Nat) : Int) := by rw [show (2 : Int) ^ Int.toNat 12 = 4096 from rfl]; push_cast; rfl
    rw [e, bitOr_nat, gate_or hr, show (61440 : Int) = ((61440 : Nat) : Int) from rfl, bitAnd_nat, gate_type hj hr]
  have lo : p ||| q < 65536 := Nat.or_lt_two_pow (n := 16) hp hq
  have lx : p ^^^ q < 65536 := Nat.xor_lt_two_pow (n := 16) hp hq
  unfold gateI
  match k, hk with
  | 0, _ =>
    have e := g 8 (by decide)
    rw [show ([8, 4, 10, 1, 12, 2, 6, 15] : List Int).getD 0 0 = ((8 : Nat) : Int) from rfl, e]
    rw [if_pos (by decide)]
    exact bitAnd_nat p q
  | 1, _ =>
    have e := g 4 (by decide)
    rw [show ([8, 4, 10, 1, 12, 2, 6, 15] : List Int).getD 1 0 = ((4 : Nat) : Int) from rfl, e]
    rw [if_neg (by decide), if_pos (by decide)]
    exact bitOr_nat p q
  | 2, _ =>
    have e := g 10 (by decide)
    rw [show ([8, 4, 10, 1, 12, 2, 6, 15] : List Int).getD 2 0 = ((10 : Nat) : Int) from rfl, e]
    rw [if_neg (by decide), if_neg (by decide), if_pos (by decide)]
    exact bitXor_nat p q
  | 3, _ =>
    have e := g 1 (by decide)
    rw [show ([8, 4, 10, 1, 12, 2, 6, 15] : List Int).getD 3 0 = ((1 : Nat) : Int) from rfl, e]
    rw [if_neg (by decide), if_neg (by decide), if_neg (by decide), if_pos (by decide)]
    exact bitAndNot_nat p q
  | 4, _ =>
    have e := g 12 (by decide)
    rw [show ([8, 4, 10, 1, 12, 2, 6, 15] : List Int).getD 4 0 = ((12 : Nat) : Int) from rfl, e]
    rw [if_neg (by decide), if_neg (by decide), if_neg (by decide), if_neg (by decide), if_pos (by decide)]
    rw [bitOr_nat]; show _ = ((65535 - (p ||| q) : Nat) : Int); omega
  | 5, _ =>
    have e := g 2 (by decide)
    rw [show ([8, 4, 10, 1, 12, 2, 6, 15] : List Int).getD 5 0 = ((2 : Nat) : Int) from rfl, e]
    rw [if_neg (by decide), if_neg (by decide), if_neg (by decide), if_neg (by decide), if_neg (by decide), if_pos (by decide)]
    rw [bitAnd_nat]; exact bitXor_nat 65535 (p &&& q)
  | 6, _ =>
    have e := g 6 (by decide)
    rw [show ([8, 4, 10, 1, 12, 2, 6, 15] : List Int).getD 6 0 = ((6 : Nat) : Int) from rfl, e]
    rw [if_neg (by decide), if_neg (by decide), if_neg (by decide), if_neg (by decide), if_neg (by decide), if_neg (by decide), if_pos (by decide)]
    rw [bitXor_nat]; show _ = ((65535 - (p ^^^ q) : Nat) : Int); omega
  | 7, _ =>
    have e := g 15 (by decide)
    rw [show ([8, 4, 10, 1, 12, 2, 6, 15] : List Int).getD 7 0 = ((15 : Nat) : Int) from rfl, e]
    rw [if_neg (by decide), if_neg (by decide), if_neg (by decide), if_neg (by decide), if_neg (by decide), if_neg (by decide), if_neg (by decide)]
    rw [show (65535 : Int) = ((65535 : Nat) : Int) from rfl, bitXor_nat, bitOr_nat]; rfl
  | n + 8, h => exact absurd h (by omega)
theorem pick_p {k r len : Nat} (hr : r < 4096) : ((Builtin.bitAnd (Builtin.bitOr ((k : Int) * 2 ^ Int.toNat 12) (r : Int)) 4095 / 2 ^ Int.toNat 6) % (len : Int)).toNat = r / 64 % len := by
  have e : ((k : Int) * 2 ^ Int.toNat 12) = ((k * 4096 : Nat) : Int) := by rw [show (2 : Int) ^ Int.toNat 12 = 4096 from rfl]; push_cast; rfl
  rw [e, bitOr_nat, gate_or hr, show (4095 : Int) = ((4095 : Nat) : Int) from rfl, bitAnd_nat, gate_mode hr, show (2 : Int) ^ Int.toNat 6 = ((64 : Nat) : Int) from rfl]
  rw [← Int.natCast_ediv, ← Int.natCast_emod, Int.toNat_natCast]
theorem pick_q {k r len : Nat} (hr : r < 4096) : (Builtin.bitAnd (Builtin.bitOr ((k : Int) * 2 ^ Int.toNat 12) (r : Int)) 63 % (len : Int)).toNat = r % 64 % len := by
  have e : ((k : Int) * 2 ^ Int.toNat 12) = ((k * 4096 : Nat) : Int) := by rw [show (2 : Int) ^ Int.toNat 12 = 4096 from rfl]; push_cast; rfl
  rw [e, bitOr_nat, gate_or hr, show (63 : Int) = ((63 : Nat) : Int) from rfl, bitAnd_nat, gate_six]
  rw [← Int.natCast_emod, Int.toNat_natCast]
theorem kind_nat {k : Nat} (hk : k < 8) : ∃ j : Nat, ([8, 4, 10, 1, 12, 2, 6, 15] : List Int).getD k 0 = (j : Int) :=
  ⟨_, (by decide +kernel : ∀ k : Fin 8, ([8, 4, 10, 1, 12, 2, 6, 15] : List Int).getD k.val 0 = (([8, 4, 10, 1, 12, 2, 6, 15] : List Int).getD k.val 0).toNat) ⟨k, hk⟩⟩

/-- a file, and the list of its products -/
structure Pair (made : Int) (terms : List Int) : Prop where
  eq : made = (polyN terms : Int)
  ok : RowOk terms
  up : terms.Pairwise (· < ·)
def Pairs (fs : List Int) (ss : List (List Int)) : Prop := fs.length = ss.length ∧ 0 < fs.length ∧ ∀ i < fs.length, Pair (fs.getD i 0) (ss.getD i [])
theorem getD_left {α : Type} {l k : List α} {d : α} {i : Nat} (h : i < l.length) : (l ++ k).getD i d = l.getD i d := by
  rw [List.getD_eq_getElem?_getD, List.getD_eq_getElem?_getD, List.getElem?_append_left h]
theorem getD_end {α : Type} {l : List α} {d x : α} : (l ++ [x]).getD l.length d = x := by
  rw [List.getD_eq_getElem?_getD, List.getElem?_concat_length]; rfl
theorem range_up (a : Int) (n : Nat) : (rangeKs a n).Pairwise (· < ·) := by
  unfold rangeKs
  rw [List.pairwise_map]
  exact (List.pairwise_lt_range (n := n)).imp fun h => by omega
theorem odd_up (ts : List Int) : (oddF ts).Pairwise (· < ·) := by
  unfold oddF
  rw [odd_foldl, List.nil_append]
  exact (range_up 0 16).filter _
theorem pair_step {fs : List Int} {ss : List (List Int)} (h : Pairs fs ss) (n : Int) : Pairs (fstep fs n) (sumStep ss n) := by
  obtain ⟨hl, h0, hp⟩ := h
  obtain ⟨k, r, hk, hr, ek, er, e1, e2⟩ := gate_num n
  obtain ⟨j, ej⟩ := kind_nat hk
  have hn1 : r / 64 % fs.length < fs.length := Nat.mod_lt _ h0
  have hn2 : r % 64 % fs.length < fs.length := Nat.mod_lt _ h0
  have P := hp _ hn1
  have Q := hp _ hn2
  have lf : (fstep fs n).length = fs.length + 1 := by unfold fstep; simp
  have lsum : (sumStep ss n).length = ss.length + 1 := by unfold sumStep; simp
  refine ⟨by rw [lf, lsum, hl], by omega, fun i hi => ?_⟩
  rw [lf] at hi
  rcases Nat.lt_or_ge i fs.length with hlt | hge
  · have a1 : (fstep fs n).getD i 0 = fs.getD i 0 := by unfold fstep; exact getD_left hlt
    have a2 : (sumStep ss n).getD i [] = ss.getD i [] := by unfold sumStep; exact getD_left (hl ▸ hlt)
    rw [a1, a2]
    exact hp i hlt
  · obtain rfl : i = fs.length := by omega
    have a1 : (fstep fs n).getD fs.length 0 = ((polyN (oddF (timesF k (ss.getD (r / 64 % fs.length) []) (ss.getD (r % 64 % fs.length) []))) : Nat) : Int) := by
      unfold fstep
      rw [getD_end]
      rw [ek, er]
      have q1 : ((Builtin.bitAnd (Builtin.bitOr ([8, 4, 10, 1, 12, 2, 6, 15].getD k 0 * 2 ^ Int.toNat 12) (r : Int)) 4095 / 2 ^ Int.toNat 6) % (fs.length : Int)).toNat = r / 64 % fs.length := by rw [ej]; exact pick_p hr
      have q2 : (Builtin.bitAnd (Builtin.bitOr ([8, 4, 10, 1, 12, 2, 6, 15].getD k 0 * 2 ^ Int.toNat 12) (r : Int)) 63 % (fs.length : Int)).toNat = r % 64 % fs.length := by rw [ej]; exact pick_q hr
      rw [q1, q2, P.eq, Q.eq, gate_case hk hr (poly_lt _) (poly_lt _), gateN_poly P.ok Q.ok]
    have a2 : (sumStep ss n).getD fs.length [] = oddF (timesF k (ss.getD (r / 64 % fs.length) []) (ss.getD (r % 64 % fs.length) [])) := by
      unfold sumStep
      rw [hl, getD_end, ek, e1, e2]
      rw [Int.fmod_eq_emod_of_nonneg _ (Int.natCast_nonneg _), Int.fmod_eq_emod_of_nonneg _ (Int.natCast_nonneg _), ← Int.natCast_emod, ← Int.natCast_emod, Int.toNat_natCast, Int.toNat_natCast]
    rw [a1, a2]
    exact ⟨rfl, ⟨odd_len _, fun t ht => odd_mem ht⟩, odd_up _⟩
theorem pairs_fold : ∀ (ns : List Int) {fs : List Int} {ss : List (List Int)}, Pairs fs ss → Pairs (ns.foldl fstep fs) (ns.foldl sumStep ss)
  | [], _, _, h => h
  | n :: r, _, _, h => by rw [List.foldl_cons, List.foldl_cons]; exact pairs_fold r (pair_step h n)
theorem pairs_all (ns : List Int) : Pairs (filesF ns) (sumsF ns) := by
  unfold filesF sumsF
  refine pairs_fold ns ⟨rfl, by decide, fun i hi => ?_⟩
  match i, hi with
  | 0, _ | 1, _ | 2, _ | 3, _ => exact ⟨by decide, ⟨by decide, by decide⟩, by decide⟩
  | n + 4, h => exact absurd h (Nat.not_lt.mpr (Nat.le_add_left 4 n))
theorem pair_at {ns : List Int} {i : Nat} {made : Int} {terms : List Int} (h1 : (filesF ns)[i]? = some made) (h2 : (sumsF ns)[i]? = some terms) : Pair made terms := by
  have hi : i < (filesF ns).length := (List.getElem?_eq_some_iff.mp h1).1
  have := (pairs_all ns).2.2 i hi
  rw [List.getD_eq_getElem?_getD, List.getD_eq_getElem?_getD, h1, h2] at this
  exact this
end
section
theorem sub_foldl (a : Int) : ∀ (l acc : List Int), l.foldl (subG a) acc = acc ++ l.filter fun t => decide (Builtin.bitAnd t a = t)
  | [], acc => by simp
  | t :: r, acc => by
    rw [List.foldl_cons, sub_foldl a r]
    unfold subG
    by_cases h : Builtin.bitAnd t a = t
    · rw [if_pos h, List.filter_cons_of_pos (by simpa using h)]; simp
    · rw [if_neg h, List.filter_cons_of_neg (by simpa using h)]
theorem hold_par {a : Nat} (ha : a < 16) : ∀ {l : List Int}, (∀ t ∈ l, 0 ≤ t ∧ t < 16) → (l.filter fun t => decide (Builtin.bitAnd t (a : Int) = t)).length % 2 = ((polyN l).testBit a).toNat
  | [], _ => by simp [polyN]
  | t :: r, h => by
    have ih := hold_par ha fun x hx => h x (List.mem_cons_of_mem _ hx)
    have ht := h t (List.mem_cons_self ..)
    obtain ⟨x, rfl⟩ := Int.eq_ofNat_of_zero_le ht.1
    have hb := base_bit (t := x) (a := a) (by omega) ha
    rw [polyN, Nat.testBit_xor, Int.toNat_natCast, hb]
    by_cases q : x &&& a = x
    · rw [List.filter_cons_of_pos (by rw [bitAnd_nat, q]; simp), List.length_cons]
      rw [decide_eq_true q]
      cases e : (polyN r).testBit a <;> rw [e] at ih <;> simp at ih ⊢ <;> omega
    · rw [List.filter_cons_of_neg (by rw [bitAnd_nat]; simp; omega), ih]
      rw [decide_eq_false q]
      cases e : (polyN r).testBit a <;> rfl
theorem hold_bit {terms : List Int} (h : ∀ t ∈ terms, 0 ≤ t ∧ t < 16) {a : Nat} (ha : a < 16) : holdG terms (a : Int) = if (polyN terms).testBit a then 1 else 0 := by
  unfold holdG
  rw [sub_foldl, List.nil_append, Int.fmod_eq_emod_of_nonneg _ (by decide)]
  have := hold_par ha h
  cases e : (polyN terms).testBit a <;> rw [e] at this <;> simp only [Bool.toNat_true, Bool.toNat_false] at this <;> simp <;> omega
theorem holds_at {terms : List Int} (h : ∀ t ∈ terms, 0 ≤ t ∧ t < 16) {a : Nat} (ha : a < 16) : (holdsF terms).getD a 0 = if (polyN terms).testBit a then 1 else 0 := by
  rw [← hold_bit h ha]
  unfold holdsF rangeKs
  rw [List.getD_eq_getElem?_getD, List.getElem?_map, List.getElem?_map, List.getElem?_range ha]
  simp
theorem mod_succ (x i : Nat) : x % 2 ^ (i + 1) = x % 2 ^ i + 2 ^ i * (x.testBit i).toNat := by
  rw [Nat.mod_pow_succ, Nat.testBit_eq_decide_div_mod_eq]
  rcases Nat.mod_two_eq_zero_or_one (x / 2 ^ i) with h | h <;> rw [h] <;> rfl
theorem due_mod {hs : List Int} {m : Nat} (H : ∀ a < 16, hs.getD a 0 = if m.testBit a then 1 else 0) : ∀ n ≤ 16, ((rangeKs 0 n).foldl (dueG hs) []).sum = ((m % 2 ^ n : Nat) : Int)
  | 0, _ => by simp [rangeKs, Nat.mod_one]
  | n + 1, hn => by
    have e : rangeKs 0 (n + 1) = rangeKs 0 n ++ [(n : Int)] := by unfold rangeKs; rw [List.range_succ, List.map_append]; simp
    rw [e, List.foldl_append, List.foldl_cons, List.foldl_nil, mod_succ]
    have ih := due_mod H n (by omega)
    generalize (rangeKs 0 n).foldl (dueG hs) [] = l at ih
    unfold dueG
    rw [Int.toNat_natCast, H n (by omega)]
    cases m.testBit n
    · simp [ih]
    · simp [ih]
theorem due_eq {hs : List Int} {m : Nat} (hm : m < 65536) (H : ∀ a < 16, hs.getD a 0 = if m.testBit a then 1 else 0) : (m : Int) = (dueF hs).sum := by
  unfold dueF
  rw [due_mod H 16 (Nat.le_refl _), Nat.mod_eq_of_lt hm]

theorem one_bit {x i : Nat} {b : Int} {c : Str} (hb : b = ((2 ^ i : Nat) : Int)) : pickF false (x : Int) [(b, c)] = if x.testBit i then c else Str.ofString "-" := by
  subst hb
  have hp := Nat.two_pow_pos i
  simp only [pickF, bitAnd_nat, and_pow, Bool.false_eq_true, if_false]
  generalize 2 ^ i = A at hp ⊢
  cases x.testBit i
  · simp only [Bool.false_eq_true, if_false]; rw [if_neg (by omega)]
  · simp only [if_true]
theorem three_bits {x i j : Nat} {b1 b2 b3 : Int} {c1 c2 c3 : Str} (h1 : b1 = ((2 ^ i ||| 2 ^ j : Nat) : Int)) (h2 : b2 = ((2 ^ j : Nat) : Int)) (h3 : b3 = ((2 ^ i : Nat) : Int)) (n1 : 2 ^ i ||| 2 ^ j ≠ 2 ^ i) (n2 : 2 ^ i ||| 2 ^ j ≠ 2 ^ j) (n3 : 2 ^ i ||| 2 ^ j ≠ 0) :
    pickF false (x : Int) [(b1, c1), (b2, c2), (b3, c3)] = if x.testBit j then (if x.testBit i then c1 else c2) else (if x.testBit i then c3 else Str.ofString "-") := by
  subst h1 h2 h3
  have hp := Nat.two_pow_pos i
  have hq := Nat.two_pow_pos j
  simp only [pickF, bitAnd_nat, Nat.and_or_distrib_left, and_pow, Bool.false_eq_true, if_false]
  generalize 2 ^ i = A at hp n1 n2 n3 ⊢
  generalize 2 ^ j = B at hq n1 n2 n3 ⊢
  cases x.testBit i <;> cases x.testBit j <;> simp only [Bool.false_eq_true, if_false, if_true, Nat.zero_or, Nat.or_zero]
  · rw [if_neg (by omega), if_neg (by omega), if_neg (by omega)]
  · rw [if_neg (by omega)]
  · rw [if_neg (by omega), if_neg (by omega)]
theorem kind_bits (x : Nat) : x &&& 61440 = (if x.testBit 12 then 4096 else 0) ||| (if x.testBit 13 then 8192 else 0) ||| (if x.testBit 14 then 16384 else 0) ||| (if x.testBit 15 then 32768 else 0) := by
  rw [show (61440 : Nat) = 2 ^ 12 ||| 2 ^ 13 ||| 2 ^ 14 ||| 2 ^ 15 from rfl, Nat.and_or_distrib_left, Nat.and_or_distrib_left, Nat.and_or_distrib_left, and_pow, and_pow, and_pow, and_pow]
theorem spot_list (hs : List Int) (a0 a1 a2 a3 a4 a5 a6 a7 a8 a9 : Str) : spotS hs [a0, a1, a2, a3, a4, a5, a6, a7, a8, a9] 3 =
    [a0, a1, a2, if hs.getD 11 0 = 1 then Txt.item (Str.ofString "Ss") (hs.getD 6 0) else a3, a4, a5, if hs.getD 10 0 = 1 then Txt.item (Str.ofString "Ss") (hs.getD 3 0) else a6, a7, a8, if hs.getD 9 0 = 1 then Txt.item (Str.ofString "Tt") (hs.getD 0 0) else a9] := by
  have e1 : Int.toNat 11 = 11 := rfl
  have e2 : Int.toNat 10 = 10 := rfl
  have e3 : Int.toNat 9 = 9 := rfl
  show (if hs.getD (Int.toNat 9) 0 = 1 then List.set (if hs.getD (Int.toNat 10) 0 = 1 then List.set (if hs.getD (Int.toNat 11) 0 = 1 then List.set [a0, a1, a2, a3, a4, a5, a6, a7, a8, a9] 3 (Txt.item (Str.ofString "Ss") (hs.getD 6 0)) else [a0, a1, a2, a3, a4, a5, a6, a7, a8, a9]) 6 (Txt.item (Str.ofString "Ss") (hs.getD 3 0)) else (if hs.getD (Int.toNat 11) 0 = 1 then List.set [a0, a1, a2, a3, a4, a5, a6, a7, a8, a9] 3 (Txt.item (Str.ofString "Ss") (hs.getD 6 0)) else [a0, a1, a2, a3, a4, a5, a6, a7, a8, a9])) 9 (Txt.item (Str.ofString "Tt") (hs.getD 0 0)) else (if hs.getD (Int.toNat 10) 0 = 1 then List.set (if hs.getD (Int.toNat 11) 0 = 1 then List.set [a0, a1, a2, a3, a4, a5, a6, a7, a8, a9] 3 (Txt.item (Str.ofString "Ss") (hs.getD 6 0)) else [a0, a1, a2, a3, a4, a5, a6, a7, a8, a9]) 6 (Txt.item (Str.ofString "Ss") (hs.getD 3 0)) else (if hs.getD (Int.toNat 11) 0 = 1 then List.set [a0, a1, a2, a3, a4, a5, a6, a7, a8, a9] 3 (Txt.item (Str.ofString "Ss") (hs.getD 6 0)) else [a0, a1, a2, a3, a4, a5, a6, a7, a8, a9]))) = _
  rw [e1, e2, e3]
  by_cases h1 : hs.getD 11 0 = 1 <;> by_cases h2 : hs.getD 10 0 = 1 <;> by_cases h3 : hs.getD 9 0 = 1 <;> simp only [h1, h2, h3, if_true, if_false] <;> rfl
theorem sign_bit {hs : List Int} {m : Nat} {k : Int} {i : Nat} (H : hs.getD i 0 = if m.testBit i then 1 else 0) (hk : (8 - k).toNat = i) : signF hs k = if m.testBit i then Txt.item (Str.ofString "rwxrwxrwx") k else Str.ofString "-" := by
  unfold signF
  rw [hk, H]
  cases m.testBit i <;> simp
theorem first_sign {hs : List Int} {m : Nat} (H : ∀ a < 16, hs.getD a 0 = if m.testBit a then 1 else 0) :
    rowF (m : Int) 0 = Txt.item (Str.ofString "?pc?d?b?-?l?s???") (8 * hs.getD (Int.toNat 15) 0 + 4 * hs.getD (Int.toNat 14) 0 + 2 * hs.getD (Int.toNat 13) 0 + hs.getD (Int.toNat 12) 0) := by
  rw [show Int.toNat 15 = 15 from rfl, show Int.toNat 14 = 14 from rfl, show Int.toNat 13 = 13 from rfl, show Int.toNat 12 = 12 from rfl, H 15 (by decide), H 14 (by decide), H 13 (by decide), H 12 (by decide)]
  have e : Builtin.bitAnd (m : Int) 61440 = ((m &&& 61440 : Nat) : Int) := bitAnd_nat m 61440
  rw [kind_bits] at e
  show pickF true (m : Int) [(40960, Str.ofString "l"), (49152, Str.ofString "s"), (32768, Str.ofString "-"), (24576, Str.ofString "b"), (16384, Str.ofString "d"), (8192, Str.ofString "c"), (4096, Str.ofString "p")] = _
  simp only [pickF, if_true]
  rw [e]
  cases m.testBit 12 <;> cases m.testBit 13 <;> cases m.testBit 14 <;> cases m.testBit 15 <;> decide +kernel
theorem shown_eq {hs : List Int} {m : Nat} (H : ∀ a < 16, hs.getD a 0 = if m.testBit a then 1 else 0) : permsF (m : Int) 10 = shownF hs := by
  have r1 : rowF (m : Int) 1 = signF hs 0 := by
    rw [sign_bit (H 8 (by decide)) rfl]
    exact (one_bit (i := 8) (b := 256) (c := Str.ofString "r") rfl).trans (by cases m.testBit 8 <;> decide +kernel)
  have r2 : rowF (m : Int) 2 = signF hs 1 := by
    rw [sign_bit (H 7 (by decide)) rfl]
    exact (one_bit (i := 7) (b := 128) (c := Str.ofString "w") rfl).trans (by cases m.testBit 7 <;> decide +kernel)
  have r4 : rowF (m : Int) 4 = signF hs 3 := by
    rw [sign_bit (H 5 (by decide)) rfl]
    exact (one_bit (i := 5) (b := 32) (c := Str.ofString "r") rfl).trans (by cases m.testBit 5 <;> decide +kernel)
  have r5 : rowF (m : Int) 5 = signF hs 4 := by
    rw [sign_bit (H 4 (by decide)) rfl]
    exact (one_bit (i := 4) (b := 16) (c := Str.ofString "w") rfl).trans (by cases m.testBit 4 <;> decide +kernel)
  have r7 : rowF (m : Int) 7 = signF hs 6 := by
    rw [sign_bit (H 2 (by decide)) rfl]
    exact (one_bit (i := 2) (b := 4) (c := Str.ofString "r") rfl).trans (by cases m.testBit 2 <;> decide +kernel)
  have r8 : rowF (m : Int) 8 = signF hs 7 := by
    rw [sign_bit (H 1 (by decide)) rfl]
    exact (one_bit (i := 1) (b := 2) (c := Str.ofString "w") rfl).trans (by cases m.testBit 1 <;> decide +kernel)
  have r3 : rowF (m : Int) 3 = if hs.getD 11 0 = 1 then Txt.item (Str.ofString "Ss") (hs.getD 6 0) else signF hs 2 := by
    rw [sign_bit (H 6 (by decide)) rfl, H 11 (by decide), H 6 (by decide)]
    exact (three_bits (i := 6) (j := 11) (b1 := 2112) (b2 := 2048) (b3 := 64) (c1 := Str.ofString "s") (c2 := Str.ofString "S") (c3 := Str.ofString "x") rfl rfl rfl (by decide) (by decide) (by decide)).trans (by cases m.testBit 6 <;> cases m.testBit 11 <;> decide +kernel)
  have r6 : rowF (m : Int) 6 = if hs.getD 10 0 = 1 then Txt.item (Str.ofString "Ss") (hs.getD 3 0) else signF hs 5 := by
    rw [sign_bit (H 3 (by decide)) rfl, H 10 (by decide), H 3 (by decide)]
    exact (three_bits (i := 3) (j := 10) (b1 := 1032) (b2 := 1024) (b3 := 8) (c1 := Str.ofString "s") (c2 := Str.ofString "S") (c3 := Str.ofString "x") rfl rfl rfl (by decide) (by decide) (by decide)).trans (by cases m.testBit 3 <;> cases m.testBit 10 <;> decide +kernel)
  have r9 : rowF (m : Int) 9 = if hs.getD 9 0 = 1 then Txt.item (Str.ofString "Tt") (hs.getD 0 0) else signF hs 8 := by
    rw [sign_bit (H 0 (by decide)) rfl, H 9 (by decide), H 0 (by decide)]
    exact (three_bits (i := 0) (j := 9) (b1 := 513) (b2 := 512) (b3 := 1) (c1 := Str.ofString "t") (c2 := Str.ofString "T") (c3 := Str.ofString "x") rfl rfl rfl (by decide) (by decide) (by decide)).trans (by cases m.testBit 0 <;> cases m.testBit 9 <;> decide +kernel)
  unfold shownF
  rw [spot_list, ← first_sign H, ← r1, ← r2, ← r3, ← r4, ← r5, ← r6, ← r7, ← r8, ← r9]
  rfl
theorem step_nat (o k m : Nat) : ledStep (o : Int) (k : Int) (m : Int) = ((stepN o k m : Nat) : Int) := by
  unfold ledStep stepN
  rw [Int.toNat_natCast, show (o : Int) * 2 ^ k = ((o * 2 ^ k : Nat) : Int) by push_cast; rfl, bitAnd_nat, bitXor_nat]
theorem led_nat (x : Nat) : ledI (x : Int) = ((ledN x : Nat) : Int) := by
  unfold ledI ledN
  rw [show ledStep (x : Int) 1 43690 = _ from step_nat x 1 43690, show ledStep _ 2 52428 = _ from step_nat (stepN x 1 43690) 2 52428, show ledStep _ 4 61680 = _ from step_nat _ 4 61680]
  exact step_nat _ 8 65280
theorem law_ok {ns : List Int} {i : Nat} {made : Int} {terms : List Int} (h1 : (filesF ns)[i]? = some made) (h2 : (sumsF ns)[i]? = some terms) : LawOk made terms := by
  obtain ⟨rfl, hok, hup⟩ := pair_at h1 h2
  have hm := poly_lt terms
  have H : ∀ a < 16, (holdsF terms).getD a 0 = if (polyN terms).testBit a then 1 else 0 := fun a ha => holds_at hok.2 ha
  have e : ledI ((polyN terms : Nat) : Int) = ((pows terms : Nat) : Int) := by rw [led_nat, led_poly hok.2]
  have hl := pows_lt hok.2
  refine ⟨by omega, due_eq hm H, by rw [shown_eq H], ?_, by rw [e]; omega, ?_⟩
  · rw [e, pows_sum (fun t ht => (hok.2 t ht).1) hup]
  · rw [e, led_nat, led_pows hok.2]
end
section
local macro_rules | `(tactic| walk_at "MINE Law") => `(tactic| fail)
set_option maxHeartbeats 8000000
local macro_rules | `(tactic| k_room) => `(tactic| (first | ((try simp only [depth_deeper]); (try dsimp only); omega) | decide))
local macro_rules | `(tactic| walk_at "exec For Tuple Call cons nil") => `(tactic| (k_here; k_dflt ((rename Fr _ _ _ _ => lF'); (with_unfolding_all refine' forEF lF' ?hs ?_; (case hs => intro _; with_unfolding_all rfl); k_whole))))
local macro_rules | `(tactic| walk_at "call ref") => `(tactic| ((with_reducible show wpAny _ _ (call (Value.ref 187) [Value.ref _]) _ _ _); refine Hold.out ?_))
local macro_rules | `(tactic| walk_at "call ref") => `(tactic| ((with_reducible show wpAny _ _ (call (Value.ref 199) [Value.ref _]) _ _ _); refine Hold.out ?_))
local macro_rules | `(tactic| walk_at "call ref") => `(tactic| ((with_reducible show wpAny _ _ (call (Value.ref 204) [Value.ref _]) _ _ _); refine Hold.out ?_))
local macro_rules | `(tactic| walk_at "call type:zip") => `(tactic| refine Hold.out ?_)
local macro_rules | `(tactic| walk_at "eval ListComp") => `(tactic| refine Hold.out ?_)
local macro_rules | `(tactic| walk_at "call builtin:len") => `(tactic| refine Hold.out ?_)
local macro_rules | `(tactic| walk_at "CompSrc") => `(tactic| refine Hold.out ?_)
local macro_rules | `(tactic| walk_at "CompSrcT") => `(tactic| refine Hold.out ?_)
local macro_rules | `(tactic| walk_at "MINE law") => `(tactic| fail)
example : True := by
  k_with "call ref" => (k_here; (with_reducible show wpAny _ _ (call (Value.ref 173) [Value.int _ _]) _ _ _); k_dflt (refine' call_str_K fm_spec ?B ?F ?X ?N ?T ?hh ?room ?hf ?hk ?_; (case B => k_asm); (case F => k_asm); (case X => k_asm); (case N => k_asm); (case T => k_asm); (case hh => exact rfl); (case room => k_room); (case hf => exact rfl); (case hk => exact rfl); k_whole; intro tz' hz' tkz' Fz' Nz'; (try dsimp only); (try k_sweep)))
  trivial
example : True := by
  k_with "call ref" => (k_here; (with_reducible show wpAny _ _ (call (Value.ref 194) [Value.int _ _]) _ _ _); k_dflt (refine' call_int_K (led_spec ?s1) ?B ?F ?X ?N ?T ?hh ?room ?hf ?hk ?_; (case s1 => assumption); (case B => k_asm); (case F => k_asm); (case X => k_asm); (case N => k_asm); (case T => k_asm); (case hh => exact rfl); (case room => k_room); (case hf => exact rfl); (case hk => exact rfl); k_whole; intro tz' hz' tkz' Fz' Nz'; (try dsimp only); (try k_sweep)))
  trivial

theorem cw : PySem.Challenge.rw_om0023_01.Holds := hd (by
  w_strict (
    k_go0
    (all_goals try k_fold)
    refine wpAny_noRaise ?_
    repeat' (first | walk1 | (dsimp only; walk1))
    (rename List Int => w7)
    refine Hold.mk ?_
    (rename IntsAre _ (_ ++ _) => hI0)
    (rename Fr _ _ _ _ => hF); (rename News _ _ _ _ => hN)
    have hlen0 : ([8, 2065, 2586, 3075, 572, 4149, 4630, 5191] ++ List.take 12 w7 : List Int).length ≤ 20 := by rw [List.length_append, List.length_take]; simp only [List.length_cons, List.length_nil]; omega
    generalize hns : ([8, 2065, 2586, 3075, 572, 4149, 4630, 5191] ++ List.take 12 w7 : List Int) = NS at hI0 hlen0
    k_dflt (refine' call_ints_K (files_spec hI0 hlen0) ?pre ?B hF ?X hN ?T ?hh ?room ?hf ?hk ?_; (case pre => exact News.isList hN (by k_mem)); (case B => k_asm); (case X => k_asm); (case T => k_asm); (case hh => exact rfl); (case room => k_room); (case hf => exact rfl); (case hk => exact rfl))
    clear hN
    intro fa fvs k1 h1 tk1 hfi offF F' N'
    repeat' (first | walk1 | (dsimp only; walk1))
    refine Hold.mk ?_
    (rename Fr _ _ _ _ => hF1); (rename News _ _ _ _ => hN)
    k_dflt (refine' call_rows_K (sums_spec hI0 hlen0) ?pre ?B hF1 ?X hN ?T ?hh ?room ?hf ?hk ?_; (case pre => exact News.isList hN (by k_mem)); (case B => k_asm); (case X => k_asm); (case T => k_asm); (case hh => exact rfl); (case room => k_room); (case hf => exact rfl); (case hk => exact rfl))
    intro sl refs k2 bag h2 tk2 hR offS offB F' NB N'
    clear hN
    repeat' (first | walk1 | (dsimp only; walk1))
    refine Hold.mk ?_
    (rename Fr _ _ _ _ => hF2); (rename News _ _ _ _ => hN)
    obtain ⟨M0, F0⟩ : ∃ m, Fr _ _ _ m := ⟨_, hF2⟩
    clear hF hF1 hF2
    k_dflt (refine' law_loop [Str.ofString "made", Str.ofString "due", Str.ofString "led"] ?z1 F0 hN NB ?zf ?zs ?zt ?zh ?zdt ?zdh hR hfi ?zl ?zo1 ?zo2 ?znf ?zns ?znt ?_ ?_)
    (case z1 => exact rfl)
    (case zf => k_mem)
    (case zs => exact List.mem_cons_self ..)
    (case zt => exact List.mem_of_getElem? (i := 6) rfl)
    (case zh => exact List.mem_of_getElem? (i := 5) rfl)
    (case zdt => assumption)
    (case zdh => assumption)
    (case zl => rw [files_len, sums_len])
    (case zo1 => exact offB _ (List.mem_of_getElem? (i := 5) rfl))
    (case zo2 => exact offB _ (List.mem_of_getElem? (i := 4) rfl))
    (case znf => exact ⟨Ne.symm (offF _ (List.mem_of_getElem? (i := 4) rfl)), Ne.symm (offF _ (List.mem_of_getElem? (i := 3) rfl))⟩)
    (case zns => exact ⟨Ne.symm (offS _ (List.mem_of_getElem? (i := 5) rfl)), Ne.symm (offS _ (List.mem_of_getElem? (i := 4) rfl))⟩)
    (case znt => exact Nat.ne_of_lt (Nat.lt_succ_self _))
    · clear hN F0
      intro wr i made terms T t ra tvs k' u ot oh vt vh h₁ tk₁ own own' hmade hterms hT hti hoff nrt nrh wt wh wb ho' hbo dt dh hF hN
      have hok : LawOk made terms := law_ok hmade hterms
      have hbd := hok.bd
      have hlb := hok.lbd
      have hrow : RowOk terms := sums_ok NS _ (List.mem_of_getElem? hterms)
      repeat' (first | walk1 | (dsimp only; walk1))
      (rename Fr _ _ _ _ => hF1); (rename News _ _ _ _ => hN1)
      (try clear hF); (try clear hN)
      refine Hold.mk ?_
      k_dflt (refine' comp_cell (holdG terms) 16 hF1 ?c1 ?c2 ?c3 ?c4 ?c5 ?c6 ?_ ?c7)
      (case c1 => with_unfolding_all rfl)
      (case c2 => exact rfl)
      (case c3 => decide)
      (case c4 => intro c; exact rfl)
      (case c5 => intro c; exact rfl)
      (case c6 => intro c1 c2; with_unfolding_all rfl)
      (case c7 => intro c; with_unfolding_all rfl)
      repeat' (first | walk1 | (dsimp only; walk1))
      (rename IsRange _ _ _ _ _ _ _ _ => hr1); (rename Fr _ _ _ _ => hF1); (rename News _ _ _ _ => hN1)
      k_dflt (refine' SrcCell.intro ?d1 hF1 hN1 hr1 ?d2 ?d3 ?d4 ?d5 ?_ ?_)
      (case d1 => exact rfl)
      (case d2 => exact rfl)
      (case d3 => decide)
      (case d4 => exact rfl)
      (case d5 => exact Nat.le_of_ble_eq_true rfl)
      · clear hF1 hN1
        intro ka kt I1 oI1 C1 oC1 D1 cA oA ys1 h9 tk9 hk0 hk1 dA hF1 hN1
        dsimp only
        repeat' (first | walk1 | (dsimp only; walk1))
        refine Hold.mk ?_
        (rename Fr _ _ _ _ => hF2); (rename News _ _ _ _ => hN2)
        k_dflt (refine' LCt.ListComp_T hF2 ?e1 ?e2 ?e3 ?e4 ?e5 ?_ ?e6)
        (case e1 => with_unfolding_all rfl)
        (case e2 => decide)
        (case e3 => exact rfl)
        (case e4 => decide)
        (case e5 => exact rfl)
        (case e6 => intro c; with_unfolding_all rfl)
        repeat' (first | walk1 | (dsimp only; walk1))
        refine Hold.mk ?_
        (rename Fr _ _ _ _ => hF2); (rename News _ _ _ _ => hN2)
        k_dflt (refine' LCt.CompSrcT.ledger ?f1 hF2 hN2 ?f2 ?f3 ?_)
        (case f1 => exact rfl)
        (case f2 => k_mem)
        (case f3 => show tvs.toArray.size ≤ _; rw [List.size_toArray, hti.length]; exact Nat.le_trans hrow.1 (by decide))
        intro g9
        refine' kci_list (subG ka) hti (fun k2' t2' I2' oI2' C2' oC2' D2' m2' ys2' l2' h2' tk2' E2' hk2' hi2' hC2' hx2' F2' N2' off2' ne2' mk2' => ?_) ?_ ?_
        · dsimp only
          repeat' (first | walk1 | (dsimp only; walk1))
          · refine LCg.CompEnd.intro F2' N2' _ (fun _ h => h) off2' (Or.inr ⟨W.listOf tvs.toArray k', by k_mem, rfl, _, rfl⟩) ?_
            exact kci_el (a := k2') (by unfold subG; rw [if_pos (by assumption)]) rfl rfl
          · refine LCg.CompEnd.intro F2' N2' _ (fun _ h => h) off2' (Or.inr ⟨W.listOf tvs.toArray k', by k_mem, rfl, _, rfl⟩) ?_
            exact kci_no (by unfold subG; rw [if_neg (by assumption)]) rfl
        · unfold KPfDone
          intro zs9 hz9 hzl9
          refine' (fun rD h9 tk9 F' N' o1' => ?_)
          try dsimp only
          repeat' (first | walk1 | (dsimp only; walk1))
          refine Hold.mk ?_
          (rename News _ _ _ _ => hN3)
          k_dflt (refine' len_ints hN3 (List.mem_cons_self ..) hz9 ?l1 ?_)
          (case l1 => rw [List.size_toArray, hti.length] at hzl9; exact Nat.lt_of_le_of_lt (Nat.le_trans hzl9 hrow.1) (by decide))
          intro tL tkL
          (try dsimp only)
          repeat' (first | walk1 | (dsimp only; walk1))
          · exact F'
          · exact fun p hp => hN3 p (List.mem_cons_of_mem _ hp)
        · intro l k
          unfold subG
          split <;> simp
      · clear hF1 hN1
        intro hD hvs h9 tk9 hhi hF1 hN1 o1'
        simp only [LCg.Off1] at o1'
        replace hhi : IntsAre hvs (holdsF terms) := hhi
        have hhl := holdsF_len terms
        have hhb := holdsF_bd terms
        generalize hHS : holdsF terms = HS at hhi hhl hhb
        dsimp only
        repeat' (first | walk1 | (dsimp only; walk1))
        refine Hold.mk ?_
        (rename Fr _ _ _ _ => hF2); (rename News _ _ _ _ => hN2)
        k_dflt (refine' LCt.ListComp_T hF2 ?e1 ?e2 ?e3 ?e4 ?e5 ?_ ?e6)
        (case e1 => with_unfolding_all rfl)
        (case e2 => decide)
        (case e3 => exact rfl)
        (case e4 => decide)
        (case e5 => exact rfl)
        (case e6 => intro c; with_unfolding_all rfl)
        repeat' (first | walk1 | (dsimp only; walk1))
        refine Hold.mk ?_
        k_dflt (refine LCt.CompSrcT.range (by rfl) (by k_asm) (by k_asm) (by assumption) (by decide) (n := 16) (by rfl) (by exact Nat.le_of_ble_eq_true rfl) ?_)
        intro g9
        refine' kci_range (dueG HS) (fun k2' t2' I2' oI2' C2' oC2' D2' m2' ys2' l2' h2' tk2' E2' hlo' hhi' hi2' hC2' hx2' F2' N2' off2' ne2' mk2' => ?_) ?_ ?_
        · dsimp only
          repeat' (first | walk1 | (dsimp only; walk1))
          · refine LCg.CompEnd.intro F2' N2' _ (fun _ h => h) off2' trivial ?_
            exact kci_el (a := 2 ^ k2'.toNat) (by unfold dueG; rw [if_pos (by assumption)]) rfl rfl
          · refine LCg.CompEnd.intro F2' N2' _ (fun _ h => h) off2' trivial ?_
            exact kci_no (by unfold dueG; rw [if_neg (by assumption)]) rfl
        · unfold KPfDone
          intro zs9 hz9 hzl9
          refine' (fun rD h9 tk9 F' N' o1' => ?_)
          simp only [LCg.Off1] at o1'
          dsimp only
          repeat' (first | walk1 | (dsimp only; walk1))
          refine Hold.mk ?_
          (rename Fr _ _ _ _ => hF3); (rename News _ _ _ _ => hN3)
          k_dflt (refine' call_specG_K (shown_spec hhi hhl hhb) ?pre ?B hF3 ?X hN3 ?T ?hh ?room ?hf ?hk ?_; (case pre => exact News.isList hN3 (by k_mem)); (case B => k_asm); (case X => k_asm); (case T => k_asm); (case hh => exact rfl); (case room => k_room); (case hf => exact rfl); (case hk => exact rfl))
          intro v9 h9 tk9 hv9 F' N'
          obtain ⟨t9, rfl⟩ := hv9
          clear hF3 hN3
          dsimp only
          repeat' (first | walk1 | (dsimp only; walk1))
          (rename News _ _ _ _ => hN3)
          k_dflt (refine' ne_two hN3 ?y1 ?y2 ?y3 (eq_ints ?y4) (eq_strs ?y5) ?_)
          (case y1 => k_mem)
          (case y2 => k_mem)
          (case y3 => simp only [units_deeper, units_caller]; decide)
          (case y4 => rw [← hHS]; exact hok.due)
          (case y5 => rw [← hHS]; exact hok.shown)
          (try dsimp only)
          repeat' (first | walk1 | (dsimp only; walk1))
          refine Hold.mk ?_
          (try clear hN3)
          (rename Fr _ _ _ _ => hF3); (rename News _ _ _ _ => hN3)
          k_dflt (refine' LCg.ListComp_U hF3 ?e1 ?e2 ?e3 ?e4 ?e5 ?_ ?e6)
          (case e1 => with_unfolding_all rfl)
          (case e2 => decide)
          (case e3 => exact rfl)
          (case e4 => decide)
          (case e5 => exact rfl)
          (case e6 => intro c; with_unfolding_all rfl)
          repeat' (first | walk1 | (dsimp only; walk1))
          refine Hold.mk ?_
          (rename Fr _ _ _ _ => hF3); (rename News _ _ _ _ => hN3)
          k_dflt (refine' LCg.CompSrc.ledger ?f1 hF3 hN3 ?f2 ?f3 ?_)
          (case f1 => exact rfl)
          (case f2 => k_mem)
          (case f3 => show tvs.toArray.size ≤ _; rw [List.size_toArray, hti.length]; exact Nat.le_trans hrow.1 (by decide))
          intro g9
          refine' kcf_list (fun t => 2 ^ t.toNat) hti (fun k2' t2' I2' oI2' C2' oC2' D2' m2' ys2' h2' tk2' E2' hk2' hC2' hx2' F2' N2' off2' ne2' mk2' => ?_) ?_
          · have hbt := hrow.2 k2' hk2'
            dsimp only
            repeat' (first | walk1 | (dsimp only; walk1))
          · unfold KPfDone
            intro zs8 hz8
            refine' (fun rE h9 tk9 F' N' o1' => ?_)
            have hsz8 : zs8.length ≤ 16 := by rw [hz8.length, List.length_map]; exact hrow.1
            dsimp only
            repeat' (first | walk1 | (dsimp only; walk1))
            · (rename News _ _ _ _ => hN4); (rename Fr _ _ _ _ => hF4)
              k_dflt (refine' law_end wt wh wb ho' hbo hF4 hN4 ?zt ?zh ?za ?zdt ?zdh ?zm)
              (case zt => k_mem)
              (case zh => k_mem)
              (case za => intro p hp; repeat (first | exact hp | refine List.mem_cons_of_mem _ ?_))
              (case zdt => assumption)
              (case zdh => assumption)
              (case zm =>
                intro y hy
                have h1 : y ≠ Str.ofString "made" := by rintro rfl; exact absurd hy (by decide)
                have h2 : y ≠ Str.ofString "due" := by rintro rfl; exact absurd hy (by decide)
                have h3 : y ≠ Str.ofString "led" := by rintro rfl; exact absurd hy (by decide)
                simp only [butM, if_neg h1, if_neg h2, if_neg h3, hy, Bool.false_eq_true, if_false])
            · exfalso
              (rename ¬ _ = _ => hne)
              apply hne
              rw [← hok.led, hok.back, ← hHS]
              exact congrArg (fun x => [ledI made, x]) hok.due
        · intro l k
          unfold dueG
          split <;> simp
    · clear hN F0
      intro u h9 tk9 hF hN
      (try dsimp only)
      k_steps
    ))
end
end Mine
theorem PySem.Challenge.cw_om0023_01_holds : PySem.Challenge.rw_om0023_01.Holds := by
  exact Mine.cw
