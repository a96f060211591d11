import PyProof.Rows.All
import Wide.All
import OpenK.AllK
import Open.Tops
import Wide.FinOn
import PySem.Challenge.RW_rl0105_01
set_option Elab.async false
namespace Mine
section
open Lean in
local macro_rules | `(tactic| walk_at $k:str) => `(tactic| k_extra $(Syntax.mkStrLit ("my " ++ k.getString)))
local macro_rules | `(tactic| k_head) => `(tactic| k_extra "my head")
local macro_rules | `(tactic| omega) => `(tactic| k_extra "my omega")
local macro_rules | `(tactic| k_mem) => `(tactic| k_extra "my mem")
local macro_rules | `(tactic| lcg_sub) => `(tactic| k_extra "my sub")
local macro_rules | `(tactic| k_room) => `(tactic| k_extra "my room")
local macro_rules | `(tactic| k_units) => `(tactic| k_extra "my units")
local macro_rules | `(tactic| k_ne) => `(tactic| k_extra "my ne")
local macro_rules | `(tactic| k_all) => `(tactic| k_extra "my all")
section
open PySem PySem.W PyProof.Rows
/-- the statements of the text, each by its place -/
def stAt (i : Nat) : Stmt := PySem.Challenge.pw_rl0105_01.main.body.getD i (Stmt.Pass { line := 0, col := 0, endLine := 0, endCol := 0 })
def pw9 : Program := { PySem.Challenge.pw_rl0105_01 with main := { PySem.Challenge.pw_rl0105_01.main with body := [stAt 0, stAt 1, stAt 2, stAt 3, stAt 4, stAt 5, stAt 6, stAt 7, stAt 8, stAt 9, stAt 10, stAt 11, stAt 12, stAt 13, stAt 14, stAt 15, stAt 16, stAt 17, stAt 18, stAt 19, stAt 20, stAt 21] } }
def rw9 : OpenLaw := { prog := pw9, name := Str.ofString "law", about := [Str.ofString "int_divmod"], foot := 5, most := some 63, bound := none, writes := false }
theorem pw9_eq : pw9 = PySem.Challenge.pw_rl0105_01 := by kernel_rfl
theorem rw9_eq : rw9 = PySem.Challenge.rw_rl0105_01 := by kernel_rfl
set_option maxRecDepth 100000 in
set_option maxHeartbeats 8000000 in
open_shared tp for pw9 leaving 0
/-- the written part: the objects of the top that the law can come to -/
noncomputable def K39 : Params → Frag := fun P => (nat_lit 2, boot_o_2 P) :: (nat_lit 3, tp.o_131 P) :: (nat_lit 15, tp.o_7 P) :: (nat_lit 17, tp.o_9 P) :: (nat_lit 18, tp.o_10 P) :: (nat_lit 20, tp.o_12 P) ::
  (nat_lit 21, tp.o_13 P) :: (nat_lit 22, tp.o_14 P) :: (nat_lit 23, tp.o_15 P) :: (nat_lit 25, tp.o_17 P) :: (nat_lit 26, tp.o_18 P) :: (nat_lit 28, tp.o_20 P) ::
  (nat_lit 29, tp.o_21 P) :: (nat_lit 30, tp.o_22 P) :: (nat_lit 32, tp.o_24 P) :: (nat_lit 33, tp.o_25 P) :: (nat_lit 35, tp.o_27 P) :: (nat_lit 36, tp.o_28 P) ::
  (nat_lit 37, tp.o_29 P) :: (nat_lit 39, tp.o_31 P) :: (nat_lit 40, tp.o_32 P) :: (nat_lit 42, tp.o_34 P) :: (nat_lit 43, tp.o_35 P) :: (nat_lit 44, tp.o_36 P) ::
  (nat_lit 46, tp.o_38 P) :: (nat_lit 47, tp.o_39 P) :: (nat_lit 49, tp.o_41 P) :: (nat_lit 50, tp.o_42 P) :: (nat_lit 51, tp.o_43 P) :: (nat_lit 53, tp.o_45 P) ::
  (nat_lit 54, tp.o_46 P) :: (nat_lit 56, tp.o_48 P) :: (nat_lit 57, tp.o_49 P) :: (nat_lit 58, tp.o_50 P) :: (nat_lit 60, tp.o_52 P) :: (nat_lit 61, tp.o_53 P) ::
  (nat_lit 63, tp.o_55 P) :: (nat_lit 64, tp.o_56 P) :: (nat_lit 65, tp.o_57 P) :: (nat_lit 67, tp.o_59 P) :: (nat_lit 68, tp.o_60 P) :: (nat_lit 70, tp.o_62 P) ::
  (nat_lit 71, tp.o_63 P) :: (nat_lit 72, tp.o_64 P) :: (nat_lit 74, tp.o_66 P) :: (nat_lit 75, tp.o_67 P) :: (nat_lit 77, tp.o_69 P) :: (nat_lit 78, tp.o_70 P) ::
  (nat_lit 79, tp.o_71 P) :: (nat_lit 81, tp.o_73 P) :: (nat_lit 82, tp.o_74 P) :: (nat_lit 84, tp.o_76 P) :: (nat_lit 85, tp.o_77 P) :: (nat_lit 86, tp.o_81 P) ::
  (nat_lit 88, tp.o_83 P) :: (nat_lit 89, tp.o_84 P) :: (nat_lit 91, tp.o_86 P) :: (nat_lit 92, tp.o_87 P) :: (nat_lit 100, tp.o_95 P) :: (nat_lit 102, tp.o_97 P) ::
  (nat_lit 103, tp.o_98 P) :: (nat_lit 105, tp.o_100 P) :: (nat_lit 106, tp.o_101 P) :: (nat_lit 107,
  tp.o_102 P) :: (nat_lit 109, tp.o_104 P) :: (nat_lit 110, tp.o_105 P) ::
  (nat_lit 112, tp.o_107 P) :: (nat_lit 113, tp.o_108 P) :: (nat_lit 114, tp.o_109 P) :: (nat_lit 116, tp.o_111 P) :: (nat_lit 117, tp.o_112
  P) :: (nat_lit 119, tp.o_114 P) ::
  (nat_lit 120, tp.o_115 P) :: (nat_lit 121, tp.o_116 P) :: (nat_lit 123, tp.o_118 P) :: (nat_lit 124, tp.o_119 P) :: (nat_lit 126, tp.o_121 P) :: (nat_lit 127, tp.o_122 P) ::
  (nat_lit 128, tp.o_123 P) :: (nat_lit 129, tp.o_124 P) :: (nat_lit 130, tp.o_125 P) :: (nat_lit 131, tp.o_126 P) :: (nat_lit 132, tp.o_127 P) :: (nat_lit 135, tp.o_133 P) ::
  (nat_lit 137, tp.o_135 P) :: (nat_lit
  138, tp.o_136 P) :: (nat_lit 140, tp.o_138 P) :: (nat_lit 141, tp.o_139 P) :: (nat_lit 142, tp.o_140 P) :: (nat_lit 144, tp.o_142 P) ::
  (nat_lit 145, tp.o_143 P) :: (nat_lit 147, tp.o_145 P) :: (nat_lit 148,
  tp.o_146 P) :: (nat_lit 149, tp.o_147 P) :: (nat_lit 152, tp.o_150 P) :: (nat_lit 153, tp.o_151 P) ::
  (nat_lit 154, tp.o_152 P) :: (nat_lit 156, tp.o_154 P) :: (nat_lit 157, tp.o_155 P) :: (nat_lit 159, tp.o_157
  P) :: (nat_lit 160, tp.o_158 P) :: (nat_lit 161, tp.o_159 P) ::
  (nat_lit 164, tp.o_162 P) :: (nat_lit 165, tp.o_163 ((fun (_ : (tp.o_131 P).slots.size = 0) => P) rfl)) :: []
theorem headLine : True := by
  (k_with "my head" => o_head (kmHook K39 (nat_lit 2 :: nat_lit 3 :: nat_lit 15 :: nat_lit 17 :: nat_lit 18 :: nat_lit 20 :: nat_lit 21 :: nat_lit 22 :: nat_lit 23 :: nat_lit 25 :: nat_lit 26 :: nat_lit 28 :: nat_lit 29 :: nat_lit 30 :: nat_lit 32 :: nat_lit 33 :: nat_lit
  35 :: nat_lit 36 :: nat_lit 37 :: nat_lit 39 :: nat_lit 40 :: nat_lit 42 :: nat_lit 43 :: nat_lit 44 :: nat_lit 46 :: nat_lit 47 :: nat_lit 49 :: nat_lit 50 :: nat_lit 51 :: nat_lit 53 :: nat_lit 54 :: nat_lit 56 :: nat_lit 57 :: nat_lit 58 :: nat_lit 60 :: nat_lit 61 :: nat_lit 63 :: nat_lit 64 :: nat_lit 65 :: nat_lit 67 :: nat_lit 68 :: nat_lit 70 :: nat_lit 71 :: nat_lit 72 :: nat_lit 74 :: nat_lit 75 :: nat_lit 77 :: nat_lit 78 :: nat_lit 79 :: nat_lit
  81 :: nat_lit 82 :: nat_lit 84 :: nat_lit 85 :: nat_lit 86 :: nat_lit 88 :: nat_lit 89 :: nat_lit 91 :: nat_lit 92 :: nat_lit 100 :: nat_lit 102 :: nat_lit 103 :: nat_lit 105 :: nat_lit 106 :: nat_lit 107 :: nat_lit 109 :: nat_lit
  110 :: nat_lit 112 :: nat_lit 113 :: nat_lit 114 :: nat_lit 116 :: nat_lit 117 :: nat_lit 119 :: nat_lit 120 :: nat_lit 121 :: nat_lit 123 :: nat_lit 124 :: nat_lit 126 :: nat_lit 127 :: nat_lit 128 :: nat_lit 129 :: nat_lit 130 :: nat_lit 131 :: nat_lit 132 :: nat_lit 135 :: nat_lit 137 :: nat_lit 138 :: nat_lit 140 :: nat_lit 141 :: nat_lit 142 :: nat_lit 144 :: nat_lit 145 :: nat_lit 147 :: nat_lit 148 :: nat_lit 149 :: nat_lit 152 :: nat_lit 153 :: nat_lit 154 :: nat_lit 156 :: nat_lit 157 :: nat_lit 159 :: nat_lit 160 :: nat_lit 161 :: nat_lit 164 :: nat_lit 165 :: []) (fun _ => by kernel_rfl) [136, 66, 59, 31]))
  trivial
set_option maxRecDepth 100000 in
set_option maxHeartbeats 8000000 in
open_top hd for rw9
end
section
open PySem PySem.W PyProof.Rows PySem.Calls

theorem lineA : True := by
  (k_with "my omega" => (first | with_reducible assumption | (law_purse 30000 => lia) | omega +splitDisjunctions))
  trivial
noncomputable def Stopped (P : Prop) : Prop := P
theorem stopHere {P : Prop} (h : Stopped P) : P := h
noncomputable def onFor {α : Type} (s : PySem.Stmt) (k : List PySem.Stmt → Option α) : Option α :=
  @PySem.Stmt.casesOn (fun _ => Option α) s (fun _ _ _ _ _ _ _ _ _ _ => none) (fun _ _ _ _ _ _ _ _ _ _ => none) (fun _ _ _ _ _ _ _ _ _ _ _ => none) (fun _ _ => none) (fun _ _ => none) (fun _ _ _ => none) (fun _ _ _ _ _ _ _ => none) (fun _ _ _ _ => none) (fun _ _ _ _ _ => none) (fun _ _ b _ _ => k b) (fun _ _ _ _ _ => none) (fun _ _ _ _ => none) (fun _ _ _ _ => none) (fun _ _ _ => none) (fun _ _ _ => none) (fun _ _ _ => none) (fun _ _ _ => none) (fun _ _ _ _ _ => none) (fun _ _ _ _ _ => none) (fun _ _ _ => none) (fun _ _ => none) (fun _ _ _ _ => none) (fun _ _ => none) (fun _ _ => none) (fun _ _ => none) (fun _ => none) (fun _ => none) (fun _ => none)
noncomputable def onIf {α : Type} (s : PySem.Stmt) (k : PySem.Expr → List PySem.Stmt → Option α) : Option α :=
  @PySem.Stmt.casesOn (fun _ => Option α) s (fun _ _ _ _ _ _ _ _ _ _ => none) (fun _ _ _ _ _ _ _ _ _ _ => none) (fun _ _ _ _ _ _ _ _ _ _ _ => none) (fun _ _ => none) (fun _ _ => none) (fun _ _ _ => none) (fun _ _ _ _ _ _ _ => none) (fun _ _ _ _ => none) (fun _ _ _ _ _ => none) (fun _ _ _ _ _ => none) (fun _ _ _ _ _ => none) (fun _ _ _ _ => none) (fun t _ e _ => k t e) (fun _ _ _ => none) (fun _ _ _ => none) (fun _ _ _ => none) (fun _ _ _ => none) (fun _ _ _ _ _ => none) (fun _ _ _ _ _ => none) (fun _ _ _ => none) (fun _ _ => none) (fun _ _ _ _ => none) (fun _ _ => none) (fun _ _ => none) (fun _ _ => none) (fun _ => none) (fun _ => none) (fun _ => none)
noncomputable def onAssign {α : Type} (s : PySem.Stmt) (k : PySem.Expr → Option α) : Option α :=
  @PySem.Stmt.casesOn (fun _ => Option α) s (fun _ _ _ _ _ _ _ _ _ _ => none) (fun _ _ _ _ _ _ _ _ _ _ => none) (fun _ _ _ _ _ _ _ _ _ _ _ => none) (fun _ _ => none) (fun _ _ => none) (fun _ v _ => k v) (fun _ _ _ _ _ _ _ => none) (fun _ _ _ _ => none) (fun _ _ _ _ _ => none) (fun _ _ _ _ _ => none) (fun _ _ _ _ _ => none) (fun _ _ _ _ => none) (fun _ _ _ _ => none) (fun _ _ _ => none) (fun _ _ _ => none) (fun _ _ _ => none) (fun _ _ _ => none) (fun _ _ _ _ _ => none) (fun _ _ _ _ _ => none) (fun _ _ _ => none) (fun _ _ => none) (fun _ _ _ _ => none) (fun _ _ => none) (fun _ _ => none) (fun _ _ => none) (fun _ => none) (fun _ => none) (fun _ => none)
noncomputable def onDef {α : Type} (s : PySem.Stmt) (k : Str → PySem.Arguments → List PySem.Stmt → Scope → Option α) : Option α :=
  @PySem.Stmt.casesOn (fun _ => Option α) s (fun n a b _ _ _ c _ _ _ => k n a b c) (fun _ _ _ _ _ _ _ _ _ _ => none) (fun _ _ _ _ _ _ _ _ _ _ _ => none) (fun _ _ => none) (fun _ _ => none) (fun _ _ _ => none) (fun _ _ _ _ _ _ _ => none) (fun _ _ _ _ => none) (fun _ _ _ _ _ => none) (fun _ _ _ _ _ => none) (fun _ _ _ _ _ => none) (fun _ _ _ _ => none) (fun _ _ _ _ => none) (fun _ _ _ => none) (fun _ _ _ => none) (fun _ _ _ => none) (fun _ _ _ => none) (fun _ _ _ _ _ => none) (fun _ _ _ _ _ => none) (fun _ _ _ => none) (fun _ _ => none) (fun _ _ _ _ => none) (fun _ _ => none) (fun _ _ => none) (fun _ _ => none) (fun _ => none) (fun _ => none) (fun _ => none)
noncomputable def onCall {α : Type} (s : PySem.Expr) (k : List PySem.Expr → Option α) : Option α :=
  @PySem.Expr.casesOn (fun _ => Option α) s (fun _ _ _ => none) (fun _ _ _ => none) (fun _ _ _ _ => none) (fun _ _ _ => none) (fun _ _ _ _ => none) (fun _ _ _ _ => none) (fun _ _ _ => none) (fun _ _ _ => none) (fun _ _ _ _ => none) (fun _ _ _ _ => none) (fun _ _ _ _ _ => none) (fun _ _ _ _ => none) (fun _ _ => none) (fun _ _ => none) (fun _ _ => none) (fun _ _ _ _ => none) (fun _ l _ _ => k l) (fun _ _ _ _ => none) (fun _ _ => none) (fun _ _ _ => none) (fun _ _ _ => none) (fun _ _ _ => none) (fun _ _ => none) (fun _ _ => none) (fun _ _ => none) (fun _ _ _ => none) (fun _ _ _ _ => none)
noncomputable def onComp {α : Type} (s : PySem.Expr) (k : PySem.Expr → List PySem.Comprehension → Scope → Option α) : Option α :=
  @PySem.Expr.casesOn (fun _ => Option α) s (fun _ _ _ => none) (fun _ _ _ => none) (fun _ _ _ _ => none) (fun _ _ _ => none) (fun _ _ _ _ => none) (fun _ _ _ _ => none) (fun _ _ _ => none) (fun _ _ _ => none) (fun e g c _ => k e g c) (fun _ _ _ _ => none) (fun _ _ _ _ _ => none) (fun _ _ _ _ => none) (fun _ _ => none) (fun _ _ => none) (fun _ _ => none) (fun _ _ _ _ => none) (fun _ _ _ _ => none) (fun _ _ _ _ => none) (fun _ _ => none) (fun _ _ _ => none) (fun _ _ _ => none) (fun _ _ _ => none) (fun _ _ => none) (fun _ _ => none) (fun _ _ => none) (fun _ _ _ => none) (fun _ _ _ _ => none)
noncomputable def onLam {α : Type} (s : PySem.Expr) (k : PySem.Arguments → PySem.Expr → Scope → Option α) : Option α :=
  @PySem.Expr.casesOn (fun _ => Option α) s (fun _ _ _ => none) (fun _ _ _ => none) (fun _ _ _ _ => none) (fun _ _ _ => none) (fun a b c _ => k a b c) (fun _ _ _ _ => none) (fun _ _ _ => none) (fun _ _ _ => none) (fun _ _ _ _ => none) (fun _ _ _ _ => none) (fun _ _ _ _ _ => none) (fun _ _ _ _ => none) (fun _ _ => none) (fun _ _ => none) (fun _ _ => none) (fun _ _ _ _ => none) (fun _ _ _ _ => none) (fun _ _ _ _ => none) (fun _ _ => none) (fun _ _ _ => none) (fun _ _ _ => none) (fun _ _ _ => none) (fun _ _ => none) (fun _ _ => none) (fun _ _ => none) (fun _ _ _ => none) (fun _ _ _ _ => none)
noncomputable def onCompare {α : Type} (s : PySem.Expr) (k : PySem.Expr → Option α) : Option α :=
  @PySem.Expr.casesOn (fun _ => Option α) s (fun _ _ _ => none) (fun _ _ _ => none) (fun _ _ _ _ => none) (fun _ _ _ => none) (fun _ _ _ _ => none) (fun _ _ _ _ => none) (fun _ _ _ => none) (fun _ _ _ => none) (fun _ _ _ _ => none) (fun _ _ _ _ => none) (fun _ _ _ _ _ => none) (fun _ _ _ _ => none) (fun _ _ => none) (fun _ _ => none) (fun _ _ => none) (fun l _ _ _ => k l) (fun _ _ _ _ => none) (fun _ _ _ _ => none) (fun _ _ => none) (fun _ _ _ => none) (fun _ _ _ => none) (fun _ _ _ => none) (fun _ _ => none) (fun _ _ => none) (fun _ _ => none) (fun _ _ _ => none) (fun _ _ _ _ => none)
noncomputable def onBin {α : Type} (s : PySem.Expr) (k : PySem.Expr → Option α) : Option α :=
  @PySem.Expr.casesOn (fun _ => Option α) s (fun _ _ _ => none) (fun _ _ _ => none) (fun _ _ r _ => k r) (fun _ _ _ => none) (fun _ _ _ _ => none) (fun _ _ _ _ => none) (fun _ _ _ => none) (fun _ _ _ => none) (fun _ _ _ _ => none) (fun _ _ _ _ => none) (fun _ _ _ _ _ => none) (fun _ _ _ _ => none) (fun _ _ => none) (fun _ _ => none) (fun _ _ => none) (fun _ _ _ _ => none) (fun _ _ _ _ => none) (fun _ _ _ _ => none) (fun _ _ => none) (fun _ _ _ => none) (fun _ _ _ => none) (fun _ _ _ => none) (fun _ _ => none) (fun _ _ => none) (fun _ _ => none) (fun _ _ _ => none) (fun _ _ _ _ => none)
noncomputable def fnParts (K : Frag) (f : Addr) : Option (List Stmt × Scope) := match K.lookup f with
  | some ⟨_, _, .func fd, _⟩ => (match fd.body with
    | .stmts b => some (b, fd.scope)
    | _ => none)
  | _ => none
noncomputable def compOf (q : Scope) (r : PySem.Expr) : Option (Expr × Expr × Scope × Expr × Scope) := onComp r fun elt g s2 => (g[0]?).bind fun gn => @PySem.Comprehension.casesOn (fun _ => Option (Expr × Expr × Scope × Expr × Scope)) gn fun _ it _ _ => some (r, elt, s2, it, q)
/-- every object stays -/
noncomputable def Kp (h h' : Heap) : Prop := ∀ b o, h.get? b = some o → h'.get? b = some o

section
variable {prog : Program} {w : World} {A A₀ : Around} {E : Value → Shared → Prop} {s : Shared} {K : Frag} {L : Addr} {h₀ base : Heap} {m mg mb : Str → Option Value} {news : List (Addr × Obj)} {p : Program} {loose : List Str} {mean : ExcName → Option Value}

/-- what a PySem.leaving body hands to its caller, with the ground below it kept -/
noncomputable def RK (g : Heap) (R : Result → Shared → Prop) (r : Result) (s' : Shared) : Prop := Kp g s'.heap → R r s'

theorem leaveM {h₀ g : Heap} {L : Addr} {m : Str → Option Value} {R : Result → Shared → Prop} {v : Value} {s' : Shared} (h : LeaveK h₀ L m g (RK g R) v s') : LeaveK h₀ L m g R v s' := by
  obtain ⟨L', m', news', F', N', k⟩ := h
  exact ⟨L', m', news', F', N', fun a b => k a b F'.keep⟩

theorem codeM {env : Env} {outer : List Env} {R : Result → Shared → Prop} {name qual : Str} {params : Arguments} {body : List Stmt} {scope : Scope} {dV kV doc pm cdv ct oc : Value} {an od : Option Addr} {osl : Array (Option Value)} {f : Addr} {args : Args} {binds : List (Str × Value)}
    (B : Below A₀ base outer h₀) (F : Fr h₀ L s.heap m) (X₀ : K.In h₀) (N : News h₀ L s.heap news) (T : Top p loose mean mg mb h₀) (hA : A.frames = some (env :: outer)) (hf : env.frame = some L) (hke : env.scope.kind = .function)
    (ho : K.lookup f = some ⟨oc, od, .func (fnOf name qual params body scope dV kV doc pm an cdv ct), osl⟩) (hcd : codeIn K cdv qual = true) (hroom : A.depth < recursionLimit)
    (hbind : BindsTo s (fnOf name qual params body scope dV kV doc pm an cdv ct) args binds) (hloc : ∀ y ∈ binds, scope.names.lookup y.1 = some .local)
    (h : ∀ g L' h₁, (∀ b o, s.heap.get? b = some o → b ∉ news.map (·.1) → g.get? b = some o) → Fr h₀ L g m → Fr g L' h₁ (fun y => binds.reverse.lookup y) → News g L' h₁ news → Below A base (env :: outer) g → K.In g → Top p loose mean mg mb g → (∀ p ∈ news, p.1 < L') → Eq (α := Nat) L' s.heap.objs.size →
      wpAny (model prog w) (A.deeper (envOf qual scope L' f cdv)) (execs body (envOf qual scope L' f cdv))
        (fun fl s' => LeaveK h₀ L m g (RK g R) (match fl with | .ret v => v | _ => .none) s')
        (fun e s' => wpAny (model prog w) (A.deeper (envOf qual scope L' f cdv)) (PySem.leaving (envOf qual scope L' f cdv) e) (fun _ s'' => R (.error e) s'') (fun e' s'' => R (.error e') s'') s')
        { s with heap := h₁, toks := s.toks + binds.length })
    (hco : scope.isCoroutine = false) (hgen : scope.isGenerator = false) (hk : scope.kind = .function)
    (hcell : ∀ x ∈ scope.names, x.2 ≠ .cell) : codeAny (model prog w) A (.call (.ref f) args) R s := by
  obtain ⟨FG, BG, st, lv⟩ := groundX (R := R) B F N hA hf hke
  refine codeAny_call_def (fd := fnOf name qual params body scope dV kV doc pm an cdv ct) (body := body) (binds := binds) hroom ((X₀.keeps F.keep) _ _ ho) rfl (T.nolimit.keeps F.keep) (codeRec_of (X₀.keeps F.keep) hcd) rfl hbind hcell hloc (fun h₁ hns hk₁ => ?_) hco hgen hk
  exact wpAny_mono (h _ s.heap.objs.size h₁ (fun b o e hb => hideAll_get _ e hb) FG ⟨hns, fun b o e => hk₁ b o (of_hideAll _ e), Nat.le_of_eq (hideAll_size _ _)⟩
    (fun p hp => ⟨hk₁ _ _ (N p hp).1, Nat.ne_of_lt (Heap.lt_size (N p hp).1), hideAll_none _ (List.mem_map_of_mem hp)⟩) BG (X₀.keeps st) (T.keeps st) (fun p hp => Heap.lt_size (N p hp).1) rfl) (fun fl s' hl => lv _ _ (leaveM hl)) fun _ _ y => y

theorem codeMC {env : Env} {outer : List Env} {R : Result → Shared → Prop} {name qual : Str} {params : Arguments} {body : List Stmt} {scope : Scope} {dV kV doc pm cdv ct oc : Value} {an od : Option Addr} {osl : Array (Option Value)} {f : Addr} {args : Args} {binds : List (Str × Value)}
    (B : Below A₀ base outer h₀) (F : Fr h₀ L s.heap m) (X₀ : K.In h₀) (N : News h₀ L s.heap news) (T : Top p loose mean mg mb h₀) (hA : A.frames = some (env :: outer)) (hf : env.frame = some L) (hke : env.scope.kind = .function)
    (ho : K.lookup f = some ⟨oc, od, .func (fnOf name qual params body scope dV kV doc pm an cdv ct), osl⟩) (hcd : codeIn K cdv qual = true) (hroom : A.depth < recursionLimit)
    (hbind : BindsTo s (fnOf name qual params body scope dV kV doc pm an cdv ct) args binds) (hkind : (binds.all fun y => scope.names.lookup y.1 == some .local || scope.names.lookup y.1 == some .cell) = true)
    (hnd : ((cellsFrom 0 scope.names []).map (·.1)).Nodup)
    (h : ∀ g L' h₁ tk cells, (∀ b o, s.heap.get? b = some o → b ∉ news.map (·.1) → g.get? b = some o) → Fr h₀ L g m → Fr g L' h₁ (bindL (envOfC qual scope L' f cdv).kindOf binds fun _ => none) → News g L' h₁ (cells ++ news) →
      CellsAre (bindC (envOfC qual scope L' f cdv).kindOf binds fun _ => none) (cellsFrom (L' + 1) scope.names []) cells → Below A base (env :: outer) g → K.In g → Top p loose mean mg mb g → (∀ p ∈ news, p.1 < L') → Eq (α := Nat) L' s.heap.objs.size →
      wpAny (model prog w) (A.deeper (envOfC qual scope L' f cdv)) (execs body (envOfC qual scope L' f cdv))
        (fun fl s' => LeaveK h₀ L m g (RK g R) (match fl with | .ret v => v | _ => .none) s')
        (fun e s' => wpAny (model prog w) (A.deeper (envOfC qual scope L' f cdv)) (PySem.leaving (envOfC qual scope L' f cdv) e) (fun _ s'' => R (.error e) s'') (fun e' s'' => R (.error e') s'') s')
        { s with heap := h₁, toks := tk })
    (hco : scope.isCoroutine = false) (hgen : scope.isGenerator = false) (hk : scope.kind = .function) : codeAny (model prog w) A (.call (.ref f) args) R s := by
  obtain ⟨FG, BG, st, lv⟩ := groundX (R := R) B F N hA hf hke
  refine codeAny_call_function hroom ((X₀.keeps F.keep) _ _ ho) rfl hco hgen rfl (codeRec_of (X₀.keeps F.keep) hcd) (hbind _ _ _ _ ?_)
  refine wpAny_newFunctionEnv_cells hk (kindsX hkind _) fun env' he s' x => ?_
  subst he
  refine ⟨(T.nolimit.keeps F.keep).keeps x.toInCall.keep, codeAny_func ?_⟩
  obtain ⟨h₁, tk, rfl, _⟩ := x.done
  have hk₁ := x.toInCall.keep
  obtain ⟨cells, NC, Y⟩ := Cl.news (h₀ := s.heap) (Nat.le_refl _) fun n c hm => ⟨x.cell n c (lookup_of_mem_nodup (cellsFrom_names scope.names 0 (s.heap.objs.size + 1) [] [] rfl ▸ hnd) hm), x.above n c hm⟩
  refine wpAny_mono (h _ s.heap.objs.size h₁ tk cells (fun b o e hb => hideAll_get _ e hb) FG ⟨x.toInCall.ns, fun b o e => hk₁ b o (of_hideAll _ e), Nat.le_of_eq (hideAll_size _ _)⟩ (fun p hp => ?_) Y BG (X₀.keeps st) (T.keeps st) (fun p hp => Heap.lt_size (N p hp).1) rfl) (fun fl s' hl => lv _ _ (leaveM hl)) fun _ _ y => y
  rcases List.mem_append.mp hp with hp | hp
  · refine ⟨(NC p hp).1, (NC p hp).2.1, ?_⟩
    cases q : (hideAll s.heap (news.map (·.1))).get? p.1 with
    | none => rfl
    | some o => have := of_hideAll _ q; rw [(NC p hp).2.2] at this; cases this
  · exact ⟨hk₁ _ _ (N p hp).1, Nat.ne_of_lt (Heap.lt_size (N p hp).1), hideAll_none _ (List.mem_map_of_mem hp)⟩
end

theorem kpFr {h₀ h h' : Heap} {L : Addr} {m : Str → Option Value} (F : Fr h₀ L h m) (k : Kp h h') : Fr h₀ L h' m := ⟨F.ns.keeps k, fun b o e => k b o (F.keep b o e), F.above⟩
theorem kpNews {h₀ h h' : Heap} {L : Addr} {news : List (Addr × Obj)} (N : News h₀ L h news) (k : Kp h h') : News h₀ L h' news := fun p hp => ⟨k _ _ (N p hp).1, (N p hp).2⟩
theorem kpNew {h₀ h h' : Heap} {L D : Addr} {m : Str → Option Value} {o : Obj} {news : List (Addr × Obj)} (F : Fr h₀ L h m) (N : News h₀ L h news) (k : Kp h h') (hd : h'.get? D = some o) (hD : h.objs.size ≤ D) : News h₀ L h' ((D, o) :: news) := by
  intro p hp
  rcases List.mem_cons.mp hp with rfl | hp
  · have hL := F.ns.lt
    refine ⟨hd, ?_, Heap.get?_none_of_le (Nat.le_trans F.above (Nat.le_trans (Nat.le_of_lt hL) hD))⟩
    exact Nat.ne_of_gt (Nat.lt_of_lt_of_le hL hD)
  · exact kpNews N k p hp
theorem newsSub {h₀ h : Heap} {L : Addr} {news news' : List (Addr × Obj)} (N : News h₀ L h news) (hs : ∀ p ∈ news', p ∈ news) : News h₀ L h news' := fun p hp => N p (hs p hp)
theorem kpOf {s₀ h g : Heap} {small : List (Addr × Obj)} (hg : ∀ b o, s₀.get? b = some o → b ∉ small.map (·.1) → g.get? b = some o) (hk : Kp g h) (hs : ∀ q ∈ small, s₀.get? q.1 = some q.2) (hs' : ∀ q ∈ small, h.get? q.1 = some q.2) : Kp s₀ h := by
  intro b o e
  by_cases hb : b ∈ small.map (·.1)
  · obtain ⟨q, hq, rfl⟩ := List.mem_map.mp hb
    have := hs q hq
    rw [e] at this
    cases this
    exact hs' q hq
  · exact hk b o (hg b o e hb)
theorem allNil {α : Type} {P : α → Prop} : ∀ p ∈ ([] : List α), P p := List.forall_mem_nil P
theorem allCons {α : Type} {P : α → Prop} {x : α} {l : List α} (h : P x) (r : ∀ p ∈ l, P p) : ∀ p ∈ x :: l, P p := List.forall_mem_cons.mpr (And.intro h r)
theorem m9_0 {a : Addr × Obj} {as : List (Addr × Obj)} : a ∈ a :: as := .head _
theorem m9_1 {x0 a : Addr × Obj} {as : List (Addr × Obj)} : a ∈ x0 :: a :: as := .tail _ (.head _)
theorem m9_2 {x0 x1 a : Addr × Obj} {as : List (Addr × Obj)} : a ∈ x0 :: x1 :: a :: as := .tail _ (.tail _ (.head _))
theorem m9_3 {x0 x1 x2 a : Addr × Obj} {as : List (Addr × Obj)} : a ∈ x0 :: x1 :: x2 :: a :: as := .tail _ (.tail _ (.tail _ (.head _)))
theorem m9_4 {x0 x1 x2 x3 a : Addr × Obj} {as : List (Addr × Obj)} : a ∈ x0 :: x1 :: x2 :: x3 :: a :: as := .tail _ (.tail _ (.tail _ (.tail _ (.head _))))
theorem m9_5 {x0 x1 x2 x3 x4 a : Addr × Obj} {as : List (Addr × Obj)} : a ∈ x0 :: x1 :: x2 :: x3 :: x4 :: a :: as := .tail _ (.tail _ (.tail _ (.tail _ (.tail _ (.head _)))))
theorem m9_6 {x0 x1 x2 x3 x4 x5 a : Addr × Obj} {as : List (Addr × Obj)} : a ∈ x0 :: x1 :: x2 :: x3 :: x4 :: x5 :: a :: as := .tail _ (.tail _ (.tail _ (.tail _ (.tail _ (.tail _ (.head _))))))
theorem m9_7 {x0 x1 x2 x3 x4 x5 x6 a : Addr × Obj} {as : List (Addr × Obj)} : a ∈ x0 :: x1 :: x2 :: x3 :: x4 :: x5 :: x6 :: a :: as := .tail _ (.tail _ (.tail _ (.tail _ (.tail _ (.tail _ (.tail _ (.head _)))))))
theorem m9_s {a x0 x1 x2 x3 x4 x5 x6 x7 : Addr × Obj} {as : List (Addr × Obj)} (h : a ∈ as) : a ∈ x0 :: x1 :: x2 :: x3 :: x4 :: x5 :: x6 :: x7 :: as := .tail _ (.tail _ (.tail _ (.tail _ (.tail _ (.tail _ (.tail _ (.tail _ (h))))))))
theorem newsNil {h₀ h : Heap} {L : Addr} : News h₀ L h [] := fun _ hp => nomatch hp
theorem newsCons {h₀ h : Heap} {L : Addr} {news : List (Addr × Obj)} (N : News h₀ L h news) {p : Addr × Obj} {r : List (Addr × Obj)} (hm : p ∈ news) (R : News h₀ L h r) : News h₀ L h (p :: r) := by
  intro q hq
  rcases List.mem_cons.mp hq with rfl | hq
  · exact N _ hm
  · exact R q hq
theorem newsGet {h₀ h : Heap} {L : Addr} {news : List (Addr × Obj)} {a : Addr} {o : Obj} (N : News h₀ L h news) (hm : (a, o) ∈ news) : h.get? a = some o := (N _ hm).1
theorem newsLt {h₀ h : Heap} {L D : Addr} {news : List (Addr × Obj)} (N : News h₀ L h news) (hD : h.objs.size ≤ D) : ∀ p ∈ news, p.1 < D := fun p hp => Nat.lt_of_lt_of_le (Heap.lt_size (N p hp).1) hD
end
section
open PySem PySem.W PyProof.Rows PySem.Calls
open Builtin Builtin.Str PySem.NumText
noncomputable def d2 (n : Nat) : List Nat := [48 + n / 10, 48 + n % 10]
noncomputable def d4 (n : Nat) : List Nat := [48 + n / 1000, 48 + n / 100 % 10, 48 + n / 10 % 10, 48 + n % 10]
noncomputable def sL (l : List Nat) : Str := ⟨l.toArray⟩
theorem map_chars : ∀ (cs : List Nat), AllDigits cs → (cs.map Char.ofNat).map Char.toNat = cs
  | [], _ => rfl
  | c :: cs, h => by
    have hc := h.head
    have e : (Char.ofNat c).toNat = c := by
      have : ∀ i : Nat, i < 10 → (Char.ofNat (48 + i)).toNat = 48 + i := by decide
      have := this (c - 48) (by first | with_reducible assumption | omega)
      rwa [show 48 + (c - 48) = c from by omega] at this
    simp only [List.map_cons, map_chars cs h.tail, e]
theorem digs {n : Int} (h : 0 ≤ n) : (Str.ofString (toString n)).cps.toList = (Nat.toDigits 10 n.toNat).map Char.toNat := by
  obtain ⟨k, rfl⟩ := Int.eq_ofNat_of_zero_le h
  rw [Str.ofString_eq_toList]
  show ((toString (k : Int)).toList.map Char.toNat) = _
  have e : toString (k : Int) = String.ofList (Nat.toDigits 10 k) := rfl
  rw [e, String.toList_ofList, Int.toNat_natCast]
theorem drop_zero : ∀ cs : List Nat, List.replicate (cs.length - (cs.dropWhile (· == 48)).length) 48 ++ cs.dropWhile (· == 48) = cs
  | [] => rfl
  | c :: cs => by
    by_cases hc : c = 48
    · subst hc
      have ih := drop_zero cs
      have hl : (cs.dropWhile (· == 48)).length ≤ cs.length := len_dropWhile _ _
      simp only [List.dropWhile_cons, beq_self_eq_true, if_true, List.length_cons]
      rw [Nat.add_comm, Nat.add_sub_assoc hl, Nat.add_comm, List.replicate_succ, List.cons_append, ih]
    · simp [List.dropWhile_cons, hc]
/-- the text of a number, filled up to k signs -/
theorem pad_text {cs : List Nat} (h : AllDigits cs) (hne : cs ≠ []) : (((Nat.toDigits 10 (digitsVal cs)).map Char.toNat).length ≤ cs.length) ∧ List.replicate (cs.length - ((Nat.toDigits 10 (digitsVal cs)).map Char.toNat).length) 48 ++ (Nat.toDigits 10 (digitsVal cs)).map Char.toNat = cs ∧ (∀ c ∈ (Nat.toDigits 10 (digitsVal cs)).map Char.toNat, 48 ≤ c ∧ c ≤ 57) := by
  have hz := drop_zero cs
  have hl : (cs.dropWhile (· == 48)).length ≤ cs.length := len_dropWhile _ _
  rw [toDigits_all cs h]
  cases hd : cs.dropWhile (· == 48) with
  | nil =>
    rw [hd] at hz
    have hp : 0 < cs.length := List.length_pos_iff.mpr hne
    simp only [List.length_nil, Nat.sub_zero, List.append_nil] at hz
    refine ⟨hp, ?_, by simp⟩
    show List.replicate (cs.length - 1) 48 ++ [48] = cs
    rw [← List.replicate_succ', Nat.sub_add_cancel hp, hz]
  | cons c r =>
    rw [hd] at hz hl
    have ha : AllDigits (c :: r) := by
      intro x hx
      have : x ∈ cs := by rw [← hz]; exact List.mem_append_right _ hx
      exact h x this
    simp only [map_chars _ ha]
    exact ⟨hl, hz, ha⟩
theorem pad_field {k : Nat} {cs : List Nat} (h : AllDigits cs) (hne : cs ≠ []) (hk : cs.length = k) :
    (percentField { zero := true, width := some k, type := 100 } true ((Nat.toDigits 10 (digitsVal cs)).map Char.toNat) = none ∧ (Nat.toDigits 10 (digitsVal cs)).map Char.toNat = cs) ∨ percentField { zero := true, width := some k, type := 100 } true ((Nat.toDigits 10 (digitsVal cs)).map Char.toNat) = some cs := by
  obtain ⟨h1, h2, h3⟩ := pad_text h hne
  generalize (Nat.toDigits 10 (digitsVal cs)).map Char.toNat = t at h1 h2 h3
  subst hk
  unfold percentField
  by_cases hc : cs.length ≤ t.length
  · refine .inl ⟨by simp [hc], ?_⟩
    have e : cs.length - t.length = 0 := by omega
    rw [e] at h2
    simpa using h2
  · refine .inr ?_
    cases t with
    | nil => simp only [List.length_nil, Nat.sub_zero, List.append_nil] at h2; simp [hne, h2]
    | cons c r =>
      have hc3 := h3 c (List.mem_cons_self ..)
      have n45 : c ≠ 45 := by omega
      have n43 : c ≠ 43 := by omega
      simp only [hc, decide_false, Bool.false_and, Option.all_some, Option.getD_some]
      simp
      split
      · rename_i e; injection e with e1 e2; omega
      · rename_i e; injection e with e1 e2; omega
      · simpa using h2
section
variable {M : Model} {A : Around} {E : Value → Shared → Prop} {s : Shared} {β : Type} {w : Writer} {T : Str} {N : Nat} {o : Option Value}
theorem pad_piece {c : Percent} {n : Int} {k : Nat} {d : List Nat} {Q : β → Shared → Prop} (K : Writer → Sem β) (cs : List Nat) (g : KPc.Good w T N) (hc : c = { zero := true, width := some k, type := 100 }) (hn : 0 ≤ n)
    (hd : d = (Str.ofString (toString ((n.natAbs : Nat) : Int))).cps.toList) (hcs : AllDigits cs) (hne : cs ≠ []) (hk : cs.length = k) (hv : digitsVal cs = n.toNat) (ho : o = none)
    (h : ∀ w', KPc.Good w' (T ++ sL cs) (N + k) → wpAny M A (K w') Q E s) :
    wpAny M A (match percentField c true (percentInt c (decide (n < 0)) d) with
      | none => K (w.add ⟨(percentInt c (decide (n < 0)) d).toArray⟩ o)
      | some laid => K (w.add ⟨laid.toArray⟩ none)) Q E s := by
  have en : ((n.natAbs : Nat) : Int) = n := Int.natAbs_of_nonneg hn
  have e1 : percentInt c (decide (n < 0)) d = (Nat.toDigits 10 (digitsVal cs)).map Char.toNat := by
    rw [KPc.int_text c (by rw [hc]) (Or.inl (by rw [hc])) (by rw [hc]) hn, hd, en, digs hn, hv]
  rw [e1]
  subst hc
  have hL : (sL cs).length = k := by rw [← hk]; simp [sL, Str.length]
  rcases pad_field hcs hne hk with ⟨p1, p2⟩ | p1
  · rw [p1]
    show wpAny M A (K (w.add ⟨((Nat.toDigits 10 (digitsVal cs)).map Char.toNat).toArray⟩ o)) Q E s
    rw [p2]
    have := KPc.good_add (x := sL cs) g (KPc.obj_none ho)
    rw [hL] at this
    exact h _ this
  · rw [p1]
    have := KPc.good_add (x := sL cs) (o := none) g (KPc.obj_none rfl)
    rw [hL] at this
    exact h _ this
end
theorem dig10 {m : Nat} (h : m < 10) : 48 ≤ 48 + m ∧ 48 + m ≤ 57 := ⟨Nat.le_add_right _ _, Nat.add_le_add_left (Nat.le_of_lt_succ h) 48⟩
theorem dv2 {a b : Nat} : digitsVal [48 + a, 48 + b] = a * 10 + b := by
  show (0 * 10 + (48 + a - 48)) * 10 + (48 + b - 48) = _
  rw [Nat.add_sub_cancel_left, Nat.add_sub_cancel_left, Nat.zero_mul, Nat.zero_add]
theorem dv4 {a b c d : Nat} : digitsVal [48 + a, 48 + b, 48 + c, 48 + d] = ((a * 10 + b) * 10 + c) * 10 + d := by
  show (((0 * 10 + (48 + a - 48)) * 10 + (48 + b - 48)) * 10 + (48 + c - 48)) * 10 + (48 + d - 48) = _
  rw [Nat.add_sub_cancel_left, Nat.add_sub_cancel_left, Nat.add_sub_cancel_left, Nat.add_sub_cancel_left, Nat.zero_mul, Nat.zero_add]
theorem d2_all {n : Nat} (h : n < 100) : AllDigits (d2 n) ∧ digitsVal (d2 n) = n := by
  refine ⟨List.forall_mem_cons.mpr ⟨dig10 (Nat.div_lt_of_lt_mul h), List.forall_mem_cons.mpr ⟨dig10 (Nat.mod_lt _ (by decide)), List.forall_mem_nil _⟩⟩, ?_⟩
  unfold d2
  rw [dv2, Nat.div_add_mod']
theorem d4_all {n : Nat} (h : n < 10000) : AllDigits (d4 n) ∧ digitsVal (d4 n) = n := by
  refine ⟨List.forall_mem_cons.mpr ⟨dig10 (Nat.div_lt_of_lt_mul h), List.forall_mem_cons.mpr ⟨dig10 (Nat.mod_lt _ (by decide)), List.forall_mem_cons.mpr ⟨dig10 (Nat.mod_lt _ (by decide)), List.forall_mem_cons.mpr ⟨dig10 (Nat.mod_lt _ (by decide)), List.forall_mem_nil _⟩⟩⟩⟩, ?_⟩
  have e1 : n / 1000 = n / 100 / 10 := (Nat.div_div_eq_div_mul n 100 10).symm
  have e2 : n / 100 = n / 10 / 10 := (Nat.div_div_eq_div_mul n 10 10).symm
  unfold d4
  rw [dv4, e1, Nat.div_add_mod', e2, Nat.div_add_mod', Nat.div_add_mod']
end
theorem lineB : True := by
  k_with_none
  trivial
section
open PySem PySem.W PyProof.Rows PySem.Calls
open Builtin Builtin.Str
theorem str_ext {a b : Str} (h : a.cps.toList = b.cps.toList) : a = b := by
  cases a; cases b
  exact congrArg Str.mk (Array.toList_inj.mp h)
theorem fmt_text (wd mo zone : Str) (a b c d e : List Nat) : wd ++ Str.ofString ", " ++ sL a ++ Str.ofString " " ++ mo ++ Str.ofString " " ++ sL b ++ Str.ofString " " ++ sL c ++ Str.ofString ":" ++ sL d ++ Str.ofString ":" ++ sL e ++ Str.ofString " " ++ zone =
   sL (wd.cps.toList ++ [44, 32] ++ a ++ [32] ++ mo.cps.toList ++ [32] ++ b ++ [32] ++ c ++ [58] ++ d ++ [58] ++ e ++ [32] ++ zone.cps.toList) := by
  have e1 : (Str.ofString ", ").cps.toList = [44, 32] := by decide +kernel
  have e2 : (Str.ofString " ").cps.toList = [32] := by decide +kernel
  have e3 : (Str.ofString ":").cps.toList = [58] := by decide +kernel
  apply str_ext
  simp only [Str.cps_append, Array.toList_append, e1, e2, e3, sL]
theorem turnF {M : Model} {A : Around} {E : Value → Shared → Prop} {s : Shared} {β : Type} {l : List Nat} {x : Nat} {b : β} {f F : Nat → β → Sem (ForInStep β)} {Q : β → Shared → Prop} (hf : f = F)
    (h : wpAny M A (F x b) (fun r s' => match r with | .done b' => Q b' s' | .yield b' => wpAny M A (forIn l b' f) Q E s') E s) : wpAny M A (forIn (x :: l) b f) Q E s := by
  subst hf; exact KPc.turn h
theorem foldF {M : Model} {A : Around} {E : Value → Shared → Prop} {s : Shared} {β : Type} {l : List Nat} {b : β} {F : Nat → β → Sem (ForInStep β)} {Q : β → Shared → Prop}
    (h : ∀ (f : Nat → β → Sem (ForInStep β)) (Q' : β → Shared → Prop), f = F → Q' = Q → wpAny M A (forIn l b f) Q' E s) : wpAny M A (forIn l b F) Q E s := h F Q rfl rfl
theorem objIte {c : Prop} [Decidable c] {x : Str} {t : Tok} : KPc.Obj (if c then some (.str x t) else none) x := by
  split
  · exact KPc.obj_some rfl
  · exact KPc.obj_none rfl
set_option maxRecDepth 100000 in
set_option maxHeartbeats 4000000 in
theorem pct {prog : Program} {w : World} {A : Around} {E : Value → Shared → Prop} {s : Shared} {T wd mo zone : Str} {y d hh mi sc : Int} {t t1 t2 t3 t4 t5 t6 t7 t8 : Tok} {Q : Value → Shared → Prop} {b L : Addr} {n : Nat} {h₀ : Heap} {news : List (Addr × Obj)}
   (N : News h₀ L s.heap news) (hb : (b, ({ cls := .type "tuple", data := .seq #[.str wd t1, .int d t2, .str mo t3, .int y t4, .int hh t5, .int mi t6, .int sc t7, .str zone t8] n } : Obj)) ∈ news)
   (hwd : wd.length ≤ 10) (hmo : mo.length ≤ 10) (hz : zone.length ≤ 10) (d0 : 0 ≤ d) (d1 : d < 100) (y0 : 0 ≤ y) (y1 : y < 10000) (h0 : 0 ≤ hh) (h1 : hh < 100) (m0 : 0 ≤ mi) (m1 : mi < 100) (s0 : 0 ≤ sc) (s1 : sc < 100)
   (hT : T = sL (wd.cps.toList ++ [44, 32] ++ d2 d.toNat ++ [32] ++ mo.cps.toList ++ [32] ++ d4 y.toNat ++ [32] ++ d2 hh.toNat ++ [58] ++ d2 mi.toNat ++ [58] ++ d2 sc.toNat ++ [32] ++ zone.cps.toList))
   (h : ∀ t' k, Q (.str T t') { s with toks := k }) : wpAny (model prog w) A (binaryOp .Mod (.str (Str.ofString "%s, %02d %s %04d %02d:%02d:%02d %s") t) (.ref b)) Q E s := by
  refine KPt.mod_tuple (its := #[.str wd t1, .int d t2, .str mo t3, .int y t4, .int hh t5, .int mi t6, .int sc t7, .str zone t8]) N hb (by kpt_eq) ?_ h
  apply KPt.meets_tup
  intro pr9 w9 A9 s9 Q9 E9 kptH kptK
  obtain ⟨kptO, kptG, kptC, kptN, kptD⟩ := kptH
  rw [KPt.entry_is_r]
  unfold Builtin.Str.percentFormat
  refine wpAny_bind (wpAny_isInstance (T := "tuple") ⟨kptO, kptG, kptC⟩ KPt.sub_tt ?_)
  refine wpAny_bind (KPt.asStr_ref kptG kptD ?_)
  refine wpAny_bind (KPt.fills_ref ⟨kptO, kptG, kptC⟩ ?_)
  intro _
  kpc_if
  refine wpAny_bind (wpAny_seqItems kptG kptD ?_)
  refine wpAny_bind (wpAny_pure ?_)
  refine wpAny_bind ?_
  rw [KPc.range_list]
  refine KPc.start ?_
  intro w0 g0
  refine foldF ?_
  intro f Q8 hf hQ8
  have litC : ∀ (x : Nat) (l : List Nat) (p : List Value) (r : List Nat) (w : Writer) (T : Str) (N k : Nat), KPc.Good w T N → N ≤ 1000 →
      (∀ w', KPc.Good w' (T ++ Str.ofString ", ") (N + 2) → wpAny (model pr9 w9) A9 (forIn l (p, w', 37 :: r) f) Q8 E9 { s9 with toks := k }) → wpAny (model pr9 w9) A9 (forIn (x :: l) (p, w, 44 :: 32 :: 37 :: r) f) Q8 E9 { s9 with toks := k } := by
    intro x l p r w T N k g hN h
    refine turnF hf ?_
    refine wpAny_ite (KPc.ite_no (KPc.short_good g (Nat.le_trans hN (by decide))) ?_); (repeat kpc_if)
    refine wpAny_pure ?_
    exact KPc.after_add g (by kpc_text) (by kpc_obj) h
  have litS : ∀ (x : Nat) (l : List Nat) (p : List Value) (r : List Nat) (w : Writer) (T : Str) (N k : Nat), KPc.Good w T N → N ≤ 1000 →
      (∀ w', KPc.Good w' (T ++ Str.ofString " ") (N + 1) → wpAny (model pr9 w9) A9 (forIn l (p, w', 37 :: r) f) Q8 E9 { s9 with toks := k }) → wpAny (model pr9 w9) A9 (forIn (x :: l) (p, w, 32 :: 37 :: r) f) Q8 E9 { s9 with toks := k } := by
    intro x l p r w T N k g hN h
    refine turnF hf ?_
    refine wpAny_ite (KPc.ite_no (KPc.short_good g (Nat.le_trans hN (by decide))) ?_); (repeat kpc_if)
    refine wpAny_pure ?_
    exact KPc.after_add g (by kpc_text) (by kpc_obj) h
  have litK : ∀ (x : Nat) (l : List Nat) (p : List Value) (r : List Nat) (w : Writer) (T : Str) (N k : Nat), KPc.Good w T N → N ≤ 1000 →
      (∀ w', KPc.Good w' (T ++ Str.ofString ":") (N + 1) → wpAny (model pr9 w9) A9 (forIn l (p, w', 37 :: r) f) Q8 E9 { s9 with toks := k }) → wpAny (model pr9 w9) A9 (forIn (x :: l) (p, w, 58 :: 37 :: r) f) Q8 E9 { s9 with toks := k } := by
    intro x l p r w T N k g hN h
    refine turnF hf ?_
    refine wpAny_ite (KPc.ite_no (KPc.short_good g (Nat.le_trans hN (by decide))) ?_); (repeat kpc_if)
    refine wpAny_pure ?_
    exact KPc.after_add g (by kpc_text) (by kpc_obj) h
  have sT : ∀ (x : Nat) (l : List Nat) (v : Str) (t : Tok) (p : List Value) (r : List Nat) (w : Writer) (T : Str) (N k : Nat), KPc.Good w T N → N ≤ 1000 → v.length ≤ 10 →
      (∀ w' k', KPc.Good w' (T ++ v) (N + 10) → wpAny (model pr9 w9) A9 (forIn l (p, w', r) f) Q8 E9 { s9 with toks := k' }) → wpAny (model pr9 w9) A9 (forIn (x :: l) (.str v t :: p, w, 37 :: 115 :: r) f) Q8 E9 { s9 with toks := k } := by
    intro x l v t p r w T N k g hN hv h
    refine turnF hf ?_
    refine wpAny_ite (KPc.ite_no (KPc.short_good g (Nat.le_trans hN (by decide))) ?_); (repeat kpc_if)
    refine wpAny_bind ?_; refine wpAny_holding ?_; (repeat kpc_if); kpt_conv; refine wpAny_pure ?_; refine wpAny_pure ?_
    exact KPc.after_str g hv objIte fun w' g' => h w' _ g'
  have dT : ∀ (x : Nat) (l : List Nat) (n : Int) (t : Tok) (p : List Value) (r : List Nat) (w : Writer) (T : Str) (N k : Nat), KPc.Good w T N → N ≤ 1000 → 0 ≤ n → n < 100 →
      (∀ w' k', KPc.Good w' (T ++ sL (d2 n.toNat)) (N + 2) → wpAny (model pr9 w9) A9 (forIn l (p, w', r) f) Q8 E9 { s9 with toks := k' }) → wpAny (model pr9 w9) A9 (forIn (x :: l) (.int n t :: p, w, 37 :: 48 :: 50 :: 100 :: r) f) Q8 E9 { s9 with toks := k } := by
    intro x l n t p r w T N k g hN h0 h1 h
    have hq : n.toNat < 100 := by omega
    refine turnF hf ?_
    refine wpAny_ite (KPc.ite_no (KPc.short_good g (Nat.le_trans hN (by decide))) ?_); (repeat kpc_if)
    (refine wpAny_bind ?_; refine wpAny_holding ?_; (repeat kpc_if); kpt_conv)
    refine wpAny_pure ?_
    refine pad_piece (n := n) (k := 2) (K := fun w' => pure (ForInStep.yield (_, w', _))) (d2 n.toNat) g rfl h0 rfl (d2_all hq).1 (fun e => nomatch e) rfl (d2_all hq).2 (by kpc_none) ?_
    intro w' g'
    exact wpAny_pure (h w' _ g')
  have dF : ∀ (x : Nat) (l : List Nat) (n : Int) (t : Tok) (p : List Value) (r : List Nat) (w : Writer) (T : Str) (N k : Nat), KPc.Good w T N → N ≤ 1000 → 0 ≤ n → n < 10000 →
      (∀ w' k', KPc.Good w' (T ++ sL (d4 n.toNat)) (N + 4) → wpAny (model pr9 w9) A9 (forIn l (p, w', r) f) Q8 E9 { s9 with toks := k' }) → wpAny (model pr9 w9) A9 (forIn (x :: l) (.int n t :: p, w, 37 :: 48 :: 52 :: 100 :: r) f) Q8 E9 { s9 with toks := k } := by
    intro x l n t p r w T N k g hN h0 h1 h
    have hq : n.toNat < 10000 := by omega
    refine turnF hf ?_
    refine wpAny_ite (KPc.ite_no (KPc.short_good g (Nat.le_trans hN (by decide))) ?_); (repeat kpc_if)
    (refine wpAny_bind ?_; refine wpAny_holding ?_; (repeat kpc_if); kpt_conv)
    refine wpAny_pure ?_
    refine pad_piece (n := n) (k := 4) (K := fun w' => pure (ForInStep.yield (_, w', _))) (d4 n.toNat) g rfl h0 rfl (d4_all hq).1 (fun e => nomatch e) rfl (d4_all hq).2 (by kpc_none) ?_
    intro w' g'
    exact wpAny_pure (h w' _ g')
  have hs9 : s9 = { s9 with toks := s9.toks } := rfl
  rw [hs9]
  refine sT _ _ _ _ _ _ _ _ _ _ g0 (by decide) hwd ?_; intro w1 k1 g1
  refine litC _ _ _ _ _ _ _ _ g1 (by decide) ?_; intro w2 g2
  refine dT _ _ _ _ _ _ _ _ _ _ g2 (by decide) d0 d1 ?_; intro w3 k3 g3
  refine litS _ _ _ _ _ _ _ _ g3 (by decide) ?_; intro w4 g4
  refine sT _ _ _ _ _ _ _ _ _ _ g4 (by decide) hmo ?_; intro w5 k5 g5
  refine litS _ _ _ _ _ _ _ _ g5 (by decide) ?_; intro w6 g6
  refine dF _ _ _ _ _ _ _ _ _ _ g6 (by decide) y0 y1 ?_; intro w7 k7 g7
  refine litS _ _ _ _ _ _ _ _ g7 (by decide) ?_; intro w8 g8
  refine dT _ _ _ _ _ _ _ _ _ _ g8 (by decide) h0 h1 ?_; intro w9 k9 g9
  refine litK _ _ _ _ _ _ _ _ g9 (by decide) ?_; intro w10 g10
  refine dT _ _ _ _ _ _ _ _ _ _ g10 (by decide) m0 m1 ?_; intro w11 k11 g11
  refine litK _ _ _ _ _ _ _ _ g11 (by decide) ?_; intro w12 g12
  refine dT _ _ _ _ _ _ _ _ _ _ g12 (by decide) s0 s1 ?_; intro w13 k13 g13
  refine litS _ _ _ _ _ _ _ _ g13 (by decide) ?_; intro w14 g14
  refine sT _ _ _ _ _ _ _ _ _ _ g14 (by decide) hz ?_; intro w15 k15 g15
  refine turnF hf ?_
  refine wpAny_ite (KPc.ite_no (KPc.short_good g15 (by decide)) ?_); (repeat kpc_if)
  refine wpAny_pure ?_
  rw [hQ8]
  kpc_if
  exact KPc.finish_ok (T' := T) g15 (by decide) (by rw [KPc.empty_app, hT]; exact fmt_text _ _ _ _ _ _ _ _) (fun t' k => kptK t' k)
end
theorem lineC9 : True := by
  (k_with "my omega" => (first | with_reducible assumption | (law_purse 30000 => lia) | omega +splitDisjunctions))
  trivial
section
open PySem PySem.W PyProof.Rows
noncomputable def NeH (a b : Nat) : Prop := a ≠ b
theorem NeH.out {a b : Nat} (h : NeH a b) : Ne (α := Nat) a b := h
theorem lexNe {x dx st ds f c' D cL : Addr} : LT.lt (α := Nat) 136 D → LT.lt (α := Nat) D cL → LT.lt (α := Nat) cL st → LT.lt (α := Nat) cL ds → LT.lt (α := Nat) st c' → LT.lt (α := Nat) ds c' → LT.lt (α := Nat) c' f → LT.lt (α := Nat) f x → LT.lt (α := Nat) f dx → Ne (α := Nat) st ds → Ne (α := Nat) x dx → NeH x D ∧ NeH st D ∧ NeH ds D ∧ NeH f D ∧ NeH c' D ∧ NeH cL D ∧ NeH 136 D ∧ NeH dx D ∧ NeH st dx ∧ NeH ds dx ∧ NeH f dx ∧ NeH c' dx ∧ NeH cL dx ∧ NeH 136 dx ∧ NeH x dx := by
  intro q0 q1 q2 q3 q4 q5 q6 q7 q8 q9 q10
  exact ⟨Nat.ne_of_gt (Nat.lt_trans q1 (Nat.lt_trans q2 (Nat.lt_trans q4 (Nat.lt_trans q6 q7)))), Nat.ne_of_gt (Nat.lt_trans q1 q2), Nat.ne_of_gt (Nat.lt_trans q1 q3), Nat.ne_of_gt (Nat.lt_trans q1 (Nat.lt_trans q2 (Nat.lt_trans q4 q6))), Nat.ne_of_gt (Nat.lt_trans q1 (Nat.lt_trans q2 q4)), Nat.ne_of_gt q1, Nat.ne_of_lt q0, Nat.ne_of_gt (Nat.lt_trans q1 (Nat.lt_trans q2 (Nat.lt_trans q4 (Nat.lt_trans q6 q8)))), Nat.ne_of_lt (Nat.lt_trans q4 (Nat.lt_trans q6 q8)), Nat.ne_of_lt (Nat.lt_trans q5 (Nat.lt_trans q6 q8)), Nat.ne_of_lt q8, Nat.ne_of_lt (Nat.lt_trans q6 q8), Nat.ne_of_lt (Nat.lt_trans q2 (Nat.lt_trans q4 (Nat.lt_trans q6 q8))), Nat.ne_of_lt (Nat.lt_trans q0 (Nat.lt_trans q1 (Nat.lt_trans q2 (Nat.lt_trans q4 (Nat.lt_trans q6 q8))))), q10⟩
end
section
open PySem PySem.W PyProof.Rows PySem.Calls
theorem lineD : True := by
  k_with_none
  (k_with "my omega" => (first | with_reducible assumption | (law_purse 30000 => lia) | omega +splitDisjunctions))
  (k_with "my mem" => (first | exact m9_0 | exact m9_1 | exact m9_2 | exact m9_3 | exact m9_4 | exact m9_5 | exact m9_6 | exact m9_7 | (refine' m9_s ?_; k_mem)))
  (k_with "my sub" => (first | exact allNil | exact allCons (by k_mem) (by lcg_sub) | (intro q9 hq9; repeat (first | with_reducible exact hq9 | refine List.mem_cons_of_mem _ ?_))))
  (k_with "my room" => ktr_room)
  (k_with "my units" => ktr_units)
  (k_with "my ne" => (refine neN ?_; (try dsimp only); first | exact NeH.out (by assumption) | exact Ne.symm (NeH.out (by assumption)) | omega))
  (k_with "my all" => (first | exact allNil | (refine' allCons ?_ ?_; focus k_ne; k_all)))
  (k_with "my exec Assign" => k_fold)
  (k_with "my exec Expr" => k_fold)
  (k_with "my exec If" => k_fold)
  (k_with "my exec AugAssign" => k_fold)
  (k_with "my eval BinOp" => k_fold)
  (k_with "my eval Compare" => k_fold)
  (k_with "my eval Subscript" => k_fold)
  (k_with "my eval Call" => k_fold)
  (k_with "my eval Call Attribute" => k_fold)
  (k_with "my eval IfExp" => k_fold)
  (k_with "my eval List" => k_fold)
  (k_with "my eval Tuple" => k_fold)
  trivial
end
section
open PySem PySem.W PyProof.Rows PySem.Calls
theorem kbFr {h₀ h h' : Heap} {L P : Addr} {m : Str → Option Value} {o : Obj} {news : List (Addr × Obj)} (F : Fr h₀ L h m) (N : News h₀ L h news) (hm : (P, o) ∈ news) (k : ∀ b o, h.get? b = some o → b ≠ P → h'.get? b = some o) : Fr h₀ L h' m := by
  obtain ⟨hP, hPL, hPn⟩ := N _ hm
  obtain ⟨oL, es, ep, hL, r⟩ := F.ns
  refine ⟨⟨oL, es, ep, k L oL hL fun e => hPL e.symm, r⟩, fun b x e => k b x (F.keep b x e) fun q => ?_, F.above⟩
  rw [q] at e; rw [hPn] at e; cases e
theorem kbNews {h₀ h h' : Heap} {L P : Addr} {news : List (Addr × Obj)} (N : News h₀ L h news) (hn : ∀ p ∈ news, Ne (α := Nat) p.1 P) (k : ∀ b o, h.get? b = some o → b ≠ P → h'.get? b = some o) : News h₀ L h' news :=
  fun p hp => ⟨k _ _ (N p hp).1 (hn p hp), (N p hp).2⟩
theorem kbTab {h₀ h h' : Heap} {L P : Addr} {o o' : Obj} {news r : List (Addr × Obj)} (N : News h₀ L h news) (hm : (P, o) ∈ news) (hP : h'.get? P = some o') (R : News h₀ L h' r) : News h₀ L h' ((P, o') :: r) := by
  intro q hq
  rcases List.mem_cons.mp hq with rfl | hq
  · exact ⟨hP, (N _ hm).2⟩
  · exact R q hq
theorem kbNew {h₀ h h' : Heap} {L D : Addr} {m : Str → Option Value} {o : Obj} {r : List (Addr × Obj)} (F : Fr h₀ L h m) (hd : h'.get? D = some o) (hD : h.objs.size ≤ D) (R : News h₀ L h' r) : News h₀ L h' ((D, o) :: r) := by
  intro q hq
  rcases List.mem_cons.mp hq with rfl | hq
  · exact ⟨hd, Nat.ne_of_gt (Nat.lt_of_lt_of_le F.ns.lt hD), Heap.get?_none_of_le (Nat.le_trans F.above (Nat.le_trans (Nat.le_of_lt F.ns.lt) hD))⟩
  · exact R q hq
end
section
open PySem PySem.W PyProof.Rows
theorem noneOf {h g : Heap} {l : List Addr} {D : Addr} (hg : ∀ (b : Addr) (o : Obj), h.get? b = some o → ¬b ∈ l → g.get? b = some o) (hn : g.get? D = none) (hD : ¬D ∈ l) : h.get? D = none := by
  cases e : h.get? D with
  | none => rfl
  | some o => have := hg D o e hD; rw [this] at hn; cases hn
theorem newsNone {h₀ h : Heap} {L : Addr} {news : List (Addr × Obj)} {a : Addr} {o : Obj} (N : News h₀ L h news) (hm : (a, o) ∈ news) : h₀.get? a = none := (N _ hm).2.2
theorem kpNewG {h₀ h h' : Heap} {L D : Addr} {m : Str → Option Value} {o : Obj} {news : List (Addr × Obj)} (F : Fr h₀ L h m) (N : News h₀ L h news) (k : Kp h h') (hd : h'.get? D = some o) (hn : h.get? D = none) : News h₀ L h' ((D, o) :: news) := by
  intro p hp
  rcases List.mem_cons.mp hp with rfl | hp
  · refine ⟨hd, fun e => ?_, ?_⟩
    · obtain ⟨oL, es, ep, hL, r⟩ := F.ns
      have e' : D = L := e
      rw [← e', hn] at hL; cases hL
    · cases q : h₀.get? D with
      | none => rfl
      | some o' => have := F.keep _ _ q; rw [hn] at this; cases this
  · exact kpNews N k p hp
theorem newsNe {h₀ h : Heap} {L D : Addr} {news : List (Addr × Obj)} (N : News h₀ L h news) (hn : h.get? D = none) : ∀ p ∈ news, Ne (α := Nat) p.1 D := by
  intro p hp e
  have := (N p hp).1
  rw [show p.1 = D from e, hn] at this; cases this
noncomputable def moonM (y : Int) : Int := (235 * y - 234).fdiv 19
noncomputable def moonR (y : Int) : Int := 12084 + 13753 * moonM y
noncomputable def moonE (y : Int) : Int := 29 * moonM y + (moonR y).fdiv 25920
noncomputable def moonD (y : Int) : Int := moonE y + if ([2, 4, 6].any fun x => x == (moonE y).fmod 7) = true then 1 else 0
noncomputable def moonP (y : Int) : Int := (moonR y).fmod 25920
set_option maxRecDepth 100000 in
set_option maxHeartbeats 8000000 in
set_option pp.deepTerms false in
set_option pp.maxSteps 3000 in
theorem moon (w : World) (p : Program) (loose : List Str) (mean : ExcName → Option Value) (mg mb : Str → Option Value) (dp un : Nat) (gd : Option (List Code)) (cn : Str) (cs : Scope) (a0 : Addr) (ccd : Value) (cl : List (Str × Addr)) (outer : List Env) (A₀ : Around) (base h₀ : Heap) (L : Addr) (m : Str → Option Value) (s : Shared) (Q E : Value → Shared → Prop) (y : Int) (t1 : Tok) :
   Below A₀ base outer h₀ → Fr h₀ L s.heap m → (K39 w.params).In h₀ → News h₀ L s.heap ([]) → Top p loose mean mg mb h₀ → cs.kind = .function → 1 ≤ y → y ≤ 100000 → dp + 9 < recursionLimit → un + 60 < cLine →
   (∀ (D : Addr) (a b : Int) (u1 u2 : Tok) h' tk', Kp s.heap h' → h'.get? D = some (W.listOf #[.int a u1, .int b u2] 0) → s.heap.get? D = none → a = moonD y → b = moonP y → Q (.ref D) { s with heap := h', toks := tk' }) →
   wpAny (model rw9.row.prog w) (ktrTop dp un gd cn cs L a0 ccd cl outer) (call (.ref 148) [.int y t1]) Q E s := by
  k_fill
  w_top off
  k_with_none
  (k_with "my omega" => (first | with_reducible assumption | (law_purse 30000 => lia) | omega +splitDisjunctions))
  (k_with "my mem" => (first | exact m9_0 | exact m9_1 | exact m9_2 | exact m9_3 | exact m9_4 | exact m9_5 | exact m9_6 | exact m9_7 | (refine' m9_s ?_; k_mem)))
  (k_with "my sub" => (first | exact allNil | exact allCons (by k_mem) (by lcg_sub) | (intro q9 hq9; repeat (first | with_reducible exact hq9 | refine List.mem_cons_of_mem _ ?_))))
  (k_with "my room" => ktr_room)
  (k_with "my units" => ktr_units)
  (k_with "my ne" => (refine neN ?_; (try dsimp only); first | exact NeH.out (by assumption) | exact Ne.symm (NeH.out (by assumption)) | omega))
  (k_with "my all" => (first | exact allNil | (refine' allCons ?_ ?_; focus k_ne; k_all)))
  (k_with "my exec Assign" => k_fold)
  (k_with "my exec Expr" => k_fold)
  (k_with "my exec If" => k_fold)
  (k_with "my exec AugAssign" => k_fold)
  (k_with "my eval BinOp" => k_fold)
  (k_with "my eval Compare" => k_fold)
  (k_with "my eval Subscript" => k_fold)
  (k_with "my eval Call" => k_fold)
  (k_with "my eval Call Attribute" => k_fold)
  (k_with "my eval IfExp" => k_fold)
  (k_with "my eval List" => k_fold)
  (k_with "my eval Tuple" => k_fold)
  intro B F X N T hk h0 h1 hdp hun hret
  (k_with "my call ref" => refine stopHere ?_)
  refine wpAny_call ?_
  k_dflt (refine' codeM ?k1 ?k2 ?k3 ?k4 ?k5 ?kA ?kF ?kK ?k6 ?k7 ?k8 ?k9 ?kB ?_ ?c2 ?c3 ?c4 ?c5; (case kA => exact rfl); (case kF => exact rfl); (case kK => assumption); (case k1 => k_asm); (case k2 => k_asm); (case k3 => k_asm); (case k4 => k_asm); (case k5 => k_asm); (case k6 => k_is); (case k7 => k_is); (case k8 => ktr_room); (case k9 => first | exact BindsTo.of_eq rfl | exact binds_K (by k_in) rfl (by k_is) rfl rfl rfl); (case c5 => decide); (case kB => exact locs rfl); (case c2 => exact rfl); (case c3 => exact rfl); (case c4 => exact rfl); k_whole; intro g' L' h' hg FG' F' N' B' X' T' l1 hL'; (try k_lt l1); (try dsimp only); (try k_lift B'); (try k_fold))
  have hLh := ltN (Heap.Ns.lt (Fr.ns F'))
  k_steps
  · intro hkp
    exact hret _ _ _ _ _ _ _ (kpOf hg hkp (fun q hq => (N q hq).1) (fun _ h => nomatch h)) (newsGet (by k_asm) (by k_mem)) (noneOf hg (newsNone (by k_asm) (by k_mem)) (fun h => nomatch h)) (by unfold moonD; rw [if_pos (by assumption)]; rfl) rfl
  · intro hkp
    exact hret _ _ _ _ _ _ _ (kpOf hg hkp (fun q hq => (N q hq).1) (fun _ h => nomatch h)) (newsGet (by k_asm) (by k_mem)) (noneOf hg (newsNone (by k_asm) (by k_mem)) (fun h => nomatch h)) (by unfold moonD; rw [if_neg (Bool.eq_false_iff.mp (by assumption))]; rfl) rfl
end
section
open PySem PySem.W PyProof.Rows
theorem newsAdd {h₀ h h' : Heap} {L D : Addr} {m : Str → Option Value} {o : Obj} {news : List (Addr × Obj)} (F : Fr h₀ L h m) (N : News h₀ L h' news) (hd : h'.get? D = some o) (hn : h.get? D = none) : News h₀ L h' ((D, o) :: news) := by
  intro p hp
  rcases List.mem_cons.mp hp with rfl | hp
  · refine ⟨hd, fun e => ?_, ?_⟩
    · obtain ⟨oL, es, ep, hL, r⟩ := F.ns
      have e' : D = L := e
      rw [← e', hn] at hL; cases hL
    · cases q : h₀.get? D with
      | none => rfl
      | some o' => have := F.keep _ _ q; rw [hn] at this; cases this
  · exact N p hp
theorem noneNe {h : Heap} {I X : Addr} {o : Obj} (hI : h.get? I = some o) (hX : h.get? X = none) : Ne (α := Nat) X I := fun e => by
  have e' : X = I := e
  rw [e', hI] at hX; cases hX
theorem compHitN {h₀ h' : Heap} {L I C D D9 : Addr} {m : Str → Option Value} {s₁ : Shared} {oI oC oD o9 : Obj} {rest : Value → List (Addr × Obj) → Prop} {y : Value} {tk : Nat} {r : List (Addr × Obj)}
   (F : Fr h₀ L s₁.heap m) (N : News h₀ L s₁.heap ((I, oI) :: (C, oC) :: (D, oD) :: r)) (off : LCg.Off3 I C D r) (k : Kp s₁.heap h') (g9 : h'.get? D9 = some o9) (s9 : s₁.heap.get? D9 = none)
   (hrest : rest y ((D9, o9) :: r)) : LCg.CompEnd h₀ L m s₁ I oI C oC D oD (fun _ => True) rest y { s₁ with heap := h', toks := tk } := by
  have hI := N (I, oI) (.head _)
  have hC := N (C, oC) (.tail _ (.head _))
  have hD := N (D, oD) (.tail _ (.tail _ (.head _)))
  refine ⟨h', tk, (D9, o9) :: r, rfl, kpFr F k, ?_, ⟨⟨noneNe hI.1 s9, noneNe hC.1 s9, noneNe hD.1 s9⟩, off⟩, True.intro, hrest⟩
  intro q hq
  rcases List.mem_cons.mp hq with rfl | hq
  · exact ⟨k _ _ hI.1, hI.2⟩
  · rcases List.mem_cons.mp hq with rfl | hq
    · exact ⟨k _ _ hC.1, hC.2⟩
    · rcases List.mem_cons.mp hq with rfl | hq
      · exact ⟨k _ _ hD.1, hD.2⟩
      · exact newsAdd F (newsSub (kpNews N k) fun p hp => .tail _ (.tail _ (.tail _ hp))) g9 s9 q hq
end
section
open PySem PySem.W PyProof.Rows
theorem bring {a P : Prop} (x : a) (h : a → P) : P := h x
noncomputable def feastD (y : Int) : Int := moonD (y + 1) + (if moonD (y + 2) - moonD (y + 1) = 356 then 2 else if moonD (y + 1) - moonD y = 382 then 1 else 0) - 2103782
noncomputable def feastOf (d1 d2 d3 : Int) : Int := if d3 - d2 = 356 then d2 + 2 - 2103782 else if d2 - d1 = 382 then d2 + 1 - 2103782 else d2 + 0 - 2103782
theorem feastEq (y : Int) : feastOf (moonD (y + (0 + ((0 : Nat) : Int)))) (moonD (y + (0 + ((0 + 1 : Nat) : Int)))) (moonD (y + (0 + ((0 + 1 + 1 : Nat) : Int)))) = feastD y := by
  have e0 : y + (0 + ((0 : Nat) : Int)) = y := by omega
  have e1 : y + (0 + ((0 + 1 : Nat) : Int)) = y + 1 := by omega
  have e2 : y + (0 + ((0 + 1 + 1 : Nat) : Int)) = y + 2 := by omega
  rw [e0, e1, e2]
  unfold feastOf feastD
  by_cases h : moonD (y + 2) - moonD (y + 1) = 356
  · rw [if_pos h, if_pos h]
  · rw [if_neg h, if_neg h]
    by_cases h' : moonD (y + 1) - moonD y = 382
    · rw [if_pos h', if_pos h']
    · rw [if_neg h', if_neg h']
theorem feastP (y : Int) : 19 * moonP (y + (0 + ((0 + 1 : Nat) : Int))) = 19 * moonP (y + 1) := by
  have e1 : y + (0 + ((0 + 1 : Nat) : Int)) = y + 1 := by omega
  rw [e1]
set_option maxRecDepth 100000 in
set_option maxHeartbeats 2000000 in
set_option pp.deepTerms false in
set_option pp.maxSteps 3000 in
theorem feast_end (w : World) (p : Program) (loose : List Str) (mean : ExcName → Option Value) (mg mb : Str → Option Value) (dp un : Nat) (gd : Option (List Code)) (cn : Str) (cs : Scope) (L a0 : Addr) (ccd : Value) (cl : List (Str × Addr)) (outer : List Env) (base g : Heap) (L' : Addr) (s : Shared) (Q : Flow → Shared → Prop) (E : Value → Shared → Prop) (body : List Stmt) (scope : Scope) (M1 M2 M3 : Addr) (d1 d2 d3 e1 e2 e3 : Int) (x1 x2 x3 z1 z2 z3 : Tok) (mr : Str → Option Value) (rest : List (Addr × Obj)) :
   (fnParts (K39 w.params) 153).map (fun x => (x.1.drop 1, x.2)) = some (body, scope) → Below (ktrTop dp un gd cn cs L a0 ccd cl outer) base (envX cn cs L a0 ccd cl :: outer) g → Fr g L' s.heap (fun z => if z = Str.ofString "after" then some (.ref M3) else if z = Str.ofString "here" then some (.ref M2) else if z = Str.ofString "last" then some (.ref M1) else mr z) → (K39 w.params).In g → News g L' s.heap ((M1, W.listOf #[.int d1 x1, .int e1 z1] 0) :: (M2, W.listOf #[.int d2 x2, .int e2 z2] 0) :: (M3, W.listOf #[.int d3 x3, .int e3 z3] 0) :: rest) → Top p loose mean mg mb g → cs.kind = .function → dp + 29 < recursionLimit → un + 120 < cLine →
   (∀ (D : Addr) (a : Int) (u1 u2 : Tok) h' tk' m', Fr g L' h' m' → News g L' h' [(D, W.listOf #[.int a u1, .int (19 * e2) u2] 0)] → a = feastOf d1 d2 d3 → Q (.ret (.ref D)) { s with heap := h', toks := tk' }) →
   wpAny (model rw9.row.prog w) ((ktrTop dp un gd cn cs L a0 ccd cl outer).deeper (envOfC (Str.ofString "_law_feast") scope L' 153 (.ref 152))) (execs body (envOfC (Str.ofString "_law_feast") scope L' 153 (.ref 152))) Q E s := by
  k_fill
  w_top off
  k_with_none
  (k_with "my omega" => (first | with_reducible assumption | (law_purse 30000 => lia) | omega +splitDisjunctions))
  (k_with "my mem" => (first | exact m9_0 | exact m9_1 | exact m9_2 | exact m9_3 | exact m9_4 | exact m9_5 | exact m9_6 | exact m9_7 | (refine' m9_s ?_; k_mem)))
  (k_with "my sub" => (first | exact allNil | exact allCons (by k_mem) (by lcg_sub) | (intro q9 hq9; repeat (first | with_reducible exact hq9 | refine List.mem_cons_of_mem _ ?_))))
  (k_with "my room" => ktr_room)
  (k_with "my units" => ktr_units)
  (k_with "my ne" => (refine neN ?_; (try dsimp only); first | exact NeH.out (by assumption) | exact Ne.symm (NeH.out (by assumption)) | omega))
  (k_with "my all" => (first | exact allNil | (refine' allCons ?_ ?_; focus k_ne; k_all)))
  (k_with "my exec Assign" => k_fold)
  (k_with "my exec Expr" => k_fold)
  (k_with "my exec If" => k_fold)
  (k_with "my exec AugAssign" => k_fold)
  (k_with "my eval BinOp" => k_fold)
  (k_with "my eval Compare" => k_fold)
  (k_with "my eval Subscript" => k_fold)
  (k_with "my eval Call" => k_fold)
  (k_with "my eval Call Attribute" => k_fold)
  (k_with "my eval IfExp" => k_fold)
  (k_with "my eval List" => k_fold)
  (k_with "my eval Tuple" => k_fold)
  intro hp B' F X' N T' hk hdp hun hret
  cases hp
  show wpAny _ _ (execs _ _) _ _ _
  k_steps
  · exact hret _ _ _ _ _ _ _ (by k_asm) (newsCons (by k_asm) (by k_mem) newsNil) (by unfold feastOf; rw [if_pos (by assumption)]; rfl)
  · exact hret _ _ _ _ _ _ _ (by k_asm) (newsCons (by k_asm) (by k_mem) newsNil) (by unfold feastOf; rw [if_neg (by assumption), if_pos (by assumption)]; rfl)
  · exact hret _ _ _ _ _ _ _ (by k_asm) (newsCons (by k_asm) (by k_mem) newsNil) (by unfold feastOf; rw [if_neg (by assumption), if_neg (by assumption)]; rfl)
set_option maxRecDepth 100000 in
set_option maxHeartbeats 2000000 in
set_option pp.deepTerms false in
set_option pp.maxSteps 3000 in
theorem feast (w : World) (p : Program) (loose : List Str) (mean : ExcName → Option Value) (mg mb : Str → Option Value) (dp un : Nat) (gd : Option (List Code)) (cn : Str) (cs : Scope) (a0 : Addr) (ccd : Value) (cl : List (Str × Addr)) (outer : List Env) (A₀ : Around) (base h₀ : Heap) (L : Addr) (m : Str → Option Value) (s : Shared) (Q E : Value → Shared → Prop) (y : Int) (t1 : Tok) :
   Below A₀ base outer h₀ → Fr h₀ L s.heap m → (K39 w.params).In h₀ → News h₀ L s.heap ([]) → Top p loose mean mg mb h₀ → cs.kind = .function → 1 ≤ y → y ≤ 90000 → dp + 29 < recursionLimit → un + 120 < cLine →
   (∀ (D : Addr) (a b : Int) (u1 u2 : Tok) h' tk', Kp s.heap h' → h'.get? D = some (W.listOf #[.int a u1, .int b u2] 0) → s.heap.get? D = none → a = feastD y → b = 19 * moonP (y + 1) → Q (.ref D) { s with heap := h', toks := tk' }) →
   wpAny (model rw9.row.prog w) (ktrTop dp un gd cn cs L a0 ccd cl outer) (call (.ref 153) [.int y t1]) Q E s := by
  k_fill
  w_top off
  k_with_none
  (k_with "my omega" => (first | with_reducible assumption | (law_purse 30000 => lia) | omega +splitDisjunctions))
  (k_with "my mem" => (first | exact m9_0 | exact m9_1 | exact m9_2 | exact m9_3 | exact m9_4 | exact m9_5 | exact m9_6 | exact m9_7 | (refine' m9_s ?_; k_mem)))
  (k_with "my sub" => (first | exact allNil | exact allCons (by k_mem) (by lcg_sub) | (intro q9 hq9; repeat (first | with_reducible exact hq9 | refine List.mem_cons_of_mem _ ?_))))
  (k_with "my room" => ktr_room)
  (k_with "my units" => ktr_units)
  (k_with "my ne" => (refine neN ?_; (try dsimp only); first | exact NeH.out (by assumption) | exact Ne.symm (NeH.out (by assumption)) | omega))
  (k_with "my all" => (first | exact allNil | (refine' allCons ?_ ?_; focus k_ne; k_all)))
  (k_with "my exec Assign" => k_fold)
  (k_with "my exec Expr" => k_fold)
  (k_with "my exec If" => k_fold)
  (k_with "my exec AugAssign" => k_fold)
  (k_with "my eval BinOp" => k_fold)
  (k_with "my eval Compare" => k_fold)
  (k_with "my eval Subscript" => k_fold)
  (k_with "my eval Call" => k_fold)
  (k_with "my eval Call Attribute" => k_fold)
  (k_with "my eval IfExp" => k_fold)
  (k_with "my eval List" => k_fold)
  (k_with "my eval Tuple" => k_fold)
  intro B F X N T hk h0 h1 hdp hun hret
  (k_with "my call ref" => first
    | (k_dflt (refine' moon _ _ _ _ _ _ _ _ _ _ _ _ _ _ _ _ _ _ _ _ _ _ _ _ _ (by k_asm) (by k_asm) (by k_asm) newsNil (by k_asm) rfl (by first | with_reducible assumption | omega) (by first | with_reducible assumption | omega) (by ktr_room) (by ktr_units) ?_); intro D9 q9 r9 u19 u29 h9 tk9 k9 g9 s9 e9 r09; subst e9; subst r09; (refine compHitN F4 N4 off4 k9 g9 s9 ?_); (try dsimp only))
    | refine stopHere ?_)
  (k_with "my eval ListComp" => (k_here; lcf_look; lcg_calm; k_dflt (refine LCg.ListComp_U (F₀ := by k_asm) (by with_unfolding_all rfl) (by decide) (by rfl) (by decide) (by rfl) ?_); k_dflt lcg_toSrc))
  (k_with "my CompSrc" => (k_here; k_dflt (first
    | (refine LCg.CompSrc.ledger (by rfl) (by k_asm) (by k_asm) (by k_mem) (by first | size_fits | exact Nat.le_of_ble_eq_true rfl) ?_; intro g'; lcg_lit)
    | (refine LCg.CompSrc.range (by rfl) (by k_asm) (by k_asm) (by assumption) (by first | decide | rfl) (by first | rfl | decide) (by first | size_fits | exact Nat.le_of_ble_eq_true rfl) ?_; intro g'; lcg_lit))))
  (k_with "my CompRest" => with_unfolding_all first
    | (refine LCg.CompRest.succ ?_; intro v4 I4 oI4 C4 oC4 D4 m4 h4 tk4 E4 hv4 hC4 hx4 F4 N4 off4 ne4; (first | lcg_open hv4 | (obtain ⟨t94, hv94⟩ := hv4; subst hv94)); clear ne4)
    | refine LCg.CompRest.zero ?_)
  (k_with "my FinE" => ((unfold LCg.FinE); intro D5 h5 tk5 F5 N5 of5; clear of5; (try dsimp only [List.nil_append, List.cons_append] at N5); (try dsimp only)))
  (k_with "my execs cons" => ((with_reducible show wpAny _ _ (execs (Stmt.Assign [Expr.Name (Str.ofString "late") _] _ _ :: _) _) _ _ _); refine stopHere ?_))
  refine wpAny_call ?_
  k_dflt (refine' codeMC ?k1 ?k2 ?k3 ?k4 ?k5 ?kA ?kF ?kK ?k6 ?k7 ?k8 ?k9 ?kB ?kD ?_ ?c2 ?c3 ?c4; (case kA => exact rfl); (case kF => exact rfl); (case kK => assumption); (case k1 => k_asm); (case k2 => k_asm); (case k3 => k_asm); (case k4 => k_asm); (case k5 => k_asm); (case k6 => k_is); (case k7 => k_is); (case k8 => ktr_room); (case k9 => first | exact BindsTo.of_eq rfl | exact binds_K (by k_in) rfl (by k_is) rfl rfl rfl); (case kB => exact rfl); (case kD => decide +kernel); (case c2 => exact rfl); (case c3 => exact rfl); (case c4 => exact rfl); k_whole; intro g' L' h' tk' cells' hg FG' F' N' Y' B' X' T' l1 hL'; (try k_lt l1); k_cells Y'; (try simp only [List.cons_append, List.nil_append] at N'); (try dsimp only); (try k_lift B'); (try k_fold))
  have hLh := ltN (Heap.Ns.lt (Fr.ns F'))
  k_steps
  unfold Stopped
  refine feast_end w p loose mean mg mb dp un gd cn cs _ a0 ccd cl outer base _ _ _ _ _ _ _ _ _ _ (moonD (y + (0 + ((0 : Nat) : Int)))) (moonD (y + (0 + ((0 + 1 : Nat) : Int)))) (moonD (y + (0 + ((0 + 1 + 1 : Nat) : Int)))) _ _ _ _ _ _ _ _ _ _ [] rfl (by k_asm) (by k_asm) (by k_asm) (newsSub (by k_asm) (by lcg_sub)) (by k_asm) hk hdp hun ?_
  intro D6 a6 u6 v6 h6 tk6 m6 F6 N6 e6
  k_steps
  intro hkp
  exact hret _ _ _ _ _ _ _ (kpOf hg hkp (fun q hq => (N q hq).1) (fun _ h => nomatch h)) (newsGet (by k_asm) (by k_mem)) (noneOf hg (newsNone (by k_asm) (by k_mem)) (fun h => nomatch h)) (e6.trans (feastEq y)) (feastP _)
end
section
open PySem PySem.W PyProof.Rows
theorem itemL {prog : Program} {w : World} {A : Around} {E : Value → Shared → Prop} {s : Shared} {value slice : PySem.Expr} {l : Addr} {vs : List Value} {k : Int} {u : Tok} {v : Value} {Q : Value → Shared → Prop}
    (hl : s.heap.IsList l vs.toArray) (h0 : 0 ≤ k) (hhi : k < 2 ^ 63) (hx : vs[k.toNat]? = some v) (h : Q v s)
    (hs : subscripted slice false (.ref l) (.int k u) = operate [.ref l, .int k u] (getItem (.ref l) (.int k u))) :
    wpAny (model prog w) A (subscriptTail value slice (.ref l) (.int k u)) Q E s :=
  tail_any hl.typeIs slot_list_getitem.lookup (wpAny_getItem_list hl h0 hhi (by simpa using hx) h) hs
noncomputable def wdS (i : Nat) : Str := [Str.ofString "Mon", Str.ofString "Tue", Str.ofString "Wed", Str.ofString "Thu", Str.ofString "Fri", Str.ofString "Sat", Str.ofString "Sun"].getD i Str.empty
noncomputable def moS (i : Nat) : Str := [Str.ofString "Jan", Str.ofString "Feb", Str.ofString "Mar", Str.ofString "Apr", Str.ofString "May", Str.ofString "Jun", Str.ofString "Jul", Str.ofString "Aug", Str.ofString "Sep", Str.ofString "Oct", Str.ofString "Nov", Str.ofString "Dec"].getD i Str.empty
theorem wdS_len {i : Nat} (h : i < 7) : (wdS i).length ≤ 10 := by
  have : ∀ j, j < 7 → (wdS j).length ≤ 10 := by decide +kernel
  exact this i h
theorem moS_len {i : Nat} (h : i < 12) : (moS i).length ≤ 10 := by
  have : ∀ j, j < 12 → (moS j).length ≤ 10 := by decide +kernel
  exact this i h
noncomputable def fmtL (wd mo d y hh mi sc : Int) (zone : Str) : List Nat := (wdS wd.toNat).cps.toList ++ [44, 32] ++ d2 d.toNat ++ [32] ++ (moS (mo - 1).toNat).cps.toList ++ [32] ++ d4 y.toNat ++ [32] ++ d2 hh.toNat ++ [58] ++ d2 mi.toNat ++ [58] ++ d2 sc.toNat ++ [32] ++ zone.cps.toList
noncomputable def fmtLine (wd mo d y hh mi sc : Int) (zone : Str) : Str := sL (fmtL wd mo d y hh mi sc zone)
set_option maxRecDepth 100000 in
set_option maxHeartbeats 8000000 in
set_option pp.deepTerms false in
set_option pp.maxSteps 3000 in
theorem fmt (w : World) (p : Program) (loose : List Str) (mean : ExcName → Option Value) (mg mb : Str → Option Value) (dp un : Nat) (gd : Option (List Code)) (cn : Str) (cs : Scope) (a0 : Addr) (ccd : Value) (cl : List (Str × Addr)) (outer : List Env) (A₀ : Around) (base h₀ : Heap) (L : Addr) (m : Str → Option Value) (s : Shared) (Q E : Value → Shared → Prop) (l : Addr) (cnt : Nat) (y mo d hh mi sc wd : Int) (ty tmo td thh tmi tsc twd tz : Tok) (zone : Str) :
   Below A₀ base outer h₀ → Fr h₀ L s.heap m → (K39 w.params).In h₀ → News h₀ L s.heap ([(l, W.listOf #[.int y ty, .int mo tmo, .int d td, .int hh thh, .int mi tmi, .int sc tsc, .int wd twd] cnt)]) → Top p loose mean mg mb h₀ → cs.kind = .function → 0 ≤ y → y < 10000 → 3 ≤ mo → mo ≤ 4 → 0 ≤ d → d < 100 → 0 ≤ hh → hh < 100 → 0 ≤ mi → mi < 100 → 0 ≤ sc → sc < 100 → 0 ≤ wd → wd < 7 → zone.length ≤ 10 → dp + 9 < recursionLimit → un + 60 < cLine →
   (∀ h' tk' t, Kp s.heap h' → Q (.str (fmtLine wd mo d y hh mi sc zone) t) { s with heap := h', toks := tk' }) →
   wpAny (model rw9.row.prog w) (ktrTop dp un gd cn cs L a0 ccd cl outer) (call (.ref 92) [.ref l, .str zone tz]) Q E s := by
  k_fill
  w_top off
  k_with_none
  (k_with "my omega" => (first | with_reducible assumption | (law_purse 30000 => lia) | omega +splitDisjunctions))
  (k_with "my mem" => (first | exact m9_0 | exact m9_1 | exact m9_2 | exact m9_3 | exact m9_4 | exact m9_5 | exact m9_6 | exact m9_7 | (refine' m9_s ?_; k_mem)))
  (k_with "my sub" => (first | exact allNil | exact allCons (by k_mem) (by lcg_sub) | (intro q9 hq9; repeat (first | with_reducible exact hq9 | refine List.mem_cons_of_mem _ ?_))))
  (k_with "my room" => ktr_room)
  (k_with "my units" => ktr_units)
  (k_with "my ne" => (refine neN ?_; (try dsimp only); first | exact NeH.out (by assumption) | exact Ne.symm (NeH.out (by assumption)) | omega))
  (k_with "my all" => (first | exact allNil | (refine' allCons ?_ ?_; focus k_ne; k_all)))
  (k_with "my exec Assign" => k_fold)
  (k_with "my exec Expr" => k_fold)
  (k_with "my exec If" => k_fold)
  (k_with "my exec AugAssign" => k_fold)
  (k_with "my eval BinOp" => k_fold)
  (k_with "my eval Compare" => k_fold)
  (k_with "my eval Subscript" => k_fold)
  (k_with "my eval Call" => k_fold)
  (k_with "my eval Call Attribute" => k_fold)
  (k_with "my eval IfExp" => k_fold)
  (k_with "my eval List" => k_fold)
  (k_with "my eval Tuple" => k_fold)
  intro B F X N T hk y0 y1 mo0 mo1 d0 d1 hh0 hh1 mi0 mi1 sc0 sc1 wd0 wd1 zl hdp hun hret
  (k_with "my call ref" => refine stopHere ?_)
  (k_with "table" => skip)
  (k_with "my binaryOp Mod str ref" => (k_here; k_dflt (refine pct (by k_asm) (by k_mem) (by exact wdS_len (by first | with_reducible assumption | omega)) (by exact moS_len (by first | with_reducible assumption | omega)) (by exact zl) (by first | with_reducible assumption | omega) (by first | with_reducible assumption | omega) (by first | with_reducible assumption | omega) (by first | with_reducible assumption | omega) (by first | with_reducible assumption | omega) (by first | with_reducible assumption | omega) (by first | with_reducible assumption | omega) (by first | with_reducible assumption | omega) (by first | with_reducible assumption | omega) (by first | with_reducible assumption | omega) rfl ?_); intro _ _))
  (k_with "my subscriptTail Name Constant ref int" => (k_here; (with_reducible show wpAny _ _ (subscriptTail _ _ (Value.ref _) (Value.int _ _)) _ _ _); (with_unfolding_all refine' itemL ?k1 ?k2 ?k3 ?k4 ?_ ?k6; (case k1 => is_list); (case k2 => decide); (case k3 => decide); (case k4 => rfl); (case k6 => with_unfolding_all rfl); k_whole)))
  refine wpAny_call ?_
  k_dflt (refine' codeM ?k1 ?k2 ?k3 ?k4 ?k5 ?kA ?kF ?kK ?k6 ?k7 ?k8 ?k9 ?kB ?_ ?c2 ?c3 ?c4 ?c5; (case kA => exact rfl); (case kF => exact rfl); (case kK => assumption); (case k1 => k_asm); (case k2 => k_asm); (case k3 => k_asm); (case k4 => k_asm); (case k5 => k_asm); (case k6 => k_is); (case k7 => k_is); (case k8 => ktr_room); (case k9 => first | exact BindsTo.of_eq rfl | exact binds_K (by k_in) rfl (by k_is) rfl rfl rfl); (case c5 => decide); (case kB => exact locs rfl); (case c2 => exact rfl); (case c3 => exact rfl); (case c4 => exact rfl); k_whole; intro g' L' h' hg FG' F' N' B' X' T' l1 hL'; (try k_lt l1); (try dsimp only); (try k_lift B'); (try k_fold))
  have hLh := ltN (Heap.Ns.lt (Fr.ns F'))
  k_steps
  intro hkp
  exact hret _ _ _ (kpOf hg hkp (fun q hq => (N q hq).1) (allCons (newsGet (by k_asm) (by k_mem)) (fun _ h => nomatch h)))
end
section
open PySem PySem.W PyProof.Rows PySem.Calls
section
variable {prog : Program} {w : World} {A : Around} {E : Value → Shared → Prop} {s : Shared} {Q : Value → Shared → Prop} {a b n : Int} {t u : Tok}
theorem shr1 (h : ∀ v, v = a / 2 → Q (.int v s.toks) { s with toks := s.toks + 1 }) : wpAny (model prog w) A (binaryOp .RShift (.int a t) (.int 1 u)) Q E s :=
  rshift_int (by decide) (h _ (by show a.fdiv 2 = a / 2; exact Int.fdiv_eq_ediv_of_nonneg _ (by decide)))
theorem fits_mul (ha : a.natAbs < 2 ^ 64) : IntMulOk a b := IntMulOk.of_left (intBits_le_64 (k := a) (by first | with_reducible assumption | omega) (by first | with_reducible assumption | omega))
theorem mulS (ha : 0 ≤ a ∧ a ≤ 100) (hb : 0 ≤ b ∧ b ≤ 100) (h : ∀ v, v = a * b → 0 ≤ v → v ≤ 10000 → Q (.int v s.toks) { s with toks := s.toks + 1 }) : wpAny (model prog w) A (binaryOp .Mult (.int a t) (.int b u)) Q E s := by
  refine mul_int (h _ rfl (Int.mul_nonneg ha.1 hb.1) ?_) (fits_mul (by first | with_reducible assumption | omega))
  have h1 : a * b ≤ 100 * b := Int.mul_le_mul_of_nonneg_right ha.2 hb.1
  omega
theorem pow_pos' (k : Nat) : (0 : Int) < 2 ^ k := Int.pow_pos (by decide)
theorem shrS (hn : 0 ≤ n) (ha : 0 ≤ a) (h : ∀ v, v = a / 2 ^ n.toNat → 0 ≤ v → v ≤ a → Q (.int v s.toks) { s with toks := s.toks + 1 }) : wpAny (model prog w) A (binaryOp .RShift (.int a t) (.int n u)) Q E s :=
  have hp := pow_pos' n.toNat
  rshift_int hn (h _ (Int.fdiv_eq_ediv_of_nonneg _ (Int.le_of_lt hp)) (by rw [Int.fdiv_eq_ediv_of_nonneg _ (Int.le_of_lt hp)]; exact Int.ediv_nonneg ha (Int.le_of_lt hp)) (by rw [Int.fdiv_eq_ediv_of_nonneg _ (Int.le_of_lt hp)]; exact Int.ediv_le_self _ ha))
theorem shlS (hn : 0 ≤ n) (hn2 : n ≤ 1000000) (ha : 0 ≤ a) (ha2 : a < 2 ^ 64) (h : ∀ v, v = a * 2 ^ n.toNat → 0 ≤ v → Q (.int v s.toks) { s with toks := s.toks + 1 }) : wpAny (model prog w) A (binaryOp .LShift (.int a t) (.int n u)) Q E s :=
  lshift_int_small hn hn2 (by first | with_reducible assumption | omega) (h _ rfl (Int.mul_nonneg ha (Int.le_of_lt (pow_pos' _))))
end
theorem and_high (x k : Nat) : x &&& (x / 2 ^ k * 2 ^ k) = x / 2 ^ k * 2 ^ k := by
  apply Nat.eq_of_testBit_eq
  intro i
  rw [Nat.testBit_and, Nat.testBit_mul_two_pow]
  by_cases h : k ≤ i
  · simp only [h, decide_true, Bool.true_and, Nat.testBit_div_two_pow]
    rw [Nat.sub_add_cancel h]
    simp
  · simp [h]
theorem bitAnd_nat (x y : Nat) : Builtin.bitAnd (x : Int) (y : Int) = ((x &&& y : Nat) : Int) := rfl
theorem xor_low (x : Int) (k : Nat) (hx : 0 ≤ x) : Builtin.bitXor x (x / 2 ^ k * 2 ^ k) = x % 2 ^ k := by
  obtain ⟨n, rfl⟩ := Int.eq_ofNat_of_zero_le hx
  have e : ((n : Int) / 2 ^ k * 2 ^ k) = ((n / 2 ^ k * 2 ^ k : Nat) : Int) := by simp
  rw [e, bitXor_and, bitAnd_nat, and_high, ← e]
  have := Int.mul_ediv_add_emod (n : Int) (2 ^ k)
  have h2 : (2 : Int) ^ k * ((n : Int) / 2 ^ k) = (n : Int) / 2 ^ k * 2 ^ k := Int.mul_comm _ _
  omega
section
variable {prog : Program} {w : World} {A : Around} {E : Value → Shared → Prop} {s : Shared} {Q : Value → Shared → Prop} {a b n : Int} {t u : Tok}
theorem xorS {x up : Int} {k : Nat} (hx : 0 ≤ x) (hu : up = x / 2 ^ k) (hb : b = up * 2 ^ k) (h : ∀ z, z = x % 2 ^ k → 0 ≤ z → z ≤ x → Q (.int z s.toks) { s with toks := s.toks + 1 }) : wpAny (model prog w) A (binaryOp .BitXor (.int x t) (.int b u)) Q E s := by
  subst hu; subst hb
  refine xor_int ?_
  rw [xor_low x k hx]
  have hp := pow_pos' k
  refine h _ rfl (Int.emod_nonneg _ (Int.ne_of_gt hp)) ?_
  have h1 := Int.mul_ediv_add_emod x (2 ^ k)
  have h2 : 0 ≤ 2 ^ k * (x / 2 ^ k) := Int.mul_nonneg (Int.le_of_lt hp) (Int.ediv_nonneg hx (Int.le_of_lt hp))
  omega
end
/-- the number whose digits by 2 ^ n these are, the lowest first -/
noncomputable def val (n : Nat) : List Int → Int
  | [] => 0
  | d :: r => d + 2 ^ n * val n r
theorem val_append (n : Nat) : ∀ a b : List Int, val n (a ++ b) = val n a + 2 ^ (n * a.length) * val n b
  | [], b => by simp [val]
  | d :: r, b => by
    have e : (2 : Int) ^ (n * (r.length + 1)) = 2 ^ n * 2 ^ (n * r.length) := by rw [Nat.mul_add, Nat.mul_one, Int.pow_add, Int.mul_comm]
    simp only [List.cons_append, val, List.length_cons, val_append n r b, e, Int.mul_add, Int.mul_assoc]
    omega
/-- ds stands in ns' at l, all else as in ns -/
structure Dig (n : Nat) (x : Int) (l r : Nat) (ns ns' : List Int) : Prop where
  len : ns'.length = ns.length
  ex : ∃ ds : List Int, ns' = ns.take l ++ ds ++ ns.drop r ∧ ds.length = r - l ∧ val n ds = x ∧ ∀ d ∈ ds, 0 ≤ d ∧ d ≤ x
theorem Dig.one {n l : Nat} {x : Int} {ns : List Int} (hx : 0 ≤ x) (hl : l < ns.length) : Dig n x l (l + 1) ns (ns.set l x) := by
  refine ⟨by simp, [x], ?_, by simp, by simp [val], by simp [hx]⟩
  rw [List.set_eq_take_append_cons_drop, if_pos hl]
  simp
theorem Dig.two {n l c r sh : Nat} {x lo up : Int} {ns n1 n2 : List Int} (hx : 0 ≤ x) (hlc : l ≤ c) (hcr : c ≤ r) (hr : r ≤ ns.length) (hsh : sh = n * (c - l)) (hup : up = x / 2 ^ sh) (hlo : lo = x % 2 ^ sh) (h1 : Dig n lo l c ns n1) (h2 : Dig n up c r n1 n2) : Dig n x l r ns n2 := by
  obtain ⟨l1, d1, e1, s1, v1, b1⟩ := h1
  obtain ⟨l2, d2, e2, s2, v2, b2⟩ := h2
  have hp := pow_pos' sh
  have hq : lo ≤ x ∧ up ≤ x := by
    subst hup; subst hlo
    refine ⟨?_, Int.ediv_le_self _ hx⟩
    have h1 := Int.mul_ediv_add_emod x (2 ^ sh)
    have h2 : 0 ≤ 2 ^ sh * (x / 2 ^ sh) := Int.mul_nonneg (Int.le_of_lt hp) (Int.ediv_nonneg hx (Int.le_of_lt hp))
    omega
  refine ⟨by rw [l2, l1], d1 ++ d2, ?_, by simp [s1, s2]; omega, ?_, ?_⟩
  · have ht : (ns.take l).length = l := by simp; omega
    have hA : (ns.take l ++ d1).length = c := by rw [List.length_append, ht, s1]; omega
    have t1 : n1.take c = ns.take l ++ d1 := by rw [e1, List.take_append_of_le_length (by first | with_reducible assumption | omega), List.take_of_length_le (by first | with_reducible assumption | omega)]
    have t2 : n1.drop r = ns.drop r := by
      rw [e1, List.drop_append, hA, List.drop_of_length_le (by first | with_reducible assumption | omega), List.nil_append, List.drop_drop]
      congr 1; omega
    rw [e2, t1, t2, List.append_assoc, List.append_assoc, List.append_assoc, List.append_assoc]
  · rw [val_append, v1, v2, s1, ← hsh, hlo, hup]
    have := Int.mul_ediv_add_emod x (2 ^ sh)
    omega
  · intro d hd
    rcases List.mem_append.mp hd with h | h
    · have := b1 d h; omega
    · have := b2 d h; omega
theorem dig_leaf {n : Nat} {x l r : Int} {ns : List Int} (hx : 0 ≤ x) (hl : 0 ≤ l) (hr : l + 1 = r) (hlen : r ≤ ns.length) : Dig n x l.toNat r.toNat ns (ns.set l.toNat x) := by
  have e : r.toNat = l.toNat + 1 := by omega
  rw [e]
  exact Dig.one hx (by first | with_reducible assumption | omega)
theorem dig_node {n l mid r sh x lo up : Int} {ns n1 n2 : List Int} (d1 : Dig n.toNat lo l.toNat mid.toNat ns n1) (d2 : Dig n.toNat up mid.toNat r.toNat n1 n2) (hsh : sh = (mid - l) * n) (hup : up = x / 2 ^ sh.toNat) (hlo : lo = x % 2 ^ sh.toNat)
    (hx : 0 ≤ x) (hl : 0 ≤ l) (h1 : l ≤ mid) (h2 : mid ≤ r) (hlen : r ≤ ns.length) (hn : 0 ≤ n) : Dig n.toNat x l.toNat r.toNat ns n2 := by
  refine Dig.two (sh := sh.toNat) hx (by first | with_reducible assumption | omega) (by first | with_reducible assumption | omega) (by first | with_reducible assumption | omega) ?_ hup hlo d1 d2
  have e : ((n.toNat * (mid.toNat - l.toNat) : Nat) : Int) = sh := by
    rw [Int.natCast_mul, Int.natCast_sub (by first | with_reducible assumption | omega), Int.toNat_of_nonneg hn, Int.toNat_of_nonneg (by first | with_reducible assumption | omega), Int.toNat_of_nonneg hl, hsh, Int.mul_comm]
  omega
theorem bits_count {x n : Int} (h0 : 0 ≤ x) (h1 : x < 2 ^ 40) (hn1 : 1 ≤ n) : 0 ≤ (↑(Builtin.Int.intBits x) + n - 1).fdiv n ∧ (↑(Builtin.Int.intBits x) + n - 1).fdiv n ≤ 64 ∧ (x = 0 → (↑(Builtin.Int.intBits x) + n - 1).fdiv n = 0) ∧ (x ≠ 0 → 1 ≤ (↑(Builtin.Int.intBits x) + n - 1).fdiv n) := by
  have hb := intBits_le_64 (k := x) (by first | with_reducible assumption | omega) (by first | with_reducible assumption | omega)
  rw [Int.fdiv_eq_ediv_of_nonneg _ (by first | with_reducible assumption | omega)]
  refine ⟨Int.ediv_nonneg (by first | with_reducible assumption | omega) (by first | with_reducible assumption | omega), ?_, ?_, ?_⟩
  · exact Int.ediv_le_of_le_mul (by first | with_reducible assumption | omega) (by first | with_reducible assumption | omega)
  · intro e
    subst e
    show ((Builtin.Int.intBits 0 : Nat) + n - 1) / n = 0
    have : Builtin.Int.intBits 0 = 0 := by decide
    rw [this]
    exact Int.ediv_eq_zero_of_lt (by first | with_reducible assumption | omega) (by first | with_reducible assumption | omega)
  · intro e
    have : 1 ≤ Builtin.Int.intBits x := by
      unfold Builtin.Int.intBits
      have : (x == 0) = false := by simpa using e
      rw [this]
      simp
    exact Int.le_ediv_of_mul_le (by first | with_reducible assumption | omega) (by first | with_reducible assumption | omega)
theorem dig_all {n : Nat} {x : Int} {k : Nat} {ns ns' : List Int} (hk : k = ns.length) (h : Dig n x 0 k ns ns') : val n ns' = x ∧ (∀ d ∈ ns', 0 ≤ d ∧ d ≤ x) ∧ ns'.length = ns.length := by
  obtain ⟨l, ds, e, s, v, b⟩ := h
  subst hk
  have : ns' = ds := by rw [e]; simp
  subst this
  exact ⟨v, b, l⟩
theorem zero_list {n : Nat} {x kk : Int} (hx : x = 0) (hk : kk = 0) : val n (List.replicate kk.toNat [(0 : Int)]).flatten = x ∧ (∀ d ∈ (List.replicate kk.toNat [(0 : Int)]).flatten, 0 ≤ d ∧ d ≤ x) ∧ (List.replicate kk.toNat [(0 : Int)]).flatten.length = 0 := by
  subst hx; subst hk
  simp [val]
end
section
open PySem PySem.W PyProof.Rows

noncomputable def nestParts (K : Frag) (f : Addr) (i : Nat) : Option (Str × Arguments × List Stmt × Scope) := (fnParts K f).bind fun q => (q.1[i]?).bind fun st => onDef st fun name params body scope => some (name, params, body, scope)
set_option maxRecDepth 100000 in
set_option maxHeartbeats 8000000 in
set_option pp.deepTerms false in
set_option pp.maxSteps 1500 in
theorem inner64 (w : World) (p : Program) (loose : List Str) (mean : ExcName → Option Value) (mg mb : Str → Option Value) (base : Heap) (f c' D cA cI cN : Addr) (oc oA oI oN o59 : Obj) (doc pm ctv : Value) (n : Int) (tn : Tok) (name qual : Str) (params : Arguments) (body : List Stmt) (scope : Scope) (vsc : Array Value) (tq : Tok) :
  nestParts (K39 w.params) 64 1 = some (name, params, body, scope) → oc.data = .fields vsc → vsc[1]? = some (.str qual tq) → oN.data = .cell (some (.int n tn)) → oI.data = .cell (some (.ref f)) → oA.data = .cell (some (.ref D)) → 1 ≤ n → n ≤ 20 → Ne (α := Nat) cN D → Ne (α := Nat) cA D → Ne (α := Nat) cI D → Ne (α := Nat) c' D → Ne (α := Nat) f D → Ne (α := Nat) 59 D → CodeHd base 63 59 →
  ∀ k : Nat, ∀ (dp un : Nat) (gd : Option (List Code)) (cn : Str) (cs : Scope) (a0 : Addr) (ccd : Value) (cl : List (Str × Addr)) (outer : List Env) (A₀ : Around) (h₀ : Heap) (L : Addr) (m : Str → Option Value) (s : Shared) (Q E : Value → Shared → Prop) (x l r : Int) (tx tl tr : Tok) (vs : List Value) (ns : List Int),
   Below A₀ base outer h₀ → Fr h₀ L s.heap m → (K39 w.params).In h₀ → News h₀ L s.heap [(f, fnMade name qual params body scope [("n", cN), ("inner", cI), ("a_digits", cA)] doc pm c' ctv), (c', oc), (D, W.listOf vs.toArray 0), (cN, oN), (cI, oI), (cA, oA), (59, o59)] → Top p loose mean mg mb h₀ → cs.kind = .function →
   IntsAre vs ns → 0 ≤ x → x < 2 ^ 40 → 0 ≤ l → l < r → r - l ≤ k → r ≤ ns.length → ns.length ≤ 64 → dp + k + 9 < recursionLimit → un + 3 * k + 60 < cLine →
   (∀ h' tk' vs' ns', Fr h₀ L h' m → News h₀ L h' [(f, fnMade name qual params body scope [("n", cN), ("inner", cI), ("a_digits", cA)] doc pm c' ctv), (c', oc), (D, W.listOf vs'.toArray 0), (cN, oN), (cI, oI), (cA, oA), (59, o59)] → IntsAre vs' ns' → Dig n.toNat x l.toNat r.toNat ns ns' → Q .none { s with heap := h', toks := tk' }) →
   wpAny (model rw9.row.prog w) (ktrTop dp un gd cn cs L a0 ccd cl outer) (call (.ref f) [.int x tx, .int l tl, .int r tr]) Q E s := by
  k_fill
  w_top off
  k_with_none
  (k_with "my omega" => (first | with_reducible assumption | (law_purse 30000 => lia) | omega +splitDisjunctions))
  (k_with "my mem" => (first | exact m9_0 | exact m9_1 | exact m9_2 | exact m9_3 | exact m9_4 | exact m9_5 | exact m9_6 | exact m9_7 | (refine' m9_s ?_; k_mem)))
  (k_with "my sub" => (first | exact allNil | exact allCons (by k_mem) (by lcg_sub) | (intro q9 hq9; repeat (first | with_reducible exact hq9 | refine List.mem_cons_of_mem _ ?_))))
  (k_with "my room" => ktr_room)
  (k_with "my units" => ktr_units)
  (k_with "my ne" => (refine neN ?_; (try dsimp only); first | exact NeH.out (by assumption) | exact Ne.symm (NeH.out (by assumption)) | omega))
  (k_with "my all" => (first | exact allNil | (refine' allCons ?_ ?_; focus k_ne; k_all)))
  (k_with "my exec Assign" => k_fold)
  (k_with "my exec Expr" => k_fold)
  (k_with "my exec If" => k_fold)
  (k_with "my exec AugAssign" => k_fold)
  (k_with "my eval BinOp" => k_fold)
  (k_with "my eval Compare" => k_fold)
  (k_with "my eval Subscript" => k_fold)
  (k_with "my eval Call" => k_fold)
  (k_with "my eval Call Attribute" => k_fold)
  (k_with "my eval IfExp" => k_fold)
  (k_with "my eval List" => k_fold)
  (k_with "my eval Tuple" => k_fold)
  intro hp hoc hvs hN hI hA hn1 hn2 q1 q2 q3 q4 q5 q6 hch
  intro k
  induction k with
  | zero => intro dp un gd cn cs a0 ccd cl outer A₀ h₀ L m s Q E x l r tx tl tr vs ns B F X N T hk hi hx0 hx1 hl hlr hr; exfalso; omega
  | succ k ih =>
  intro dp un gd cn cs a0 ccd cl outer A₀ h₀ L m s Q E x l r tx tl tr vs ns B F X N T hk hi hx0 hx1 hl hlr hr hlen hsz hdp hun hret
  cases hp
  refine wpAny_call ?_
  k_dflt (refine' code_nest ?k1 ?k2 ?k3 ?k4 ?k5 ?kA ?kF ?kK ?k6 ?k7 ?k8 ?k9 ?kB ?_ ?c2 ?c3 ?c4 ?c5; (case kA => exact rfl); (case kF => exact rfl); (case kK => assumption); (case k1 => k_asm); (case k2 => k_asm); (case k3 => k_asm); (case k4 => k_asm); (case k5 => k_asm); (case k6 => k_mem); (case k7 => exact codeRec_news (by k_asm) (by k_mem) (by assumption) (by assumption)); (case k8 => ktr_room); (case k9 => exact BindsTo.of_eq rfl); (case c5 => decide); (case kB => exact locs rfl); (case c2 => exact rfl); (case c3 => exact rfl); (case c4 => exact rfl); k_whole; intro g' L' h' FG' F' N' B' X' T'; (try dsimp only); (try k_lift B'); (try k_fold))

  (k_with "my binaryOp RShift int int" => first
    | (with_reducible refine shr1 ?_; intro mid hmid)
    | (with_reducible refine shrS (by first | with_reducible assumption | omega) (by first | with_reducible assumption | omega) ?_; intro up hup hup0 hup1))
  (k_with "my binaryOp Mult int int" => (with_reducible refine mulS (by first | with_reducible assumption | omega) (by first | with_reducible assumption | omega) ?_; intro sh hsh hsh0 hsh1))
  (k_with "my binaryOp LShift int int" => (with_reducible refine shlS (by first | with_reducible assumption | omega) (by first | with_reducible assumption | omega) (by first | with_reducible assumption | omega) (by first | with_reducible assumption | omega) ?_; intro hi' hhi hhi0))
  (k_with "my binaryOp BitXor int int" => (with_reducible refine xorS (by first | with_reducible assumption | omega) (by assumption) (by assumption) ?_; intro lo hlo hlo0 hlo1))
  (k_with "my call ref" => first
    | (k_dflt (refine' ih _ _ _ _ _ _ _ _ _ _ _ _ _ _ _ _ _ _ _ _ _ _ _ _ (by k_asm) (by k_asm) (by k_asm) (by k_asm) (by k_asm) rfl (by assumption) (by first | with_reducible assumption | omega) (by first | with_reducible assumption | omega) (by first | with_reducible assumption | omega) (by first | with_reducible assumption | omega) (by first | with_reducible assumption | omega) (by first | with_reducible assumption | omega) (by first | with_reducible assumption | omega) (by ktr_room) (by ktr_units) ?_); intro h9 tk9 vs9 ns9 F9 N9 hi9 hd9; have hlen9 := hd9.len; (try dsimp only))
    | refine stopHere ?_)
  k_steps
  · exact hret _ _ _ _ (by assumption) (by assumption) (by assumption) (dig_leaf (by first | with_reducible assumption | omega) (by first | with_reducible assumption | omega) (by assumption) (by first | with_reducible assumption | omega))
  · exact hret _ _ _ _ (by assumption) (by assumption) (by assumption) (dig_node (by assumption) (by assumption) (by assumption) (by assumption) (by assumption) (by first | with_reducible assumption | omega) (by first | with_reducible assumption | omega) (by first | with_reducible assumption | omega) (by first | with_reducible assumption | omega) (by first | with_reducible assumption | omega) (by first | with_reducible assumption | omega))
theorem inner64_use {w : World} {p : Program} {loose : List Str} {mean : ExcName → Option Value} {mg mb : Str → Option Value} {base : Heap} {f c' D cA cI cN : Addr} {oc oA oI oN o59 : Obj} {doc pm ctv : Value} {n : Int} {tn : Tok} {name qual : Str} {params : Arguments} {body : List Stmt} {scope : Scope} {vsc : Array Value} {tq : Tok}
   {dp un : Nat} {gd : Option (List Code)} {cn : Str} {cs : Scope} {a0 : Addr} {ccd : Value} {cl : List (Str × Addr)} {outer : List Env} {A₀ : Around} {h₀ : Heap} {L : Addr} {m : Str → Option Value} {s : Shared} {Q E : Value → Shared → Prop} {x r : Int} {tx tl tr : Tok} {vs : List Value} {ns : List Int}
   (B : Below A₀ base outer h₀) (F : Fr h₀ L s.heap m) (X : (K39 w.params).In h₀) (N : News h₀ L s.heap [(f, fnMade name qual params body scope [("n", cN), ("inner", cI), ("a_digits", cA)] doc pm c' ctv), (c', oc), (D, W.listOf vs.toArray 0), (cN, oN), (cI, oI), (cA, oA), (59, o59)]) (T : Top p loose mean mg mb h₀) (hk : cs.kind = .function)
   (hp : nestParts (K39 w.params) 64 1 = some (name, params, body, scope)) (hoc : oc.data = .fields vsc) (hvs : vsc[1]? = some (.str qual tq)) (hN : oN.data = .cell (some (.int n tn))) (hI : oI.data = .cell (some (.ref f))) (hA : oA.data = .cell (some (.ref D))) (hn1 : 1 ≤ n) (hn2 : n ≤ 20)
   (q1 : Ne (α := Nat) cN D) (q2 : Ne (α := Nat) cA D) (q3 : Ne (α := Nat) cI D) (q4 : Ne (α := Nat) c' D) (q5 : Ne (α := Nat) f D) (q6 : Ne (α := Nat) 59 D) (hch : CodeHd base 63 59)
   (hi : IntsAre vs ns) (h0 : 0 ≤ x) (h1 : x < 2 ^ 40) (hr0 : 0 < r) (hr : r ≤ ns.length) (hsz : ns.length ≤ 64) (hdp : dp + 80 < recursionLimit) (hun : un + 260 < cLine)
   (hret : ∀ h' tk' vs' ns', Fr h₀ L h' m → News h₀ L h' [(f, fnMade name qual params body scope [("n", cN), ("inner", cI), ("a_digits", cA)] doc pm c' ctv), (c', oc), (D, W.listOf vs'.toArray 0), (cN, oN), (cI, oI), (cA, oA), (59, o59)] → IntsAre vs' ns' → Dig n.toNat x 0 r.toNat ns ns' → Q .none { s with heap := h', toks := tk' }) :
   wpAny (model rw9.row.prog w) (ktrTop dp un gd cn cs L a0 ccd cl outer) (call (.ref f) [.int x tx, .int 0 tl, .int r tr]) Q E s :=
  inner64 w p loose mean mg mb base f c' D cA cI cN oc oA oI oN o59 doc pm ctv n tn name qual params body scope vsc tq hp hoc hvs hN hI hA hn1 hn2 q1 q2 q3 q4 q5 q6 hch 64 dp un gd cn cs a0 ccd cl outer A₀ h₀ L m s Q E x 0 r tx tl tr vs ns B F X N T hk hi h0 h1 (by first | with_reducible assumption | omega) hr0 (by first | with_reducible assumption | omega) hr hsz (by first | with_reducible assumption | omega) (by first | with_reducible assumption | omega) hret
end
section
open PySem PySem.W PyProof.Rows
theorem nLem {kk : Int} {n1 m : Nat} (h0 : 0 ≤ kk) (h1 : kk ≤ 64) (hm : m = n1) (hn : 0 ≤ kk → ((n1 : Nat) : Int) = ((0 + 1 : Nat) : Int) * kk) : ((n1 : Nat) : Int).toNat = m ∧ ((n1 : Nat) : Int) ≤ ((m : Nat) : Int) ∧ m ≤ 64 ∧ ((n1 : Nat) : Int) = kk := by
  have e : ((n1 : Nat) : Int) = kk := by rw [hn h0]; exact Int.one_mul kk
  subst hm
  exact ⟨Int.toNat_natCast m, Int.le_refl _, by omega, e⟩
set_option maxRecDepth 100000 in
set_option maxHeartbeats 8000000 in
set_option pp.deepTerms false in
set_option pp.maxSteps 3000 in
theorem i2d_hit (w : World) (p : Program) (loose : List Str) (mean : ExcName → Option Value) (mg mb : Str → Option Value) (dp un : Nat) (gd : Option (List Code)) (cn : Str) (cs : Scope) (a0 : Addr) (ccd : Value) (cl : List (Str × Addr)) (outer : List Env) (A₀ : Around) (base h₀ : Heap) (L : Addr) (m : Str → Option Value) (s : Shared) (Q E : Value → Shared → Prop) (x n : Int) (t1 t2 : Tok) (c1 : Addr) (oc1 : Obj) (vs1 : Array Value) (tq : Tok) :
   Below A₀ base outer h₀ → Fr h₀ L s.heap m → (K39 w.params).In h₀ → News h₀ L s.heap ([(59, tabObj #[rawInt 89, rawInt 4, .ref c1]), (c1, oc1)]) → Top p loose mean mg mb h₀ → cs.kind = .function → 0 ≤ x → x < 2 ^ 40 → 1 ≤ n → n ≤ 20 → CodeHd base 63 59 → oc1.data = .fields vs1 → vs1[1]? = some (.str "_int2digits.<locals>.inner" tq) → dp + 90 < recursionLimit → un + 300 < cLine →
   (∀ D vs ds h' tk', Kp s.heap h' → h'.get? D = some (W.listOf vs.toArray 0) → s.heap.objs.size ≤ D → IntsAre vs ds → val n.toNat ds = x → (∀ d ∈ ds, 0 ≤ d ∧ d ≤ x) → ds.length ≤ 64 → Q (.ref D) { s with heap := h', toks := tk' }) →
   wpAny (model rw9.row.prog w) (ktrTop dp un gd cn cs L a0 ccd cl outer) (call (.ref 64) [.int x t1, .int n t2]) Q E s := by
  k_fill
  w_top off
  k_with_none
  (k_with "my omega" => (first | with_reducible assumption | (law_purse 30000 => lia) | omega +splitDisjunctions))
  (k_with "my mem" => (first | exact m9_0 | exact m9_1 | exact m9_2 | exact m9_3 | exact m9_4 | exact m9_5 | exact m9_6 | exact m9_7 | (refine' m9_s ?_; k_mem)))
  (k_with "my sub" => (first | exact allNil | exact allCons (by k_mem) (by lcg_sub) | (intro q9 hq9; repeat (first | with_reducible exact hq9 | refine List.mem_cons_of_mem _ ?_))))
  (k_with "my room" => ktr_room)
  (k_with "my units" => ktr_units)
  (k_with "my ne" => (refine neN ?_; (try dsimp only); first | exact NeH.out (by assumption) | exact Ne.symm (NeH.out (by assumption)) | omega))
  (k_with "my all" => (first | exact allNil | (refine' allCons ?_ ?_; focus k_ne; k_all)))
  (k_with "my exec Assign" => k_fold)
  (k_with "my exec Expr" => k_fold)
  (k_with "my exec If" => k_fold)
  (k_with "my exec AugAssign" => k_fold)
  (k_with "my eval BinOp" => k_fold)
  (k_with "my eval Compare" => k_fold)
  (k_with "my eval Subscript" => k_fold)
  (k_with "my eval Call" => k_fold)
  (k_with "my eval Call Attribute" => k_fold)
  (k_with "my eval IfExp" => k_fold)
  (k_with "my eval List" => k_fold)
  (k_with "my eval Tuple" => k_fold)
  intro B F X N T hk h0 h1 hn1 hn2 hch hoc1 hvs1 hdp hun hret
  obtain ⟨hk0, hk1, hk2, hk3⟩ := bits_count h0 h1 hn1
  generalize hkk : (↑(Builtin.Int.intBits x) + n - 1).fdiv n = kk at hk0 hk1 hk2 hk3
  (k_with "my binaryOp Mult ref int" => simp only [hkk])
  (k_with "my call ref" => first
    | (k_dflt ((obtain ⟨qa, qb, qc, qd⟩ := nLem (m := (List.replicate kk.toNat [(0 : Int)]).flatten.length) hk0 hk1 (by assumption) (by assumption)); refine' inner64_use (by k_asm) (by k_asm) (by k_asm) (newsCons (by k_asm) (by k_mem) (newsCons (by k_asm) (by k_mem) (newsCons (by k_asm) (by k_mem) (newsCons (by k_asm) (by k_mem) (newsCons (by k_asm) (by k_mem) (newsCons (by k_asm) (by k_mem) (newsCons (by k_asm) (by k_mem) newsNil))))))) (by k_asm) rfl rfl (by assumption) (by assumption) (by assumption) (by assumption) (by assumption) (by first | with_reducible assumption | omega) (by first | with_reducible assumption | omega) (by first | with_reducible assumption | omega) (by first | with_reducible assumption | omega) (by first | with_reducible assumption | omega) (by first | with_reducible assumption | omega) (by first | with_reducible assumption | omega) (by first | with_reducible assumption | omega) (by assumption) (by assumption) (by first | with_reducible assumption | omega) (by first | with_reducible assumption | omega) (by first | with_reducible assumption | omega) (by first | with_reducible assumption | omega) (by first | with_reducible assumption | omega) (by ktr_room) (by ktr_units) ?_); intro h9 tk9 vs9 ns9 F9 N9 hi9 hd9; obtain hlen9 := Nat.le_trans (Nat.le_of_eq hd9.len) qc; (try dsimp only))
    | refine stopHere ?_)
  refine wpAny_call ?_
  k_dflt (refine' codeMC ?k1 ?k2 ?k3 ?k4 ?k5 ?kA ?kF ?kK ?k6 ?k7 ?k8 ?k9 ?kB ?kD ?_ ?c2 ?c3 ?c4; (case kA => exact rfl); (case kF => exact rfl); (case kK => assumption); (case k1 => k_asm); (case k2 => k_asm); (case k3 => k_asm); (case k4 => k_asm); (case k5 => k_asm); (case k6 => k_is); (case k7 => k_is); (case k8 => ktr_room); (case k9 => first | exact BindsTo.of_eq rfl | exact binds_K (by k_in) rfl (by k_is) rfl rfl rfl); (case kB => exact rfl); (case kD => decide +kernel); (case c2 => exact rfl); (case c3 => exact rfl); (case c4 => exact rfl); k_whole; intro g' L' h' tk' cells' hg FG' F' N' Y' B' X' T' l1 hL'; (try k_lt l1); k_cells Y'; (try simp only [List.cons_append, List.nil_append] at N'); (try dsimp only); (try k_lift B'); (try k_fold))
  k_steps
  · intro hkp
    obtain ⟨hv, hb, hl⟩ := dig_all (by first | with_reducible assumption | omega) hd9
    exact hret _ _ _ _ _ (kpOf hg hkp (fun q hq => (N q hq).1) (allCons (newsGet (by k_asm) (by k_mem)) (allCons (newsGet (by k_asm) (by k_mem)) (fun _ h => nomatch h)))) (newsGet (by k_asm) (by k_mem)) (by first | with_reducible assumption | omega) (by assumption) hv hb (by first | with_reducible assumption | omega)
  · intro hkp
    obtain ⟨hv, hb, hl⟩ := zero_list (n := n.toNat) (x := x) (kk := kk) (by first | with_reducible assumption | omega) (by first | with_reducible assumption | omega)
    exact hret _ _ _ _ _ (kpOf hg hkp (fun q hq => (N q hq).1) (allCons (newsGet (by k_asm) (by k_mem)) (allCons (newsGet (by k_asm) (by k_mem)) (fun _ h => nomatch h)))) (newsGet (by k_asm) (by k_mem)) (by first | with_reducible assumption | omega) (by assumption) hv hb (by first | with_reducible assumption | omega)
set_option maxRecDepth 100000 in
set_option maxHeartbeats 8000000 in
set_option pp.deepTerms false in
set_option pp.maxSteps 3000 in
theorem i2d_miss (w : World) (p : Program) (loose : List Str) (mean : ExcName → Option Value) (mg mb : Str → Option Value) (dp un : Nat) (gd : Option (List Code)) (cn : Str) (cs : Scope) (a0 : Addr) (ccd : Value) (cl : List (Str × Addr)) (outer : List Env) (A₀ : Around) (base h₀ : Heap) (L : Addr) (m : Str → Option Value) (s : Shared) (Q E : Value → Shared → Prop) (x n : Int) (t1 t2 : Tok) :
   Below A₀ base outer h₀ → Fr h₀ L s.heap m → (K39 w.params).In h₀ → News h₀ L s.heap ([(59, tabObj #[])]) → Top p loose mean mg mb h₀ → cs.kind = .function → 0 ≤ x → x < 2 ^ 40 → 1 ≤ n → n ≤ 20 → CodeHd base 63 59 → dp + 90 < recursionLimit → un + 300 < cLine →
   (∀ D vs ds h' tk' c1 oc1 vs1 tq, (∀ b o, s.heap.get? b = some o → b ≠ 59 → h'.get? b = some o) → h'.get? 59 = some (tabObj #[rawInt 89, rawInt 4, .ref c1]) → h'.get? c1 = some oc1 → s.heap.objs.size ≤ c1 → oc1.data = .fields vs1 → vs1[1]? = some (.str "_int2digits.<locals>.inner" tq) → h'.get? D = some (W.listOf vs.toArray 0) → s.heap.objs.size ≤ D → IntsAre vs ds → val n.toNat ds = x → (∀ d ∈ ds, 0 ≤ d ∧ d ≤ x) → ds.length ≤ 64 → Q (.ref D) { s with heap := h', toks := tk' }) →
   wpAny (model rw9.row.prog w) (ktrTop dp un gd cn cs L a0 ccd cl outer) (call (.ref 64) [.int x t1, .int n t2]) Q E s := by
  k_fill
  w_top off
  k_with_none
  (k_with "my omega" => (first | with_reducible assumption | (law_purse 30000 => lia) | omega +splitDisjunctions))
  (k_with "my mem" => (first | exact m9_0 | exact m9_1 | exact m9_2 | exact m9_3 | exact m9_4 | exact m9_5 | exact m9_6 | exact m9_7 | (refine' m9_s ?_; k_mem)))
  (k_with "my sub" => (first | exact allNil | exact allCons (by k_mem) (by lcg_sub) | (intro q9 hq9; repeat (first | with_reducible exact hq9 | refine List.mem_cons_of_mem _ ?_))))
  (k_with "my room" => ktr_room)
  (k_with "my units" => ktr_units)
  (k_with "my ne" => (refine neN ?_; (try dsimp only); first | exact NeH.out (by assumption) | exact Ne.symm (NeH.out (by assumption)) | omega))
  (k_with "my all" => (first | exact allNil | (refine' allCons ?_ ?_; focus k_ne; k_all)))
  (k_with "my exec Assign" => k_fold)
  (k_with "my exec Expr" => k_fold)
  (k_with "my exec If" => k_fold)
  (k_with "my exec AugAssign" => k_fold)
  (k_with "my eval BinOp" => k_fold)
  (k_with "my eval Compare" => k_fold)
  (k_with "my eval Subscript" => k_fold)
  (k_with "my eval Call" => k_fold)
  (k_with "my eval Call Attribute" => k_fold)
  (k_with "my eval IfExp" => k_fold)
  (k_with "my eval List" => k_fold)
  (k_with "my eval Tuple" => k_fold)
  intro B F X N T hk h0 h1 hn1 hn2 hch hdp hun hret
  obtain ⟨hk0, hk1, hk2, hk3⟩ := bits_count h0 h1 hn1
  generalize hkk : (↑(Builtin.Int.intBits x) + n - 1).fdiv n = kk at hk0 hk1 hk2 hk3
  (k_with "my binaryOp Mult ref int" => simp only [hkk])
  (k_with "my call ref" => first
    | (k_dflt ((obtain ⟨qa, qb, qc, qd⟩ := nLem (m := (List.replicate kk.toNat [(0 : Int)]).flatten.length) hk0 hk1 (by assumption) (by assumption)); refine' inner64_use (by k_asm) (by k_asm) (by k_asm) (newsCons (by k_asm) (by k_mem) (newsCons (by k_asm) (by k_mem) (newsCons (by k_asm) (by k_mem) (newsCons (by k_asm) (by k_mem) (newsCons (by k_asm) (by k_mem) (newsCons (by k_asm) (by k_mem) (newsCons (by k_asm) (by k_mem) newsNil))))))) (by k_asm) rfl rfl (by assumption) (by assumption) (by assumption) (by assumption) (by assumption) (by first | with_reducible assumption | omega) (by first | with_reducible assumption | omega) (by first | with_reducible assumption | omega) (by first | with_reducible assumption | omega) (by first | with_reducible assumption | omega) (by first | with_reducible assumption | omega) (by first | with_reducible assumption | omega) (by first | with_reducible assumption | omega) (by assumption) (by assumption) (by first | with_reducible assumption | omega) (by first | with_reducible assumption | omega) (by first | with_reducible assumption | omega) (by first | with_reducible assumption | omega) (by first | with_reducible assumption | omega) (by ktr_room) (by ktr_units) ?_); intro h9 tk9 vs9 ns9 F9 N9 hi9 hd9; obtain hlen9 := Nat.le_trans (Nat.le_of_eq hd9.len) qc; (try dsimp only))
    | refine stopHere ?_)
  refine wpAny_call ?_
  k_dflt (refine' codeMC ?k1 ?k2 ?k3 ?k4 ?k5 ?kA ?kF ?kK ?k6 ?k7 ?k8 ?k9 ?kB ?kD ?_ ?c2 ?c3 ?c4; (case kA => exact rfl); (case kF => exact rfl); (case kK => assumption); (case k1 => k_asm); (case k2 => k_asm); (case k3 => k_asm); (case k4 => k_asm); (case k5 => k_asm); (case k6 => k_is); (case k7 => k_is); (case k8 => ktr_room); (case k9 => first | exact BindsTo.of_eq rfl | exact binds_K (by k_in) rfl (by k_is) rfl rfl rfl); (case kB => exact rfl); (case kD => decide +kernel); (case c2 => exact rfl); (case c3 => exact rfl); (case c4 => exact rfl); k_whole; intro g' L' h' tk' cells' hg FG' F' N' Y' B' X' T' l1 hL'; (try k_lt l1); k_cells Y'; (try simp only [List.cons_append, List.nil_append] at N'); (try dsimp only); (try k_lift B'); (try k_fold))
  k_steps
  · intro hkp
    obtain ⟨hv, hb, hl⟩ := dig_all (by first | with_reducible assumption | omega) hd9
    exact hret _ _ _ _ _ _ _ _ _ (fun b o e hb => hkp b o (hg b o e (by simpa using hb))) (newsGet (by k_asm) (by k_mem)) (newsGet (by k_asm) (by k_mem)) (by first | with_reducible assumption | omega) (by assumption) (by assumption) (newsGet (by k_asm) (by k_mem)) (by first | with_reducible assumption | omega) (by assumption) hv hb (by first | with_reducible assumption | omega)
  · intro hkp
    obtain ⟨hv, hb, hl⟩ := zero_list (n := n.toNat) (x := x) (kk := kk) (by first | with_reducible assumption | omega) (by first | with_reducible assumption | omega)
    exact hret _ _ _ _ _ _ _ _ _ (fun b o e hb => hkp b o (hg b o e (by simpa using hb))) (newsGet (by k_asm) (by k_mem)) (newsGet (by k_asm) (by k_mem)) (by first | with_reducible assumption | omega) (by assumption) (by assumption) (newsGet (by k_asm) (by k_mem)) (by first | with_reducible assumption | omega) (by assumption) hv hb (by first | with_reducible assumption | omega)
end
section
open PySem PySem.W PyProof.Rows PySem.Calls
theorem val_nonneg (n : Nat) : ∀ ns : List Int, (∀ d ∈ ns, 0 ≤ d) → 0 ≤ val n ns
  | [], _ => by simp [val]
  | d :: r, h => by
    have h1 := h d (.head _)
    have h2 := val_nonneg n r fun x hx => h x (.tail _ hx)
    have h3 := Int.mul_nonneg (Int.le_of_lt (pow_pos' n)) h2
    show 0 ≤ d + 2 ^ n * val n r
    omega
noncomputable def seg (n : Nat) (ns : List Int) (l r : Nat) : Int := val n ((ns.drop l).take (r - l))
theorem seg_one {n l : Nat} {ns : List Int} (h : l < ns.length) : seg n ns l (l + 1) = ns.getD l 0 := by
  unfold seg
  have e : l + 1 - l = 1 := by omega
  rw [e, List.drop_eq_getElem_cons h, List.take_succ_cons, List.take_zero]
  simp [val, List.getD_eq_getElem?_getD, h]
theorem seg_split {n l c r : Nat} {ns : List Int} (h1 : l ≤ c) (h2 : c ≤ r) (h3 : r ≤ ns.length) : seg n ns l r = seg n ns l c + 2 ^ (n * (c - l)) * seg n ns c r := by
  unfold seg
  have e : (ns.drop l).take (r - l) = (ns.drop l).take (c - l) ++ (ns.drop c).take (r - c) := by
    have e1 : r - l = (c - l) + (r - c) := by omega
    rw [e1, List.take_add, List.drop_drop]
    congr 3
    omega
  have e2 : ((ns.drop l).take (c - l)).length = c - l := by simp; omega
  rw [e, val_append, e2]
theorem pow_ge_one (k : Nat) : (1 : Int) ≤ 2 ^ k := by have := pow_pos' k; omega
theorem seg_bounds {n l r : Nat} {ns : List Int} (hn : ∀ d ∈ ns, 0 ≤ d) : 0 ≤ seg n ns l r ∧ seg n ns l r ≤ val n ns := by
  have hs : ∀ d ∈ (ns.drop l).take (r - l), 0 ≤ d := fun d hd => hn d (List.mem_of_mem_drop (List.mem_of_mem_take hd))
  refine ⟨val_nonneg n _ hs, ?_⟩
  have e1 : val n ns = val n (ns.take l) + 2 ^ (n * (ns.take l).length) * val n (ns.drop l) := by rw [← val_append, List.take_append_drop]
  have e2 : val n (ns.drop l) = seg n ns l r + 2 ^ (n * ((ns.drop l).take (r - l)).length) * val n ((ns.drop l).drop (r - l)) := by unfold seg; rw [← val_append, List.take_append_drop]
  have p1 := val_nonneg n (ns.take l) fun d hd => hn d (List.mem_of_mem_take hd)
  have p2 := val_nonneg n (ns.drop l) fun d hd => hn d (List.mem_of_mem_drop hd)
  have p3 := val_nonneg n ((ns.drop l).drop (r - l)) fun d hd => hn d (List.mem_of_mem_drop (List.mem_of_mem_drop hd))
  have q1 := pow_ge_one (n * (ns.take l).length)
  have q2 := Int.mul_nonneg (Int.le_of_lt (pow_pos' (n * ((ns.drop l).take (r - l)).length))) p3
  have q3 : val n (ns.drop l) ≤ 2 ^ (n * (ns.take l).length) * val n (ns.drop l) := by
    have := Int.mul_le_mul_of_nonneg_right q1 p2
    omega
  omega
theorem seg_leaf {n : Nat} {l r : Int} {ns : List Int} (hl : 0 ≤ l) (hr : l + 1 = r) (hlen : r ≤ ns.length) : ns.getD l.toNat 0 = seg n ns l.toNat r.toNat := by
  have e : r.toNat = l.toNat + 1 := by omega
  rw [e, seg_one (by first | with_reducible assumption | omega)]
theorem seg_node {n l mid r sh v1 v2 v3 : Int} {ns : List Int} (e1 : v1 = seg n.toNat ns mid.toNat r.toNat) (e2 : v2 = seg n.toNat ns l.toNat mid.toNat) (e3 : v3 = v1 * 2 ^ sh.toNat) (hsh : sh = (mid - l) * n) (hl : 0 ≤ l) (h1 : l ≤ mid) (h2 : mid ≤ r) (hlen : r ≤ ns.length) (hn : 0 ≤ n) : v3 + v2 = seg n.toNat ns l.toNat r.toNat := by
  have e : sh.toNat = n.toNat * (mid.toNat - l.toNat) := by
    have e : ((n.toNat * (mid.toNat - l.toNat) : Nat) : Int) = sh := by
      rw [Int.natCast_mul, Int.natCast_sub (by first | with_reducible assumption | omega), Int.toNat_of_nonneg hn, Int.toNat_of_nonneg (by first | with_reducible assumption | omega), Int.toNat_of_nonneg hl, hsh, Int.mul_comm]
    omega
  rw [seg_split (c := mid.toNat) (by first | with_reducible assumption | omega) (by first | with_reducible assumption | omega) (by first | with_reducible assumption | omega), ← e, ← e1, ← e2, e3, Int.mul_comm, Int.add_comm]
theorem seg_all {n k : Nat} {ns : List Int} (hk : k = ns.length) : seg n ns 0 k = val n ns := by
  subst hk; unfold seg; simp
end
section
open PySem PySem.W PyProof.Rows
set_option maxRecDepth 100000 in
set_option maxHeartbeats 4000000 in
theorem inner71 (w : World) (p : Program) (loose : List Str) (mean : ExcName → Option Value) (mg mb : Str → Option Value) (base : Heap) (f c' D cA cI cN : Addr) (oc oA oI oN o66 : Obj) (doc pm ctv : Value) (n : Int) (tn : Tok) (name qual : Str) (params : Arguments) (body : List Stmt) (scope : Scope) (vsc : Array Value) (tq : Tok) (vs : List Value) (ns : List Int) (cnt : Nat) :
  nestParts (K39 w.params) 71 0 = some (name, params, body, scope) → oc.data = .fields vsc → vsc[1]? = some (.str qual tq) → oN.data = .cell (some (.int n tn)) → oI.data = .cell (some (.ref f)) → oA.data = .cell (some (.ref D)) → 1 ≤ n → n ≤ 20 → CodeHd base 70 66 → IntsAre vs ns → (∀ d ∈ ns, 0 ≤ d) → val n.toNat ns < 2 ^ 40 → ns.length ≤ 64 →
  ∀ k : Nat, ∀ (dp un : Nat) (gd : Option (List Code)) (cn : Str) (cs : Scope) (a0 : Addr) (ccd : Value) (cl : List (Str × Addr)) (outer : List Env) (A₀ : Around) (h₀ : Heap) (L : Addr) (m : Str → Option Value) (s : Shared) (Q E : Value → Shared → Prop) (l r : Int) (tl tr : Tok),
   Below A₀ base outer h₀ → Fr h₀ L s.heap m → (K39 w.params).In h₀ → News h₀ L s.heap [(f, fnMade name qual params body scope [("n", cN), ("inner", cI), ("digits", cA)] doc pm c' ctv), (c', oc), (D, W.listOf vs.toArray cnt), (cN, oN), (cI, oI), (cA, oA), (66, o66)] → Top p loose mean mg mb h₀ → cs.kind = .function →
   0 ≤ l → l < r → r - l ≤ k → r ≤ ns.length → dp + k + 9 < recursionLimit → un + 3 * k + 60 < cLine →
   (∀ h' tk' v t, Fr h₀ L h' m → News h₀ L h' [(f, fnMade name qual params body scope [("n", cN), ("inner", cI), ("digits", cA)] doc pm c' ctv), (c', oc), (D, W.listOf vs.toArray cnt), (cN, oN), (cI, oI), (cA, oA), (66, o66)] → v = seg n.toNat ns l.toNat r.toNat → 0 ≤ v → v < 2 ^ 40 → Q (.int v t) { s with heap := h', toks := tk' }) →
   wpAny (model rw9.row.prog w) (ktrTop dp un gd cn cs L a0 ccd cl outer) (call (.ref f) [.int l tl, .int r tr]) Q E s := by
  k_fill
  w_top off
  k_with_none
  (k_with "my omega" => (first | with_reducible assumption | (law_purse 30000 => lia) | omega +splitDisjunctions))
  (k_with "my mem" => (first | exact m9_0 | exact m9_1 | exact m9_2 | exact m9_3 | exact m9_4 | exact m9_5 | exact m9_6 | exact m9_7 | (refine' m9_s ?_; k_mem)))
  (k_with "my sub" => (first | exact allNil | exact allCons (by k_mem) (by lcg_sub) | (intro q9 hq9; repeat (first | with_reducible exact hq9 | refine List.mem_cons_of_mem _ ?_))))
  (k_with "my room" => ktr_room)
  (k_with "my units" => ktr_units)
  (k_with "my ne" => (refine neN ?_; (try dsimp only); first | exact NeH.out (by assumption) | exact Ne.symm (NeH.out (by assumption)) | omega))
  (k_with "my all" => (first | exact allNil | (refine' allCons ?_ ?_; focus k_ne; k_all)))
  (k_with "my exec Assign" => k_fold)
  (k_with "my exec Expr" => k_fold)
  (k_with "my exec If" => k_fold)
  (k_with "my exec AugAssign" => k_fold)
  (k_with "my eval BinOp" => k_fold)
  (k_with "my eval Compare" => k_fold)
  (k_with "my eval Subscript" => k_fold)
  (k_with "my eval Call" => k_fold)
  (k_with "my eval Call Attribute" => k_fold)
  (k_with "my eval IfExp" => k_fold)
  (k_with "my eval List" => k_fold)
  (k_with "my eval Tuple" => k_fold)
  intro hp hoc hvs hN hI hA hn1 hn2 hch hi hnn hval hsz
  intro k
  induction k with
  | zero => intro dp un gd cn cs a0 ccd cl outer A₀ h₀ L m s Q E l r tl tr B F X N T hk hl hlr hr; exfalso; omega
  | succ k ih =>
  intro dp un gd cn cs a0 ccd cl outer A₀ h₀ L m s Q E l r tl tr B F X N T hk hl hlr hr hlen hdp hun hret
  cases hp
  refine wpAny_call ?_
  k_dflt (refine' code_nest ?k1 ?k2 ?k3 ?k4 ?k5 ?kA ?kF ?kK ?k6 ?k7 ?k8 ?k9 ?kB ?_ ?c2 ?c3 ?c4 ?c5; (case kA => exact rfl); (case kF => exact rfl); (case kK => assumption); (case k1 => k_asm); (case k2 => k_asm); (case k3 => k_asm); (case k4 => k_asm); (case k5 => k_asm); (case k6 => k_mem); (case k7 => exact codeRec_news (by k_asm) (by k_mem) (by assumption) (by assumption)); (case k8 => ktr_room); (case k9 => exact BindsTo.of_eq rfl); (case c5 => decide); (case kB => exact locs rfl); (case c2 => exact rfl); (case c3 => exact rfl); (case c4 => exact rfl); k_whole; intro g' L' h' FG' F' N' B' X' T'; (try dsimp only); (try k_lift B'); (try k_fold))

  (k_with "my binaryOp RShift int int" => (with_reducible refine shr1 ?_; intro mid hmid))
  (k_with "my binaryOp Mult int int" => (with_reducible refine mulS (by first | with_reducible assumption | omega) (by first | with_reducible assumption | omega) ?_; intro sh hsh hsh0 hsh1))
  (k_with "my binaryOp LShift int int" => (with_reducible refine shlS (by first | with_reducible assumption | omega) (by first | with_reducible assumption | omega) (by first | with_reducible assumption | omega) (by first | with_reducible assumption | omega) ?_; intro v3 hv3 hv30))
  (k_with "my call ref" => first
    | (k_dflt (refine' ih _ _ _ _ _ _ _ _ _ _ _ _ _ _ _ _ _ _ _ _ (by k_asm) (by k_asm) (by k_asm) (by k_asm) (by k_asm) rfl (by first | with_reducible assumption | omega) (by first | with_reducible assumption | omega) (by first | with_reducible assumption | omega) (by first | with_reducible assumption | omega) (by ktr_room) (by ktr_units) ?_); intro h9 tk9 v9 t9 F9 N9 hv9 hv90 hv91; (try dsimp only))
    | refine stopHere ?_)
  k_steps
  · have hb := seg_bounds (n := n.toNat) (l := l.toNat) (r := r.toNat) hnn
    have he := seg_leaf (n := n.toNat) (ns := ns) (l := l) (r := r) (by first | with_reducible assumption | omega) (by assumption) (by first | with_reducible assumption | omega)
    rw [he]
    exact hret _ _ _ _ (by assumption) (by assumption) rfl (by first | with_reducible assumption | omega) (by first | with_reducible assumption | omega)
  · have hb := seg_bounds (n := n.toNat) (l := l.toNat) (r := r.toNat) hnn
    have he := seg_node (n := n) (ns := ns) (l := l) (r := r) (mid := mid) (sh := sh) (by assumption) (by assumption) hv3 hsh (by first | with_reducible assumption | omega) (by first | with_reducible assumption | omega) (by first | with_reducible assumption | omega) (by first | with_reducible assumption | omega) (by first | with_reducible assumption | omega)
    rw [he]
    exact hret _ _ _ _ (by assumption) (by assumption) rfl (by first | with_reducible assumption | omega) (by first | with_reducible assumption | omega)
theorem inner71_use {w : World} {p : Program} {loose : List Str} {mean : ExcName → Option Value} {mg mb : Str → Option Value} {base : Heap} {f c' D cA cI cN : Addr} {oc oA oI oN o66 : Obj} {doc pm ctv : Value} {n : Int} {tn : Tok} {name qual : Str} {params : Arguments} {body : List Stmt} {scope : Scope} {vsc : Array Value} {tq : Tok}
   {dp un : Nat} {gd : Option (List Code)} {cn : Str} {cs : Scope} {a0 : Addr} {ccd : Value} {cl : List (Str × Addr)} {outer : List Env} {A₀ : Around} {h₀ : Heap} {L : Addr} {m : Str → Option Value} {s : Shared} {Q E : Value → Shared → Prop} {r : Int} {tl tr : Tok} {vs : List Value} {ns : List Int} {cnt : Nat}
   (B : Below A₀ base outer h₀) (F : Fr h₀ L s.heap m) (X : (K39 w.params).In h₀) (N : News h₀ L s.heap [(f, fnMade name qual params body scope [("n", cN), ("inner", cI), ("digits", cA)] doc pm c' ctv), (c', oc), (D, W.listOf vs.toArray cnt), (cN, oN), (cI, oI), (cA, oA), (66, o66)]) (T : Top p loose mean mg mb h₀) (hk : cs.kind = .function)
   (hp : nestParts (K39 w.params) 71 0 = some (name, params, body, scope)) (hoc : oc.data = .fields vsc) (hvs : vsc[1]? = some (.str qual tq)) (hN : oN.data = .cell (some (.int n tn))) (hI : oI.data = .cell (some (.ref f))) (hA : oA.data = .cell (some (.ref D))) (hn1 : 1 ≤ n) (hn2 : n ≤ 20)
   (hch : CodeHd base 70 66) (hi : IntsAre vs ns) (hnn : ∀ d ∈ ns, 0 ≤ d) (hval : val n.toNat ns < 2 ^ 40) (hsz : ns.length ≤ 64) (hr0 : 0 < r) (hr : r = ns.length) (hdp : dp + 80 < recursionLimit) (hun : un + 260 < cLine)
   (hret : ∀ h' tk' v t, Fr h₀ L h' m → News h₀ L h' [(f, fnMade name qual params body scope [("n", cN), ("inner", cI), ("digits", cA)] doc pm c' ctv), (c', oc), (D, W.listOf vs.toArray cnt), (cN, oN), (cI, oI), (cA, oA), (66, o66)] → v = val n.toNat ns → Q (.int v t) { s with heap := h', toks := tk' }) :
   wpAny (model rw9.row.prog w) (ktrTop dp un gd cn cs L a0 ccd cl outer) (call (.ref f) [.int 0 tl, .int r tr]) Q E s :=
  inner71 w p loose mean mg mb base f c' D cA cI cN oc oA oI oN o66 doc pm ctv n tn name qual params body scope vsc tq vs ns cnt hp hoc hvs hN hI hA hn1 hn2 hch hi hnn hval hsz 64 dp un gd cn cs a0 ccd cl outer A₀ h₀ L m s Q E 0 r tl tr B F X N T hk (by first | with_reducible assumption | omega) hr0 (by first | with_reducible assumption | omega) (by first | with_reducible assumption | omega) (by first | with_reducible assumption | omega) (by first | with_reducible assumption | omega)
    (fun h' tk' v t F' N' e _ _ => hret h' tk' v t F' N' (e.trans (seg_all (by first | with_reducible assumption | omega))))
set_option maxRecDepth 100000 in
set_option maxHeartbeats 8000000 in
set_option pp.deepTerms false in
set_option pp.maxSteps 3000 in
theorem d2i_hit (w : World) (p : Program) (loose : List Str) (mean : ExcName → Option Value) (mg mb : Str → Option Value) (dp un : Nat) (gd : Option (List Code)) (cn : Str) (cs : Scope) (a0 : Addr) (ccd : Value) (cl : List (Str × Addr)) (outer : List Env) (A₀ : Around) (base h₀ : Heap) (L : Addr) (m : Str → Option Value) (s : Shared) (Q E : Value → Shared → Prop) (l : Addr) (cnt : Nat) (vs : List Value) (ns : List Int) (n : Int) (t2 : Tok) (c1 : Addr) (oc1 : Obj) (vs1 : Array Value) (tq : Tok) :
   Below A₀ base outer h₀ → Fr h₀ L s.heap m → (K39 w.params).In h₀ → News h₀ L s.heap ([(66, tabObj #[rawInt 104, rawInt 4, .ref c1]), (c1, oc1), (l, W.listOf vs.toArray cnt)]) → Top p loose mean mg mb h₀ → cs.kind = .function → 1 ≤ n → n ≤ 20 → LT.lt (α := Nat) 66 l → CodeHd base 70 66 → IntsAre vs ns → (∀ d ∈ ns, 0 ≤ d) → val n.toNat ns < 2 ^ 40 → ns.length ≤ 64 → oc1.data = .fields vs1 → vs1[1]? = some (.str "_digits2int.<locals>.inner" tq) → dp + 90 < recursionLimit → un + 300 < cLine →
   (∀ h' tk' t, Kp s.heap h' → Q (.int (val n.toNat ns) t) { s with heap := h', toks := tk' }) →
   wpAny (model rw9.row.prog w) (ktrTop dp un gd cn cs L a0 ccd cl outer) (call (.ref 71) [.ref l, .int n t2]) Q E s := by
  k_fill
  w_top off
  k_with_none
  (k_with "my omega" => (first | with_reducible assumption | (law_purse 30000 => lia) | omega +splitDisjunctions))
  (k_with "my mem" => (first | exact m9_0 | exact m9_1 | exact m9_2 | exact m9_3 | exact m9_4 | exact m9_5 | exact m9_6 | exact m9_7 | (refine' m9_s ?_; k_mem)))
  (k_with "my sub" => (first | exact allNil | exact allCons (by k_mem) (by lcg_sub) | (intro q9 hq9; repeat (first | with_reducible exact hq9 | refine List.mem_cons_of_mem _ ?_))))
  (k_with "my room" => ktr_room)
  (k_with "my units" => ktr_units)
  (k_with "my ne" => (refine neN ?_; (try dsimp only); first | exact NeH.out (by assumption) | exact Ne.symm (NeH.out (by assumption)) | omega))
  (k_with "my all" => (first | exact allNil | (refine' allCons ?_ ?_; focus k_ne; k_all)))
  (k_with "my exec Assign" => k_fold)
  (k_with "my exec Expr" => k_fold)
  (k_with "my exec If" => k_fold)
  (k_with "my exec AugAssign" => k_fold)
  (k_with "my eval BinOp" => k_fold)
  (k_with "my eval Compare" => k_fold)
  (k_with "my eval Subscript" => k_fold)
  (k_with "my eval Call" => k_fold)
  (k_with "my eval Call Attribute" => k_fold)
  (k_with "my eval IfExp" => k_fold)
  (k_with "my eval List" => k_fold)
  (k_with "my eval Tuple" => k_fold)
  intro B F X N T hk hn1 hn2 hl6 hch hi hnn hval hsz hoc1 hvs1 hdp hun hret
  (k_with "my call ref" => first
    | (k_dflt (refine' inner71_use (by k_asm) (by k_asm) (by k_asm) (newsCons (by k_asm) (by k_mem) (newsCons (by k_asm) (by k_mem) (newsCons (by k_asm) (by k_mem) (newsCons (by k_asm) (by k_mem) (newsCons (by k_asm) (by k_mem) (newsCons (by k_asm) (by k_mem) (newsCons (by k_asm) (by k_mem) newsNil))))))) (by k_asm) rfl rfl (by assumption) (by assumption) (by assumption) (by assumption) (by assumption) (by first | with_reducible assumption | omega) (by first | with_reducible assumption | omega) (by assumption) (by assumption) (by assumption) (by assumption) (by first | with_reducible assumption | omega) (by first | with_reducible assumption | omega) (by first | with_reducible assumption | omega) (by ktr_room) (by ktr_units) ?_); intro h9 tk9 v9 t9 F9 N9 hv9; (try dsimp only))
    | refine stopHere ?_)
  refine wpAny_call ?_
  k_dflt (refine' codeMC ?k1 ?k2 ?k3 ?k4 ?k5 ?kA ?kF ?kK ?k6 ?k7 ?k8 ?k9 ?kB ?kD ?_ ?c2 ?c3 ?c4; (case kA => exact rfl); (case kF => exact rfl); (case kK => assumption); (case k1 => k_asm); (case k2 => k_asm); (case k3 => k_asm); (case k4 => k_asm); (case k5 => k_asm); (case k6 => k_is); (case k7 => k_is); (case k8 => ktr_room); (case k9 => first | exact BindsTo.of_eq rfl | exact binds_K (by k_in) rfl (by k_is) rfl rfl rfl); (case kB => exact rfl); (case kD => decide +kernel); (case c2 => exact rfl); (case c3 => exact rfl); (case c4 => exact rfl); k_whole; intro g' L' h' tk' cells' hg FG' F' N' Y' B' X' T' l1 hL'; (try k_lt l1); k_cells Y'; (try simp only [List.cons_append, List.nil_append] at N'); (try dsimp only); (try k_lift B'); (try k_fold))
  k_steps
  · intro hkp
    subst hv9
    exact hret _ _ _ (kpOf hg hkp (fun q hq => (N q hq).1) (allCons (newsGet (by k_asm) (by k_mem)) (allCons (newsGet (by k_asm) (by k_mem)) (allCons (newsGet (by k_asm) (by k_mem)) (fun _ h => nomatch h)))))
  · intro hkp
    have hz : ns = [] := List.eq_nil_of_length_eq_zero (by first | with_reducible assumption | omega)
    have hz2 : val n.toNat ns = 0 := by rw [hz]; rfl
    rw [hz2] at hret
    exact hret _ _ _ (kpOf hg hkp (fun q hq => (N q hq).1) (allCons (newsGet (by k_asm) (by k_mem)) (allCons (newsGet (by k_asm) (by k_mem)) (allCons (newsGet (by k_asm) (by k_mem)) (fun _ h => nomatch h)))))
set_option maxRecDepth 100000 in
set_option maxHeartbeats 8000000 in
set_option pp.deepTerms false in
set_option pp.maxSteps 3000 in
theorem d2i_miss (w : World) (p : Program) (loose : List Str) (mean : ExcName → Option Value) (mg mb : Str → Option Value) (dp un : Nat) (gd : Option (List Code)) (cn : Str) (cs : Scope) (a0 : Addr) (ccd : Value) (cl : List (Str × Addr)) (outer : List Env) (A₀ : Around) (base h₀ : Heap) (L : Addr) (m : Str → Option Value) (s : Shared) (Q E : Value → Shared → Prop) (l : Addr) (cnt : Nat) (vs : List Value) (ns : List Int) (n : Int) (t2 : Tok) :
   Below A₀ base outer h₀ → Fr h₀ L s.heap m → (K39 w.params).In h₀ → News h₀ L s.heap ([(66, tabObj #[]), (l, W.listOf vs.toArray cnt)]) → Top p loose mean mg mb h₀ → cs.kind = .function → 1 ≤ n → n ≤ 20 → LT.lt (α := Nat) 66 l → CodeHd base 70 66 → IntsAre vs ns → (∀ d ∈ ns, 0 ≤ d) → val n.toNat ns < 2 ^ 40 → ns.length ≤ 64 → dp + 90 < recursionLimit → un + 300 < cLine →
   (∀ h' tk' t c1 oc1 vs1 tq, (∀ b o, s.heap.get? b = some o → b ≠ 66 → h'.get? b = some o) → h'.get? 66 = some (tabObj #[rawInt 104, rawInt 4, .ref c1]) → h'.get? c1 = some oc1 → s.heap.objs.size ≤ c1 → oc1.data = .fields vs1 → vs1[1]? = some (.str "_digits2int.<locals>.inner" tq) → Q (.int (val n.toNat ns) t) { s with heap := h', toks := tk' }) →
   wpAny (model rw9.row.prog w) (ktrTop dp un gd cn cs L a0 ccd cl outer) (call (.ref 71) [.ref l, .int n t2]) Q E s := by
  k_fill
  w_top off
  k_with_none
  (k_with "my omega" => (first | with_reducible assumption | (law_purse 30000 => lia) | omega +splitDisjunctions))
  (k_with "my mem" => (first | exact m9_0 | exact m9_1 | exact m9_2 | exact m9_3 | exact m9_4 | exact m9_5 | exact m9_6 | exact m9_7 | (refine' m9_s ?_; k_mem)))
  (k_with "my sub" => (first | exact allNil | exact allCons (by k_mem) (by lcg_sub) | (intro q9 hq9; repeat (first | with_reducible exact hq9 | refine List.mem_cons_of_mem _ ?_))))
  (k_with "my room" => ktr_room)
  (k_with "my units" => ktr_units)
  (k_with "my ne" => (refine neN ?_; (try dsimp only); first | exact NeH.out (by assumption) | exact Ne.symm (NeH.out (by assumption)) | omega))
  (k_with "my all" => (first | exact allNil | (refine' allCons ?_ ?_; focus k_ne; k_all)))
  (k_with "my exec Assign" => k_fold)
  (k_with "my exec Expr" => k_fold)
  (k_with "my exec If" => k_fold)
  (k_with "my exec AugAssign" => k_fold)
  (k_with "my eval BinOp" => k_fold)
  (k_with "my eval Compare" => k_fold)
  (k_with "my eval Subscript" => k_fold)
  (k_with "my eval Call" => k_fold)
  (k_with "my eval Call Attribute" => k_fold)
  (k_with "my eval IfExp" => k_fold)
  (k_with "my eval List" => k_fold)
  (k_with "my eval Tuple" => k_fold)
  intro B F X N T hk hn1 hn2 hl6 hch hi hnn hval hsz hdp hun hret
  (k_with "my call ref" => first
    | (k_dflt (refine' inner71_use (by k_asm) (by k_asm) (by k_asm) (newsCons (by k_asm) (by k_mem) (newsCons (by k_asm) (by k_mem) (newsCons (by k_asm) (by k_mem) (newsCons (by k_asm) (by k_mem) (newsCons (by k_asm) (by k_mem) (newsCons (by k_asm) (by k_mem) (newsCons (by k_asm) (by k_mem) newsNil))))))) (by k_asm) rfl rfl (by assumption) (by assumption) (by assumption) (by assumption) (by assumption) (by first | with_reducible assumption | omega) (by first | with_reducible assumption | omega) (by assumption) (by assumption) (by assumption) (by assumption) (by first | with_reducible assumption | omega) (by first | with_reducible assumption | omega) (by first | with_reducible assumption | omega) (by ktr_room) (by ktr_units) ?_); intro h9 tk9 v9 t9 F9 N9 hv9; (try dsimp only))
    | refine stopHere ?_)
  refine wpAny_call ?_
  k_dflt (refine' codeMC ?k1 ?k2 ?k3 ?k4 ?k5 ?kA ?kF ?kK ?k6 ?k7 ?k8 ?k9 ?kB ?kD ?_ ?c2 ?c3 ?c4; (case kA => exact rfl); (case kF => exact rfl); (case kK => assumption); (case k1 => k_asm); (case k2 => k_asm); (case k3 => k_asm); (case k4 => k_asm); (case k5 => k_asm); (case k6 => k_is); (case k7 => k_is); (case k8 => ktr_room); (case k9 => first | exact BindsTo.of_eq rfl | exact binds_K (by k_in) rfl (by k_is) rfl rfl rfl); (case kB => exact rfl); (case kD => decide +kernel); (case c2 => exact rfl); (case c3 => exact rfl); (case c4 => exact rfl); k_whole; intro g' L' h' tk' cells' hg FG' F' N' Y' B' X' T' l1 hL'; (try k_lt l1); k_cells Y'; (try simp only [List.cons_append, List.nil_append] at N'); (try dsimp only); (try k_lift B'); (try k_fold))
  k_steps
  · intro hkp
    subst hv9
    exact hret _ _ _ _ _ _ _ (fun b o e hb => (Decidable.em (b = l)).elim (fun q => by subst q; exact ((N _ (.tail _ (.head _))).1.symm.trans e) ▸ newsGet (by k_asm) (by k_mem)) (fun q => hkp b o (hg b o e (by simpa using ⟨hb, q⟩)))) (newsGet (by k_asm) (by k_mem)) (newsGet (by k_asm) (by k_mem)) (by first | with_reducible assumption | omega) (by assumption) (by assumption)
  · intro hkp
    have hz : ns = [] := List.eq_nil_of_length_eq_zero (by first | with_reducible assumption | omega)
    have hz2 : val n.toNat ns = 0 := by rw [hz]; rfl
    rw [hz2] at hret
    exact hret _ _ _ _ _ _ _ (fun b o e hb => (Decidable.em (b = l)).elim (fun q => by subst q; exact ((N _ (.tail _ (.head _))).1.symm.trans e) ▸ newsGet (by k_asm) (by k_mem)) (fun q => hkp b o (hg b o e (by simpa using ⟨hb, q⟩)))) (newsGet (by k_asm) (by k_mem)) (newsGet (by k_asm) (by k_mem)) (by first | with_reducible assumption | omega) (by assumption) (by assumption)
end
section
open PySem PySem.W PyProof.Rows
theorem divfacts {x b : Int} (h0 : 0 ≤ x) (hb : 0 < b) : x = b * x.fdiv b + x.fmod b ∧ 0 ≤ x.fmod b ∧ x.fmod b < b ∧ 0 ≤ x.fdiv b ∧ x.fdiv b ≤ x := by
  rw [Int.fdiv_eq_ediv_of_nonneg _ (Int.le_of_lt hb), Int.fmod_eq_emod_of_nonneg _ (Int.le_of_lt hb)]
  exact ⟨(Int.mul_ediv_add_emod x b).symm, Int.emod_nonneg x (Int.ne_of_gt hb), Int.emod_lt_of_pos x hb, Int.ediv_nonneg h0 (Int.le_of_lt hb), Int.ediv_le_self b h0⟩
theorem fdiv_fmod_pos (x : Int) {b : Int} (hb : 0 < b) : x.fdiv b = x / b ∧ x.fmod b = x % b := ⟨Int.fdiv_eq_ediv_of_nonneg _ (Int.le_of_lt hb), Int.fmod_eq_emod_of_nonneg _ (Int.le_of_lt hb)⟩
set_option maxRecDepth 100000 in
set_option maxHeartbeats 8000000 in
set_option pp.deepTerms false in
set_option pp.maxSteps 3000 in
theorem div21 (w : World) (p : Program) (loose : List Str) (mean : ExcName → Option Value) (mg mb : Str → Option Value) (dp un : Nat) (gd : Option (List Code)) (cn : Str) (cs : Scope) (a0 : Addr) (ccd : Value) (cl : List (Str × Addr)) (outer : List Env) (A₀ : Around) (base h₀ : Heap) (L : Addr) (m : Str → Option Value) (s : Shared) (Q E : Value → Shared → Prop) (x b n : Int) (t1 t2 t3 : Tok) :
   Below A₀ base outer h₀ → Fr h₀ L s.heap m → (K39 w.params).In h₀ → News h₀ L s.heap ([]) → Top p loose mean mg mb h₀ → cs.kind = .function → 0 ≤ x → x < 2 ^ 64 → 0 < b → b < 2 ^ 30 → 0 ≤ n → dp + 9 < recursionLimit → un + 60 < cLine →
   (∀ (D : Addr) (q r : Int) (u1 u2 : Tok) h' tk', Kp s.heap h' → h'.get? D = some { cls := .type "tuple", data := .seq #[.int q u1, .int r u2] } → s.heap.objs.size ≤ D → x = b * q + r → 0 ≤ r → r < b → 0 ≤ q → q ≤ x → Q (.ref D) { s with heap := h', toks := tk' }) →
   wpAny (model rw9.row.prog w) (ktrTop dp un gd cn cs L a0 ccd cl outer) (call (.ref 50) [.int x t1, .int b t2, .int n t3]) Q E s := by
  k_fill
  w_top off
  k_with_none
  (k_with "my omega" => (first | with_reducible assumption | (law_purse 30000 => lia) | omega +splitDisjunctions))
  (k_with "my mem" => (first | exact m9_0 | exact m9_1 | exact m9_2 | exact m9_3 | exact m9_4 | exact m9_5 | exact m9_6 | exact m9_7 | (refine' m9_s ?_; k_mem)))
  (k_with "my sub" => (first | exact allNil | exact allCons (by k_mem) (by lcg_sub) | (intro q9 hq9; repeat (first | with_reducible exact hq9 | refine List.mem_cons_of_mem _ ?_))))
  (k_with "my room" => ktr_room)
  (k_with "my units" => ktr_units)
  (k_with "my ne" => (refine neN ?_; (try dsimp only); first | exact NeH.out (by assumption) | exact Ne.symm (NeH.out (by assumption)) | omega))
  (k_with "my all" => (first | exact allNil | (refine' allCons ?_ ?_; focus k_ne; k_all)))
  (k_with "my exec Assign" => k_fold)
  (k_with "my exec Expr" => k_fold)
  (k_with "my exec If" => k_fold)
  (k_with "my exec AugAssign" => k_fold)
  (k_with "my eval BinOp" => k_fold)
  (k_with "my eval Compare" => k_fold)
  (k_with "my eval Subscript" => k_fold)
  (k_with "my eval Call" => k_fold)
  (k_with "my eval Call Attribute" => k_fold)
  (k_with "my eval IfExp" => k_fold)
  (k_with "my eval List" => k_fold)
  (k_with "my eval Tuple" => k_fold)
  intro B F X N T hk h0 h1 hb hb2 hn hdp hun hret
  have hbits := intBits_le_64 (k := x) (by first | with_reducible assumption | omega) (by first | with_reducible assumption | omega)
  (k_with "my call ref" => refine stopHere ?_)
  (k_with "my call builtin:divmod" => (k_dflt (refine divmod_N (by assumption) (by assumption) (by first | with_reducible assumption | omega) ?_ (Or.inl (PyProof.noPylong_small (by first | with_reducible assumption | omega))); intro h9 F9 N9)))
  refine wpAny_call ?_
  k_dflt (refine' codeM ?k1 ?k2 ?k3 ?k4 ?k5 ?kA ?kF ?kK ?k6 ?k7 ?k8 ?k9 ?kB ?_ ?c2 ?c3 ?c4 ?c5; (case kA => exact rfl); (case kF => exact rfl); (case kK => assumption); (case k1 => k_asm); (case k2 => k_asm); (case k3 => k_asm); (case k4 => k_asm); (case k5 => k_asm); (case k6 => k_is); (case k7 => k_is); (case k8 => ktr_room); (case k9 => first | exact BindsTo.of_eq rfl | exact binds_K (by k_in) rfl (by k_is) rfl rfl rfl); (case c5 => decide); (case kB => exact locs rfl); (case c2 => exact rfl); (case c3 => exact rfl); (case c4 => exact rfl); k_whole; intro g' L' h' hg FG' F' N' B' X' T' l1 hL'; (try k_lt l1); (try dsimp only); (try k_lift B'); (try k_fold))
  k_steps
  intro hkp
  obtain ⟨he, hr, hr2, hq, hq2⟩ := divfacts h0 hb
  exact hret _ _ _ _ _ _ _ (kpOf hg hkp (fun q hq => (N q hq).1) (fun _ h => nomatch h)) (newsGet (by k_asm) (by k_mem)) (by have hz := ltN (Heap.Ns.lt (Fr.ns (h₀ := g') (L := L') (h := h') (by assumption))); omega) he hr hr2 hq hq2
end
section
open PySem PySem.W PyProof.Rows PySem.Calls
section
variable {prog : Program} {w : World} {A : Around} {E : Value → Shared → Prop} {s : Shared} {env : Env} {h₀ : Heap} {x y z : Str} {body : List Stmt} {Q : Flow → Shared → Prop}
/-- a turn's end -/
noncomputable def RevPost (h₀ : Heap) (L : Addr) (s : Shared) (m₀ : Str → Option Value) (x y z : Str) (led : List Value → Nat → List (Addr × Obj)) (R : Int → List Int → Prop) (f : Flow) (s₂ : Shared) : Prop := match f with
  | .next => ∃ h' tk' a' ta' qs' ws' m' c', s₂ = { s with heap := h', toks := tk' } ∧ Fr h₀ L h' m' ∧ m' y = some (.int a' ta') ∧ (∀ v, v ≠ x → v ≠ y → v ≠ z → m' v = m₀ v) ∧ News h₀ L h' (led ws' c') ∧ IntsAre ws' qs' ∧ R a' qs'
  | _ => False
theorem offI_of {I : Addr} {it : Obj} : ∀ {l : List (Addr × Obj)}, (∀ p ∈ l, p.1 ≠ I) → OffI I it l
  | [], _ => trivial
  | p :: _, h => ⟨.inl (h p (.head _)), offI_of fun q hq => h q (.tail _ hq)⟩
theorem intsAre_append {a b : List Value} {c d : List Int} (h1 : IntsAre a c) (h : IntsAre b d) : IntsAre (a ++ b) (c ++ d) := by
  induction h1 with
  | nil => exact h
  | cons n t _ ih => exact .cons n t ih
theorem intsAre_reverse {a : List Value} {c : List Int} (h : IntsAre a c) : IntsAre a.reverse c.reverse := by
  induction h with
  | nil => exact .nil
  | cons n t _ ih =>
    rw [List.reverse_cons, List.reverse_cons]
    exact intsAre_append ih (.cons n t .nil)
theorem rev_fold {I l D : Addr} {vs : List Value} {ns : List Int} {m₀ : Str → Option Value} {rest : List (Addr × Obj)} {a₀ : Int} {t₀ : Tok} (R : List Int → Int → List Int → Prop)
    (hh : A.handled = none) (F : Fr h₀ env.locals s.heap m₀) (N : News h₀ env.locals s.heap ((I, revObj l ((vs.length : Int) - 1)) :: (l, W.listOf vs.toArray 0) :: (D, W.listOf (#[] : Array Value) 0) :: rest))
    (hof : ∀ p ∈ rest, Ne (α := Nat) p.1 I) (hlI : Ne (α := Nat) l I) (hDI : Ne (α := Nat) D I)
    (hi : IntsAre vs ns) (hy : m₀ y = some (.int a₀ t₀)) (hxy : x ≠ y) (hxz : x ≠ z) (hyz : y ≠ z) (hR : R ns.reverse a₀ [])
    (turn : ∀ n r a qs ws c ta t u it h tk, R (n :: r) a qs → IntsAre ws qs → Fr h₀ env.locals h (fun v => if v = x then some (.int n t) else if v = y then some (.int a ta) else if v = z then u else m₀ v) →
      News h₀ env.locals h ((I, it) :: (l, W.listOf vs.toArray 0) :: (D, W.listOf ws.toArray c) :: rest) →
      wpAny (model prog w) A (execs body env) (RevPost h₀ env.locals s m₀ x y z (fun ws' c' => (I, it) :: (l, W.listOf vs.toArray 0) :: (D, W.listOf ws'.toArray c') :: rest) (R r)) E { s with heap := h, toks := tk })
    (done : ∀ a qs ws c ta u u' h tk, R [] a qs → IntsAre ws qs → Fr h₀ env.locals h (fun v => if v = y then some (.int a ta) else if v = z then u else if v = x then u' else m₀ v) →
      News h₀ env.locals h ((D, W.listOf ws.toArray c) :: (l, W.listOf vs.toArray 0) :: rest) → Q .next { s with heap := h, toks := tk }) :
    wpAny (model prog w) A (pyIter (.ref I)) (fun it s₂ => LoopAtV prog w A h₀ env x body Q E it s₂) E s := by
  have key : ∀ (rs : List Value) (ks : List Int), IntsAre rs ks → ∀ (m : Str → Option Value) (a : Int) (ta : Tok) (qs : List Int) (ws : List Value) (c : Nat), m y = some (.int a ta) → (∀ v, v ≠ x → v ≠ y → v ≠ z → m v = m₀ v) → IntsAre ws qs → R ks a qs →
      RevRest prog w A E h₀ env x body Q s I (l, W.listOf vs.toArray 0) rs m ((l, W.listOf vs.toArray 0) :: (D, W.listOf ws.toArray c) :: rest) := by
    intro rs ks hrs
    induction hrs with
    | nil =>
      intro m a ta qs ws c hm hm2 hw hr
      refine RevRest.zero fun h tk F' N' => ?_
      have e : m = fun v => if v = y then some (.int a ta) else if v = z then m z else if v = x then m x else m₀ v := by
        funext v
        by_cases h1 : v = y
        · simp [h1, hm]
        · by_cases h2 : v = z
          · subst h2; simp [h1]
          · by_cases h3 : v = x
            · subst h3; simp [h1, h2]
            · simp [h1, h2, h3, hm2 v h3 h1 h2]
      rw [e] at F'
      exact done a qs ws c ta _ _ h tk hr hw F' (newsSub N' (by
        intro p hp
        rcases List.mem_cons.mp hp with rfl | hp
        · exact .tail _ (.head _)
        · rcases List.mem_cons.mp hp with rfl | hp
          · exact .head _
          · exact .tail _ (.tail _ hp)))
    | cons n t hrest ih =>
      rename_i vs' ks'
      intro m a ta qs ws c hm hm2 hw hr
      refine RevRest.succ fun it h tk _ F' N' => ?_
      have e : (fun v => if v = x then some (Value.int n t) else m v) = fun v => if v = x then some (.int n t) else if v = y then some (.int a ta) else if v = z then m z else m₀ v := by
        funext v
        by_cases h3 : v = x
        · simp [h3]
        · by_cases h1 : v = y
          · subst h1; simp [h3, hm]
          · by_cases h2 : v = z
            · subst h2; simp [h1, h3]
            · simp [h1, h2, h3, hm2 v h3 h1 h2]
      rw [e] at F'
      refine wpAny_mono (turn n ks' a qs ws c ta t _ it h tk hr hw F' N') (fun f s₂ hp => ?_) fun _ _ q => q
      cases f with
      | next =>
        obtain ⟨h', tk', a', ta', qs', ws', m', c', rfl, F2, hy2, hm3, N2, hw2, hr2⟩ := hp
        refine ⟨h', tk', m', (l, W.listOf vs.toArray 0) :: (D, W.listOf ws'.toArray c') :: rest, rfl, F2, N2, ?_, .head _, ih m' a' ta' qs' ws' c' hy2 hm3 hw2 hr2⟩
        intro p hp
        rcases List.mem_cons.mp hp with rfl | hp
        · exact hlI
        · rcases List.mem_cons.mp hp with rfl | hp
          · exact hDI
          · exact hof p hp
      | brk => exact hp.elim
      | cont => exact hp.elim
      | ret v => exact hp.elim
  have hoff : ∀ p ∈ ((l, W.listOf vs.toArray 0) :: (D, W.listOf (#[] : Array Value) 0) :: rest), p.1 ≠ I := by
    intro p hp
    rcases List.mem_cons.mp hp with rfl | hp
    · exact hlI
    · rcases List.mem_cons.mp hp with rfl | hp
      · exact hDI
      · exact hof p hp
  refine iter_revUnr (lo := W.listOf vs.toArray 0) (n := 0) hh F N (offI_of hoff) (.head _) rfl rfl (key vs.reverse ns.reverse (intsAre_reverse hi) m₀ a₀ t₀ [] [] 0 hy (fun _ _ _ _ => rfl) .nil hR)
end
end
section
open PySem PySem.W PyProof.Rows
theorem kpAbove {h₀ h : Heap} {L D : Addr} {m : Str → Option Value} (F : Fr h₀ L h m) (hD : h.objs.size ≤ D) : LT.lt (α := Nat) L D := Nat.lt_of_lt_of_le F.ns.lt hD
structure Rdm (n : Nat) (b x : Int) (ns : List Int) (rem : List Int) (r : Int) (qs : List Int) : Prop where
  ex : ∃ proc, ns = rem.reverse ++ proc ∧ val n proc = b * val n qs.reverse + r ∧ qs.length = proc.length
  r0 : 0 ≤ r
  r1 : r < b
  q0 : ∀ q ∈ qs, 0 ≤ q
  dg : ∀ d ∈ rem, 0 ≤ d ∧ d ≤ x
theorem Rdm.start {n : Nat} {b x : Int} {ns : List Int} (hb : 0 < b) (hd : ∀ d ∈ ns, 0 ≤ d ∧ d ≤ x) : Rdm n b x ns ns.reverse 0 [] :=
  ⟨⟨[], by simp, by simp [val], rfl⟩, Int.le_refl _, hb, (fun _ h => nomatch h), fun d h => hd d (List.mem_reverse.mp h)⟩
theorem Rdm.step {n : Nat} {b x k r v q r' : Int} {ns rem qs : List Int} (h : Rdm n b x ns (k :: rem) r qs) (hv : v = r * 2 ^ n) (he : v + k = b * q + r') (h0 : 0 ≤ r') (h1 : r' < b) (hq : 0 ≤ q) : Rdm n b x ns rem r' (qs ++ [q]) := by
  obtain ⟨⟨proc, e1, e2, e3⟩, _, _, q0, dg⟩ := h
  refine ⟨⟨k :: proc, by rw [e1]; simp, ?_, by simp [e3]⟩, h0, h1, ?_, fun d hd => dg d (.tail _ hd)⟩
  · rw [List.reverse_append]
    show k + 2 ^ n * val n proc = b * (q + 2 ^ n * val n qs.reverse) + r'
    rw [e2, Int.mul_add, Int.mul_add, ← Int.mul_assoc (2 ^ n) b, ← Int.mul_assoc b (2 ^ n), Int.mul_comm b (2 ^ n), Int.mul_comm (2 ^ n) r, ← hv]
    omega
  · intro d hd
    rcases List.mem_append.mp hd with h | h
    · exact q0 d h
    · rw [List.mem_singleton.mp h]; exact hq
theorem Rdm.last {n : Nat} {b x r : Int} {ns qs : List Int} (h : Rdm n b x ns [] r qs) (hv : val n ns = x) (hb : 0 < b) : x = b * val n qs.reverse + r ∧ 0 ≤ r ∧ r < b ∧ (∀ q ∈ qs.reverse, 0 ≤ q) ∧ qs.length = ns.length ∧ 0 ≤ val n qs.reverse ∧ val n qs.reverse ≤ x := by
  obtain ⟨⟨proc, e1, e2, e3⟩, r0, r1, q0, _⟩ := h
  have : ns = proc := by simpa using e1
  subst this
  have q1 : ∀ q ∈ qs.reverse, 0 ≤ q := fun q h => q0 q (List.mem_reverse.mp h)
  have p := val_nonneg n qs.reverse q1
  have p2 : 1 * val n qs.reverse ≤ b * val n qs.reverse := Int.mul_le_mul_of_nonneg_right (by first | with_reducible assumption | omega) p
  have p3 : x = b * val n qs.reverse + r := by rw [← hv, e2]
  exact ⟨p3, r0, r1, q1, e3, p, by omega⟩
theorem Rdm.len {n : Nat} {b x r : Int} {ns rem qs : List Int} (h : Rdm n b x ns rem r qs) : qs.length ≤ ns.length := by
  obtain ⟨⟨proc, e1, _, e3⟩, _⟩ := h
  rw [e1, e3]; simp
theorem with5 {P a b c d e : Prop} (x : a) (y : b) (z : c) (u : d) (v : e) (h : a → b → c → d → e → P) : P := h x y z u v
theorem with7 {P a b c d e f g k : Prop} (x : a ∧ b ∧ c ∧ d ∧ e ∧ f ∧ g) (y : k) (h : a → b → c → d → e → f → g → k → P) : P := h x.1 x.2.1 x.2.2.1 x.2.2.2.1 x.2.2.2.2.1 x.2.2.2.2.2.1 x.2.2.2.2.2.2 y
theorem shlB {prog : Program} {w : World} {A : Around} {E : Value → Shared → Prop} {s : Shared} {Q : Value → Shared → Prop} {a n : Int} {t u : Tok} (hn : 0 ≤ n) (hn2 : n ≤ 20) (ha : 0 ≤ a) (ha2 : a < 2 ^ 20) (h : ∀ v, v = a * 2 ^ n.toNat → 0 ≤ v → v < 2 ^ 40 → Q (.int v s.toks) { s with toks := s.toks + 1 }) : wpAny (model prog w) A (binaryOp .LShift (.int a t) (.int n u)) Q E s := by
  refine shlS hn (by first | with_reducible assumption | omega) ha (by first | with_reducible assumption | omega) fun v e e0 => h v e e0 ?_
  have h1 : (2 : Int) ^ n.toNat ≤ 2 ^ 20 := by
    have := Nat.pow_le_pow_right (n := 2) (by decide) (show n.toNat ≤ 20 by omega)
    exact_mod_cast this
  have h2 : a * 2 ^ n.toNat ≤ a * 2 ^ 20 := Int.mul_le_mul_of_nonneg_left h1 ha
  omega
theorem bits20 {b : Int} (h0 : 0 < b) (h1 : b < 2 ^ 20) : 1 ≤ Builtin.Int.intBits b ∧ Builtin.Int.intBits b ≤ 20 := by
  unfold Builtin.Int.intBits
  have e : (b == 0) = false := by simp; omega
  rw [e]
  have hz : b.natAbs ≠ 0 := by omega
  have := (Nat.log2_lt (n := b.natAbs) (k := 20) hz).mpr (by first | with_reducible assumption | omega)
  simp
  omega
theorem ltAll {D : Nat} : ∀ {l : List (Addr × Obj)}, AllLt D l → ∀ p ∈ l, LT.lt (α := Nat) p.1 D
  | [], _ => allNil
  | _ :: _, h => allCons h.1 (ltAll h.2)
theorem ltNe {D : Nat} {l : List (Addr × Obj)} (h : AllLt D l) : ∀ p ∈ l, Ne (α := Nat) p.1 D := fun p hp => Nat.ne_of_lt (ltAll h p hp)
theorem frSay {h₀ h : Heap} {L : Addr} {m : Str → Option Value} {x : Str} {v : Value} (F : Fr h₀ L h m) (e : m x = some v) : Fr h₀ L h (fun z => if z = x then some v else m z) := by
  have : (fun z => if z = x then some v else m z) = m := by
    funext z
    by_cases h : z = x
    · subst h; rw [if_pos rfl, e]
    · rw [if_neg h]
  rw [this]; exact F
theorem sayOn {m : Str → Option Value} {x y : Str} {a b : Value} (e1 : m x = some a) (e2 : m y = some b) : (fun z => if z = x then some a else m z) y = some b := by
  show (if y = x then some a else m y) = some b
  by_cases h : y = x
  · subst h; rw [if_pos rfl, ← e1]; exact e2
  · rw [if_neg h]; exact e2
set_option maxRecDepth 100000 in
set_option maxHeartbeats 2000000 in
set_option pp.deepTerms false in
set_option pp.maxSteps 3000 in
theorem dmp_mid (w : World) (p : Program) (loose : List Str) (mean : ExcName → Option Value) (mg mb : Str → Option Value) (dp un : Nat) (gd : Option (List Code)) (cn : Str) (cs : Scope) (L a0 : Addr) (ccd : Value) (cl : List (Str × Addr)) (outer : List Env) (base g : Heap) (L' : Addr) (s : Shared) (Q : Flow → Shared → Prop) (E : Value → Shared → Prop) (body : List Stmt) (scope : Scope) (x b : Int) (t2 tn : Tok) (D9 : Addr) (vs9 : List Value) (ds9 : List Int) (mr : Str → Option Value) (rest : List (Addr × Obj)) :
   (fnParts (K39 w.params) 78).map (fun x => (x.1.drop 2, x.2)) = some (body, scope) → Below (ktrTop dp un gd cn cs L a0 ccd cl outer) base (envX cn cs L a0 ccd cl :: outer) g → Fr g L' s.heap (fun z => if z = Str.ofString "a_digits" then some (.ref D9) else if z = Str.ofString "n" then some (.int (Builtin.Int.intBits b : Int) tn) else if z = Str.ofString "b" then some (.int b t2) else mr z) → (K39 w.params).In g → News g L' s.heap ((D9, W.listOf vs9.toArray 0) :: rest) → Top p loose mean mg mb g → cs.kind = .function → 0 ≤ x → x < 2 ^ 40 → 0 < b → b < 2 ^ 20 → LT.lt (α := Nat) L' D9 → IntsAre vs9 ds9 → val (Builtin.Int.intBits b : Int).toNat ds9 = x → (∀ d ∈ ds9, 0 ≤ d ∧ d ≤ x) → ds9.length ≤ 64 → dp + 120 < recursionLimit → un + 400 < cLine → PassesOwn (model rw9.row.prog w) ((ktrTop dp un gd cn cs L a0 ccd cl outer).deeper (envOf (Str.ofString "_divmod_pos") scope L' 78 (.ref 77))) (envOf (Str.ofString "_divmod_pos") scope L' 78 (.ref 77)) E →
   (∀ (lq : Addr) ws6 qs6 c6 a6 ta6 m' h' tk', Fr g L' h' m' → m' (Str.ofString "q_digits") = some (.ref lq) → m' (Str.ofString "n") = some (.int (Builtin.Int.intBits b : Int) tn) → m' (Str.ofString "r") = some (.int a6 ta6) → News g L' h' ((lq, W.listOf ws6.reverse.toArray c6) :: rest) → LT.lt (α := Nat) L' lq → IntsAre ws6 qs6 → x = b * val (Builtin.Int.intBits b : Int).toNat qs6.reverse + a6 ∧ 0 ≤ a6 ∧ a6 < b ∧ (∀ q ∈ qs6.reverse, 0 ≤ q) ∧ qs6.length ≤ 64 ∧ 0 ≤ val (Builtin.Int.intBits b : Int).toNat qs6.reverse ∧ val (Builtin.Int.intBits b : Int).toNat qs6.reverse ≤ x → ws6.length ≤ 64 → wpAny (model rw9.row.prog w) ((ktrTop dp un gd cn cs L a0 ccd cl outer).deeper (envOf (Str.ofString "_divmod_pos") scope L' 78 (.ref 77))) (execs (body.drop 4) (envOf (Str.ofString "_divmod_pos") scope L' 78 (.ref 77))) Q E { s with heap := h', toks := tk' }) →
   wpAny (model rw9.row.prog w) ((ktrTop dp un gd cn cs L a0 ccd cl outer).deeper (envOf (Str.ofString "_divmod_pos") scope L' 78 (.ref 77))) (execs body (envOf (Str.ofString "_divmod_pos") scope L' 78 (.ref 77))) Q E s := by
  k_fill
  w_top off
  k_with_none
  (k_with "my omega" => (first | with_reducible assumption | (law_purse 30000 => lia) | omega +splitDisjunctions))
  (k_with "my mem" => (first | exact m9_0 | exact m9_1 | exact m9_2 | exact m9_3 | exact m9_4 | exact m9_5 | exact m9_6 | exact m9_7 | (refine' m9_s ?_; k_mem)))
  (k_with "my sub" => (first | exact allNil | exact allCons (by k_mem) (by lcg_sub) | (intro q9 hq9; repeat (first | with_reducible exact hq9 | refine List.mem_cons_of_mem _ ?_))))
  (k_with "my room" => ktr_room)
  (k_with "my units" => ktr_units)
  (k_with "my ne" => (refine neN ?_; (try dsimp only); first | exact NeH.out (by assumption) | exact Ne.symm (NeH.out (by assumption)) | omega))
  (k_with "my all" => (first | exact allNil | (refine' allCons ?_ ?_; focus k_ne; k_all)))
  (k_with "my exec Assign" => k_fold)
  (k_with "my exec Expr" => k_fold)
  (k_with "my exec If" => k_fold)
  (k_with "my exec AugAssign" => k_fold)
  (k_with "my eval BinOp" => k_fold)
  (k_with "my eval Compare" => k_fold)
  (k_with "my eval Subscript" => k_fold)
  (k_with "my eval Call" => k_fold)
  (k_with "my eval Call Attribute" => k_fold)
  (k_with "my eval IfExp" => k_fold)
  (k_with "my eval List" => k_fold)
  (k_with "my eval Tuple" => k_fold)
  intro hp B' F X' N T' hk h0 h1 hb0 hb1 hz9 i9 v9 b9 l9 hdp hun hE hret
  have hbits := bits20 hb0 hb1
  cases hp
  (k_with "my all" => first | exact allNil | (refine' allCons ?_ ?_; focus k_ne; k_all) | exact ltNe (by first | assumption | exact And.right (by assumption) | exact And.right (And.right (by assumption)) | exact And.right (And.right (And.right (by assumption))) | exact And.right (And.right (And.right (And.right (by assumption))))))
  (k_with "my call ref" => first
    | (k_dflt (refine' div21 _ _ _ _ _ _ _ _ _ _ _ _ _ _ _ _ _ _ _ _ _ _ _ _ _ _ _ _ _ (by k_asm) (by k_asm) (by k_asm) newsNil (by k_asm) rfl (by first | with_reducible assumption | omega) (by first | with_reducible assumption | omega) (by first | with_reducible assumption | omega) (by first | with_reducible assumption | omega) (by first | with_reducible assumption | omega) (by ktr_room) (by ktr_units) ?_); intro D9 q9 r9 u19 u29 h9 tk9 k9 g9 s9 e9 r09 r19 q09 q19; have z9 := kpAbove (by k_asm) s9; have l9 := newsLt (by k_asm) s9; (try k_lt l9); have F9 := kpFr (by k_asm) k9; have N9 := kpNew (by k_asm) (by k_asm) k9 g9 s9; (try dsimp only))
    | refine stopHere ?_)
  (k_with "my binaryOp LShift int int" => (with_reducible refine shlB (by first | with_reducible assumption | omega) (by first | with_reducible assumption | omega) (by first | with_reducible assumption | omega) (by first | with_reducible assumption | omega) ?_; intro v5 hv5 hv50 hv51))
  (k_with "my pyIter ref" => (k_dflt (refine' rev_fold (y := "r") (z := "q_digit") (rest := rest) (Rdm ((Builtin.Int.intBits b : Int).toNat) b x ds9) rfl (by k_asm) (newsCons (by k_asm) (by k_mem) (newsCons (by k_asm) (by k_mem) (newsCons (by k_asm) (by k_mem) (newsSub (by k_asm) (by intro q9 hq9; repeat (first | with_reducible exact hq9 | refine List.mem_cons_of_mem _ ?_)))))) (by k_all) (by first | with_reducible assumption | omega) (by first | with_reducible assumption | omega) (by assumption) rfl (by decide) (by decide) (by decide) (Rdm.start hb0 b9) (fun k5 r5 a5 qs5 ws5 c5 ta5 t5 u5 it5 h5 tk5 hR5 hi5 F5 N5 => with5 hR5.r0 hR5.r1 (hR5.dg _ (.head _)) hR5.len hi5.length fun f1 f2 f3 f4 f5 => ?_) (fun a6 qs6 ws6 c6 ta6 u6 w6 h6 tk6 hR6 hi6 F6 N6 => with7 (Rdm.last hR6 v9 hb0) (hi6.length) fun g1 g2 g3 g4 g5 g6 g7 g8 => ?_))))
  (k_with "my call builtin:list.append" => (k_dflt (refine' append_K (by k_asm) (by k_asm) (by k_upd) ?_ (by simp only [List.size_toArray, sizeLine_eq]; omega)); intro h7 F7 N7; (try dsimp only); simp only [List.push_toArray] at N7))
  (k_with "my call builtin:list.reverse" => (k_dflt (refine' kl_reverse (its := ws6.toArray) (l := ws6.reverse) (by k_asm) (by k_asm) (by simp) (by k_upd) (by simp only [sizeLine_eq]; omega) ?_); intro h7 F7 N7; (try dsimp only)))
  (k_with "my exec For Name Call cons nil" => (k_here; (rename Fr _ _ _ _ => lF'); (with_unfolding_all refine' For_invVF lF' ?k1 ?k2 ?_ (hE := hE); (case k1 => exact rfl); (case k2 => exact rfl); k_whole)))
  (k_with "my execs cons" => ((with_reducible show wpAny _ _ (execs (Stmt.Assign [Expr.Name (Str.ofString "q") _] _ _ :: _) _) _ _ _); refine stopHere ?_))
  show wpAny _ _ (execs _ _) _ _ _
  k_steps
  · exact ⟨_, _, _, _, _, _, _, _, rfl, (by assumption), rfl, (fun v h1 h2 h3 => by simp [h1, h2, h3]), (newsCons (by assumption) (by k_mem) (newsCons (by assumption) (by k_mem) (newsCons (by assumption) (by k_mem) (newsSub (by k_asm) (by intro q9 hq9; repeat (first | with_reducible exact hq9 | refine List.mem_cons_of_mem _ ?_)))))), intsAre_append hi5 (.cons _ _ .nil), hR5.step hv5 e9 r09 r19 q09⟩
  · unfold Stopped
    exact hret _ ws6 qs6 _ a6 _ _ _ _ (by k_asm) rfl rfl rfl (newsCons (by k_asm) (by k_mem) (newsSub (by k_asm) (by intro q9 hq9; repeat (first | with_reducible exact hq9 | refine List.mem_cons_of_mem _ ?_)))) (by first | with_reducible assumption | omega) hi6 ⟨g1, g2, g3, g4, g5 ▸ l9, g6, g7⟩ (by omega)
set_option maxRecDepth 100000 in
set_option maxHeartbeats 8000000 in
set_option pp.deepTerms false in
set_option pp.maxSteps 3000 in
theorem dmp_hit (w : World) (p : Program) (loose : List Str) (mean : ExcName → Option Value) (mg mb : Str → Option Value) (dp un : Nat) (gd : Option (List Code)) (cn : Str) (cs : Scope) (a0 : Addr) (ccd : Value) (cl : List (Str × Addr)) (outer : List Env) (A₀ : Around) (base h₀ : Heap) (L : Addr) (m : Str → Option Value) (s : Shared) (Q E : Value → Shared → Prop) (x b : Int) (t1 t2 : Tok) (c1 c2 : Addr) (oc1 oc2 : Obj) (vs1 vs2 : Array Value) (tq1 tq2 : Tok) :
   Below A₀ base outer h₀ → Fr h₀ L s.heap m → (K39 w.params).In h₀ → News h₀ L s.heap ([(59, tabObj #[rawInt 89, rawInt 4, .ref c1]), (c1, oc1), (66, tabObj #[rawInt 104, rawInt 4, .ref c2]), (c2, oc2)]) → Top p loose mean mg mb h₀ → cs.kind = .function → 0 ≤ x → x < 2 ^ 40 → 0 < b → b < 2 ^ 20 → CodeHd base 63 59 → CodeHd base 70 66 → oc1.data = .fields vs1 → vs1[1]? = some (.str "_int2digits.<locals>.inner" tq1) → oc2.data = .fields vs2 → vs2[1]? = some (.str "_digits2int.<locals>.inner" tq2) → dp + 120 < recursionLimit → un + 400 < cLine →
   (∀ (D : Addr) (q r : Int) (u1 u2 : Tok) h' tk', Kp s.heap h' → h'.get? D = some { cls := .type "tuple", data := .seq #[.int q u1, .int r u2] } → s.heap.objs.size ≤ D → x = b * q + r → 0 ≤ r → r < b → Q (.ref D) { s with heap := h', toks := tk' }) →
   wpAny (model rw9.row.prog w) (ktrTop dp un gd cn cs L a0 ccd cl outer) (call (.ref 78) [.int x t1, .int b t2]) Q E s := by
  k_fill
  w_top off
  k_with_none
  (k_with "my omega" => (first | with_reducible assumption | (law_purse 30000 => lia) | omega +splitDisjunctions))
  (k_with "my mem" => (first | exact m9_0 | exact m9_1 | exact m9_2 | exact m9_3 | exact m9_4 | exact m9_5 | exact m9_6 | exact m9_7 | (refine' m9_s ?_; k_mem)))
  (k_with "my sub" => (first | exact allNil | exact allCons (by k_mem) (by lcg_sub) | (intro q9 hq9; repeat (first | with_reducible exact hq9 | refine List.mem_cons_of_mem _ ?_))))
  (k_with "my room" => ktr_room)
  (k_with "my units" => ktr_units)
  (k_with "my ne" => (refine neN ?_; (try dsimp only); first | exact NeH.out (by assumption) | exact Ne.symm (NeH.out (by assumption)) | omega))
  (k_with "my all" => (first | exact allNil | (refine' allCons ?_ ?_; focus k_ne; k_all)))
  (k_with "my exec Assign" => k_fold)
  (k_with "my exec Expr" => k_fold)
  (k_with "my exec If" => k_fold)
  (k_with "my exec AugAssign" => k_fold)
  (k_with "my eval BinOp" => k_fold)
  (k_with "my eval Compare" => k_fold)
  (k_with "my eval Subscript" => k_fold)
  (k_with "my eval Call" => k_fold)
  (k_with "my eval Call Attribute" => k_fold)
  (k_with "my eval IfExp" => k_fold)
  (k_with "my eval List" => k_fold)
  (k_with "my eval Tuple" => k_fold)
  intro B F X N T hk h0 h1 hb0 hb1 hch1 hch2 hoc1 hvs1 hoc2 hvs2 hdp hun hret
  have hbits := bits20 hb0 hb1
  (k_with "my call ref" => first
    | (k_dflt (refine' i2d_hit _ _ _ _ _ _ _ _ _ _ _ _ _ _ _ _ _ _ _ _ _ _ _ _ _ _ _ _ _ _ _ (by k_asm) (by k_asm) (by k_asm) (newsCons (by k_asm) (by k_mem) (newsCons (by k_asm) (by k_mem) newsNil)) (by k_asm) rfl (by first | with_reducible assumption | omega) (by first | with_reducible assumption | omega) (by first | with_reducible assumption | omega) (by first | with_reducible assumption | omega) (by assumption) (by assumption) (by assumption) (by ktr_room) (by ktr_units) ?_); intro D9 vs9 ds9 h9 tk9 k9 g9 s9 i9 v9 b9 l9a; have z9 := kpAbove (by k_asm) s9; have l9 := newsLt (by k_asm) s9; (try k_lt l9); have F9 := kpFr (by k_asm) k9; have N9 := kpNew (by k_asm) (by k_asm) k9 g9 s9; (try dsimp only))
    | (k_dflt (refine' d2i_hit _ _ _ _ _ _ _ _ _ _ _ _ _ _ _ _ _ _ _ _ _ _ _ _ _ _ _ _ _ _ _ _ _ (by k_asm) (by k_asm) (by k_asm) (newsCons (by k_asm) (by k_mem) (newsCons (by k_asm) (by k_mem) (newsCons (by k_asm) (by k_mem) newsNil))) (by k_asm) rfl (by first | with_reducible assumption | omega) (by first | with_reducible assumption | omega) (by first | with_reducible assumption | omega) (by assumption) (intsAre_reverse hi6) g4 (by first | with_reducible assumption | omega) (by rw [List.length_reverse]; omega) (by assumption) (by assumption) (by ktr_room) (by ktr_units) ?_); intro h9 tk9 t9 k9; have F9 := kpFr (by k_asm) k9; have N9 := kpNews (by k_asm) k9; (try dsimp only))
    | refine stopHere ?_)
  (k_with "my execs cons" => ((with_reducible show wpAny _ _ (execs (Stmt.Assign [Expr.Name (Str.ofString "r") _] _ _ :: _) _) _ _ _); refine stopHere ?_))
  refine wpAny_call ?_
  k_dflt (refine' codeM ?k1 ?k2 ?k3 ?k4 ?k5 ?kA ?kF ?kK ?k6 ?k7 ?k8 ?k9 ?kB ?_ ?c2 ?c3 ?c4 ?c5; (case kA => exact rfl); (case kF => exact rfl); (case kK => assumption); (case k1 => k_asm); (case k2 => k_asm); (case k3 => k_asm); (case k4 => k_asm); (case k5 => k_asm); (case k6 => k_is); (case k7 => k_is); (case k8 => ktr_room); (case k9 => first | exact BindsTo.of_eq rfl | exact binds_K (by k_in) rfl (by k_is) rfl rfl rfl); (case c5 => decide); (case kB => exact locs rfl); (case c2 => exact rfl); (case c3 => exact rfl); (case c4 => exact rfl); k_whole; intro g' L' h' hg FG' F' N' B' X' T' l1 hL'; (try k_lt l1); (try dsimp only); (try k_lift B'); (try k_fold))
  have hLh := ltN (Heap.Ns.lt (Fr.ns F'))
  k_steps
  unfold Stopped
  refine dmp_mid w p loose mean mg mb dp un gd cn cs _ a0 ccd cl outer base _ _ _ _ _ _ _ x b _ _ D9 vs9 ds9 _ [(59, tabObj #[rawInt 89, rawInt 4, .ref c1]), (c1, oc1), (66, tabObj #[rawInt 104, rawInt 4, .ref c2]), (c2, oc2)] rfl (by k_asm) (frSay (frSay (frSay (by k_asm) rfl) rfl) rfl) (by k_asm) (newsSub (by k_asm) (by lcg_sub)) (by k_asm) hk h0 h1 hb0 hb1 z9 i9 v9 b9 l9a hdp hun (by first | passes_own | with_unfolding_all passes_own) ?_
  intro lq ws6 qs6 c6 a6 ta6 m6 h6 tk6 F6 e61 e62 e63 N6 z6 hi6 hg6 hw6
  obtain ⟨g1, g2, g3, g4, g5, g6, g7⟩ := hg6
  have F6a := frSay (frSay (frSay F6 e61) (sayOn e61 e62)) (sayOn (sayOn e61 e62) (sayOn e61 e63))
  clear F6 e61 e62 e63
  dsimp only [List.drop]
  k_steps
  intro hkp
  exact hret _ _ _ _ _ _ _ (kpOf hg hkp (fun q hq => (N q hq).1) (allCons (newsGet (by k_asm) (by k_mem)) (allCons (newsGet (by k_asm) (by k_mem)) (allCons (newsGet (by k_asm) (by k_mem)) (allCons (newsGet (by k_asm) (by k_mem)) (fun _ h => nomatch h)))))) (newsGet (by k_asm) (by k_mem)) (by first | with_reducible assumption | omega) g1 g2 g3
end
section
open PySem PySem.W PyProof.Rows
set_option maxRecDepth 100000 in
set_option maxHeartbeats 8000000 in
set_option pp.deepTerms false in
set_option pp.maxSteps 3000 in
theorem dmp_miss (w : World) (p : Program) (loose : List Str) (mean : ExcName → Option Value) (mg mb : Str → Option Value) (dp un : Nat) (gd : Option (List Code)) (cn : Str) (cs : Scope) (a0 : Addr) (ccd : Value) (cl : List (Str × Addr)) (outer : List Env) (A₀ : Around) (base h₀ : Heap) (L : Addr) (m : Str → Option Value) (s : Shared) (Q E : Value → Shared → Prop) (x b : Int) (t1 t2 : Tok) :
   Below A₀ base outer h₀ → Fr h₀ L s.heap m → (K39 w.params).In h₀ → News h₀ L s.heap ([(59, tabObj #[]), (66, tabObj #[])]) → Top p loose mean mg mb h₀ → cs.kind = .function → 0 ≤ x → x < 2 ^ 40 → 0 < b → b < 2 ^ 20 → CodeHd base 63 59 → CodeHd base 70 66 → dp + 120 < recursionLimit → un + 400 < cLine →
   (∀ (D : Addr) (q r : Int) (u1 u2 : Tok) h' tk' c1 c2 oc1 oc2 vs1 vs2 tq1 tq2, (∀ b o, s.heap.get? b = some o → b ≠ 59 → b ≠ 66 → h'.get? b = some o) → h'.get? 59 = some (tabObj #[rawInt 89, rawInt 4, .ref c1]) → h'.get? c1 = some oc1 → s.heap.objs.size ≤ c1 → oc1.data = .fields vs1 → vs1[1]? = some (.str "_int2digits.<locals>.inner" tq1) → h'.get? 66 = some (tabObj #[rawInt 104, rawInt 4, .ref c2]) → h'.get? c2 = some oc2 → s.heap.objs.size ≤ c2 → oc2.data = .fields vs2 → vs2[1]? = some (.str "_digits2int.<locals>.inner" tq2) → h'.get? D = some { cls := .type "tuple", data := .seq #[.int q u1, .int r u2] } → s.heap.objs.size ≤ D → x = b * q + r → 0 ≤ r → r < b → Q (.ref D) { s with heap := h', toks := tk' }) →
   wpAny (model rw9.row.prog w) (ktrTop dp un gd cn cs L a0 ccd cl outer) (call (.ref 78) [.int x t1, .int b t2]) Q E s := by
  k_fill
  w_top off
  k_with_none
  (k_with "my omega" => (first | with_reducible assumption | (law_purse 30000 => lia) | omega +splitDisjunctions))
  (k_with "my mem" => (first | exact m9_0 | exact m9_1 | exact m9_2 | exact m9_3 | exact m9_4 | exact m9_5 | exact m9_6 | exact m9_7 | (refine' m9_s ?_; k_mem)))
  (k_with "my sub" => (first | exact allNil | exact allCons (by k_mem) (by lcg_sub) | (intro q9 hq9; repeat (first | with_reducible exact hq9 | refine List.mem_cons_of_mem _ ?_))))
  (k_with "my room" => ktr_room)
  (k_with "my units" => ktr_units)
  (k_with "my ne" => (refine neN ?_; (try dsimp only); first | exact NeH.out (by assumption) | exact Ne.symm (NeH.out (by assumption)) | omega))
  (k_with "my all" => (first | exact allNil | (refine' allCons ?_ ?_; focus k_ne; k_all)))
  (k_with "my exec Assign" => k_fold)
  (k_with "my exec Expr" => k_fold)
  (k_with "my exec If" => k_fold)
  (k_with "my exec AugAssign" => k_fold)
  (k_with "my eval BinOp" => k_fold)
  (k_with "my eval Compare" => k_fold)
  (k_with "my eval Subscript" => k_fold)
  (k_with "my eval Call" => k_fold)
  (k_with "my eval Call Attribute" => k_fold)
  (k_with "my eval IfExp" => k_fold)
  (k_with "my eval List" => k_fold)
  (k_with "my eval Tuple" => k_fold)
  intro B F X N T hk h0 h1 hb0 hb1 hch1 hch2 hdp hun hret
  have hbits := bits20 hb0 hb1
  (k_with "my call ref" => first
    | (k_dflt (refine' i2d_miss _ _ _ _ _ _ _ _ _ _ _ _ _ _ _ _ _ _ _ _ _ _ _ _ _ _ _ (by k_asm) (by k_asm) (by k_asm) (newsCons (by k_asm) (by k_mem) newsNil) (by k_asm) rfl (by first | with_reducible assumption | omega) (by first | with_reducible assumption | omega) (by first | with_reducible assumption | omega) (by first | with_reducible assumption | omega) (by assumption) (by ktr_room) (by ktr_units) ?_); intro D9 vs9 ds9 h9 tk9 c1 oc1 vs1 tq1 kb9 t59 gc1 sc1 hoc1 hvs1 g9 s9 i9 v9 b9 l9; have z9 := kpAbove (by k_asm) s9; have y9 := kpAbove (by k_asm) sc1; have F9 := kbFr (by k_asm) (by k_asm) (List.Mem.head _) kb9; have N9 := kbNew (by k_asm) g9 s9 (kbTab (by k_asm) (List.Mem.head _) t59 (kbNew (by k_asm) gc1 sc1 (kbNews (newsCons (by k_asm) (List.Mem.tail _ (List.Mem.head _)) newsNil) (by k_all) kb9))); (try dsimp only))
    | (k_dflt (refine' d2i_miss _ _ _ _ _ _ _ _ _ _ _ _ _ _ _ _ _ _ _ _ _ _ _ _ _ _ _ _ _ (by k_asm) (by k_asm) (by k_asm) (newsCons (by k_asm) (by k_mem) (newsCons (by k_asm) (by k_mem) newsNil)) (by k_asm) rfl (by first | with_reducible assumption | omega) (by first | with_reducible assumption | omega) (by first | with_reducible assumption | omega) (by assumption) (intsAre_reverse hi6) g4 (by first | with_reducible assumption | omega) (by rw [List.length_reverse]; omega) (by ktr_room) (by ktr_units) ?_); intro h9 tk9 t9 c2 oc2 vs2 tq2 kb9 t66 gc2 sc2 hoc2 hvs2; have y8 := kpAbove (by k_asm) sc2; k_dflt (have F9 := kbFr (P := 66) (o := tabObj #[]) (by k_asm) (by k_asm) (.tail _ (.tail _ (.tail _ (.head _)))) kb9; have N9 := kbTab (P := 66) (o := tabObj #[]) (by k_asm) (.tail _ (.tail _ (.tail _ (.head _)))) t66 (kbNew (by k_asm) gc2 sc2 (kbNews (news := [(59, tabObj #[rawInt 89, rawInt 4, .ref c1]), (c1, oc1)]) (newsCons (by k_asm) (by k_mem) (newsCons (by k_asm) (by k_mem) newsNil)) (by k_all) kb9))); (try dsimp only))
    | refine stopHere ?_)
  (k_with "my execs cons" => ((with_reducible show wpAny _ _ (execs (Stmt.Assign [Expr.Name (Str.ofString "r") _] _ _ :: _) _) _ _ _); refine stopHere ?_))
  refine wpAny_call ?_
  k_dflt (refine' codeM ?k1 ?k2 ?k3 ?k4 ?k5 ?kA ?kF ?kK ?k6 ?k7 ?k8 ?k9 ?kB ?_ ?c2 ?c3 ?c4 ?c5; (case kA => exact rfl); (case kF => exact rfl); (case kK => assumption); (case k1 => k_asm); (case k2 => k_asm); (case k3 => k_asm); (case k4 => k_asm); (case k5 => k_asm); (case k6 => k_is); (case k7 => k_is); (case k8 => ktr_room); (case k9 => first | exact BindsTo.of_eq rfl | exact binds_K (by k_in) rfl (by k_is) rfl rfl rfl); (case c5 => decide); (case kB => exact locs rfl); (case c2 => exact rfl); (case c3 => exact rfl); (case c4 => exact rfl); k_whole; intro g' L' h' hg FG' F' N' B' X' T' l1 hL'; (try k_lt l1); (try dsimp only); (try k_lift B'); (try k_fold))
  have hLh := ltN (Heap.Ns.lt (Fr.ns F'))
  k_steps
  unfold Stopped
  refine dmp_mid w p loose mean mg mb dp un gd cn cs _ a0 ccd cl outer base _ _ _ _ _ _ _ x b _ _ D9 vs9 ds9 _ [(59, tabObj #[rawInt 89, rawInt 4, .ref c1]), (c1, oc1), (66, tabObj #[])] rfl (by k_asm) (frSay (frSay (frSay (by k_asm) rfl) rfl) rfl) (by k_asm) (newsSub (by k_asm) (by lcg_sub)) (by k_asm) hk h0 h1 hb0 hb1 z9 i9 v9 b9 l9 hdp hun (by first | passes_own | with_unfolding_all passes_own) ?_
  intro lq ws6 qs6 c6 a6 ta6 m6 h6 tk6 F6 e61 e62 e63 N6 z6 hi6 hg6 hw6
  obtain ⟨g1, g2, g3, g4, g5, g6, g7⟩ := hg6
  have F6a := frSay (frSay (frSay F6 e61) (sayOn e61 e62)) (sayOn (sayOn e61 e62) (sayOn e61 e63))
  clear F6 e61 e62 e63
  dsimp only [List.drop]
  k_steps
  intro hkp
  exact hret _ _ _ _ _ _ _ _ _ _ _ _ _ _ _ (fun b o e h1 h2 => hkp b o (hg b o e (by simpa using ⟨h1, h2⟩))) (newsGet (by k_asm) (by k_mem)) (newsGet (by k_asm) (by k_mem)) (by first | with_reducible assumption | omega) (by assumption) (by assumption) (newsGet (by k_asm) (by k_mem)) (newsGet (by k_asm) (by k_mem)) (Nat.le_of_lt (Nat.lt_of_le_of_lt (Nat.le_of_eq hL'.symm) y8)) (by assumption) (by assumption) (newsGet (by k_asm) (by k_mem)) (by first | with_reducible assumption | omega) g1 g2 g3
end
section
open PySem PySem.W PyProof.Rows
theorem dmneg {x b v q r q' r' : Int} (h : v = -x - 1) (e : v = b * q + r) (hq : q' = -q - 1) (hr : r' = -r - 1) : x = b * q' + (b + r') := by
  have h2 : b * q' = -(b * q) - b := by rw [hq, Int.mul_sub, Int.mul_neg, Int.mul_one]
  omega
theorem invS {prog : Program} {w : World} {A : Around} {E : Value → Shared → Prop} {s : Shared} {Q : Value → Shared → Prop} {a : Int} {t : Tok} (h : ∀ v, v = -a - 1 → Q (.int v s.toks) { s with toks := s.toks + 1 }) : wpAny (model prog w) A (unaryOp .Invert (.int a t)) Q E s := invert_int (h _ (by show Builtin.bitNot a = -a - 1; rfl))
theorem kb2Fr {h₀ h h' : Heap} {L P R : Addr} {m : Str → Option Value} {o o' : Obj} {news : List (Addr × Obj)} (F : Fr h₀ L h m) (N : News h₀ L h news) (hm : (P, o) ∈ news) (hm' : (R, o') ∈ news) (k : ∀ b o, h.get? b = some o → b ≠ P → b ≠ R → h'.get? b = some o) : Fr h₀ L h' m := by
  obtain ⟨hP, hPL, hPn⟩ := N _ hm
  obtain ⟨hR, hRL, hRn⟩ := N _ hm'
  obtain ⟨oL, es, ep, hL, r⟩ := F.ns
  refine ⟨⟨oL, es, ep, k L oL hL (fun e => hPL e.symm) (fun e => hRL e.symm), r⟩, fun b x e => k b x (F.keep b x e) (fun q => ?_) (fun q => ?_), F.above⟩
  · rw [q] at e; rw [hPn] at e; cases e
  · rw [q] at e; rw [hRn] at e; cases e
theorem kb2News {h₀ h h' : Heap} {L P R : Addr} {news : List (Addr × Obj)} (N : News h₀ L h news) (hn : ∀ p ∈ news, Ne (α := Nat) p.1 P) (hn' : ∀ p ∈ news, Ne (α := Nat) p.1 R) (k : ∀ b o, h.get? b = some o → b ≠ P → b ≠ R → h'.get? b = some o) : News h₀ L h' news :=
  fun p hp => ⟨k _ _ (N p hp).1 (hn p hp) (hn' p hp), (N p hp).2⟩
theorem kb2Tab {h₀ h h' : Heap} {L P R : Addr} {o o' o1 o2 : Obj} {news r : List (Addr × Obj)} (N : News h₀ L h news) (hm : (P, o) ∈ news) (hm' : (R, o') ∈ news) (hP : h'.get? P = some o1) (hR : h'.get? R = some o2) (X : News h₀ L h' r) : News h₀ L h' ((P, o1) :: (R, o2) :: r) := by
  intro q hq
  rcases List.mem_cons.mp hq with rfl | hq
  · exact ⟨hP, (N _ hm).2⟩
  · rcases List.mem_cons.mp hq with rfl | hq
    · exact ⟨hR, (N _ hm').2⟩
    · exact X q hq
set_option maxRecDepth 100000 in
set_option maxHeartbeats 8000000 in
set_option pp.deepTerms false in
set_option pp.maxSteps 3000 in
theorem dm_hit0 (w : World) (p : Program) (loose : List Str) (mean : ExcName → Option Value) (mg mb : Str → Option Value) (dp un : Nat) (gd : Option (List Code)) (cn : Str) (cs : Scope) (a0 : Addr) (ccd : Value) (cl : List (Str × Addr)) (outer : List Env) (A₀ : Around) (base h₀ : Heap) (L : Addr) (m : Str → Option Value) (s : Shared) (Q E : Value → Shared → Prop) (x b : Int) (t1 t2 : Tok) (c1 c2 : Addr) (oc1 oc2 : Obj) (vs1 vs2 : Array Value) (tq1 tq2 : Tok) :
   Below A₀ base outer h₀ → Fr h₀ L s.heap m → (K39 w.params).In h₀ → News h₀ L s.heap ([(59, tabObj #[rawInt 89, rawInt 4, .ref c1]), (c1, oc1), (66, tabObj #[rawInt 104, rawInt 4, .ref c2]), (c2, oc2)]) → Top p loose mean mg mb h₀ → cs.kind = .function → 0 ≤ x → x < 2 ^ 40 → 0 < b → b < 2 ^ 20 → CodeHd base 63 59 → CodeHd base 70 66 → oc1.data = .fields vs1 → vs1[1]? = some (.str "_int2digits.<locals>.inner" tq1) → oc2.data = .fields vs2 → vs2[1]? = some (.str "_digits2int.<locals>.inner" tq2) → dp + 130 < recursionLimit → un + 420 < cLine →
   (∀ (D : Addr) (q r : Int) (u1 u2 : Tok) h' tk', Kp s.heap h' → h'.get? D = some { cls := .type "tuple", data := .seq #[.int q u1, .int r u2] } → s.heap.objs.size ≤ D → x = b * q + r → 0 ≤ r → r < b → Q (.ref D) { s with heap := h', toks := tk' }) →
   wpAny (model rw9.row.prog w) (ktrTop dp un gd cn cs L a0 ccd cl outer) (call (.ref 85) [.int x t1, .int b t2]) Q E s := by
  k_fill
  w_top off
  k_with_none
  (k_with "my omega" => (first | with_reducible assumption | (law_purse 30000 => lia) | omega +splitDisjunctions))
  (k_with "my mem" => (first | exact m9_0 | exact m9_1 | exact m9_2 | exact m9_3 | exact m9_4 | exact m9_5 | exact m9_6 | exact m9_7 | (refine' m9_s ?_; k_mem)))
  (k_with "my sub" => (first | exact allNil | exact allCons (by k_mem) (by lcg_sub) | (intro q9 hq9; repeat (first | with_reducible exact hq9 | refine List.mem_cons_of_mem _ ?_))))
  (k_with "my room" => ktr_room)
  (k_with "my units" => ktr_units)
  (k_with "my ne" => (refine neN ?_; (try dsimp only); first | exact NeH.out (by assumption) | exact Ne.symm (NeH.out (by assumption)) | omega))
  (k_with "my all" => (first | exact allNil | (refine' allCons ?_ ?_; focus k_ne; k_all)))
  (k_with "my exec Assign" => k_fold)
  (k_with "my exec Expr" => k_fold)
  (k_with "my exec If" => k_fold)
  (k_with "my exec AugAssign" => k_fold)
  (k_with "my eval BinOp" => k_fold)
  (k_with "my eval Compare" => k_fold)
  (k_with "my eval Subscript" => k_fold)
  (k_with "my eval Call" => k_fold)
  (k_with "my eval Call Attribute" => k_fold)
  (k_with "my eval IfExp" => k_fold)
  (k_with "my eval List" => k_fold)
  (k_with "my eval Tuple" => k_fold)
  intro B F X N T hk h0 h1 hb0 hb1 hch1 hch2 hoc1 hvs1 hoc2 hvs2 hdp hun hret
  (k_with "my call ref" => first
    | (k_dflt (refine' dmp_hit _ _ _ _ _ _ _ _ _ _ _ _ _ _ _ _ _ _ _ _ _ _ _ _ _ _ _ _ _ _ _ _ _ _ _ (by k_asm) (by k_asm) (by k_asm) (newsCons (by k_asm) (by k_mem) (newsCons (by k_asm) (by k_mem) (newsCons (by k_asm) (by k_mem) (newsCons (by k_asm) (by k_mem) newsNil)))) (by k_asm) rfl (by first | with_reducible assumption | omega) (by first | with_reducible assumption | omega) (by first | with_reducible assumption | omega) (by first | with_reducible assumption | omega) (by assumption) (by assumption) (by assumption) (by assumption) (by assumption) (by assumption) (by ktr_room) (by ktr_units) ?_); intro D9 q9 r9 u19 u29 h9 tk9 k9 g9 s9 e9 r09 r19; have z9 := kpAbove (by k_asm) s9; have l9 := newsLt (by k_asm) s9; (try k_lt l9); have F9 := kpFr (by k_asm) k9; have N9 := kpNew (by k_asm) (by k_asm) k9 g9 s9; (try dsimp only))
    | refine stopHere ?_)
  refine wpAny_call ?_
  k_dflt (refine' codeM ?k1 ?k2 ?k3 ?k4 ?k5 ?kA ?kF ?kK ?k6 ?k7 ?k8 ?k9 ?kB ?_ ?c2 ?c3 ?c4 ?c5; (case kA => exact rfl); (case kF => exact rfl); (case kK => assumption); (case k1 => k_asm); (case k2 => k_asm); (case k3 => k_asm); (case k4 => k_asm); (case k5 => k_asm); (case k6 => k_is); (case k7 => k_is); (case k8 => ktr_room); (case k9 => first | exact BindsTo.of_eq rfl | exact binds_K (by k_in) rfl (by k_is) rfl rfl rfl); (case c5 => decide); (case kB => exact locs rfl); (case c2 => exact rfl); (case c3 => exact rfl); (case c4 => exact rfl); k_whole; intro g' L' h' hg FG' F' N' B' X' T' l1 hL'; (try k_lt l1); (try dsimp only); (try k_lift B'); (try k_fold))
  have hLh := ltN (Heap.Ns.lt (Fr.ns F'))
  k_steps
  all_goals first | (intro hkp; exact hret _ _ _ _ _ _ _ (kpOf hg hkp (fun q hq => (N q hq).1) (allCons (newsGet (by k_asm) (by k_mem)) (allCons (newsGet (by k_asm) (by k_mem)) (allCons (newsGet (by k_asm) (by k_mem)) (allCons (newsGet (by k_asm) (by k_mem)) (fun _ h => nomatch h)))))) (newsGet (by k_asm) (by k_mem)) (by first | with_reducible assumption | omega) e9 r09 r19) | (exfalso; omega)
set_option maxRecDepth 100000 in
set_option maxHeartbeats 8000000 in
set_option pp.deepTerms false in
set_option pp.maxSteps 3000 in
theorem dm_miss (w : World) (p : Program) (loose : List Str) (mean : ExcName → Option Value) (mg mb : Str → Option Value) (dp un : Nat) (gd : Option (List Code)) (cn : Str) (cs : Scope) (a0 : Addr) (ccd : Value) (cl : List (Str × Addr)) (outer : List Env) (A₀ : Around) (base h₀ : Heap) (L : Addr) (m : Str → Option Value) (s : Shared) (Q E : Value → Shared → Prop) (x b : Int) (t1 t2 : Tok) :
   Below A₀ base outer h₀ → Fr h₀ L s.heap m → (K39 w.params).In h₀ → News h₀ L s.heap ([(59, tabObj #[]), (66, tabObj #[])]) → Top p loose mean mg mb h₀ → cs.kind = .function → 0 ≤ x → x < 2 ^ 40 → 0 < b → b < 2 ^ 20 → CodeHd base 63 59 → CodeHd base 70 66 → dp + 130 < recursionLimit → un + 420 < cLine →
   (∀ (D : Addr) (q r : Int) (u1 u2 : Tok) h' tk' c1 c2 oc1 oc2 vs1 vs2 tq1 tq2, (∀ b o, s.heap.get? b = some o → b ≠ 59 → b ≠ 66 → h'.get? b = some o) → h'.get? 59 = some (tabObj #[rawInt 89, rawInt 4, .ref c1]) → h'.get? c1 = some oc1 → s.heap.objs.size ≤ c1 → oc1.data = .fields vs1 → vs1[1]? = some (.str "_int2digits.<locals>.inner" tq1) → h'.get? 66 = some (tabObj #[rawInt 104, rawInt 4, .ref c2]) → h'.get? c2 = some oc2 → s.heap.objs.size ≤ c2 → oc2.data = .fields vs2 → vs2[1]? = some (.str "_digits2int.<locals>.inner" tq2) → h'.get? D = some { cls := .type "tuple", data := .seq #[.int q u1, .int r u2] } → s.heap.objs.size ≤ D → x = b * q + r → 0 ≤ r → r < b → Q (.ref D) { s with heap := h', toks := tk' }) →
   wpAny (model rw9.row.prog w) (ktrTop dp un gd cn cs L a0 ccd cl outer) (call (.ref 85) [.int x t1, .int b t2]) Q E s := by
  k_fill
  w_top off
  k_with_none
  (k_with "my omega" => (first | with_reducible assumption | (law_purse 30000 => lia) | omega +splitDisjunctions))
  (k_with "my mem" => (first | exact m9_0 | exact m9_1 | exact m9_2 | exact m9_3 | exact m9_4 | exact m9_5 | exact m9_6 | exact m9_7 | (refine' m9_s ?_; k_mem)))
  (k_with "my sub" => (first | exact allNil | exact allCons (by k_mem) (by lcg_sub) | (intro q9 hq9; repeat (first | with_reducible exact hq9 | refine List.mem_cons_of_mem _ ?_))))
  (k_with "my room" => ktr_room)
  (k_with "my units" => ktr_units)
  (k_with "my ne" => (refine neN ?_; (try dsimp only); first | exact NeH.out (by assumption) | exact Ne.symm (NeH.out (by assumption)) | omega))
  (k_with "my all" => (first | exact allNil | (refine' allCons ?_ ?_; focus k_ne; k_all)))
  (k_with "my exec Assign" => k_fold)
  (k_with "my exec Expr" => k_fold)
  (k_with "my exec If" => k_fold)
  (k_with "my exec AugAssign" => k_fold)
  (k_with "my eval BinOp" => k_fold)
  (k_with "my eval Compare" => k_fold)
  (k_with "my eval Subscript" => k_fold)
  (k_with "my eval Call" => k_fold)
  (k_with "my eval Call Attribute" => k_fold)
  (k_with "my eval IfExp" => k_fold)
  (k_with "my eval List" => k_fold)
  (k_with "my eval Tuple" => k_fold)
  intro B F X N T hk h0 h1 hb0 hb1 hch1 hch2 hdp hun hret
  (k_with "my call ref" => first
    | (k_dflt (refine' dmp_miss _ _ _ _ _ _ _ _ _ _ _ _ _ _ _ _ _ _ _ _ _ _ _ _ _ _ _ (by k_asm) (by k_asm) (by k_asm) (newsCons (by k_asm) (by k_mem) (newsCons (by k_asm) (by k_mem) newsNil)) (by k_asm) rfl (by first | with_reducible assumption | omega) (by first | with_reducible assumption | omega) (by first | with_reducible assumption | omega) (by first | with_reducible assumption | omega) (by assumption) (by assumption) (by ktr_room) (by ktr_units) ?_); intro D9 q9 r9 u19 u29 h9 tk9 c1 c2 oc1 oc2 vs1 vs2 tq1 tq2 kb9 t59 gc1 sc1 hoc1 hvs1 t66 gc2 sc2 hoc2 hvs2 g9 s9 e9 r09 r19; have z9 := kpAbove (by k_asm) s9; have y1 := kpAbove (by k_asm) sc1; have y2 := kpAbove (by k_asm) sc2; k_dflt (have F9 := kb2Fr (by k_asm) (by k_asm) (P := 59) (R := 66) (o := tabObj #[]) (o' := tabObj #[]) (by k_mem) (by k_mem) kb9; have N9 := kbNew (by k_asm) g9 s9 (kb2Tab (P := 59) (R := 66) (o := tabObj #[]) (o' := tabObj #[]) (by k_asm) (by k_mem) (by k_mem) t59 t66 (kbNew (by k_asm) gc1 sc1 (kbNew (by k_asm) gc2 sc2 newsNil)))); (try dsimp only))
    | refine stopHere ?_)
  refine wpAny_call ?_
  k_dflt (refine' codeM ?k1 ?k2 ?k3 ?k4 ?k5 ?kA ?kF ?kK ?k6 ?k7 ?k8 ?k9 ?kB ?_ ?c2 ?c3 ?c4 ?c5; (case kA => exact rfl); (case kF => exact rfl); (case kK => assumption); (case k1 => k_asm); (case k2 => k_asm); (case k3 => k_asm); (case k4 => k_asm); (case k5 => k_asm); (case k6 => k_is); (case k7 => k_is); (case k8 => ktr_room); (case k9 => first | exact BindsTo.of_eq rfl | exact binds_K (by k_in) rfl (by k_is) rfl rfl rfl); (case c5 => decide); (case kB => exact locs rfl); (case c2 => exact rfl); (case c3 => exact rfl); (case c4 => exact rfl); k_whole; intro g' L' h' hg FG' F' N' B' X' T' l1 hL'; (try k_lt l1); (try dsimp only); (try k_lift B'); (try k_fold))
  have hLh := ltN (Heap.Ns.lt (Fr.ns F'))
  k_steps
  all_goals first | (intro hkp; exact hret _ _ _ _ _ _ _ _ _ _ _ _ _ _ _ (fun b o e h1 h2 => hkp b o (hg b o e (by simpa using ⟨h1, h2⟩))) (newsGet (by k_asm) (by k_mem)) (newsGet (by k_asm) (by k_mem)) (by first | with_reducible assumption | omega) hoc1 hvs1 (newsGet (by k_asm) (by k_mem)) (newsGet (by k_asm) (by k_mem)) (by first | with_reducible assumption | omega) hoc2 hvs2 (newsGet (by k_asm) (by k_mem)) (by first | with_reducible assumption | omega) e9 r09 r19) | (exfalso; omega)
set_option maxRecDepth 100000 in
set_option maxHeartbeats 8000000 in
set_option pp.deepTerms false in
set_option pp.maxSteps 3000 in
theorem dm_hitn (w : World) (p : Program) (loose : List Str) (mean : ExcName → Option Value) (mg mb : Str → Option Value) (dp un : Nat) (gd : Option (List Code)) (cn : Str) (cs : Scope) (a0 : Addr) (ccd : Value) (cl : List (Str × Addr)) (outer : List Env) (A₀ : Around) (base h₀ : Heap) (L : Addr) (m : Str → Option Value) (s : Shared) (Q E : Value → Shared → Prop) (x b : Int) (t1 t2 : Tok) (c1 c2 : Addr) (oc1 oc2 : Obj) (vs1 vs2 : Array Value) (tq1 tq2 : Tok) :
   Below A₀ base outer h₀ → Fr h₀ L s.heap m → (K39 w.params).In h₀ → News h₀ L s.heap ([(59, tabObj #[rawInt 89, rawInt 4, .ref c1]), (c1, oc1), (66, tabObj #[rawInt 104, rawInt 4, .ref c2]), (c2, oc2)]) → Top p loose mean mg mb h₀ → cs.kind = .function → x < 0 → -2 ^ 40 < x → 0 < b → b < 2 ^ 20 → CodeHd base 63 59 → CodeHd base 70 66 → oc1.data = .fields vs1 → vs1[1]? = some (.str "_int2digits.<locals>.inner" tq1) → oc2.data = .fields vs2 → vs2[1]? = some (.str "_digits2int.<locals>.inner" tq2) → dp + 140 < recursionLimit → un + 440 < cLine →
   (∀ (D : Addr) (q r : Int) (u1 u2 : Tok) h' tk', Kp s.heap h' → h'.get? D = some { cls := .type "tuple", data := .seq #[.int q u1, .int r u2] } → s.heap.objs.size ≤ D → x = b * q + r → 0 ≤ r → r < b → Q (.ref D) { s with heap := h', toks := tk' }) →
   wpAny (model rw9.row.prog w) (ktrTop dp un gd cn cs L a0 ccd cl outer) (call (.ref 85) [.int x t1, .int b t2]) Q E s := by
  k_fill
  w_top off
  k_with_none
  (k_with "my omega" => (first | with_reducible assumption | (law_purse 30000 => lia) | omega +splitDisjunctions))
  (k_with "my mem" => (first | exact m9_0 | exact m9_1 | exact m9_2 | exact m9_3 | exact m9_4 | exact m9_5 | exact m9_6 | exact m9_7 | (refine' m9_s ?_; k_mem)))
  (k_with "my sub" => (first | exact allNil | exact allCons (by k_mem) (by lcg_sub) | (intro q9 hq9; repeat (first | with_reducible exact hq9 | refine List.mem_cons_of_mem _ ?_))))
  (k_with "my room" => ktr_room)
  (k_with "my units" => ktr_units)
  (k_with "my ne" => (refine neN ?_; (try dsimp only); first | exact NeH.out (by assumption) | exact Ne.symm (NeH.out (by assumption)) | omega))
  (k_with "my all" => (first | exact allNil | (refine' allCons ?_ ?_; focus k_ne; k_all)))
  (k_with "my exec Assign" => k_fold)
  (k_with "my exec Expr" => k_fold)
  (k_with "my exec If" => k_fold)
  (k_with "my exec AugAssign" => k_fold)
  (k_with "my eval BinOp" => k_fold)
  (k_with "my eval Compare" => k_fold)
  (k_with "my eval Subscript" => k_fold)
  (k_with "my eval Call" => k_fold)
  (k_with "my eval Call Attribute" => k_fold)
  (k_with "my eval IfExp" => k_fold)
  (k_with "my eval List" => k_fold)
  (k_with "my eval Tuple" => k_fold)
  intro B F X N T hk h0 h1 hb0 hb1 hch1 hch2 hoc1 hvs1 hoc2 hvs2 hdp hun hret
  (k_with "my call ref" => first
    | (k_dflt (refine' dm_hit0 _ _ _ _ _ _ _ _ _ _ _ _ _ _ _ _ _ _ _ _ _ _ _ _ _ _ _ _ _ _ _ _ _ _ _ (by k_asm) (by k_asm) (by k_asm) (newsCons (by k_asm) (by k_mem) (newsCons (by k_asm) (by k_mem) (newsCons (by k_asm) (by k_mem) (newsCons (by k_asm) (by k_mem) newsNil)))) (by k_asm) rfl (by first | with_reducible assumption | omega) (by first | with_reducible assumption | omega) (by first | with_reducible assumption | omega) (by first | with_reducible assumption | omega) (by assumption) (by assumption) (by assumption) (by assumption) (by assumption) (by assumption) (by ktr_room) (by ktr_units) ?_); intro D9 q9 r9 u19 u29 h9 tk9 k9 g9 s9 e9 r09 r19; have z9 := kpAbove (by k_asm) s9; have l9 := newsLt (by k_asm) s9; (try k_lt l9); have F9 := kpFr (by k_asm) k9; have N9 := kpNew (by k_asm) (by k_asm) k9 g9 s9; (try dsimp only))
    | refine stopHere ?_)
  (k_with "my unaryOp Invert int" => (with_reducible refine invS ?_; intro v8 hv8))
  refine wpAny_call ?_
  k_dflt (refine' codeM ?k1 ?k2 ?k3 ?k4 ?k5 ?kA ?kF ?kK ?k6 ?k7 ?k8 ?k9 ?kB ?_ ?c2 ?c3 ?c4 ?c5; (case kA => exact rfl); (case kF => exact rfl); (case kK => assumption); (case k1 => k_asm); (case k2 => k_asm); (case k3 => k_asm); (case k4 => k_asm); (case k5 => k_asm); (case k6 => k_is); (case k7 => k_is); (case k8 => ktr_room); (case k9 => first | exact BindsTo.of_eq rfl | exact binds_K (by k_in) rfl (by k_is) rfl rfl rfl); (case c5 => decide); (case kB => exact locs rfl); (case c2 => exact rfl); (case c3 => exact rfl); (case c4 => exact rfl); k_whole; intro g' L' h' hg FG' F' N' B' X' T' l1 hL'; (try k_lt l1); (try dsimp only); (try k_lift B'); (try k_fold))
  have hLh := ltN (Heap.Ns.lt (Fr.ns F'))
  k_steps
  all_goals first | (intro hkp; exact hret _ _ _ _ _ _ _ (kpOf hg hkp (fun q hq => (N q hq).1) (allCons (newsGet (by k_asm) (by k_mem)) (allCons (newsGet (by k_asm) (by k_mem)) (allCons (newsGet (by k_asm) (by k_mem)) (allCons (newsGet (by k_asm) (by k_mem)) (fun _ h => nomatch h)))))) (newsGet (by k_asm) (by k_mem)) (by first | with_reducible assumption | omega) (dmneg (by assumption) e9 (by assumption) (by assumption)) (by first | with_reducible assumption | omega) (by first | with_reducible assumption | omega)) | (exfalso; omega)
end
section
open PySem PySem.W PyProof.Rows
noncomputable def yA (y : Int) : Int := (12 * y + 17) % 19
noncomputable def yB (y : Int) : Int := y % 4
noncomputable def yN (y : Int) : Int := 15781075 + 765433 * yA y + 123120 * yB y - 1565 * y
noncomputable def yD (y : Int) : Int := yN y / 492480
noncomputable def lineR (y : Int) : Int := yN y % 492480
noncomputable def yC (y : Int) : Int := (yD y + 3 * y + 5 * yB y + 5) % 7
noncomputable def lateF (c a r : Int) : Int := if c = 2 ∨ c = 4 ∨ c = 6 ∨ (c = 0 ∧ 11 < a ∧ 442111 ≤ r) then 1 else if c = 1 ∧ 6 < a ∧ 311676 ≤ r then 2 else 0
noncomputable def late (y : Int) : Int := lateF (yC y) (yA y) (lineR y)
noncomputable def lineM (y : Int) : Int := 3 + (yD y + late y) / 32
noncomputable def lineDd (y : Int) : Int := yD y + late y - 31 * (lineM y - 3)
noncomputable def lineW (y : Int) : Int := (yC y + late y + 5) % 7
noncomputable def lineS (y hh mi sc : Int) (zone : Str) : Str := fmtLine (lineW y) (lineM y) (lineDd y) (y - 3760) hh mi sc zone
theorem divOf {k q r : Int} (hk : 0 < k) (r0 : 0 ≤ r) (r1 : r < k) : (k * q + r) / k = q := by
  rw [Int.add_comm, Int.add_mul_ediv_left _ _ (Int.ne_of_gt hk), Int.ediv_eq_zero_of_lt r0 r1, Int.zero_add]
theorem modOf {k q r : Int} (r0 : 0 ≤ r) (r1 : r < k) : (k * q + r) % k = r := by
  rw [Int.add_comm, Int.add_mul_emod_self_left, Int.emod_eq_of_lt r0 r1]
theorem yLet {y a qb b day rest qc c x z : Int} (ha : a = (12 * y + 17) % 19) (hb : y = 4 * qb + b) (b0 : 0 ≤ b) (b1 : b < 4) (hd : x = 492480 * day + rest) (hx : x = 15781075 + 765433 * a + 123120 * b - 1565 * y) (r0 : 0 ≤ rest) (r1 : rest < 492480)
   (hc : z = 7 * qc + c) (hz : z = day + 3 * y + 5 * b + 5) (c0 : 0 ≤ c) (c1 : c < 7) : yA y = a ∧ yB y = b ∧ yD y = day ∧ lineR y = rest ∧ yC y = c := by
  have e1 : yA y = a := ha.symm
  have e2 : yB y = b := by unfold yB; rw [hb]; exact modOf b0 b1
  have e3 : yN y = x := by unfold yN; rw [e1, e2, hx]
  have e4 : yD y = day := by unfold yD; rw [e3, hd]; exact divOf (by decide) r0 r1
  have e5 : lineR y = rest := by unfold lineR; rw [e3, hd]; exact modOf r0 r1
  refine ⟨e1, e2, e4, e5, ?_⟩
  unfold yC; rw [e4, e2, ← hz, hc]; exact modOf c0 c1
theorem any246 {c : Int} : (([2, 4, 6].any fun x => x == c) = true) ↔ (c = 2 ∨ c = 4 ∨ c = 6) := by
  simp only [List.any_cons, List.any_nil, Bool.or_false, Bool.or_eq_true, beq_iff_eq]
  omega
theorem any246n {c : Int} (h : ([2, 4, 6].any fun x => x == c) = false) : ¬ (c = 2 ∨ c = 4 ∨ c = 6) := by
  rw [← any246, h]; decide
theorem lateB (c a r : Int) : 0 ≤ lateF c a r ∧ lateF c a r ≤ 2 := by
  unfold lateF; split <;> (try split) <;> omega
theorem lateT {c a r : Int} (h : ([2, 4, 6].any fun x => x == c) = true) : 1 = lateF c a r := by
  have := any246.mp h
  unfold lateF
  rw [if_pos (by first | with_reducible assumption | omega)]
theorem fd32 (x : Int) : x.fdiv 32 = x / 32 := Int.fdiv_eq_ediv_of_nonneg _ (by decide)
theorem fm7 (x : Int) : x.fmod 7 = x % 7 := Int.fmod_eq_emod_of_nonneg _ (by decide)
theorem lineEnd {y a b day rest c v hh mi sc : Int} {zone : Str} (h : yA y = a ∧ yB y = b ∧ yD y = day ∧ lineR y = rest ∧ yC y = c) (hv : v = lateF c a rest) :
   fmtLine ((c + v + 5).fmod 7) (3 + (day + v).fdiv 32) (day + v - 31 * (3 + (day + v).fdiv 32 - 3)) (y - 3760) hh mi sc zone = lineS y hh mi sc zone ∧ rest = lineR y := by
  obtain ⟨e1, e2, e3, e4, e5⟩ := h
  unfold lineS lineW lineDd lineM late
  rw [e1, e3, e4, e5, ← hv, fd32, fm7]
  exact ⟨rfl, rfl⟩
noncomputable def Marked : Prop := True
section
variable {prog : Program} {w : World} {A : Around} {E : Value → Shared → Prop} {s : Shared} {env : Env} {h₀ : Heap} {L : Addr}
noncomputable def JoinPost (h₀ : Heap) (L : Addr) (s : Shared) (m₀ : Str → Option Value) (x : Str) (led : List (Addr × Obj)) (R : Int → Prop) (f : Flow) (s₂ : Shared) : Prop := match f with
  | .next => ∃ h' tk' v t m', s₂ = { s with heap := h', toks := tk' } ∧ Fr h₀ L h' m' ∧ m' x = some (.int v t) ∧ (∀ y, y ≠ x → m' y = m₀ y) ∧ News h₀ L h' led ∧ R v
  | _ => False
theorem ifJoin {st : Stmt} {m₀ : Str → Option Value} {led : List (Addr × Obj)} {Q : Flow → Shared → Prop} (x : Str) (R : Int → Prop) (F : Fr h₀ L s.heap m₀) (N : News h₀ L s.heap led)
    (step : Marked → wpAny (model prog w) A (exec st env) (JoinPost h₀ L s m₀ x led R) E s)
    (rest : ∀ v t h tk, R v → Fr h₀ L h (fun y => if y = x then some (.int v t) else m₀ y) → News h₀ L h led → Q .next { s with heap := h, toks := tk }) : wpAny (model prog w) A (exec st env) Q E s := by
  refine wpAny_mono (step True.intro) (fun f s₂ hp => ?_) fun _ _ q => q
  cases f with
  | next =>
    obtain ⟨h', tk', v, t, m', rfl, F', hx, hm, N', hr⟩ := hp
    have e : m' = fun y => if y = x then some (.int v t) else m₀ y := by
      funext y
      by_cases hy : y = x
      · simp [hy, hx]
      · simp [hy, hm y hy]
    rw [e] at F'
    exact rest v t h' tk' hr F' N'
  | brk => exact hp.elim
  | cont => exact hp.elim
  | ret v => exact hp.elim
end
theorem yNB {y a b : Int} (a0 : 0 ≤ a) (a1 : a < 19) (b0 : 0 ≤ b) (b1 : b < 4) (y0 : 3761 ≤ y) (y1 : y ≤ 8761) : 0 ≤ 15781075 + 765433 * a + 123120 * b - 1565 * y ∧ 15781075 + 765433 * a + 123120 * b - 1565 * y < 492480 * 61 := by omega
theorem aB {a y : Int} (ha : a = (12 * y + 17) % 19) : 0 ≤ a ∧ a < 19 := ha ▸ ⟨Int.emod_nonneg _ (by decide), Int.emod_lt_of_pos _ (by decide)⟩
theorem lineX {y a b : Int} (ha : a = (12 * y + 17) % 19) (b0 : 0 ≤ b) (b1 : b < 4) (y0 : 3761 ≤ y) (y1 : y ≤ 8761) : 0 ≤ 15781075 + 765433 * a + 123120 * b - 1565 * y ∧ 15781075 + 765433 * a + 123120 * b - 1565 * y < 2 ^ 40 := by
  obtain ⟨h0, h1⟩ := yNB (aB ha).1 (aB ha).2 b0 b1 y0 y1
  exact ⟨h0, Int.lt_trans h1 (by decide)⟩
theorem dayB {day rest X : Int} (ed : X = 492480 * day + rest) (x0 : 0 ≤ X) (x1 : X < 492480 * 61) (r0 : 0 ≤ rest) (r1 : rest < 492480) : 0 ≤ day ∧ day ≤ 60 := by subst ed; omega
theorem lineC {y a b day rest : Int} (ha : a = (12 * y + 17) % 19) (b0 : 0 ≤ b) (b1 : b < 4) (y0 : 3761 ≤ y) (y1 : y ≤ 8761) (ed : 15781075 + 765433 * a + 123120 * b - 1565 * y = 492480 * day + rest) (r0 : 0 ≤ rest) (r1 : rest < 492480) : 0 ≤ day + 3 * y + 5 * b + 5 ∧ day + 3 * y + 5 * b + 5 < 2 ^ 40 := by
  obtain ⟨h0, h1⟩ := yNB (aB ha).1 (aB ha).2 b0 b1 y0 y1
  obtain ⟨d0, d1⟩ := dayB ed h0 h1 r0 r1
  clear ed ha h0 h1 r0 r1
  omega
theorem fB {x : Int} (h0 : 0 ≤ x) (h1 : x ≤ 62) : 3 ≤ 3 + x / 32 ∧ 3 + x / 32 ≤ 4 ∧ 0 ≤ x - 31 * (3 + x / 32 - 3) ∧ x - 31 * (3 + x / 32 - 3) < 100 := by
  have q0 : 0 ≤ x / 32 := Int.ediv_nonneg h0 (by decide)
  have q1 : x / 32 < 2 := Int.ediv_lt_of_lt_mul (by decide) (Int.lt_of_le_of_lt h1 (by decide))
  have q2 : 32 * (x / 32) ≤ x := Int.mul_ediv_self_le (by decide)
  generalize x / 32 = q at q0 q1 q2
  omega
theorem lineFmt {y a b day rest c v : Int} (h : yA y = a ∧ yB y = b ∧ yD y = day ∧ lineR y = rest ∧ yC y = c) (y0 : 3761 ≤ y) (y1 : y ≤ 8761) (hv : 0 ≤ v ∧ v ≤ 2) : 3 ≤ 3 + (day + v).fdiv 32 ∧ 3 + (day + v).fdiv 32 ≤ 4 ∧ 0 ≤ day + v - 31 * (3 + (day + v).fdiv 32 - 3) ∧ day + v - 31 * (3 + (day + v).fdiv 32 - 3) < 100 ∧ 0 ≤ (c + v + 5).fmod 7 ∧ (c + v + 5).fmod 7 < 7 := by
  obtain ⟨-, -, e3, -, -⟩ := h
  obtain ⟨h0, h1⟩ := yNB (a := yA y) (b := yB y) (Int.emod_nonneg _ (by decide)) (Int.emod_lt_of_pos _ (by decide)) (Int.emod_nonneg _ (by decide)) (Int.emod_lt_of_pos _ (by decide)) y0 y1
  have d0 : 0 ≤ day := e3 ▸ Int.ediv_nonneg h0 (by decide)
  have d1 : day < 61 := e3 ▸ Int.ediv_lt_of_lt_mul (by decide) (Int.mul_comm 492480 61 ▸ h1)
  obtain ⟨f1, f2, f3, f4⟩ := fB (x := day + v) (Int.add_nonneg d0 hv.1) (by clear e3 h0 h1; omega)
  rw [fd32, fm7]
  exact ⟨f1, f2, f3, f4, Int.emod_nonneg _ (by decide), Int.emod_lt_of_pos _ (by decide)⟩
section
variable {M : Model} {A : Around} {E : Value → Shared → Prop} {s : Shared} {h₀ : Heap} {L : Addr} {m : Str → Option Value} {news : List (Addr × Obj)}
theorem newListL {vs : List Value} {Q : Value → Shared → Prop} (F : Fr h₀ L s.heap m) (N : News h₀ L s.heap news) (h : ∀ l h', Fr h₀ L h' m → News h₀ L h' ((l, W.listOf vs.toArray 0) :: news) → (∀ p ∈ news, p.1 < l) → LT.lt (α := Nat) L l → Q (.ref l) { s with heap := h' }) (hsz : vs.length ≤ sizeLine := by size_fits) : wpAny M A (newList vs) Q E s :=
  newList_N F N (fun h' F' N' => h _ h' F' N' (fun p hp => Heap.lt_size (N p hp).1) F.ns.lt) hsz
end
set_option maxRecDepth 100000 in
set_option maxHeartbeats 2000000 in
set_option pp.deepTerms false in
set_option pp.maxSteps 3000 in
theorem lt_end (w : World) (p : Program) (loose : List Str) (mean : ExcName → Option Value) (mg mb : Str → Option Value) (dp un : Nat) (gd : Option (List Code)) (cn : Str) (cs : Scope) (L a0 : Addr) (ccd : Value) (cl : List (Str × Addr)) (outer : List Env) (base g : Heap) (L' : Addr) (s : Shared) (Q : Flow → Shared → Prop) (E : Value → Shared → Prop) (body : List Stmt) (scope : Scope) (v c day rs y hh mi sc : Int) (tv tc td tr ty thh tmi tsc tz : Tok) (lc : Addr) (cnt : Nat) (zone : Str) (mr : Str → Option Value) (rest : List (Addr × Obj)) :
   (fnParts (K39 w.params) 160).map (fun x => (x.1.drop 6, x.2)) = some (body, scope) → Below (ktrTop dp un gd cn cs L a0 ccd cl outer) base (envX cn cs L a0 ccd cl :: outer) g → Fr g L' s.heap (fun z => if z = Str.ofString "late" then some (.int v tv) else if z = Str.ofString "c" then some (.int c tc) else if z = Str.ofString "day" then some (.int day td) else if z = Str.ofString "rest" then some (.int rs tr) else if z = Str.ofString "zone" then some (.str zone tz) else if z = Str.ofString "clock" then some (.ref lc) else if z = Str.ofString "year" then some (.int y ty) else mr z) → (K39 w.params).In g → News g L' s.heap ((lc, W.listOf #[.int hh thh, .int mi tmi, .int sc tsc] cnt) :: rest) → Top p loose mean mg mb g → cs.kind = .function → 3761 ≤ y → y ≤ 8761 → 0 ≤ hh → hh < 100 → 0 ≤ mi → mi < 100 → 0 ≤ sc → sc < 100 → zone.length ≤ 10 → (3 ≤ 3 + (day + v).fdiv 32 ∧ 3 + (day + v).fdiv 32 ≤ 4 ∧ 0 ≤ day + v - 31 * (3 + (day + v).fdiv 32 - 3) ∧ day + v - 31 * (3 + (day + v).fdiv 32 - 3) < 100 ∧ 0 ≤ (c + v + 5).fmod 7 ∧ (c + v + 5).fmod 7 < 7) → dp + 150 < recursionLimit → un + 460 < cLine →
   (∀ (D : Addr) (u1 u2 : Tok) h' tk' m', (∀ p ∈ rest, LT.lt (α := Nat) p.1 D) → LT.lt (α := Nat) lc D → LT.lt (α := Nat) L' D → Fr g L' h' m' → News g L' h' ((D, W.listOf #[.str (fmtLine ((c + v + 5).fmod 7) (3 + (day + v).fdiv 32) (day + v - 31 * (3 + (day + v).fdiv 32 - 3)) (y - 3760) hh mi sc zone) u1, .int rs u2] 0) :: (lc, W.listOf #[.int hh thh, .int mi tmi, .int sc tsc] cnt) :: rest) → Q (.ret (.ref D)) { s with heap := h', toks := tk' }) →
   wpAny (model rw9.row.prog w) ((ktrTop dp un gd cn cs L a0 ccd cl outer).deeper (envOf (Str.ofString "_law_line") scope L' 160 (.ref 159))) (execs body (envOf (Str.ofString "_law_line") scope L' 160 (.ref 159))) Q E s := by
  k_fill
  w_top off
  k_with_none
  (k_with "my omega" => (first | with_reducible assumption | (law_purse 30000 => lia) | omega +splitDisjunctions))
  (k_with "my mem" => (first | exact m9_0 | exact m9_1 | exact m9_2 | exact m9_3 | exact m9_4 | exact m9_5 | exact m9_6 | exact m9_7 | (refine' m9_s ?_; k_mem)))
  (k_with "my sub" => (first | exact allNil | exact allCons (by k_mem) (by lcg_sub) | (intro q9 hq9; repeat (first | with_reducible exact hq9 | refine List.mem_cons_of_mem _ ?_))))
  (k_with "my room" => ktr_room)
  (k_with "my units" => ktr_units)
  (k_with "my ne" => (refine neN ?_; (try dsimp only); first | exact NeH.out (by assumption) | exact Ne.symm (NeH.out (by assumption)) | omega))
  (k_with "my all" => (first | exact allNil | (refine' allCons ?_ ?_; focus k_ne; k_all)))
  (k_with "my exec Assign" => k_fold)
  (k_with "my exec Expr" => k_fold)
  (k_with "my exec If" => k_fold)
  (k_with "my exec AugAssign" => k_fold)
  (k_with "my eval BinOp" => k_fold)
  (k_with "my eval Compare" => k_fold)
  (k_with "my eval Subscript" => k_fold)
  (k_with "my eval Call" => k_fold)
  (k_with "my eval Call Attribute" => k_fold)
  (k_with "my eval IfExp" => k_fold)
  (k_with "my eval List" => k_fold)
  (k_with "my eval Tuple" => k_fold)
  intro hp B F X N T hk y0 y1 hh0 hh1 mi0 mi1 sc0 sc1 zl hf hdp hun hret
  obtain ⟨f1, f2, f3, f4, f5, f6⟩ := hf
  cases hp
  (k_with "my call ref" => (k_dflt (refine' fmt _ _ _ _ _ _ _ _ _ _ _ _ _ _ _ _ _ _ _ _ _ _ _ _ _ _ _ _ _ _ _ _ _ _ _ _ _ _ _ _ _ (by k_asm) (by k_asm) (by k_asm) (newsCons (by k_asm) (by k_mem) newsNil) (by k_asm) rfl (by omega) (by omega) f1 f2 f3 f4 hh0 hh1 mi0 mi1 sc0 sc1 f5 f6 zl (by ktr_room) (by ktr_units) ?_); intro h9 tk9 t9 k9; (obtain F9 := kpFr (by k_asm) k9); (obtain N9 := kpNews (by k_asm) k9); (try dsimp only)))
  (k_with "my newList" => (k_here; k_dflt (refine' newListL ?k1 ?k2 ?_; (case k1 => k_asm); (case k2 => k_asm); k_whole); intro l' h' F' N' l1 hL1; (try k_lt l1); (try k_sweep)))
  show wpAny _ _ (execs _ _) _ _ _
  k_steps
  exact hret _ _ _ _ _ _ (ltAll (by first | assumption | exact And.right (by assumption) | exact And.right (And.right (by assumption)) | exact And.right (And.right (And.right (by assumption))) | exact And.right (And.right (And.right (And.right (by assumption)))) | exact And.right (And.right (And.right (And.right (And.right (by assumption)))))| exact And.right (And.right (And.right (And.right (And.right (And.right (by assumption)))))))) (by omega) (by omega) (by assumption) (newsCons (by assumption) (.head _) (newsCons (by assumption) (by k_mem) (newsSub (by assumption) (by intro q9 hq9; repeat (first | with_reducible exact hq9 | refine List.mem_cons_of_mem _ ?_)))))
set_option maxRecDepth 100000 in
set_option maxHeartbeats 2000000 in
set_option pp.deepTerms false in
set_option pp.maxSteps 3000 in
theorem line_tail (w : World) (p : Program) (loose : List Str) (mean : ExcName → Option Value) (mg mb : Str → Option Value) (dp un : Nat) (gd : Option (List Code)) (cn : Str) (cs : Scope) (L a0 : Addr) (ccd : Value) (cl : List (Str × Addr)) (outer : List Env) (base g : Heap) (L' : Addr) (s : Shared) (Q : Flow → Shared → Prop) (E : Value → Shared → Prop) (body : List Stmt) (scope : Scope) (a : Int) (ta : Tok) (y hh mi sc : Int) (ty thh tmi tsc tz : Tok) (lc : Addr) (cnt : Nat) (zone : Str) (c1 c2 : Addr) (oc1 oc2 : Obj) (vs1 vs2 : Array Value) (tq1 tq2 : Tok) :
   (fnParts (K39 w.params) 160).map (fun x => (x.1.drop 1, x.2)) = some (body, scope) → Below (ktrTop dp un gd cn cs L a0 ccd cl outer) base (envX cn cs L a0 ccd cl :: outer) g → Fr g L' s.heap (fun v => if v = Str.ofString "a" then some (.int a ta) else List.lookup v [(Str.ofString "zone", .str zone tz), (Str.ofString "clock", .ref lc), (Str.ofString "year", .int y ty)]) → (K39 w.params).In g → News g L' s.heap [(59, tabObj #[rawInt 89, rawInt 4, .ref c1]), (c1, oc1), (66, tabObj #[rawInt 104, rawInt 4, .ref c2]), (c2, oc2), (lc, W.listOf #[.int hh thh, .int mi tmi, .int sc tsc] cnt)] → Top p loose mean mg mb g → cs.kind = .function →
   3761 ≤ y → y ≤ 8761 → 0 ≤ hh → hh < 100 → 0 ≤ mi → mi < 100 → 0 ≤ sc → sc < 100 → zone.length ≤ 10 → LT.lt (α := Nat) 66 lc → CodeHd base 63 59 → CodeHd base 70 66 → a = (12 * y + 17) % 19 → oc1.data = .fields vs1 → vs1[1]? = some (.str "_int2digits.<locals>.inner" tq1) → oc2.data = .fields vs2 → vs2[1]? = some (.str "_digits2int.<locals>.inner" tq2) →  dp + 150 < recursionLimit → un + 460 < cLine →
   (∀ (D : Addr) (u1 u2 : Tok) h' tk' m', (LT.lt (α := Nat) 59 D ∧ LT.lt (α := Nat) c1 D ∧ LT.lt (α := Nat) 66 D ∧ LT.lt (α := Nat) c2 D ∧ LT.lt (α := Nat) lc D ∧ LT.lt (α := Nat) L' D) → Fr g L' h' m' → News g L' h' [(D, W.listOf #[.str (lineS y hh mi sc zone) u1, .int (lineR y) u2] 0), (59, tabObj #[rawInt 89, rawInt 4, .ref c1]), (c1, oc1), (66, tabObj #[rawInt 104, rawInt 4, .ref c2]), (c2, oc2), (lc, W.listOf #[.int hh thh, .int mi tmi, .int sc tsc] cnt)] → Q (.ret (.ref D)) { s with heap := h', toks := tk' }) →
   wpAny (model rw9.row.prog w) ((ktrTop dp un gd cn cs L a0 ccd cl outer).deeper (envOf (Str.ofString "_law_line") scope L' 160 (.ref 159))) (execs body (envOf (Str.ofString "_law_line") scope L' 160 (.ref 159))) Q E s := by
  k_fill
  w_top off
  k_with_none
  (k_with "my omega" => (first | with_reducible assumption | (law_purse 30000 => lia) | omega +splitDisjunctions))
  (k_with "my mem" => (first | exact m9_0 | exact m9_1 | exact m9_2 | exact m9_3 | exact m9_4 | exact m9_5 | exact m9_6 | exact m9_7 | (refine' m9_s ?_; k_mem)))
  (k_with "my sub" => (first | exact allNil | exact allCons (by k_mem) (by lcg_sub) | (intro q9 hq9; repeat (first | with_reducible exact hq9 | refine List.mem_cons_of_mem _ ?_))))
  (k_with "my room" => ktr_room)
  (k_with "my units" => ktr_units)
  (k_with "my ne" => (refine neN ?_; (try dsimp only); first | exact NeH.out (by assumption) | exact Ne.symm (NeH.out (by assumption)) | omega))
  (k_with "my all" => (first | exact allNil | (refine' allCons ?_ ?_; focus k_ne; k_all)))
  (k_with "my exec Assign" => k_fold)
  (k_with "my exec Expr" => k_fold)
  (k_with "my exec If" => k_fold)
  (k_with "my exec AugAssign" => k_fold)
  (k_with "my eval BinOp" => k_fold)
  (k_with "my eval Compare" => k_fold)
  (k_with "my eval Subscript" => k_fold)
  (k_with "my eval Call" => k_fold)
  (k_with "my eval Call Attribute" => k_fold)
  (k_with "my eval IfExp" => k_fold)
  (k_with "my eval List" => k_fold)
  (k_with "my eval Tuple" => k_fold)
  intro hp B F X N T hk y0 y1 hh0 hh1 mi0 mi1 sc0 sc1 zl lc6 hch1 hch2 ha  hoc1 hvs1 hoc2 hvs2 hdp hun hret
  cases hp
  (k_with "my call ref" => first
    | (k_dflt (refine' dm_hit0 (b := 4) _ _ _ _ _ _ _ _ _ _ _ _ _ _ _ _ _ _ _ _ _ _ _ _ _ _ _ _ _ _ _ _ _ _ (by k_asm) (by k_asm) (by k_asm) (newsCons (by k_asm) (by k_mem) (newsCons (by k_asm) (by k_mem) (newsCons (by k_asm) (by k_mem) (newsCons (by k_asm) (by k_mem) newsNil)))) (by k_asm) rfl (by first | with_reducible assumption | omega) (by first | with_reducible assumption | omega) (by first | with_reducible assumption | omega) (by first | with_reducible assumption | omega) (by assumption) (by assumption) (by assumption) (by assumption) (by assumption) (by assumption) (by ktr_room) (by ktr_units) ?_); intro D9 qb b u19 u29 h9 tk9 k9 g9 s9 eb r0b r1b; have z9 := kpAbove (by k_asm) s9; have l9 := newsLt (by k_asm) s9; (try k_lt l9); have F9 := kpFr (by k_asm) k9; have N9 := kpNew (by k_asm) (by k_asm) k9 g9 s9; (try dsimp only))
    | (k_dflt (refine' dm_hit0 (b := 492480) _ _ _ _ _ _ _ _ _ _ _ _ _ _ _ _ _ _ _ _ _ _ _ _ _ _ _ _ _ _ _ _ _ _ (by k_asm) (by k_asm) (by k_asm) (newsCons (by k_asm) (by k_mem) (newsCons (by k_asm) (by k_mem) (newsCons (by k_asm) (by k_mem) (newsCons (by k_asm) (by k_mem) newsNil)))) (by k_asm) rfl (lineX ha r0b r1b y0 y1).1 (lineX ha r0b r1b y0 y1).2 (by first | with_reducible assumption | omega) (by first | with_reducible assumption | omega) (by assumption) (by assumption) (by assumption) (by assumption) (by assumption) (by assumption) (by ktr_room) (by ktr_units) ?_); intro D9 day rest u19 u29 h9 tk9 k9 g9 s9 ed r0rest r1rest; have z9 := kpAbove (by k_asm) s9; have l9 := newsLt (by k_asm) s9; (try k_lt l9); have F9 := kpFr (by k_asm) k9; have N9 := kpNew (by k_asm) (by k_asm) k9 g9 s9; (try dsimp only))
    | (k_dflt (refine' dm_hit0 (b := 7) _ _ _ _ _ _ _ _ _ _ _ _ _ _ _ _ _ _ _ _ _ _ _ _ _ _ _ _ _ _ _ _ _ _ (by k_asm) (by k_asm) (by k_asm) (newsCons (by k_asm) (by k_mem) (newsCons (by k_asm) (by k_mem) (newsCons (by k_asm) (by k_mem) (newsCons (by k_asm) (by k_mem) newsNil)))) (by k_asm) rfl (lineC ha r0b r1b y0 y1 ed r0rest r1rest).1 (lineC ha r0b r1b y0 y1 ed r0rest r1rest).2 (by first | with_reducible assumption | omega) (by first | with_reducible assumption | omega) (by assumption) (by assumption) (by assumption) (by assumption) (by assumption) (by assumption) (by ktr_room) (by ktr_units) ?_); intro D9 qc c u19 u29 h9 tk9 k9 g9 s9 ec r0c r1c; have z9 := kpAbove (by k_asm) s9; have l9 := newsLt (by k_asm) s9; (try k_lt l9); have F9 := kpFr (by k_asm) k9; have N9 := kpNew (by k_asm) (by k_asm) k9 g9 s9; (try dsimp only))
    | refine stopHere ?_)
  (k_with "my exec If" => ((fail_if_success (have hm9 : Marked := by assumption)); k_here; (obtain hy := yLet ha eb r0b r1b ed rfl r0rest r1rest ec rfl r0c r1c); k_dflt (refine ifJoin (Str.ofString "late") (fun v => v = lateF c a rest) (by k_asm) (by k_asm) (fun hMk => ?_) (fun v8 t8 h8 tk8 hr8 F8 N8 => stopHere ?_))))
  show wpAny _ _ (execs _ _) _ _ _
  k_steps
  all_goals first
    | exact ⟨_, _, _, _, _, rfl, (by assumption), rfl, (fun v h1 => by simp [h1]), newsSub (by assumption) (fun p hp => List.mem_cons_of_mem _ hp), (by first | exact lateT (by assumption) | (have h7 := any246n (by assumption); (try clear hy); (try clear ha); (try clear eb); (try clear ec); (try clear ed); (try clear y0); (try clear y1); unfold lateF; split <;> (try split) <;> omega))⟩
    | skip
  unfold Stopped
  obtain ⟨z1, z2⟩ := lineEnd (hh := hh) (mi := mi) (sc := sc) (zone := zone) hy hr8
  rw [← z1, ← z2] at hret
  have hfm := lineFmt hy y0 y1 (hr8 ▸ lateB c a rest)
  dsimp only
  exact lt_end w p loose mean mg mb dp un gd cn cs L a0 ccd cl outer base g L' _ _ _ _ _ v8 c day rest y hh mi sc _ _ _ _ ty thh tmi tsc tz lc cnt zone _ [(59, tabObj #[rawInt 89, rawInt 4, .ref c1]), (c1, oc1), (66, tabObj #[rawInt 104, rawInt 4, .ref c2]), (c2, oc2)] rfl B (frSay (frSay (frSay (frSay (frSay (frSay (frSay F8 rfl) rfl) rfl) rfl) rfl) rfl) rfl) X (newsSub N8 (by lcg_sub)) T hk y0 y1 hh0 hh1 mi0 mi1 sc0 sc1 zl hfm hdp hun (fun D u1 u2 h' tk' m' hlt h1 h2 F' N' => hret D u1 u2 h' tk' m' ⟨hlt _ m9_0, hlt _ m9_1, hlt _ m9_2, hlt _ m9_3, h1, h2⟩ F' (newsCons N' m9_0 (newsCons N' m9_2 (newsCons N' m9_3 (newsCons N' m9_4 (newsCons N' m9_5 (newsCons N' m9_1 newsNil)))))))
end
section
open PySem PySem.W PyProof.Rows
theorem notMemLt {D : Addr} {l : List Addr} (h : ∀ a ∈ l, LT.lt (α := Nat) a D) : ¬ D ∈ l := fun m => Nat.lt_irrefl _ (h D m)
set_option maxRecDepth 100000 in
set_option maxHeartbeats 8000000 in
set_option pp.deepTerms false in
set_option pp.maxSteps 3000 in
theorem line_hit (w : World) (p : Program) (loose : List Str) (mean : ExcName → Option Value) (mg mb : Str → Option Value) (dp un : Nat) (gd : Option (List Code)) (cn : Str) (cs : Scope) (a0 : Addr) (ccd : Value) (cl : List (Str × Addr)) (outer : List Env) (A₀ : Around) (base h₀ : Heap) (L : Addr) (m : Str → Option Value) (s : Shared) (Q E : Value → Shared → Prop) (y hh mi sc : Int) (ty thh tmi tsc tz : Tok) (lc : Addr) (cnt : Nat) (zone : Str) (c1 c2 : Addr) (oc1 oc2 : Obj) (vs1 vs2 : Array Value) (tq1 tq2 : Tok) :
   Below A₀ base outer h₀ → Fr h₀ L s.heap m → (K39 w.params).In h₀ → News h₀ L s.heap ([(59, tabObj #[rawInt 89, rawInt 4, .ref c1]), (c1, oc1), (66, tabObj #[rawInt 104, rawInt 4, .ref c2]), (c2, oc2), (lc, W.listOf #[.int hh thh, .int mi tmi, .int sc tsc] cnt)]) → Top p loose mean mg mb h₀ → cs.kind = .function → 3761 ≤ y → y ≤ 8761 → 0 ≤ hh → hh < 100 → 0 ≤ mi → mi < 100 → 0 ≤ sc → sc < 100 → zone.length ≤ 10 → LT.lt (α := Nat) 66 lc → CodeHd base 63 59 → CodeHd base 70 66 → oc1.data = .fields vs1 → vs1[1]? = some (.str "_int2digits.<locals>.inner" tq1) → oc2.data = .fields vs2 → vs2[1]? = some (.str "_digits2int.<locals>.inner" tq2) → dp + 160 < recursionLimit → un + 480 < cLine →
   (∀ (D : Addr) (u1 u2 : Tok) h' tk', Kp s.heap h' → h'.get? D = some (W.listOf #[.str (lineS y hh mi sc zone) u1, .int (lineR y) u2] 0) → s.heap.objs.size ≤ D → Q (.ref D) { s with heap := h', toks := tk' }) →
   wpAny (model rw9.row.prog w) (ktrTop dp un gd cn cs L a0 ccd cl outer) (call (.ref 160) [.int y ty, .ref lc, .str zone tz]) Q E s := by
  k_fill
  w_top off
  k_with_none
  (k_with "my omega" => (first | with_reducible assumption | (law_purse 30000 => lia) | omega +splitDisjunctions))
  (k_with "my mem" => (first | exact m9_0 | exact m9_1 | exact m9_2 | exact m9_3 | exact m9_4 | exact m9_5 | exact m9_6 | exact m9_7 | (refine' m9_s ?_; k_mem)))
  (k_with "my sub" => (first | exact allNil | exact allCons (by k_mem) (by lcg_sub) | (intro q9 hq9; repeat (first | with_reducible exact hq9 | refine List.mem_cons_of_mem _ ?_))))
  (k_with "my room" => ktr_room)
  (k_with "my units" => ktr_units)
  (k_with "my ne" => (refine neN ?_; (try dsimp only); first | exact NeH.out (by assumption) | exact Ne.symm (NeH.out (by assumption)) | omega))
  (k_with "my all" => (first | exact allNil | (refine' allCons ?_ ?_; focus k_ne; k_all)))
  (k_with "my exec Assign" => k_fold)
  (k_with "my exec Expr" => k_fold)
  (k_with "my exec If" => k_fold)
  (k_with "my exec AugAssign" => k_fold)
  (k_with "my eval BinOp" => k_fold)
  (k_with "my eval Compare" => k_fold)
  (k_with "my eval Subscript" => k_fold)
  (k_with "my eval Call" => k_fold)
  (k_with "my eval Call Attribute" => k_fold)
  (k_with "my eval IfExp" => k_fold)
  (k_with "my eval List" => k_fold)
  (k_with "my eval Tuple" => k_fold)
  intro B F X N T hk y0 y1 hh0 hh1 mi0 mi1 sc0 sc1 zl lc6 hch1 hch2 hoc1 hvs1 hoc2 hvs2 hdp hun hret
  (k_with "my call ref" => first
    | (k_dflt (refine' dm_hit0 (b := 19) _ _ _ _ _ _ _ _ _ _ _ _ _ _ _ _ _ _ _ _ _ _ _ _ _ _ _ _ _ _ _ _ _ _ (by k_asm) (by k_asm) (by k_asm) (newsCons (by k_asm) (by k_mem) (newsCons (by k_asm) (by k_mem) (newsCons (by k_asm) (by k_mem) (newsCons (by k_asm) (by k_mem) newsNil)))) (by k_asm) rfl (by first | with_reducible assumption | omega) (by first | with_reducible assumption | omega) (by first | with_reducible assumption | omega) (by first | with_reducible assumption | omega) (by assumption) (by assumption) (by assumption) (by assumption) (by assumption) (by assumption) (by ktr_room) (by ktr_units) ?_); intro D9 qa a u19 u29 h9 tk9 k9 g9 s9 ea r0a r1a; have z9 := kpAbove (by k_asm) s9; have l9 := newsLt (by k_asm) s9; (try k_lt l9); have F9 := kpFr (by k_asm) k9; have N9 := kpNew (by k_asm) (by k_asm) k9 g9 s9; (try dsimp only))
    | refine stopHere ?_)
  (k_with "my execs cons" => (k_here; k_dflt (refine' line_tail _ _ _ _ _ _ _ _ _ _ _ _ _ _ _ _ _ _ _ _ _ _ _ _ _ _ _ _ _ _ _ _ _ _ _ _ _ _ _ _ _ _ _ _ _ _ rfl (by k_asm) (by k_asm) (by k_asm) (newsCons (by k_asm) (by k_mem) (newsCons (by k_asm) (by k_mem) (newsCons (by k_asm) (by k_mem) (newsCons (by k_asm) (by k_mem) (newsCons (by k_asm) (by k_mem) newsNil))))) (by k_asm) (by first | rfl | assumption) (by first | with_reducible assumption | omega) (by first | with_reducible assumption | omega) (by first | with_reducible assumption | omega) (by first | with_reducible assumption | omega) (by first | with_reducible assumption | omega) (by first | with_reducible assumption | omega) (by first | with_reducible assumption | omega) (by first | with_reducible assumption | omega) zl (by first | with_reducible assumption | omega) hch1 hch2 (by first | with_reducible assumption | omega) (by assumption) (by assumption) (by assumption) (by assumption) (by ktr_room) (by ktr_units) ?_); intro D8 u18 u28 h8 tk8 m8 o8 F8 N8; (try dsimp only)))
  refine wpAny_call ?_
  k_dflt (refine' codeM ?k1 ?k2 ?k3 ?k4 ?k5 ?kA ?kF ?kK ?k6 ?k7 ?k8 ?k9 ?kB ?_ ?c2 ?c3 ?c4 ?c5; (case kA => exact rfl); (case kF => exact rfl); (case kK => assumption); (case k1 => k_asm); (case k2 => k_asm); (case k3 => k_asm); (case k4 => k_asm); (case k5 => k_asm); (case k6 => k_is); (case k7 => k_is); (case k8 => ktr_room); (case k9 => first | exact BindsTo.of_eq rfl | exact binds_K (by k_in) rfl (by k_is) rfl rfl rfl); (case c5 => decide); (case kB => exact locs rfl); (case c2 => exact rfl); (case c3 => exact rfl); (case c4 => exact rfl); k_whole; intro g' L' h' hg FG' F' N' B' X' T' l1 hL'; (try k_lt l1); (try dsimp only); (try k_lift B'); (try k_fold))
  have hLh := ltN (Heap.Ns.lt (Fr.ns F'))
  k_steps
  intro hkp
  exact hret _ _ _ _ _ (kpOf hg hkp (fun q hq => (N q hq).1) (allCons (newsGet (by k_asm) (by k_mem)) (allCons (newsGet (by k_asm) (by k_mem)) (allCons (newsGet (by k_asm) (by k_mem)) (allCons (newsGet (by k_asm) (by k_mem)) (allCons (newsGet (by k_asm) (by k_mem)) (fun _ h => nomatch h))))))) (newsGet (by k_asm) (by k_mem)) (Nat.le_of_lt (Nat.lt_of_le_of_lt (Nat.le_of_eq hL'.symm) o8.2.2.2.2.2))
set_option maxRecDepth 100000 in
set_option maxHeartbeats 8000000 in
set_option pp.deepTerms false in
set_option pp.maxSteps 3000 in
theorem line_miss (w : World) (p : Program) (loose : List Str) (mean : ExcName → Option Value) (mg mb : Str → Option Value) (dp un : Nat) (gd : Option (List Code)) (cn : Str) (cs : Scope) (a0 : Addr) (ccd : Value) (cl : List (Str × Addr)) (outer : List Env) (A₀ : Around) (base h₀ : Heap) (L : Addr) (m : Str → Option Value) (s : Shared) (Q E : Value → Shared → Prop) (y hh mi sc : Int) (ty thh tmi tsc tz : Tok) (lc : Addr) (cnt : Nat) (zone : Str) :
   Below A₀ base outer h₀ → Fr h₀ L s.heap m → (K39 w.params).In h₀ → News h₀ L s.heap ([(59, tabObj #[]), (66, tabObj #[]), (lc, W.listOf #[.int hh thh, .int mi tmi, .int sc tsc] cnt)]) → Top p loose mean mg mb h₀ → cs.kind = .function → 3761 ≤ y → y ≤ 8761 → 0 ≤ hh → hh < 100 → 0 ≤ mi → mi < 100 → 0 ≤ sc → sc < 100 → zone.length ≤ 10 → LT.lt (α := Nat) 66 lc → CodeHd base 63 59 → CodeHd base 70 66 → dp + 160 < recursionLimit → un + 480 < cLine →
   (∀ (D : Addr) (u1 u2 : Tok) h' tk' c1 c2 oc1 oc2 vs1 vs2 tq1 tq2, (∀ b o, s.heap.get? b = some o → b ≠ 59 → b ≠ 66 → h'.get? b = some o) → h'.get? 59 = some (tabObj #[rawInt 89, rawInt 4, .ref c1]) → h'.get? c1 = some oc1 → s.heap.objs.size ≤ c1 → oc1.data = .fields vs1 → vs1[1]? = some (.str "_int2digits.<locals>.inner" tq1) → h'.get? 66 = some (tabObj #[rawInt 104, rawInt 4, .ref c2]) → h'.get? c2 = some oc2 → s.heap.objs.size ≤ c2 → oc2.data = .fields vs2 → vs2[1]? = some (.str "_digits2int.<locals>.inner" tq2) → h'.get? D = some (W.listOf #[.str (lineS y hh mi sc zone) u1, .int (lineR y) u2] 0) → s.heap.objs.size ≤ D → Q (.ref D) { s with heap := h', toks := tk' }) →
   wpAny (model rw9.row.prog w) (ktrTop dp un gd cn cs L a0 ccd cl outer) (call (.ref 160) [.int y ty, .ref lc, .str zone tz]) Q E s := by
  k_fill
  w_top off
  k_with_none
  (k_with "my omega" => (first | with_reducible assumption | (law_purse 30000 => lia) | omega +splitDisjunctions))
  (k_with "my mem" => (first | exact m9_0 | exact m9_1 | exact m9_2 | exact m9_3 | exact m9_4 | exact m9_5 | exact m9_6 | exact m9_7 | (refine' m9_s ?_; k_mem)))
  (k_with "my sub" => (first | exact allNil | exact allCons (by k_mem) (by lcg_sub) | (intro q9 hq9; repeat (first | with_reducible exact hq9 | refine List.mem_cons_of_mem _ ?_))))
  (k_with "my room" => ktr_room)
  (k_with "my units" => ktr_units)
  (k_with "my ne" => (refine neN ?_; (try dsimp only); first | exact NeH.out (by assumption) | exact Ne.symm (NeH.out (by assumption)) | omega))
  (k_with "my all" => (first | exact allNil | (refine' allCons ?_ ?_; focus k_ne; k_all)))
  (k_with "my exec Assign" => k_fold)
  (k_with "my exec Expr" => k_fold)
  (k_with "my exec If" => k_fold)
  (k_with "my exec AugAssign" => k_fold)
  (k_with "my eval BinOp" => k_fold)
  (k_with "my eval Compare" => k_fold)
  (k_with "my eval Subscript" => k_fold)
  (k_with "my eval Call" => k_fold)
  (k_with "my eval Call Attribute" => k_fold)
  (k_with "my eval IfExp" => k_fold)
  (k_with "my eval List" => k_fold)
  (k_with "my eval Tuple" => k_fold)
  intro B F X N T hk y0 y1 hh0 hh1 mi0 mi1 sc0 sc1 zl lc6 hch1 hch2 hdp hun hret
  (k_with "my call ref" => first
    | (k_dflt (refine' dm_miss (b := 19) _ _ _ _ _ _ _ _ _ _ _ _ _ _ _ _ _ _ _ _ _ _ _ _ _ _ (by k_asm) (by k_asm) (by k_asm) (newsCons (by k_asm) (by k_mem) (newsCons (by k_asm) (by k_mem) newsNil)) (by k_asm) rfl (by first | with_reducible assumption | omega) (by first | with_reducible assumption | omega) (by first | with_reducible assumption | omega) (by first | with_reducible assumption | omega) (by assumption) (by assumption) (by ktr_room) (by ktr_units) ?_); intro D9 qa a u19 u29 h9 tk9 c1 c2 oc1 oc2 vs1 vs2 tq1 tq2 kb9 t59 gc1 sc1 hoc1 hvs1 t66 gc2 sc2 hoc2 hvs2 g9 s9 ea r0a r1a; have z9 := kpAbove (by k_asm) s9; have y1 := kpAbove (by k_asm) sc1; have y2 := kpAbove (by k_asm) sc2; k_dflt (have F9 := kb2Fr (by k_asm) (by k_asm) (P := 59) (R := 66) (o := tabObj #[]) (o' := tabObj #[]) (by k_mem) (by k_mem) kb9; have N9 := kbNew (by k_asm) g9 s9 (kb2Tab (P := 59) (R := 66) (o := tabObj #[]) (o' := tabObj #[]) (by k_asm) (by k_mem) (by k_mem) t59 t66 (kbNew (by k_asm) gc1 sc1 (kbNew (by k_asm) gc2 sc2 (kb2News (news := [(lc, W.listOf #[.int hh thh, .int mi tmi, .int sc tsc] cnt)]) (newsCons (by k_asm) (by k_mem) newsNil) (by k_all) (by k_all) kb9))))); (try dsimp only))
    | refine stopHere ?_)
  (k_with "my execs cons" => (k_here; k_dflt (refine' line_tail _ _ _ _ _ _ _ _ _ _ _ _ _ _ _ _ _ _ _ _ _ _ _ _ _ _ _ _ _ _ _ _ _ _ _ _ _ _ _ _ _ _ _ _ _ _ rfl (by k_asm) (by k_asm) (by k_asm) (newsCons (by k_asm) (by k_mem) (newsCons (by k_asm) (by k_mem) (newsCons (by k_asm) (by k_mem) (newsCons (by k_asm) (by k_mem) (newsCons (by k_asm) (by k_mem) newsNil))))) (by k_asm) (by first | rfl | assumption) (by first | with_reducible assumption | omega) (by first | with_reducible assumption | omega) (by first | with_reducible assumption | omega) (by first | with_reducible assumption | omega) (by first | with_reducible assumption | omega) (by first | with_reducible assumption | omega) (by first | with_reducible assumption | omega) (by first | with_reducible assumption | omega) zl (by first | with_reducible assumption | omega) hch1 hch2 (by first | with_reducible assumption | omega) (by assumption) (by assumption) (by assumption) (by assumption) (by ktr_room) (by ktr_units) ?_); intro D8 u18 u28 h8 tk8 m8 o8 F8 N8; (try dsimp only)))
  refine wpAny_call ?_
  k_dflt (refine' codeM ?k1 ?k2 ?k3 ?k4 ?k5 ?kA ?kF ?kK ?k6 ?k7 ?k8 ?k9 ?kB ?_ ?c2 ?c3 ?c4 ?c5; (case kA => exact rfl); (case kF => exact rfl); (case kK => assumption); (case k1 => k_asm); (case k2 => k_asm); (case k3 => k_asm); (case k4 => k_asm); (case k5 => k_asm); (case k6 => k_is); (case k7 => k_is); (case k8 => ktr_room); (case k9 => first | exact BindsTo.of_eq rfl | exact binds_K (by k_in) rfl (by k_is) rfl rfl rfl); (case c5 => decide); (case kB => exact locs rfl); (case c2 => exact rfl); (case c3 => exact rfl); (case c4 => exact rfl); k_whole; intro g' L' h' hg FG' F' N' B' X' T' l1 hL'; (try k_lt l1); (try dsimp only); (try k_lift B'); (try k_fold))
  have hLh := ltN (Heap.Ns.lt (Fr.ns F'))
  k_steps
  intro hkp
  exact hret _ _ _ _ _ _ _ _ _ _ _ _ _ (fun b o e h1 h2 => (Decidable.em (b = lc)).elim (fun q => by subst q; exact ((N _ (.tail _ (.tail _ (.head _)))).1.symm.trans e) ▸ newsGet (by k_asm) (by k_mem)) (fun q => hkp b o (hg b o e (by simpa using ⟨h1, h2, q⟩)))) (newsGet (by k_asm) (by k_mem)) (newsGet (by k_asm) (by k_mem)) (by first | with_reducible assumption | omega) (by assumption) (by assumption) (newsGet (by k_asm) (by k_mem)) (newsGet (by k_asm) (by k_mem)) (by first | with_reducible assumption | omega) (by assumption) (by assumption) (newsGet (by k_asm) (by k_mem)) (Nat.le_of_lt (Nat.lt_of_le_of_lt (Nat.le_of_eq hL'.symm) o8.2.2.2.2.2))
end
section
open PySem PySem.W PyProof.Rows
noncomputable def lamParts (K : Frag) (f : Addr) (i : Nat) : Option (Arguments × Expr × Scope) := (fnParts K f).bind fun q => (q.1[i]?).bind fun st => onAssign st fun v => onLam v fun params body scope => some (params, body, scope)
section
variable {prog : Program} {w : World} {A A₀ : Around} {s : Shared} {K : Frag} {L : Addr} {h₀ base : Heap} {m mg mb : Str → Option Value} {news : List (Addr × Obj)} {p : Program} {loose : List Str} {mean : ExcName → Option Value}
theorem klaM {env : Env} {outer : List Env} {R : Result → Shared → Prop} {name qual : Str} {params : Arguments} {body : Expr} {scope : Scope} {cl : List (Str × Addr)} {pm ctv : Value} {c' : Addr} {f : Addr} {args : Args} {binds : List (Str × Value)}
    (B : Below A₀ base outer h₀) (F : Fr h₀ L s.heap m) (X₀ : K.In h₀) (N : News h₀ L s.heap news) (T : Top p loose mean mg mb h₀) (hA : A.frames = some (env :: outer)) (hf : env.frame = some L) (hke : env.scope.kind = .function)
    (ho : (f, kla_obj name qual params body scope cl pm c' ctv) ∈ news) (hcd : s.heap.CodeRec (.ref c') qual) (hroom : A.depth < recursionLimit)
    (hbind : bindArgs (kla_fn name qual params body scope cl pm (.ref c') ctv) args = pure binds) (hloc : ∀ y ∈ binds, scope.names.lookup y.1 = some .local)
    (h : ∀ g L' h₁, (∀ b o, s.heap.get? b = some o → b ∉ news.map (·.1) → g.get? b = some o) → Fr h₀ L g m → Fr g L' h₁ (fun y => binds.reverse.lookup y) → News g L' h₁ news → Below A base (env :: outer) g → K.In g → Top p loose mean mg mb g → (∀ p ∈ news, p.1 < L') → Eq (α := Nat) L' s.heap.objs.size →
      wpAny (model prog w) (A.deeper (envX qual scope L' f (.ref c') cl)) (eval body (envX qual scope L' f (.ref c') cl))
        (fun v s' => LeaveK h₀ L m g (RK g R) v s')
        (fun e s' => wpAny (model prog w) (A.deeper (envX qual scope L' f (.ref c') cl)) (PySem.leaving (envX qual scope L' f (.ref c') cl) e) (fun _ s'' => R (.error e) s'') (fun e' s'' => R (.error e') s'') s')
        { s with heap := h₁, toks := s.toks + binds.length })
    (hco : scope.isCoroutine = false) (hgen : scope.isGenerator = false) (hk : scope.kind = .function)
    (hcell : ∀ x ∈ scope.names, x.2 ≠ .cell) : codeAny (model prog w) A (.call (.ref f) args) R s := by
  obtain ⟨FG, BG, st, lv⟩ := groundX (R := R) B F N hA hf hke
  refine kla_callFunE hroom (N _ ho).1 rfl hco hgen rfl hcd ?_
  rw [hbind]
  refine wpAny_pure (wpAny_newFunctionEnv hcell hloc (fun h₁ hns hsb => ⟨((T.nolimit).keeps F.keep).fresh _ hsb, ?_⟩) hk)
  show codeAny _ _ (.expr body (envX qual scope s.heap.objs.size f (.ref c') cl)) _ _
  have hk₁ : ∀ b o, s.heap.get? b = some o → h₁.get? b = some o := fun b o e => hsb.extBut b o (Nat.ne_of_lt (Heap.lt_size e)) (Heap.get?_push_of_some _ e)
  exact kla_codeExpr (wpAny_mono (h _ s.heap.objs.size h₁ (fun b o e hb => hideAll_get _ e hb) FG ⟨hns, fun b o e => hk₁ b o (of_hideAll _ e), Nat.le_of_eq (hideAll_size _ _)⟩
    (fun p hp => ⟨hk₁ _ _ (N p hp).1, Nat.ne_of_lt (Heap.lt_size (N p hp).1), hideAll_none _ (List.mem_map_of_mem hp)⟩) BG (X₀.keeps st) (T.keeps st) (fun p hp => Heap.lt_size (N p hp).1) rfl) (fun v s' hl => lv _ _ (leaveM hl)) fun _ _ y => y)
end
/-- a list of single signs -/
inductive Chs : List Value → List Nat → Prop where
  | nil : Chs [] []
  | cons (c : Nat) (t : Tok) {vs : List Value} {cs : List Nat} : Chs vs cs → Chs (.str ⟨#[c]⟩ t :: vs) (c :: cs)
theorem sq0 {v : Value} {l : List Value} : seqIndex? 0 (v :: l).toArray.size = some 0 := seqIndex_of (k := 0) (Int.le_refl 0) (by rw [List.size_toArray, List.length_cons]; omega)
theorem szl {v : Value} {l : List Value} (h : (v :: l).length ≤ 1000) : (v :: l).toArray.toList.length ≤ sizeLine := by
  rw [sizeLine_eq, List.toList_toArray]
  omega
theorem kbOf {s₀ h g : Heap} {small : List (Addr × Obj)} {X : Addr} (hg : ∀ b o, s₀.get? b = some o → b ∉ small.map (·.1) → g.get? b = some o) (hk : Kp g h) (hs : ∀ q ∈ small, s₀.get? q.1 = some q.2) (hs' : ∀ q ∈ small, q.1 ≠ X → h.get? q.1 = some q.2) : ∀ b o, s₀.get? b = some o → b ≠ X → h.get? b = some o := by
  intro b o e hX
  by_cases hb : b ∈ small.map (·.1)
  · obtain ⟨q, hq, rfl⟩ := List.mem_map.mp hb
    have := hs q hq
    rw [e] at this
    cases this
    exact hs' q hq hX
  · exact hk b o (hg b o e hb)
noncomputable def headOf : List Nat → Str
  | [] => ⟨#[]⟩
  | c :: _ => ⟨#[c]⟩
set_option maxRecDepth 100000 in
set_option maxHeartbeats 8000000 in
set_option pp.deepTerms false in
set_option pp.maxSteps 3000 in
theorem lam (w : World) (p : Program) (loose : List Str) (mean : ExcName → Option Value) (mg mb : Str → Option Value) (dp un : Nat) (gd : Option (List Code)) (cn : Str) (cs : Scope) (a0 : Addr) (ccd : Value) (cl : List (Str × Addr)) (outer : List Env) (A₀ : Around) (base h₀ : Heap) (L : Addr) (m : Str → Option Value) (s : Shared) (Q E : Value → Shared → Prop) (f c' D cL : Addr) (oc oL o136 : Obj) (pm ctv : Value) (params : Arguments) (body : Expr) (scope : Scope) (vsc : Array Value) (tq t1 : Tok) (vs : List Value) (chs : List Nat) (cnt : Nat) :
   Below A₀ base outer h₀ → Fr h₀ L s.heap m → (K39 w.params).In h₀ → News h₀ L s.heap ([(f, kla_obj (Str.ofString "<lambda>") (Str.ofString "_law_stream.<locals>.<lambda>") params body scope [(Str.ofString "left", cL)] pm c' ctv), (c', oc), (cL, oL), (136, o136), (D, W.listOf vs.toArray cnt)]) → Top p loose mean mg mb h₀ → cs.kind = .function → lamParts (K39 w.params) 141 1 = some (params, body, scope) → oc.data = .fields vsc → vsc[1]? = some (.str (Str.ofString "_law_stream.<locals>.<lambda>") tq) → oL.data = .cell (some (.ref D)) → Ne (α := Nat) f D → Ne (α := Nat) c' D → Ne (α := Nat) cL D → Ne (α := Nat) 136 D → CodeHd base 140 136 → Chs vs chs → vs.length ≤ 1000 → dp + 9 < recursionLimit → un + 60 < cLine →
   (∀ t h' tk' vs' cnt', (∀ b o, s.heap.get? b = some o → b ≠ D → h'.get? b = some o) → h'.get? D = some (W.listOf vs'.toArray cnt') → Chs vs' (chs.drop 1) → Q (.str (headOf chs) t) { s with heap := h', toks := tk' }) →
   wpAny (model rw9.row.prog w) (ktrTop dp un gd cn cs L a0 ccd cl outer) (call (.ref f) [.int 1 t1]) Q E s := by
  k_fill
  w_top off
  k_with_none
  (k_with "my omega" => (first | with_reducible assumption | (law_purse 30000 => lia) | omega +splitDisjunctions))
  (k_with "my mem" => (first | exact m9_0 | exact m9_1 | exact m9_2 | exact m9_3 | exact m9_4 | exact m9_5 | exact m9_6 | exact m9_7 | (refine' m9_s ?_; k_mem)))
  (k_with "my sub" => (first | exact allNil | exact allCons (by k_mem) (by lcg_sub) | (intro q9 hq9; repeat (first | with_reducible exact hq9 | refine List.mem_cons_of_mem _ ?_))))
  (k_with "my room" => ktr_room)
  (k_with "my units" => ktr_units)
  (k_with "my ne" => (refine neN ?_; (try dsimp only); first | exact NeH.out (by assumption) | exact Ne.symm (NeH.out (by assumption)) | omega))
  (k_with "my all" => (first | exact allNil | (refine' allCons ?_ ?_; focus k_ne; k_all)))
  (k_with "my exec Assign" => k_fold)
  (k_with "my exec Expr" => k_fold)
  (k_with "my exec If" => k_fold)
  (k_with "my exec AugAssign" => k_fold)
  (k_with "my eval BinOp" => k_fold)
  (k_with "my eval Compare" => k_fold)
  (k_with "my eval Subscript" => k_fold)
  (k_with "my eval Call" => k_fold)
  (k_with "my eval Call Attribute" => k_fold)
  (k_with "my eval IfExp" => k_fold)
  (k_with "my eval List" => k_fold)
  (k_with "my eval Tuple" => k_fold)
  intro B F X N T hk hp hoc hvs hL q1 q2 q3 q4 hch hc hsz hdp hun hret
  cases hp
  cases hc with
  | nil =>
    refine wpAny_call ?_
    k_dflt (refine' klaM ?k1 ?k2 ?k3 ?k4 ?k5 ?kA ?kF ?kK ?k6 ?k7 ?k8 ?k9 ?kB ?_ ?c2 ?c3 ?c4 ?c5; (case kA => exact rfl); (case kF => exact rfl); (case kK => assumption); (case k1 => k_asm); (case k2 => k_asm); (case k3 => k_asm); (case k4 => k_asm); (case k5 => k_asm); (case k6 => k_mem); (case k7 => exact codeRec_news (by k_asm) (by k_mem) (by assumption) (by assumption)); (case k8 => ktr_room); (case k9 => exact rfl); (case c5 => decide); (case kB => exact locs rfl); (case c2 => exact rfl); (case c3 => exact rfl); (case c4 => exact rfl); k_whole; intro g' L' h' hg FG' F' N' B' X' T' l1 hL'; (try k_lt l1); (try dsimp only); (try k_lift B'); (try k_fold))
    k_steps
    intro hkp
    exact hret _ _ _ _ _ (fun b o e hb => kpOf hg hkp (fun q hq => (N q hq).1) (allCons (newsGet (by k_asm) (by k_mem)) (allCons (newsGet (by k_asm) (by k_mem)) (allCons (newsGet (by k_asm) (by k_mem)) (allCons (newsGet (by k_asm) (by k_mem)) (allCons (newsGet (by k_asm) (by k_mem)) (fun _ h => nomatch h)))))) b o e) (newsGet (by k_asm) (by k_mem)) .nil
  | cons c tc hc2 =>
    rename_i vs2 cs2
    refine wpAny_call ?_
    k_dflt (refine' klaM ?k1 ?k2 ?k3 ?k4 ?k5 ?kA ?kF ?kK ?k6 ?k7 ?k8 ?k9 ?kB ?_ ?c2 ?c3 ?c4 ?c5; (case kA => exact rfl); (case kF => exact rfl); (case kK => assumption); (case k1 => k_asm); (case k2 => k_asm); (case k3 => k_asm); (case k4 => k_asm); (case k5 => k_asm); (case k6 => k_mem); (case k7 => exact codeRec_news (by k_asm) (by k_mem) (by assumption) (by assumption)); (case k8 => ktr_room); (case k9 => exact rfl); (case c5 => decide); (case kB => exact locs rfl); (case c2 => exact rfl); (case c3 => exact rfl); (case c4 => exact rfl); k_whole; intro g' L' h' hg FG' F' N' B' X' T' l1 hL'; (try k_lt l1); (try dsimp only); (try k_lift B'); (try k_fold))
    (k_with "my call builtin:list.pop" => (k_here; k_dflt (refine' kl_popAt (k := 0) (p := []) (q := vs2) ?F ?N ?f ?k ?e ?U ?z ?_; (case F => k_asm); (case N => k_asm); (case U => k_upd); (case f => rfl); (case k => exact sq0); (case e => rfl); (case z => exact szl hsz)); intro h7 F7 N7; (try dsimp only [List.nil_append, List.cons_append] at N7)))
    k_steps
    intro hkp
    exact hret _ _ _ _ _ (kbOf hg hkp (fun q hq => (N q hq).1) (allCons (fun _ => newsGet (by k_asm) (by k_mem)) (allCons (fun _ => newsGet (by k_asm) (by k_mem)) (allCons (fun _ => newsGet (by k_asm) (by k_mem)) (allCons (fun _ => newsGet (by k_asm) (by k_mem)) (allCons (fun h => absurd rfl h) (fun _ h => nomatch h))))))) (newsGet (by k_asm) (by k_mem)) hc2
end
section
open PySem PySem.W PyProof.Rows
theorem kb2Of {s₀ h g : Heap} {small : List (Addr × Obj)} {X Y : Addr} (hg : ∀ b o, s₀.get? b = some o → b ∉ small.map (·.1) → g.get? b = some o) (hk : Kp g h) (hs : ∀ q ∈ small, s₀.get? q.1 = some q.2) (hs' : ∀ q ∈ small, q.1 ≠ X → q.1 ≠ Y → h.get? q.1 = some q.2) : ∀ b o, s₀.get? b = some o → b ≠ X → b ≠ Y → h.get? b = some o := by
  intro b o e hX hY
  by_cases hb : b ∈ small.map (·.1)
  · obtain ⟨q, hq, rfl⟩ := List.mem_map.mp hb
    have := hs q hq
    rw [e] at this
    cases this
    exact hs' q hq hX hY
  · exact hk b o (hg b o e hb)
theorem nl_str (chs : List Nat) : (headOf chs == Str.ofString "\n") = decide (chs.head? = some 10) := by
  have e : Str.ofString "\n" = ⟨#[10]⟩ := by decide +kernel
  rw [e]
  cases chs with
  | nil => rfl
  | cons c r =>
    show ((⟨#[c]⟩ : Str) == ⟨#[10]⟩) = _
    by_cases h : c = 10
    · subst h; simp
    · have h2 : (⟨#[c]⟩ : Str) ≠ ⟨#[10]⟩ := fun q => h (by injection q with q; injection q with q; injection q)
      simp [h, h2]
noncomputable def nlOf : List Nat → Int
  | [] => 0
  | c :: _ => if c = 10 then 1 else 0
theorem nl_t {chs : List Nat} {n : Int} (h : (headOf chs == Str.ofString "\n") = true) : n + 1 = n + nlOf chs := by
  rw [nl_str] at h
  cases chs with
  | nil => cases of_decide_eq_true h
  | cons c r =>
    have : c = 10 := Option.some.inj (of_decide_eq_true h)
    simp [nlOf, this]
theorem nl_f {chs : List Nat} {n : Int} (h : (headOf chs == Str.ofString "\n") = false) : n = n + nlOf chs := by
  rw [nl_str] at h
  cases chs with
  | nil => simp [nlOf]
  | cons c r =>
    have : ¬ c = 10 := fun q => of_decide_eq_false h (by rw [q]; rfl)
    simp [nlOf, this]
set_option maxRecDepth 100000 in
set_option maxHeartbeats 8000000 in
set_option pp.deepTerms false in
set_option pp.maxSteps 3000 in
theorem readcC (w : World) (p : Program) (loose : List Str) (mean : ExcName → Option Value) (mg mb : Str → Option Value) (dp un : Nat) (gd : Option (List Code)) (cn : Str) (cs : Scope) (a0 : Addr) (ccd : Value) (cl : List (Str × Addr)) (outer : List Env) (A₀ : Around) (base h₀ : Heap) (L : Addr) (m : Str → Option Value) (s : Shared) (Q E : Value → Shared → Prop) (x dx st ds pa pb f c' D cL : Addr) (n : Int) (tn tw k1 k2 k3 k4 j1 j2 j3 j4 j5 u1 u3 : Tok) (oc oL o136 : Obj) (pm ctv : Value) (params : Arguments) (body : Expr) (scope : Scope) (vsc : Array Value) (tq : Tok) (vs : List Value) (chs : List Nat) (cnt : Nat) :
   Below A₀ base outer h₀ → Fr h₀ L s.heap m → (K39 w.params).In h₀ → News h₀ L s.heap ([(x, instObj 130 dx), (dx, dictOf [{ hash := PyData.keyHash w.params (Str.ofString "lineno"), key := .str (Str.ofString "lineno") k1, val := .int n tn }, { hash := PyData.keyHash w.params (Str.ofString "instream"), key := .str (Str.ofString "instream") k2, val := .ref st }, { hash := PyData.keyHash w.params (Str.ofString "whitespace"), key := .str (Str.ofString "whitespace") k3, val := .str (Str.ofString "\n\t\r ") tw }, { hash := PyData.keyHash w.params (Str.ofString "pushback"), key := .str (Str.ofString "pushback") k4, val := .ref pb }] 4), (st, instObj 130 ds), (ds, dictOf [{ hash := PyData.keyHash w.params (Str.ofString "lineno"), key := .str (Str.ofString "lineno") j1, val := .int 1 u1 }, { hash := PyData.keyHash w.params (Str.ofString "instream"), key := .str (Str.ofString "instream") j2, val := .none }, { hash := PyData.keyHash w.params (Str.ofString "whitespace"), key := .str (Str.ofString "whitespace") j3, val := .str (Str.ofString "\n\t\r ") u3 }, { hash := PyData.keyHash w.params (Str.ofString "pushback"), key := .str (Str.ofString "pushback") j4, val := .ref pa }, { hash := PyData.keyHash w.params (Str.ofString "read"), key := .str (Str.ofString "read") j5, val := .ref f }] 5), (f, kla_obj (Str.ofString "<lambda>") (Str.ofString "_law_stream.<locals>.<lambda>") params body scope [(Str.ofString "left", cL)] pm c' ctv), (c', oc), (cL, oL), (136, o136), (D, W.listOf vs.toArray cnt)]) → Top p loose mean mg mb h₀ → cs.kind = .function → lamParts (K39 w.params) 141 1 = some (params, body, scope) → oc.data = .fields vsc → vsc[1]? = some (.str (Str.ofString "_law_stream.<locals>.<lambda>") tq) → oL.data = .cell (some (.ref D)) → LT.lt (α := Nat) 136 D → LT.lt (α := Nat) D cL → LT.lt (α := Nat) cL st → LT.lt (α := Nat) cL ds → LT.lt (α := Nat) st c' → LT.lt (α := Nat) ds c' → LT.lt (α := Nat) c' f → LT.lt (α := Nat) f x → LT.lt (α := Nat) f dx → Ne (α := Nat) st ds → Ne (α := Nat) x dx → CodeHd base 140 136 → Chs vs chs → vs.length ≤ 1000 → dp + 29 < recursionLimit → un + 160 < cLine →
   (∀ t h' tk' vs' cnt' n' tn', (∀ b o, s.heap.get? b = some o → b ≠ D → b ≠ dx → h'.get? b = some o) → h'.get? D = some (W.listOf vs'.toArray cnt') → Chs vs' (chs.drop 1) → h'.get? dx = some (dictOf [{ hash := PyData.keyHash w.params (Str.ofString "lineno"), key := .str (Str.ofString "lineno") k1, val := .int n' tn' }, { hash := PyData.keyHash w.params (Str.ofString "instream"), key := .str (Str.ofString "instream") k2, val := .ref st }, { hash := PyData.keyHash w.params (Str.ofString "whitespace"), key := .str (Str.ofString "whitespace") k3, val := .str (Str.ofString "\n\t\r ") tw }, { hash := PyData.keyHash w.params (Str.ofString "pushback"), key := .str (Str.ofString "pushback") k4, val := .ref pb }] 4) → n' = n + nlOf chs → Q (.str (headOf chs) t) { s with heap := h', toks := tk' }) →
   codeAny (model rw9.row.prog w) (ktrTop dp un gd cn cs L a0 ccd cl outer) (.call (.ref 113) ⟨[.ref x], []⟩) (fun r s' => match r with | .ok (.ret v) => Q v s' | .ok _ => False | .error e => E e s') s := by
  k_fill
  w_top off
  k_with_none
  (k_with "my omega" => (first | with_reducible assumption | (law_purse 30000 => lia) | omega +splitDisjunctions))
  (k_with "my mem" => (first | exact m9_0 | exact m9_1 | exact m9_2 | exact m9_3 | exact m9_4 | exact m9_5 | exact m9_6 | exact m9_7 | (refine' m9_s ?_; k_mem)))
  (k_with "my sub" => (first | exact allNil | exact allCons (by k_mem) (by lcg_sub) | (intro q9 hq9; repeat (first | with_reducible exact hq9 | refine List.mem_cons_of_mem _ ?_))))
  (k_with "my room" => ktr_room)
  (k_with "my units" => ktr_units)
  (k_with "my ne" => (refine neN ?_; (try dsimp only); first | exact NeH.out (by assumption) | exact Ne.symm (NeH.out (by assumption)) | omega))
  (k_with "my all" => (first | exact allNil | (refine' allCons ?_ ?_; focus k_ne; k_all)))
  (k_with "my exec Assign" => k_fold)
  (k_with "my exec Expr" => k_fold)
  (k_with "my exec If" => k_fold)
  (k_with "my exec AugAssign" => k_fold)
  (k_with "my eval BinOp" => k_fold)
  (k_with "my eval Compare" => k_fold)
  (k_with "my eval Subscript" => k_fold)
  (k_with "my eval Call" => k_fold)
  (k_with "my eval Call Attribute" => k_fold)
  (k_with "my eval IfExp" => k_fold)
  (k_with "my eval List" => k_fold)
  (k_with "my eval Tuple" => k_fold)
  intro B F X N T hk hp hoc hvs hL q0 q1 q2 q3 q4 q5 q6 q7 q8 q9 q10 hch hc hsz hdp hun hret
  obtain ⟨zz0, zz1, zz2, zz3, zz4, zz5, zz6, zz7, zz8, zz9, zz10, zz11, zz12, zz13, zz14⟩ := lexNe q0 q1 q2 q3 q4 q5 q6 q7 q8 q9 q10
  (k_with "my call ref" => first
    | (k_dflt (refine' lam _ _ _ _ _ _ _ _ _ _ _ _ _ _ _ _ _ _ _ _ _ _ _ _ _ _ _ _ _ _ _ _ _ _ _ _ _ _ _ _ _ (by k_asm) (by k_asm) (by k_asm) (newsCons (by k_asm) (by k_mem) (newsCons (by k_asm) (by k_mem) (newsCons (by k_asm) (by k_mem) (newsCons (by k_asm) (by k_mem) (newsCons (by k_asm) (by k_mem) newsNil))))) (by k_asm) rfl (by assumption) (by assumption) (by assumption) (by assumption) (by first | with_reducible assumption | omega) (by first | with_reducible assumption | omega) (by first | with_reducible assumption | omega) (by first | with_reducible assumption | omega) (by assumption) (by assumption) (by assumption) (by ktr_room) (by ktr_units) ?_); intro t9 h9 tk9 vs9 cnt9 kb9 g9 c9; k_dflt (have F9 := kbFr (P := D) (o := W.listOf vs.toArray cnt) (by k_asm) (by k_asm) (by k_mem) kb9; have N9 := kbTab (P := D) (o := W.listOf vs.toArray cnt) (by k_asm) (by k_mem) g9 (kbNews (news := [(x, instObj 130 dx), (dx, dictOf [{ hash := PyData.keyHash w.params (Str.ofString "lineno"), key := .str (Str.ofString "lineno") k1, val := .int n tn }, { hash := PyData.keyHash w.params (Str.ofString "instream"), key := .str (Str.ofString "instream") k2, val := .ref st }, { hash := PyData.keyHash w.params (Str.ofString "whitespace"), key := .str (Str.ofString "whitespace") k3, val := .str (Str.ofString "\n\t\r ") tw }, { hash := PyData.keyHash w.params (Str.ofString "pushback"), key := .str (Str.ofString "pushback") k4, val := .ref pb }] 4), (st, instObj 130 ds), (ds, dictOf [{ hash := PyData.keyHash w.params (Str.ofString "lineno"), key := .str (Str.ofString "lineno") j1, val := .int 1 u1 }, { hash := PyData.keyHash w.params (Str.ofString "instream"), key := .str (Str.ofString "instream") j2, val := .none }, { hash := PyData.keyHash w.params (Str.ofString "whitespace"), key := .str (Str.ofString "whitespace") j3, val := .str (Str.ofString "\n\t\r ") u3 }, { hash := PyData.keyHash w.params (Str.ofString "pushback"), key := .str (Str.ofString "pushback") j4, val := .ref pa }, { hash := PyData.keyHash w.params (Str.ofString "read"), key := .str (Str.ofString "read") j5, val := .ref f }] 5), (f, kla_obj (Str.ofString "<lambda>") (Str.ofString "_law_stream.<locals>.<lambda>") params body scope [(Str.ofString "left", cL)] pm c' ctv), (c', oc), (cL, oL), (136, o136)]) (newsCons (by k_asm) (by k_mem) (newsCons (by k_asm) (by k_mem) (newsCons (by k_asm) (by k_mem) (newsCons (by k_asm) (by k_mem) (newsCons (by k_asm) (by k_mem) (newsCons (by k_asm) (by k_mem) (newsCons (by k_asm) (by k_mem) (newsCons (by k_asm) (by k_mem) newsNil)))))))) (by k_all) kb9)); (try dsimp only))
    | refine stopHere ?_)
  k_dflt (refine' codeM ?k1 ?k2 ?k3 ?k4 ?k5 ?kA ?kF ?kK ?k6 ?k7 ?k8 ?k9 ?kB ?_ ?c2 ?c3 ?c4 ?c5; (case kA => exact rfl); (case kF => exact rfl); (case kK => assumption); (case k1 => k_asm); (case k2 => k_asm); (case k3 => k_asm); (case k4 => k_asm); (case k5 => k_asm); (case k6 => k_is); (case k7 => k_is); (case k8 => ktr_room); (case k9 => first | exact BindsTo.of_eq rfl | exact binds_K (by k_in) rfl (by k_is) rfl rfl rfl); (case c5 => decide); (case kB => exact locs rfl); (case c2 => exact rfl); (case c3 => exact rfl); (case c4 => exact rfl); k_whole; intro g' L' h' hg FG' F' N' B' X' T' l1 hL'; (try k_lt l1); (try dsimp only); (try k_lift B'); (try k_fold))
  have hLh := ltN (Heap.Ns.lt (Fr.ns F'))
  k_steps
  · intro hkp
    exact hret _ _ _ _ _ _ _ (kb2Of hg hkp (fun q hq => (N q hq).1) (allCons (fun _ _ => newsGet (by k_asm) (by k_mem)) (allCons (fun _ h => absurd rfl h) (allCons (fun _ _ => newsGet (by k_asm) (by k_mem)) (allCons (fun _ _ => newsGet (by k_asm) (by k_mem)) (allCons (fun _ _ => newsGet (by k_asm) (by k_mem)) (allCons (fun _ _ => newsGet (by k_asm) (by k_mem)) (allCons (fun _ _ => newsGet (by k_asm) (by k_mem)) (allCons (fun _ _ => newsGet (by k_asm) (by k_mem)) (allCons (fun h _ => absurd rfl h) (fun _ h => nomatch h))))))))))) (newsGet (by k_asm) (by k_mem)) c9 (newsGet (by k_asm) (by k_mem)) (nl_t (by assumption))
  · intro hkp
    exact hret _ _ _ _ _ _ _ (kb2Of hg hkp (fun q hq => (N q hq).1) (allCons (fun _ _ => newsGet (by k_asm) (by k_mem)) (allCons (fun _ h => absurd rfl h) (allCons (fun _ _ => newsGet (by k_asm) (by k_mem)) (allCons (fun _ _ => newsGet (by k_asm) (by k_mem)) (allCons (fun _ _ => newsGet (by k_asm) (by k_mem)) (allCons (fun _ _ => newsGet (by k_asm) (by k_mem)) (allCons (fun _ _ => newsGet (by k_asm) (by k_mem)) (allCons (fun _ _ => newsGet (by k_asm) (by k_mem)) (allCons (fun h _ => absurd rfl h) (fun _ h => nomatch h))))))))))) (newsGet (by k_asm) (by k_mem)) c9 (newsGet (by k_asm) (by k_mem)) (nl_f (by assumption))
end
section
open PySem PySem.W PyProof.Rows PySem.Calls
set_option maxRecDepth 100000
theorem owner_ci : Manifest.owners.lookup (String.ofList ['r', 'o', 't', 'a', 'r', 'e', 't', 'i', '_', 'e', 'l', 'b', 'a', 'l', 'l', 'a', 'c'].reverse) = some Manifest.sig_callable_iterator := by kernel_rfl
theorem slot_ci_next : Slot "callable_iterator" "__next__" "callable_iterator.__next__" :=
  .of (owner := "callable_iterator") (n := "__next__") (by rw [typeLookup_type, builtinLookup_eq_fast]; kernel_rfl) (by decide +kernel) (by decide +kernel) (by decide +kernel)
    (by first | exact .inl (by decide +kernel) | exact .inr (by decide +kernel)) (by rw [isSubtype_type]; kernel_rfl)
theorem entry_ci_next : entryFor table "callable_iterator.__next__" = some Builtin.«callable_iterator.__next__» := entryFor_of_tree (by kernel_rfl)
theorem args_ci_next_1 (a : Value) : argsOk "callable_iterator.__next__" ⟨[a], []⟩ := by
  unfold argsOk; rw [signature?_of (id := "callable_iterator.__next__") (n := ['_', '_', 't', 'x', 'e', 'n', '_', '_']) (o := ['r', 'o', 't', 'a', 'r', 'e', 't', 'i', '_', 'e', 'l', 'b', 'a', 'l', 'l', 'a', 'c']) (by kernel_rfl) owner_ci]; kernel_rfl
theorem slot_ci_iter : Slot "callable_iterator" "__iter__" "callable_iterator.__iter__" :=
  .of (owner := "callable_iterator") (n := "__iter__") (by rw [typeLookup_type, builtinLookup_eq_fast]; kernel_rfl) (by decide +kernel) (by decide +kernel) (by decide +kernel)
    (by first | exact .inl (by decide +kernel) | exact .inr (by decide +kernel)) (by rw [isSubtype_type]; kernel_rfl)
theorem args_ci_iter_1 (a : Value) : argsOk "callable_iterator.__iter__" ⟨[a], []⟩ := by
  unfold argsOk; rw [signature?_of (id := "callable_iterator.__iter__") (n := ['_', '_', 'r', 'e', 't', 'i', '_', '_']) (o := ['r', 'o', 't', 'a', 'r', 'e', 't', 'i', '_', 'e', 'l', 'b', 'a', 'l', 'l', 'a', 'c']) (by kernel_rfl) owner_ci]; kernel_rfl
theorem entry_ci_iter : entryFor table "callable_iterator.__iter__" = some Builtin.«dict_keyiterator.__iter__» :=
  entryFor_alias (id' := "dict_keyiterator.__iter__") (by kernel_rfl) (by first | rfl | decide +kernel | (unfold String.splitOn; simp +decide [String.splitOnAux])) (by decide +kernel) (by kernel_rfl)
theorem look_method_call : typeLookup (.type "method") "__call__" = pure (some (.builtin "method.__call__")) := by rw [typeLookup_type, builtinLookup_eq_fast]; kernel_rfl
noncomputable def ciObj (bm : Addr) (t : Tok) : Obj := { cls := .type "callable_iterator", data := .fields #[.ref bm, .str (Str.ofString "") t, .bool false] }
noncomputable def ciEnd : Obj := { cls := .type "callable_iterator", data := .fields #[.none, .none, .bool true] }
section
variable {prog : Program} {w : World} {A : Around} {E : Value → Shared → Prop} {s : Shared}
theorem ci_pyIter {I : Addr} {o : Obj} {Q : Value → Shared → Prop} (ho : s.heap.get? I = some o) (hc : o.cls = .type "callable_iterator") (h : Q (.ref I) s) : wpAny (model prog w) A (pyIter (.ref I)) Q E s := by
  have hT : s.TypeIs (.ref I) "callable_iterator" := ⟨o, ho, hc⟩
  refine wpAny_pyIter_slot hT slot_ci_iter (wpAny_call_entry slot_ci_iter hT entry_ci_iter ?_ (args_ci_iter_1 _))
  show wpAny _ _ (ret (.ref I)) _ _ s
  exact wpAny_pure ⟨_, rfl, "callable_iterator", _, hT, slot_ci_next.lookup, h⟩
theorem wp_callBorrowed {f : Value} {pos : List Value} {Q : Value → Shared → Prop} {M : Model}
    (h : wpAny M A (call f pos) Q E s) : wpAny M A (callBorrowed f pos) Q E s := fun Γ p hΓ => by
  have := h Γ p hΓ
  unfold call at this
  rw [Sem.wp_runValue] at this
  unfold callBorrowed
  rw [Sem.wp]
  refine wpCode_mono (fun r s' hr => ?_) this
  cases r with
  | error e => rw [Sem.wp]; exact hr
  | ok fl =>
    cases fl with
    | ret v => rw [Sem.wp]; exact hr
    | _ => exact hr.elim
theorem borrows_method {bm f self : Addr} {fd : FuncData} {o : Obj} {Q : Bool → Shared → Prop} (hbm : s.heap.get? bm = some (methodObj (.ref f) (.ref self))) (hf : s.heap.get? f = some o) (hd : o.data = .func fd) (h : Q true s) :
    wpAny (model prog w) A (borrowsExactly (.ref bm)) Q E s := by
  unfold borrowsExactly
  refine wpAny_bind (wpAny_load hbm ?_)
  dsimp only
  refine wpAny_ite ?_
  rw [if_pos (by decide)]
  refine wpAny_bind (wpAny_load hf ?_)
  rw [hd]
  exact wpAny_pure h
theorem ci_next {I bm f self : Addr} {t : Tok} {fd : FuncData} {of : Obj} {Q : Option Value → Shared → Prop} (hh : A.handled = none)
    (hI : s.heap.get? I = some (ciObj bm t)) (hbm : s.heap.get? bm = some (methodObj (.ref f) (.ref self))) (hf : s.heap.get? f = some of) (hd : of.data = .func fd)
    (hcall : wpAny (model prog w) A.in1 (call (.ref bm) []) (fun v s₁ => ∃ ch tv, v = .str ch tv ∧ s₁.heap.get? I = some (ciObj bm t) ∧ s₁.heap.get? bm = some (methodObj (.ref f) (.ref self)) ∧ s₁.heap.get? f = some of ∧
      (Str.ofString "" ≠ ch → Q (some v) s₁) ∧ (Str.ofString "" = ch → ∀ h', (∀ b o, b ≠ I → s₁.heap.get? b = some o → h'.get? b = some o) → h'.get? I = some ciEnd → Q none { s₁ with heap := h' })) (fun _ _ => False) s) :
    wpAny (model prog w) A (pyNext (.ref I)) Q E s := by
  have hT : s.TypeIs (.ref I) "callable_iterator" := ⟨_, hI, rfl⟩
  unfold pyNext
  refine wpAny_bind (wpAny_attempt (wpAny_callSpecial?_slot (name := Str.ofString "__next__") hT slot_ci_next
    (wpAny_call_entry slot_ci_next hT entry_ci_next ?_ (args_ci_next_1 _))))
  unfold Builtin.«callable_iterator.__next__»
  refine wpAny_bind (wpAny_of_eq (a := (Value.ref I, [])) rfl ?_)
  try dsimp only
  refine wpAny_bind (wpAny_field hI rfl (x := .bool false) rfl ?_)
  show wpAny _ _ (if (Value.bool false == Value.bool true) = true then _ else _) _ _ s
  rw [if_neg (by decide)]
  show wpAny _ _ (field (.ref I) 0 >>= _) _ _ s
  refine wpAny_bind (wpAny_field hI rfl (x := .ref bm) rfl ?_)
  refine wpAny_bind (wpAny_attempt ?_)
  unfold callOutOfASlot
  refine wpAny_bind (borrows_method hbm hf hd ?_)
  show wpAny _ _ (if true = true then _ else _) _ _ s
  rw [if_pos rfl]
  refine wp_callBorrowed (wpAny_mono hcall (fun v s₁ hv => ?_) (fun _ _ z => z.elim))
  obtain ⟨ch, tv, rfl, hI1, hbm1, hf1, hy, hn⟩ := hv
  try dsimp only
  refine wpAny_bind (wpAny_field hI1 rfl (x := .bool false) rfl ?_)
  show wpAny _ _ (if (Value.bool false == Value.bool true) = true then _ else _) _ _ s₁
  rw [if_neg (by decide)]
  show wpAny _ _ (field (.ref I) 1 >>= _) _ _ s₁
  refine wpAny_bind (wpAny_field hI1 rfl (x := .str (Str.ofString "") t) rfl ?_)
  refine wpAny_bind (wpAny_holding (wpAny_eqBool_str ?_))
  by_cases he : Str.ofString "" = ch
  · rw [decide_eq_true he]
    show wpAny _ _ (if (!true) = true then _ else _) _ _ s₁
    rw [if_neg (by decide)]
    refine wpAny_bind (wpAny_rule ?_)
    refine wpAny_bind ?_
    show wpAny _ _ (field (.ref I) 0 >>= _) _ _ s₁
    refine wpAny_bind (wpAny_field hI1 rfl (x := .ref bm) rfl ?_)
    refine wpAny_bind ?_
    unfold slotLetsGo
    refine wpAny_bind (borrows_method hbm1 hf1 hd ?_)
    show wpAny _ _ (if true = true then _ else _) _ _ s₁
    rw [if_pos rfl]
    refine wpAny_pure ?_
    refine wpAny_bind (wpAny_setField hI1 rfl (by simp) ?_)
    have g1 : (s₁.heap.update I (Obj.mapFields (·.setIfInBounds 0 Value.none))).get? I = some { cls := .type "callable_iterator", data := .fields #[.none, .str (Str.ofString "") t, .bool false] } := by
      rw [Heap.get?_update_self _ hI1 (by rfl)]; rfl
    have k1 := Heap.SameBut.update (h := s₁.heap) (a := I) (f := Obj.mapFields (·.setIfInBounds 0 Value.none))
    generalize s₁.heap.update I (Obj.mapFields (·.setIfInBounds 0 Value.none)) = H1 at g1 k1
    refine wpAny_bind (wpAny_setField (o := { cls := .type "callable_iterator", data := .fields #[.none, .str (Str.ofString "") t, .bool false] }) g1 rfl (by simp) ?_)
    have g2 : (H1.update I (Obj.mapFields (·.setIfInBounds 1 Value.none))).get? I = some { cls := .type "callable_iterator", data := .fields #[.none, .none, .bool false] } := by
      rw [Heap.get?_update_self _ g1 (by rfl)]; rfl
    have k2 := Heap.SameBut.update (h := H1) (a := I) (f := Obj.mapFields (·.setIfInBounds 1 Value.none))
    generalize hH2 : H1.update I (Obj.mapFields (·.setIfInBounds 1 Value.none)) = H2 at g2 k2
    refine wpAny_setField (o := { cls := .type "callable_iterator", data := .fields #[.none, .none, .bool false] }) g2 rfl (by simp) ?_
    have g3 : (H2.update I (Obj.mapFields (·.setIfInBounds 2 (Value.bool true)))).get? I = some ciEnd := by
      rw [Heap.get?_update_self _ g2 (by rfl)]; rfl
    have k3 := Heap.SameBut.update (h := H2) (a := I) (f := Obj.mapFields (·.setIfInBounds 2 (Value.bool true)))
    generalize hH3 : H2.update I (Obj.mapFields (·.setIfInBounds 2 (Value.bool true))) = H3 at g3 k3
    have kk : ∀ b o, b ≠ I → s₁.heap.get? b = some o → H3.get? b = some o := fun b o hb e => k3.extBut b o hb (k2.extBut b o hb (k1.extBut b o hb e))
    show wpAny _ _ (newExc (.type "StopIteration") [] >>= _) _ _ _
    refine wpAny_bind ?_
    simp only [newExc, newTuple]
    refine wpAny_bind (wpAny_newObj_type ?_ (by size_fits))
    refine wpAny_bind (m := firstArgMember _ _) (wpAny_of_eq (a := Value.none) (by first | rfl | (simp only [firstArgMember]; rfl)) ?_)
    refine wpAny_newObj_type ?_ (by size_fits)
    simp only [raiseNew]
    refine wpAny_bind (wpAny_handled ?_)
    first | rw [show A.in1.handled = none from hh] | rw [hh]
    refine wpAny_bind (wpAny_pure (wpAny_throw ?_))
    refine wpAny_bind (wpAny_isInstance (T := "StopIteration") (b := true) ⟨_, Heap.get?_push_size _ rfl, rfl⟩ isSubtype_stop ?_)
    exact wpAny_pure (hn he _ (fun b o hb e => Heap.get?_push_of_some _ (Heap.get?_push_of_some _ (kk b o hb e))) (Heap.get?_push_of_some _ (Heap.get?_push_of_some _ g3)))
  · rw [decide_eq_false he]
    show wpAny _ _ (if (!false) = true then _ else _) _ _ s₁
    rw [if_pos (by decide)]
    exact wpAny_pure ⟨_, rfl, wpAny_pure (hy he)⟩
end
end
section
open PySem PySem.W PyProof.Rows PySem.Calls
theorem args_iter_2 (a b : Value) : argsOk "iter" ⟨[a, b], []⟩ := by unfold argsOk; kernel_rfl
theorem ci_new {prog : Program} {w : World} {A : Around} {E : Value → Shared → Prop} {s : Shared} {h₀ : Heap} {L : Addr} {m : Str → Option Value} {news : List (Addr × Obj)} {bm : Addr} {f self : Value} {t : Tok} {Q : Value → Shared → Prop} (F : Fr h₀ L s.heap m) (N : News h₀ L s.heap news) (hm : (bm, methodObj f self) ∈ news)
    (h : ∀ I h', Fr h₀ L h' m → News h₀ L h' ((I, ciObj bm t) :: news) → (∀ p ∈ news, p.1 < I) → Q (.ref I) { s with heap := h' }) : wpAny (model prog w) A (call (.builtin "iter") [.ref bm, .str (Str.ofString "") t]) Q E s := by
  refine PySem.Calls.call_function_entry (by decide +kernel) (by decide +kernel) kdk_entry_iter (args_iter_2 _ _) ?_
  unfold Builtin.«iter»
  refine wpAny_bind (m := someArgs "iter" 1 2 _) (wpAny_of_eq (a := [Value.ref bm, .str (Str.ofString "") t]) (by first | rfl | kernel_rfl!) ?_)
  have hT : s.TypeIs (.ref bm) "method" := ⟨_, (N _ hm).1, rfl⟩
  show wpAny _ _ (specialOf (.ref bm) "__call__" >>= _) _ _ _
  refine wpAny_bind (wpAny_specialOf hT look_method_call ?_)
  show wpAny _ _ (if (some (Value.builtin "method.__call__")).isNone = true then _ else _) _ _ _
  rw [if_neg (by decide)]
  refine wpAny_bind (wpAny_rule ?_)
  show wpAny _ _ (newFields "callable_iterator" _ >>= _) _ _ _
  refine wpAny_bind (wpAny_newObj_type ?_ (by size_fits))
  exact wpAny_pure ⟨_, rfl, h _ _ (F.push _) (News.push F N _ rfl) (fun q hq => Heap.lt_size (N q hq).1)⟩
set_option maxRecDepth 100000 in
set_option maxHeartbeats 8000000 in
set_option pp.deepTerms false in
set_option pp.maxSteps 3000 in
theorem nextc (w : World) (p : Program) (loose : List Str) (mean : ExcName → Option Value) (mg mb : Str → Option Value) (dp un : Nat) (gd : Option (List Code)) (cn : Str) (cs : Scope) (a0 : Addr) (ccd : Value) (cl : List (Str × Addr)) (outer : List Env) (A₀ : Around) (base h₀ : Heap) (L : Addr) (m : Str → Option Value) (s : Shared) (Q E : Value → Shared → Prop) (x dx st ds pa pb f c' D cL : Addr) (n : Int) (tn tw k1 k2 k3 k4 j1 j2 j3 j4 j5 u1 u3 : Tok) (oc oL o136 : Obj) (pm ctv : Value) (params : Arguments) (body : Expr) (scope : Scope) (vsc : Array Value) (tq : Tok) (vs : List Value) (chs : List Nat) (cnt : Nat) (I bm : Addr) (tI : Tok) (Qo : Option Value → Shared → Prop) :
   Below A₀ base outer h₀ → Fr h₀ L s.heap m → (K39 w.params).In h₀ → News h₀ L s.heap ([(x, instObj 130 dx), (dx, dictOf [{ hash := PyData.keyHash w.params (Str.ofString "lineno"), key := .str (Str.ofString "lineno") k1, val := .int n tn }, { hash := PyData.keyHash w.params (Str.ofString "instream"), key := .str (Str.ofString "instream") k2, val := .ref st }, { hash := PyData.keyHash w.params (Str.ofString "whitespace"), key := .str (Str.ofString "whitespace") k3, val := .str (Str.ofString "\n\t\r ") tw }, { hash := PyData.keyHash w.params (Str.ofString "pushback"), key := .str (Str.ofString "pushback") k4, val := .ref pb }] 4), (st, instObj 130 ds), (ds, dictOf [{ hash := PyData.keyHash w.params (Str.ofString "lineno"), key := .str (Str.ofString "lineno") j1, val := .int 1 u1 }, { hash := PyData.keyHash w.params (Str.ofString "instream"), key := .str (Str.ofString "instream") j2, val := .none }, { hash := PyData.keyHash w.params (Str.ofString "whitespace"), key := .str (Str.ofString "whitespace") j3, val := .str (Str.ofString "\n\t\r ") u3 }, { hash := PyData.keyHash w.params (Str.ofString "pushback"), key := .str (Str.ofString "pushback") j4, val := .ref pa }, { hash := PyData.keyHash w.params (Str.ofString "read"), key := .str (Str.ofString "read") j5, val := .ref f }] 5), (f, kla_obj (Str.ofString "<lambda>") (Str.ofString "_law_stream.<locals>.<lambda>") params body scope [(Str.ofString "left", cL)] pm c' ctv), (c', oc), (cL, oL), (136, o136), (D, W.listOf vs.toArray cnt)]) → Top p loose mean mg mb h₀ → cs.kind = .function → lamParts (K39 w.params) 141 1 = some (params, body, scope) → oc.data = .fields vsc → vsc[1]? = some (.str (Str.ofString "_law_stream.<locals>.<lambda>") tq) → oL.data = .cell (some (.ref D)) → LT.lt (α := Nat) 136 D → LT.lt (α := Nat) D cL → LT.lt (α := Nat) cL st → LT.lt (α := Nat) cL ds → LT.lt (α := Nat) st c' → LT.lt (α := Nat) ds c' → LT.lt (α := Nat) c' f → LT.lt (α := Nat) f x → LT.lt (α := Nat) f dx → Ne (α := Nat) st ds → Ne (α := Nat) x dx → CodeHd base 140 136 → Chs vs chs → vs.length ≤ 1000 → s.heap.get? I = some (ciObj bm tI) → s.heap.get? bm = some (methodObj (.ref 113) (.ref x)) → Ne (α := Nat) I D → Ne (α := Nat) I dx → Ne (α := Nat) bm D → Ne (α := Nat) bm dx → dp + 29 < recursionLimit → un + 170 < cLine →
   (∀ c r t h' tk' vs' cnt' n' tn', chs = c :: r → (∀ b o, s.heap.get? b = some o → b ≠ D → b ≠ dx → h'.get? b = some o) → h'.get? D = some (W.listOf vs'.toArray cnt') → Chs vs' r → h'.get? dx = some (dictOf [{ hash := PyData.keyHash w.params (Str.ofString "lineno"), key := .str (Str.ofString "lineno") k1, val := .int n' tn' }, { hash := PyData.keyHash w.params (Str.ofString "instream"), key := .str (Str.ofString "instream") k2, val := .ref st }, { hash := PyData.keyHash w.params (Str.ofString "whitespace"), key := .str (Str.ofString "whitespace") k3, val := .str (Str.ofString "\n\t\r ") tw }, { hash := PyData.keyHash w.params (Str.ofString "pushback"), key := .str (Str.ofString "pushback") k4, val := .ref pb }] 4) → n' = n + nlOf [c] → Qo (some (.str ⟨#[c]⟩ t)) { s with heap := h', toks := tk' }) →
   (∀ h' tk' vs' cnt' tn', chs = [] → (∀ b o, s.heap.get? b = some o → b ≠ D → b ≠ dx → b ≠ I → h'.get? b = some o) → h'.get? D = some (W.listOf vs'.toArray cnt') → Chs vs' [] → h'.get? dx = some (dictOf [{ hash := PyData.keyHash w.params (Str.ofString "lineno"), key := .str (Str.ofString "lineno") k1, val := .int n tn' }, { hash := PyData.keyHash w.params (Str.ofString "instream"), key := .str (Str.ofString "instream") k2, val := .ref st }, { hash := PyData.keyHash w.params (Str.ofString "whitespace"), key := .str (Str.ofString "whitespace") k3, val := .str (Str.ofString "\n\t\r ") tw }, { hash := PyData.keyHash w.params (Str.ofString "pushback"), key := .str (Str.ofString "pushback") k4, val := .ref pb }] 4) → h'.get? I = some ciEnd → Qo none { s with heap := h', toks := tk' }) →
   wpAny (model rw9.row.prog w) (ktrTop dp un gd cn cs L a0 ccd cl outer) (pyNext (.ref I)) Qo E s := by
  k_fill
  w_top off
  k_with_none
  (k_with "my omega" => (first | with_reducible assumption | (law_purse 30000 => lia) | omega +splitDisjunctions))
  (k_with "my mem" => (first | exact m9_0 | exact m9_1 | exact m9_2 | exact m9_3 | exact m9_4 | exact m9_5 | exact m9_6 | exact m9_7 | (refine' m9_s ?_; k_mem)))
  (k_with "my sub" => (first | exact allNil | exact allCons (by k_mem) (by lcg_sub) | (intro q9 hq9; repeat (first | with_reducible exact hq9 | refine List.mem_cons_of_mem _ ?_))))
  (k_with "my room" => ktr_room)
  (k_with "my units" => ktr_units)
  (k_with "my ne" => (refine neN ?_; (try dsimp only); first | exact NeH.out (by assumption) | exact Ne.symm (NeH.out (by assumption)) | omega))
  (k_with "my all" => (first | exact allNil | (refine' allCons ?_ ?_; focus k_ne; k_all)))
  (k_with "my exec Assign" => k_fold)
  (k_with "my exec Expr" => k_fold)
  (k_with "my exec If" => k_fold)
  (k_with "my exec AugAssign" => k_fold)
  (k_with "my eval BinOp" => k_fold)
  (k_with "my eval Compare" => k_fold)
  (k_with "my eval Subscript" => k_fold)
  (k_with "my eval Call" => k_fold)
  (k_with "my eval Call Attribute" => k_fold)
  (k_with "my eval IfExp" => k_fold)
  (k_with "my eval List" => k_fold)
  (k_with "my eval Tuple" => k_fold)
  intro B F X N T hk hp hoc hvs hL q0 q1 q2 q3 q4 q5 q6 q7 q8 q9 q10 hch hc hsz hI hbm i1 i2 i3 i4 hdp hun hsome hnone
  obtain ⟨zz0, zz1, zz2, zz3, zz4, zz5, zz6, zz7, zz8, zz9, zz10, zz11, zz12, zz13, zz14⟩ := lexNe q0 q1 q2 q3 q4 q5 q6 q7 q8 q9 q10
  have XK := X.keeps F.keep
  obtain ⟨of, hof, fd, hfd⟩ : ∃ of, s.heap.get? 113 = some of ∧ ∃ fd, of.data = .func fd := ⟨_, XK 113 _ (by k_is), _, rfl⟩
  refine ci_next (f := 113) (self := x) rfl hI hbm hof hfd (wpAny_call (method_call hbm ?_))
  refine readcC w p loose mean mg mb dp (un + 1) gd cn cs a0 ccd cl outer A₀ base h₀ L m s _ _ x dx st ds pa pb f c' D cL n tn tw k1 k2 k3 k4 j1 j2 j3 j4 j5 u1 u3 oc oL o136 pm ctv params body scope vsc tq vs chs cnt B F X N T hk hp hoc hvs hL q0 q1 q2 q3 q4 q5 q6 q7 q8 q9 q10 hch hc hsz hdp (by first | with_reducible assumption | omega) ?_
  intro t h' tk' vs' cnt' n' tn' kb gD cD gx en
  have h113 : h'.get? 113 = some of := kb _ _ hof (fun e => by have e' : Eq (α := Nat) 113 D := e; omega) (fun e => by have e' : Eq (α := Nat) 113 dx := e; omega)
  refine ⟨_, _, rfl, kb _ _ hI i1 i2, kb _ _ hbm i3 i4, h113, fun hne => ?_, fun heq h2 k2 g2 => ?_⟩
  · cases chs with
    | nil => exact absurd (by decide +kernel) hne
    | cons c r => exact hsome c r _ _ _ _ _ _ _ rfl kb gD cD gx en
  · cases chs with
    | cons c r => exact absurd (congrArg (fun z => z.cps.size) heq) (by show ¬ (Str.ofString "").cps.size = 1; decide +kernel)
    | nil =>
      have en' : n' = n := by rw [en]; simp [nlOf]
      subst en'
      exact hnone _ _ _ _ _ rfl (fun b o e h1 h2 h3 => k2 b o h3 (kb b o e h1 h2)) (k2 _ _ (Ne.symm i1) gD) cD (k2 _ _ (Ne.symm i2) gx) g2
end
section
open PySem PySem.W PyProof.Rows PySem.Calls
noncomputable def gtParts (K : Frag) : Option (List Stmt × List Stmt × Scope) := (fnParts K 120).bind fun q => (q.1[3]?).bind fun a => onFor a fun ob => (ob[1]?).bind fun c => onIf c fun _ oe => (oe[2]?).bind fun d => onFor d fun ib => some (ob, ib, q.2)
noncomputable def isWs (c : Nat) : Bool := c == 10 || c == 9 || c == 13 || c == 32
noncomputable def plainC (c : Nat) : Bool := !isWs c && c != 34 && c != 92
theorem eqS {prog : Program} {w : World} {A : Around} {E : Value → Shared → Prop} {s : Shared} {x y : Str} {t u : Tok} {b : Bool} {Q : Value → Shared → Prop} (hb : (x == y) = b) (h : Q (.bool b) s) : wpAny (model prog w) A (compareOp .Eq (.str x t) (.str y u)) Q E s := PyProof.Rows.eq_str (hb ▸ h)
theorem inS {prog : Program} {w : World} {A : Around} {E : Value → Shared → Prop} {s : Shared} {x y : Str} {t u : Tok} {b : Bool} {Q : Value → Shared → Prop} (hb : (!(Builtin.Str.occurrences x y 0 x.length 1).isEmpty) = b) (h : Q (.bool b) s) : wpAny (model prog w) A (compareOp .In (.str y u) (.str x t)) Q E s := PyProof.Rows.in_str (hb ▸ h)
theorem ws_in {c : Nat} (h : c < 128) : (!(Builtin.Str.occurrences (Str.ofString "\n\t\r ") ⟨#[c]⟩ 0 (Str.ofString "\n\t\r ").length 1).isEmpty) = isWs c := by
  have : ∀ c, c < 128 → (!(Builtin.Str.occurrences (Str.ofString "\n\t\r ") ⟨#[c]⟩ 0 (Str.ofString "\n\t\r ").length 1).isEmpty) = isWs c := by decide +kernel
  exact this c h
theorem one_eq {c d : Nat} {z : Str} (hz : z = ⟨#[d]⟩) (h : c ≠ d) : ((⟨#[c]⟩ : Str) == z) = false := by
  subst hz
  have h2 : (⟨#[c]⟩ : Str) ≠ ⟨#[d]⟩ := fun q => h (by injection q with q; injection q with q; injection q)
  simp [h2]
theorem bs_eq {c : Nat} (h : plainC c = true) : ((⟨#[c]⟩ : Str) == Str.ofString "\\") = false := one_eq (d := 92) (by decide +kernel) (fun e => by subst e; revert h; decide)
theorem qt_eq {c : Nat} (h : plainC c = true) : ((⟨#[c]⟩ : Str) == Str.ofString "\"") = false := one_eq (d := 34) (by decide +kernel) (fun e => by subst e; revert h; decide)
theorem plain_ws {c : Nat} (h : plainC c = true) : isWs c = false := by
  unfold plainC at h
  cases hw : isWs c with
  | false => rfl
  | true => rw [hw] at h; exact absurd h (by simp)
theorem frCongr {h₀ h : Heap} {L : Addr} {m m' : Str → Option Value} (F : Fr h₀ L h m) (e : m = m') : Fr h₀ L h m' := e ▸ F
theorem chsLen {vs : List Value} {cs : List Nat} (h : Chs vs cs) : vs.length = cs.length := by
  induction h with
  | nil => rfl
  | cons _ _ _ ih => exact congrArg Nat.succ ih
theorem chsTail {vs vs' : List Value} {c : Nat} {r : List Nat} (h : Chs vs (c :: r)) (h' : Chs vs' r) (hs : vs.length ≤ 1000) : vs'.length ≤ 1000 := by
  have e1 := chsLen h
  have e2 := chsLen h'
  rw [List.length_cons] at e1
  omega
theorem addLen {T : Str} {c : Nat} {r : List Nat} (h : T.length + (c :: r).length ≤ 2000) : (T ++ (⟨#[c]⟩ : Str)).length + r.length ≤ 2000 := by
  rw [Str.length_append]
  have e : (⟨#[c]⟩ : Str).length = 1 := rfl
  rw [List.length_cons] at h
  omega
theorem mapL {a b a' b' : Option Value} {m : Str → Option Value} : (fun y => if y = Str.ofString "token" then a else if y = Str.ofString "ch" then b else if y = Str.ofString "token" then a' else if y = Str.ofString "ch" then b' else m y) = (fun y => if y = Str.ofString "token" then a else if y = Str.ofString "ch" then b else m y) := by
  funext y
  by_cases h1 : y = Str.ofString "token"
  · simp [h1]
  · by_cases h2 : y = Str.ofString "ch"
    · simp only [h1, h2, if_true, if_false]
    · simp only [h1, h2, if_false]
theorem nl_plain {c : Nat} (h : plainC c = true) : nlOf [c] = 0 := by
  have : c ≠ 10 := fun e => by subst e; revert h; decide
  simp [nlOf, this]
theorem sL_cons (T : Str) (c : Nat) (r : List Nat) : T ++ (⟨#[c]⟩ : Str) ++ sL r = T ++ sL (c :: r) := by
  apply str_ext
  simp [Str.cps_append, sL]
theorem sL_nil (T : Str) : T ++ sL [] = T := by
  apply str_ext
  simp [Str.cps_append, sL]
set_option maxRecDepth 100000 in
set_option maxHeartbeats 8000000 in
set_option pp.deepTerms false in
set_option pp.maxSteps 3000 in
theorem nextcS (w : World) (p : Program) (loose : List Str) (mean : ExcName → Option Value) (mg mb : Str → Option Value) (dp un : Nat) (gd : Option (List Code)) (cn : Str) (cs : Scope) (a0 : Addr) (ccd : Value) (cl : List (Str × Addr)) (outer : List Env) (A₀ : Around) (base h₀ : Heap) (L : Addr) (m : Str → Option Value) (s : Shared) (Q E : Value → Shared → Prop) (x dx st ds pa pb f c' D cL : Addr) (n : Int) (tn tw k1 k2 k3 k4 j1 j2 j3 j4 j5 u1 u3 : Tok) (oc oL o136 : Obj) (pm ctv : Value) (params : Arguments) (body : Expr) (scope : Scope) (vsc : Array Value) (tq : Tok) (vs : List Value) (cc : Nat) (rr : List Nat) (cnt : Nat) (I bm : Addr) (tI : Tok) (Qo : Option Value → Shared → Prop) :
   Below A₀ base outer h₀ → Fr h₀ L s.heap m → (K39 w.params).In h₀ → News h₀ L s.heap ([(x, instObj 130 dx), (dx, dictOf [{ hash := PyData.keyHash w.params (Str.ofString "lineno"), key := .str (Str.ofString "lineno") k1, val := .int n tn }, { hash := PyData.keyHash w.params (Str.ofString "instream"), key := .str (Str.ofString "instream") k2, val := .ref st }, { hash := PyData.keyHash w.params (Str.ofString "whitespace"), key := .str (Str.ofString "whitespace") k3, val := .str (Str.ofString "\n\t\r ") tw }, { hash := PyData.keyHash w.params (Str.ofString "pushback"), key := .str (Str.ofString "pushback") k4, val := .ref pb }] 4), (st, instObj 130 ds), (ds, dictOf [{ hash := PyData.keyHash w.params (Str.ofString "lineno"), key := .str (Str.ofString "lineno") j1, val := .int 1 u1 }, { hash := PyData.keyHash w.params (Str.ofString "instream"), key := .str (Str.ofString "instream") j2, val := .none }, { hash := PyData.keyHash w.params (Str.ofString "whitespace"), key := .str (Str.ofString "whitespace") j3, val := .str (Str.ofString "\n\t\r ") u3 }, { hash := PyData.keyHash w.params (Str.ofString "pushback"), key := .str (Str.ofString "pushback") j4, val := .ref pa }, { hash := PyData.keyHash w.params (Str.ofString "read"), key := .str (Str.ofString "read") j5, val := .ref f }] 5), (f, kla_obj (Str.ofString "<lambda>") (Str.ofString "_law_stream.<locals>.<lambda>") params body scope [(Str.ofString "left", cL)] pm c' ctv), (c', oc), (cL, oL), (136, o136), (D, W.listOf vs.toArray cnt)]) → Top p loose mean mg mb h₀ → cs.kind = .function → lamParts (K39 w.params) 141 1 = some (params, body, scope) → oc.data = .fields vsc → vsc[1]? = some (.str (Str.ofString "_law_stream.<locals>.<lambda>") tq) → oL.data = .cell (some (.ref D)) → LT.lt (α := Nat) 136 D → LT.lt (α := Nat) D cL → LT.lt (α := Nat) cL st → LT.lt (α := Nat) cL ds → LT.lt (α := Nat) st c' → LT.lt (α := Nat) ds c' → LT.lt (α := Nat) c' f → LT.lt (α := Nat) f x → LT.lt (α := Nat) f dx → Ne (α := Nat) st ds → Ne (α := Nat) x dx → CodeHd base 140 136 → Chs vs (cc :: rr) → vs.length ≤ 1000 → s.heap.get? I = some (ciObj bm tI) → s.heap.get? bm = some (methodObj (.ref 113) (.ref x)) → Ne (α := Nat) I D → Ne (α := Nat) I dx → Ne (α := Nat) bm D → Ne (α := Nat) bm dx → dp + 29 < recursionLimit → un + 170 < cLine →
   (∀ t h' tk' vs' cnt' n' tn', (∀ b o, s.heap.get? b = some o → b ≠ D → b ≠ dx → h'.get? b = some o) → h'.get? D = some (W.listOf vs'.toArray cnt') → Chs vs' rr → h'.get? dx = some (dictOf [{ hash := PyData.keyHash w.params (Str.ofString "lineno"), key := .str (Str.ofString "lineno") k1, val := .int n' tn' }, { hash := PyData.keyHash w.params (Str.ofString "instream"), key := .str (Str.ofString "instream") k2, val := .ref st }, { hash := PyData.keyHash w.params (Str.ofString "whitespace"), key := .str (Str.ofString "whitespace") k3, val := .str (Str.ofString "\n\t\r ") tw }, { hash := PyData.keyHash w.params (Str.ofString "pushback"), key := .str (Str.ofString "pushback") k4, val := .ref pb }] 4) → n' = n + nlOf [cc] → Qo (some (.str ⟨#[cc]⟩ t)) { s with heap := h', toks := tk' }) →
   wpAny (model rw9.row.prog w) (ktrTop dp un gd cn cs L a0 ccd cl outer) (pyNext (.ref I)) Qo E s := by
  intro B F X N T hk hp hoc hvs hL q0 q1 q2 q3 q4 q5 q6 q7 q8 q9 q10 hch hc hsz hI hbm i1 i2 i3 i4 hdp hun hsome
  obtain ⟨zz0, zz1, zz2, zz3, zz4, zz5, zz6, zz7, zz8, zz9, zz10, zz11, zz12, zz13, zz14⟩ := lexNe q0 q1 q2 q3 q4 q5 q6 q7 q8 q9 q10
  exact nextc w p loose mean mg mb dp un gd cn cs a0 ccd cl outer A₀ base h₀ L m s Q E x dx st ds pa pb f c' D cL n tn tw k1 k2 k3 k4 j1 j2 j3 j4 j5 u1 u3 oc oL o136 pm ctv params body scope vsc tq vs (cc :: rr) cnt I bm tI Qo B F X N T hk hp hoc hvs hL q0 q1 q2 q3 q4 q5 q6 q7 q8 q9 q10 hch hc hsz hI hbm i1 i2 i3 i4 hdp hun
    (fun c r t h' tk' vs' cnt' n' tn' e kb gD cD gx en => by cases e; exact hsome t h' tk' vs' cnt' n' tn' kb gD cD gx en) (fun _ _ _ _ _ e => nomatch e)
set_option maxRecDepth 100000 in
set_option maxHeartbeats 8000000 in
set_option pp.deepTerms false in
set_option pp.maxSteps 3000 in
theorem innerLoop (w : World) (p : Program) (loose : List Str) (mean : ExcName → Option Value) (mg mb : Str → Option Value) (dp un : Nat) (gd : Option (List Code)) (cn : Str) (cs : Scope) (L a0 : Addr) (ccd : Value) (cl : List (Str × Addr)) (outer : List Env) (base g : Heap) (L' : Addr) (Q : Flow → Shared → Prop) (ob ib : List Stmt) (gsc : Scope) (x dx st ds pa pb f c' D cL I bm : Addr) (tw k1 k2 k3 k4 j1 j2 j3 j4 j5 u1 u3 tI : Tok) (oc oL o136 : Obj) (pm ctv : Value) (params : Arguments) (body : Expr) (scope : Scope) (vsc : Array Value) (tq : Tok) (c0 : Nat) (r0 : List Nat) :
   gtParts (K39 w.params) = some (ob, ib, gsc) → Below (ktrTop dp un gd cn cs L a0 ccd cl outer) base (envX cn cs L a0 ccd cl :: outer) g → (K39 w.params).In g → Top p loose mean mg mb g → cs.kind = .function →
   lamParts (K39 w.params) 141 1 = some (params, body, scope) → oc.data = .fields vsc → vsc[1]? = some (.str (Str.ofString "_law_stream.<locals>.<lambda>") tq) → oL.data = .cell (some (.ref D)) → LT.lt (α := Nat) 136 D → LT.lt (α := Nat) D cL → LT.lt (α := Nat) cL st → LT.lt (α := Nat) cL ds → LT.lt (α := Nat) st c' → LT.lt (α := Nat) ds c' → LT.lt (α := Nat) c' f → LT.lt (α := Nat) f x → LT.lt (α := Nat) f dx → Ne (α := Nat) st ds → Ne (α := Nat) x dx → LT.lt (α := Nat) f pb → Ne (α := Nat) x pb → Ne (α := Nat) dx pb → LT.lt (α := Nat) f I → LT.lt (α := Nat) f bm → Ne (α := Nat) I dx → Ne (α := Nat) bm dx → Ne (α := Nat) I bm → Ne (α := Nat) I x → Ne (α := Nat) bm x → Ne (α := Nat) I pb → Ne (α := Nat) bm pb → CodeHd base 140 136 → c0 < 128 → isWs c0 = true → dp + 35 < recursionLimit → un + 200 < cLine →
   ∀ wd : List Nat, (∀ c ∈ wd, c < 128 ∧ plainC c = true) → ∀ (fuel : Nat), wd.length < fuel → ∀ (s : Shared) (E : Value → Shared → Prop) (n : Int) (tn tT : Tok) (vs : List Value) (cnt : Nat) (T : Str) (vch : Value),
   Fr g L' s.heap (fun y => if y = Str.ofString "token" then some (.str T tT) else if y = Str.ofString "ch" then some vch else if y = Str.ofString "fiter" then some (.ref I) else List.lookup y [(Str.ofString "self", .ref x)]) → News g L' s.heap [(D, W.listOf vs.toArray cnt), (dx, dictOf [{ hash := PyData.keyHash w.params (Str.ofString "lineno"), key := .str (Str.ofString "lineno") k1, val := .int n tn }, { hash := PyData.keyHash w.params (Str.ofString "instream"), key := .str (Str.ofString "instream") k2, val := .ref st }, { hash := PyData.keyHash w.params (Str.ofString "whitespace"), key := .str (Str.ofString "whitespace") k3, val := .str (Str.ofString "\n\t\r ") tw }, { hash := PyData.keyHash w.params (Str.ofString "pushback"), key := .str (Str.ofString "pushback") k4, val := .ref pb }] 4), (x, instObj 130 dx), (st, instObj 130 ds), (ds, dictOf [{ hash := PyData.keyHash w.params (Str.ofString "lineno"), key := .str (Str.ofString "lineno") j1, val := .int 1 u1 }, { hash := PyData.keyHash w.params (Str.ofString "instream"), key := .str (Str.ofString "instream") j2, val := .none }, { hash := PyData.keyHash w.params (Str.ofString "whitespace"), key := .str (Str.ofString "whitespace") j3, val := .str (Str.ofString "\n\t\r ") u3 }, { hash := PyData.keyHash w.params (Str.ofString "pushback"), key := .str (Str.ofString "pushback") j4, val := .ref pa }, { hash := PyData.keyHash w.params (Str.ofString "read"), key := .str (Str.ofString "read") j5, val := .ref f }] 5), (f, kla_obj (Str.ofString "<lambda>") (Str.ofString "_law_stream.<locals>.<lambda>") params body scope [(Str.ofString "left", cL)] pm c' ctv), (c', oc), (cL, oL), (136, o136), (I, ciObj bm tI), (bm, methodObj (.ref 113) (.ref x)), (pb, W.listOf (#[] : Array Value) 0)] → Chs vs (wd ++ c0 :: r0) → vs.length ≤ 1000 → T.length + wd.length ≤ 2000 →
   (∀ h' tk' m' vs' cnt' n' tn' tT', Fr g L' h' m' → News g L' h' [(D, W.listOf vs'.toArray cnt'), (dx, dictOf [{ hash := PyData.keyHash w.params (Str.ofString "lineno"), key := .str (Str.ofString "lineno") k1, val := .int n' tn' }, { hash := PyData.keyHash w.params (Str.ofString "instream"), key := .str (Str.ofString "instream") k2, val := .ref st }, { hash := PyData.keyHash w.params (Str.ofString "whitespace"), key := .str (Str.ofString "whitespace") k3, val := .str (Str.ofString "\n\t\r ") tw }, { hash := PyData.keyHash w.params (Str.ofString "pushback"), key := .str (Str.ofString "pushback") k4, val := .ref pb }] 4), (x, instObj 130 dx), (st, instObj 130 ds), (ds, dictOf [{ hash := PyData.keyHash w.params (Str.ofString "lineno"), key := .str (Str.ofString "lineno") j1, val := .int 1 u1 }, { hash := PyData.keyHash w.params (Str.ofString "instream"), key := .str (Str.ofString "instream") j2, val := .none }, { hash := PyData.keyHash w.params (Str.ofString "whitespace"), key := .str (Str.ofString "whitespace") j3, val := .str (Str.ofString "\n\t\r ") u3 }, { hash := PyData.keyHash w.params (Str.ofString "pushback"), key := .str (Str.ofString "pushback") j4, val := .ref pa }, { hash := PyData.keyHash w.params (Str.ofString "read"), key := .str (Str.ofString "read") j5, val := .ref f }] 5), (f, kla_obj (Str.ofString "<lambda>") (Str.ofString "_law_stream.<locals>.<lambda>") params body scope [(Str.ofString "left", cL)] pm c' ctv), (c', oc), (cL, oL), (136, o136), (I, ciObj bm tI), (bm, methodObj (.ref 113) (.ref x)), (pb, W.listOf (#[] : Array Value) 0)] → Chs vs' r0 → n' = n + nlOf [c0] → Q (.ret (.str (T ++ sL wd) tT')) { s with heap := h', toks := tk' }) →
   OwitRest rw9.row.prog w ((ktrTop dp un gd cn cs L a0 ccd cl outer).deeper (envOf (Str.ofString "_netrclex.get_token") gsc L' 120 (.ref 119))) E (envOf (Str.ofString "_netrclex.get_token") gsc L' 120 (.ref 119)) (Str.ofString "ch") ib Q I fuel s := by
  k_fill
  w_top off
  k_with_none
  (k_with "my omega" => (first | with_reducible assumption | (law_purse 30000 => lia) | omega +splitDisjunctions))
  (k_with "my mem" => (first | exact m9_0 | exact m9_1 | exact m9_2 | exact m9_3 | exact m9_4 | exact m9_5 | exact m9_6 | exact m9_7 | (refine' m9_s ?_; k_mem)))
  (k_with "my sub" => (first | exact allNil | exact allCons (by k_mem) (by lcg_sub) | (intro q9 hq9; repeat (first | with_reducible exact hq9 | refine List.mem_cons_of_mem _ ?_))))
  (k_with "my room" => ktr_room)
  (k_with "my units" => ktr_units)
  (k_with "my ne" => (refine neN ?_; (try dsimp only); first | exact NeH.out (by assumption) | exact Ne.symm (NeH.out (by assumption)) | omega))
  (k_with "my all" => (first | exact allNil | (refine' allCons ?_ ?_; focus k_ne; k_all)))
  (k_with "my exec Assign" => k_fold)
  (k_with "my exec Expr" => k_fold)
  (k_with "my exec If" => k_fold)
  (k_with "my exec AugAssign" => k_fold)
  (k_with "my eval BinOp" => k_fold)
  (k_with "my eval Compare" => k_fold)
  (k_with "my eval Subscript" => k_fold)
  (k_with "my eval Call" => k_fold)
  (k_with "my eval Call Attribute" => k_fold)
  (k_with "my eval IfExp" => k_fold)
  (k_with "my eval List" => k_fold)
  (k_with "my eval Tuple" => k_fold)
  intro hgp B X TT hk hp hoc hvs hL q0 q1 q2 q3 q4 q5 q6 q7 q8 q9 q10 pb1 pb2 pb3 i0 i1 i2 i3 i4 i5 i6 i7 i8 hch c01 c02 hdp hun wd
  obtain ⟨zz0, zz1, zz2, zz3, zz4, zz5, zz6, zz7, zz8, zz9, zz10, zz11, zz12, zz13, zz14⟩ := lexNe q0 q1 q2 q3 q4 q5 q6 q7 q8 q9 q10
  cases hgp
  induction wd with
  | nil =>
    intro hpl fuel hfu s E n tn tT vs cnt T vch F N hc hsz hTl hret
    obtain ⟨fu, rfl⟩ : ∃ k, fuel = k + 1 := ⟨fuel - 1, by omega⟩
    have hc : Chs vs (c0 :: r0) := hc
    have hin := (ws_in c01).trans c02
    (k_with "my pyNext ref" => (k_here; (k_dflt (refine' nextcS _ _ _ _ _ _ _ _ _ _ _ _ _ _ _ _ _ _ _ _ _ (fun _ _ => True) _ _ _ _ _ _ _ _ _ _ _ _ _ _ _ _ _ _ _ _ _ _ _ _ _ _ _ _ _ _ _ _ _ _ _ _ _ _ _ _ _ _ _ (by k_asm) (by k_asm) (by k_asm) (newsCons (by k_asm) (by k_mem) (newsCons (by k_asm) (by k_mem) (newsCons (by k_asm) (by k_mem) (newsCons (by k_asm) (by k_mem) (newsCons (by k_asm) (by k_mem) (newsCons (by k_asm) (by k_mem) (newsCons (by k_asm) (by k_mem) (newsCons (by k_asm) (by k_mem) (newsCons (by k_asm) (by k_mem) newsNil))))))))) (by k_asm) rfl (by assumption) (by assumption) (by assumption) (by assumption) (by first | with_reducible assumption | omega) (by first | with_reducible assumption | omega) (by first | with_reducible assumption | omega) (by first | with_reducible assumption | omega) (by first | with_reducible assumption | omega) (by first | with_reducible assumption | omega) (by first | with_reducible assumption | omega) (by first | with_reducible assumption | omega) (by first | with_reducible assumption | omega) (by first | with_reducible assumption | omega) (by first | with_reducible assumption | omega) (by assumption) (by assumption) (by first | with_reducible assumption | omega) (newsGet (by k_asm) (by k_mem)) (newsGet (by k_asm) (by k_mem)) (by first | with_reducible assumption | omega) (by first | with_reducible assumption | omega) (by first | with_reducible assumption | omega) (by first | with_reducible assumption | omega) (by ktr_room) (by ktr_units) ?_); intro t9 h9 tk9 vs9 cnt9 n9 tn9 kb9 gD9 c9 gx9 en9; k_dflt (have F9 := kb2Fr (by k_asm) (by k_asm) (P := D) (R := dx) (o := W.listOf vs.toArray cnt) (o' := dictOf [{ hash := PyData.keyHash w.params (Str.ofString "lineno"), key := .str (Str.ofString "lineno") k1, val := .int n tn }, { hash := PyData.keyHash w.params (Str.ofString "instream"), key := .str (Str.ofString "instream") k2, val := .ref st }, { hash := PyData.keyHash w.params (Str.ofString "whitespace"), key := .str (Str.ofString "whitespace") k3, val := .str (Str.ofString "\n\t\r ") tw }, { hash := PyData.keyHash w.params (Str.ofString "pushback"), key := .str (Str.ofString "pushback") k4, val := .ref pb }] 4) (by k_mem) (by k_mem) kb9; have N9 := kb2Tab (P := D) (R := dx) (o := W.listOf vs.toArray cnt) (o' := dictOf [{ hash := PyData.keyHash w.params (Str.ofString "lineno"), key := .str (Str.ofString "lineno") k1, val := .int n tn }, { hash := PyData.keyHash w.params (Str.ofString "instream"), key := .str (Str.ofString "instream") k2, val := .ref st }, { hash := PyData.keyHash w.params (Str.ofString "whitespace"), key := .str (Str.ofString "whitespace") k3, val := .str (Str.ofString "\n\t\r ") tw }, { hash := PyData.keyHash w.params (Str.ofString "pushback"), key := .str (Str.ofString "pushback") k4, val := .ref pb }] 4) (by k_asm) (by k_mem) (by k_mem) gD9 gx9 (kb2News (news := [(x, instObj 130 dx), (st, instObj 130 ds), (ds, dictOf [{ hash := PyData.keyHash w.params (Str.ofString "lineno"), key := .str (Str.ofString "lineno") j1, val := .int 1 u1 }, { hash := PyData.keyHash w.params (Str.ofString "instream"), key := .str (Str.ofString "instream") j2, val := .none }, { hash := PyData.keyHash w.params (Str.ofString "whitespace"), key := .str (Str.ofString "whitespace") j3, val := .str (Str.ofString "\n\t\r ") u3 }, { hash := PyData.keyHash w.params (Str.ofString "pushback"), key := .str (Str.ofString "pushback") j4, val := .ref pa }, { hash := PyData.keyHash w.params (Str.ofString "read"), key := .str (Str.ofString "read") j5, val := .ref f }] 5), (f, kla_obj (Str.ofString "<lambda>") (Str.ofString "_law_stream.<locals>.<lambda>") params body scope [(Str.ofString "left", cL)] pm c' ctv), (c', oc), (cL, oL), (136, o136), (I, ciObj bm tI), (bm, methodObj (.ref 113) (.ref x)), (pb, W.listOf (#[] : Array Value) 0)]) (newsCons (by k_asm) (by k_mem) (newsCons (by k_asm) (by k_mem) (newsCons (by k_asm) (by k_mem) (newsCons (by k_asm) (by k_mem) (newsCons (by k_asm) (by k_mem) (newsCons (by k_asm) (by k_mem) (newsCons (by k_asm) (by k_mem) (newsCons (by k_asm) (by k_mem) (newsCons (by k_asm) (by k_mem) (newsCons (by k_asm) (by k_mem) newsNil)))))))))) (by k_all) (by k_all) kb9)); (try dsimp only))))
    (k_with "my compareOp Eq str str" => (k_here; refine eqS (by assumption) ?_))
    (k_with "my compareOp In str str" => (k_here; refine inS (by assumption) ?_))
    refine OwitRest.succ ?_
    dsimp only
    k_steps
    have eT := sL_nil T
    rw [eT] at hret
    exact hret _ _ _ _ _ _ _ _ (by assumption) (by assumption) c9 en9
  | cons c wd ih =>
    intro hpl fuel hfu s E n tn tT vs cnt T vch F N hc hsz hTl hret
    obtain ⟨fu, rfl⟩ : ∃ k, fuel = k + 1 := ⟨fuel - 1, by omega⟩
    have hc : Chs vs (c :: (wd ++ c0 :: r0)) := hc
    have hpc := hpl c (.head _)
    have hin := (ws_in hpc.1).trans (plain_ws hpc.2)
    have hbs := bs_eq hpc.2
    (k_with "my pyNext ref" => (k_here; (k_dflt (refine' nextcS _ _ _ _ _ _ _ _ _ _ _ _ _ _ _ _ _ _ _ _ _ (fun _ _ => True) _ _ _ _ _ _ _ _ _ _ _ _ _ _ _ _ _ _ _ _ _ _ _ _ _ _ _ _ _ _ _ _ _ _ _ _ _ _ _ _ _ _ _ (by k_asm) (by k_asm) (by k_asm) (newsCons (by k_asm) (by k_mem) (newsCons (by k_asm) (by k_mem) (newsCons (by k_asm) (by k_mem) (newsCons (by k_asm) (by k_mem) (newsCons (by k_asm) (by k_mem) (newsCons (by k_asm) (by k_mem) (newsCons (by k_asm) (by k_mem) (newsCons (by k_asm) (by k_mem) (newsCons (by k_asm) (by k_mem) newsNil))))))))) (by k_asm) rfl (by assumption) (by assumption) (by assumption) (by assumption) (by first | with_reducible assumption | omega) (by first | with_reducible assumption | omega) (by first | with_reducible assumption | omega) (by first | with_reducible assumption | omega) (by first | with_reducible assumption | omega) (by first | with_reducible assumption | omega) (by first | with_reducible assumption | omega) (by first | with_reducible assumption | omega) (by first | with_reducible assumption | omega) (by first | with_reducible assumption | omega) (by first | with_reducible assumption | omega) (by assumption) (by assumption) (by first | with_reducible assumption | omega) (newsGet (by k_asm) (by k_mem)) (newsGet (by k_asm) (by k_mem)) (by first | with_reducible assumption | omega) (by first | with_reducible assumption | omega) (by first | with_reducible assumption | omega) (by first | with_reducible assumption | omega) (by ktr_room) (by ktr_units) ?_); intro t9 h9 tk9 vs9 cnt9 n9 tn9 kb9 gD9 c9 gx9 en9; k_dflt (have F9 := kb2Fr (by k_asm) (by k_asm) (P := D) (R := dx) (o := W.listOf vs.toArray cnt) (o' := dictOf [{ hash := PyData.keyHash w.params (Str.ofString "lineno"), key := .str (Str.ofString "lineno") k1, val := .int n tn }, { hash := PyData.keyHash w.params (Str.ofString "instream"), key := .str (Str.ofString "instream") k2, val := .ref st }, { hash := PyData.keyHash w.params (Str.ofString "whitespace"), key := .str (Str.ofString "whitespace") k3, val := .str (Str.ofString "\n\t\r ") tw }, { hash := PyData.keyHash w.params (Str.ofString "pushback"), key := .str (Str.ofString "pushback") k4, val := .ref pb }] 4) (by k_mem) (by k_mem) kb9; have N9 := kb2Tab (P := D) (R := dx) (o := W.listOf vs.toArray cnt) (o' := dictOf [{ hash := PyData.keyHash w.params (Str.ofString "lineno"), key := .str (Str.ofString "lineno") k1, val := .int n tn }, { hash := PyData.keyHash w.params (Str.ofString "instream"), key := .str (Str.ofString "instream") k2, val := .ref st }, { hash := PyData.keyHash w.params (Str.ofString "whitespace"), key := .str (Str.ofString "whitespace") k3, val := .str (Str.ofString "\n\t\r ") tw }, { hash := PyData.keyHash w.params (Str.ofString "pushback"), key := .str (Str.ofString "pushback") k4, val := .ref pb }] 4) (by k_asm) (by k_mem) (by k_mem) gD9 gx9 (kb2News (news := [(x, instObj 130 dx), (st, instObj 130 ds), (ds, dictOf [{ hash := PyData.keyHash w.params (Str.ofString "lineno"), key := .str (Str.ofString "lineno") j1, val := .int 1 u1 }, { hash := PyData.keyHash w.params (Str.ofString "instream"), key := .str (Str.ofString "instream") j2, val := .none }, { hash := PyData.keyHash w.params (Str.ofString "whitespace"), key := .str (Str.ofString "whitespace") j3, val := .str (Str.ofString "\n\t\r ") u3 }, { hash := PyData.keyHash w.params (Str.ofString "pushback"), key := .str (Str.ofString "pushback") j4, val := .ref pa }, { hash := PyData.keyHash w.params (Str.ofString "read"), key := .str (Str.ofString "read") j5, val := .ref f }] 5), (f, kla_obj (Str.ofString "<lambda>") (Str.ofString "_law_stream.<locals>.<lambda>") params body scope [(Str.ofString "left", cL)] pm c' ctv), (c', oc), (cL, oL), (136, o136), (I, ciObj bm tI), (bm, methodObj (.ref 113) (.ref x)), (pb, W.listOf (#[] : Array Value) 0)]) (newsCons (by k_asm) (by k_mem) (newsCons (by k_asm) (by k_mem) (newsCons (by k_asm) (by k_mem) (newsCons (by k_asm) (by k_mem) (newsCons (by k_asm) (by k_mem) (newsCons (by k_asm) (by k_mem) (newsCons (by k_asm) (by k_mem) (newsCons (by k_asm) (by k_mem) (newsCons (by k_asm) (by k_mem) (newsCons (by k_asm) (by k_mem) newsNil)))))))))) (by k_all) (by k_all) kb9)); (try dsimp only))))
    (k_with "my compareOp Eq str str" => (k_here; refine eqS (by assumption) ?_))
    (k_with "my compareOp In str str" => (k_here; refine inS (by assumption) ?_))
    (k_with "my OwitRest" => (refine ih (fun d hd => hpl d (.tail _ hd)) _ (by simp only [List.length_cons] at hfu; omega) _ _ _ _ _ _ _ _ _ (frCongr (by k_asm) mapL) (by k_asm) c9 (chsTail hc c9 hsz) (addLen hTl) ?_; intro h2 tk2 m2 vs2 cnt2 n2 tn2 tT2 F2 N2 c2 en2))
    refine OwitRest.succ ?_
    dsimp only
    k_steps
    rw [sL_cons]
    exact hret _ _ _ _ _ _ _ _ (by assumption) (by assumption) c2 (by rw [en2, en9, nl_plain hpc.2]; omega)
end
section
open PySem PySem.W PyProof.Rows PySem.Calls
noncomputable def nls : List Nat → Int
  | [] => 0
  | c :: r => nlOf [c] + nls r
theorem mapO {a b b' : Option Value} {m : Str → Option Value} : (fun y => if y = Str.ofString "ch" then b else if y = Str.ofString "ch" then b' else m y) = (fun y => if y = Str.ofString "ch" then b else m y) := by
  funext y
  by_cases h2 : y = Str.ofString "ch"
  · simp only [h2, if_true]
  · simp only [h2, if_false]
theorem mapI {a a' b b' f : Option Value} {x : Addr} : (fun y => if y = Str.ofString "token" then a else if y = Str.ofString "ch" then b else if y = Str.ofString "ch" then b' else if y = Str.ofString "fiter" then f else if y = Str.ofString "token" then a' else List.lookup y [(Str.ofString "self", Value.ref x)]) = (fun y => if y = Str.ofString "token" then a else if y = Str.ofString "ch" then b else if y = Str.ofString "fiter" then f else List.lookup y [(Str.ofString "self", .ref x)]) := by
  funext y
  by_cases h1 : y = Str.ofString "token"
  · simp only [h1, if_true]
  · by_cases h2 : y = Str.ofString "ch"
    · simp only [h1, h2, if_true, if_false]
    · simp only [h1, h2, if_false]
theorem emp_sL (c : Nat) (r : List Nat) : Str.ofString "" ++ (⟨#[c]⟩ : Str) ++ sL r = sL (c :: r) := by
  have e : (Str.ofString "").cps.toList = [] := by decide +kernel
  apply str_ext
  simp [Str.cps_append, sL, e]
set_option maxRecDepth 100000 in
set_option maxHeartbeats 8000000 in
set_option pp.deepTerms false in
set_option pp.maxSteps 3000 in
theorem outerV1 (w : World) (p : Program) (loose : List Str) (mean : ExcName → Option Value) (mg mb : Str → Option Value) (dp un : Nat) (gd : Option (List Code)) (cn : Str) (cs : Scope) (L a0 : Addr) (ccd : Value) (cl : List (Str × Addr)) (outer : List Env) (base g : Heap) (L' : Addr) (Q : Flow → Shared → Prop) (ob ib : List Stmt) (gsc : Scope) (x dx st ds pa pb f c' D cL I bm : Addr) (tw k1 k2 k3 k4 j1 j2 j3 j4 j5 u1 u3 tI : Tok) (oc oL o136 : Obj) (pm ctv : Value) (params : Arguments) (body : Expr) (scope : Scope) (vsc : Array Value) (tq : Tok) (a : Nat) (wd : List Nat) (c0 : Nat) (r0 : List Nat) :
   gtParts (K39 w.params) = some (ob, ib, gsc) → Below (ktrTop dp un gd cn cs L a0 ccd cl outer) base (envX cn cs L a0 ccd cl :: outer) g → (K39 w.params).In g → Top p loose mean mg mb g → cs.kind = .function →
   lamParts (K39 w.params) 141 1 = some (params, body, scope) → oc.data = .fields vsc → vsc[1]? = some (.str (Str.ofString "_law_stream.<locals>.<lambda>") tq) → oL.data = .cell (some (.ref D)) → LT.lt (α := Nat) 136 D → LT.lt (α := Nat) D cL → LT.lt (α := Nat) cL st → LT.lt (α := Nat) cL ds → LT.lt (α := Nat) st c' → LT.lt (α := Nat) ds c' → LT.lt (α := Nat) c' f → LT.lt (α := Nat) f x → LT.lt (α := Nat) f dx → Ne (α := Nat) st ds → Ne (α := Nat) x dx → LT.lt (α := Nat) f pb → Ne (α := Nat) x pb → Ne (α := Nat) dx pb → LT.lt (α := Nat) f I → LT.lt (α := Nat) f bm → Ne (α := Nat) I dx → Ne (α := Nat) bm dx → Ne (α := Nat) I bm → Ne (α := Nat) I x → Ne (α := Nat) bm x → Ne (α := Nat) I pb → Ne (α := Nat) bm pb → CodeHd base 140 136 → a < 128 → plainC a = true → (∀ c ∈ wd, c < 128 ∧ plainC c = true) → wd.length < 60 → c0 < 128 → isWs c0 = true → dp + 36 < recursionLimit → un + 203 < cLine →
   ∀ sk : List Nat, (∀ c ∈ sk, c < 128 ∧ isWs c = true) → ∀ (fuel : Nat), sk.length < fuel → ∀ (s : Shared) (E : Value → Shared → Prop), PassesOwn (model rw9.row.prog w) ((ktrTop dp un gd cn cs L a0 ccd cl outer).deeper (envOf (Str.ofString "_netrclex.get_token") gsc L' 120 (.ref 119))) (envOf (Str.ofString "_netrclex.get_token") gsc L' 120 (.ref 119)) E → ∀ (n : Int) (tn tT : Tok) (vs : List Value) (cnt : Nat) (och : Option Value),
   Fr g L' s.heap (fun y => if y = Str.ofString "ch" then och else if y = Str.ofString "fiter" then some (.ref I) else if y = Str.ofString "token" then some (.str (Str.ofString "") tT) else List.lookup y [(Str.ofString "self", .ref x)]) → News g L' s.heap [(D, W.listOf vs.toArray cnt), (dx, dictOf [{ hash := PyData.keyHash w.params (Str.ofString "lineno"), key := .str (Str.ofString "lineno") k1, val := .int n tn }, { hash := PyData.keyHash w.params (Str.ofString "instream"), key := .str (Str.ofString "instream") k2, val := .ref st }, { hash := PyData.keyHash w.params (Str.ofString "whitespace"), key := .str (Str.ofString "whitespace") k3, val := .str (Str.ofString "\n\t\r ") tw }, { hash := PyData.keyHash w.params (Str.ofString "pushback"), key := .str (Str.ofString "pushback") k4, val := .ref pb }] 4), (x, instObj 130 dx), (st, instObj 130 ds), (ds, dictOf [{ hash := PyData.keyHash w.params (Str.ofString "lineno"), key := .str (Str.ofString "lineno") j1, val := .int 1 u1 }, { hash := PyData.keyHash w.params (Str.ofString "instream"), key := .str (Str.ofString "instream") j2, val := .none }, { hash := PyData.keyHash w.params (Str.ofString "whitespace"), key := .str (Str.ofString "whitespace") j3, val := .str (Str.ofString "\n\t\r ") u3 }, { hash := PyData.keyHash w.params (Str.ofString "pushback"), key := .str (Str.ofString "pushback") j4, val := .ref pa }, { hash := PyData.keyHash w.params (Str.ofString "read"), key := .str (Str.ofString "read") j5, val := .ref f }] 5), (f, kla_obj (Str.ofString "<lambda>") (Str.ofString "_law_stream.<locals>.<lambda>") params body scope [(Str.ofString "left", cL)] pm c' ctv), (c', oc), (cL, oL), (136, o136), (I, ciObj bm tI), (bm, methodObj (.ref 113) (.ref x)), (pb, W.listOf (#[] : Array Value) 0)] → Chs vs (sk ++ a :: (wd ++ c0 :: r0)) → vs.length ≤ 1000 →
   (∀ h' tk' m' vs' cnt' n' tn' tT', Fr g L' h' m' → News g L' h' [(D, W.listOf vs'.toArray cnt'), (dx, dictOf [{ hash := PyData.keyHash w.params (Str.ofString "lineno"), key := .str (Str.ofString "lineno") k1, val := .int n' tn' }, { hash := PyData.keyHash w.params (Str.ofString "instream"), key := .str (Str.ofString "instream") k2, val := .ref st }, { hash := PyData.keyHash w.params (Str.ofString "whitespace"), key := .str (Str.ofString "whitespace") k3, val := .str (Str.ofString "\n\t\r ") tw }, { hash := PyData.keyHash w.params (Str.ofString "pushback"), key := .str (Str.ofString "pushback") k4, val := .ref pb }] 4), (x, instObj 130 dx), (st, instObj 130 ds), (ds, dictOf [{ hash := PyData.keyHash w.params (Str.ofString "lineno"), key := .str (Str.ofString "lineno") j1, val := .int 1 u1 }, { hash := PyData.keyHash w.params (Str.ofString "instream"), key := .str (Str.ofString "instream") j2, val := .none }, { hash := PyData.keyHash w.params (Str.ofString "whitespace"), key := .str (Str.ofString "whitespace") j3, val := .str (Str.ofString "\n\t\r ") u3 }, { hash := PyData.keyHash w.params (Str.ofString "pushback"), key := .str (Str.ofString "pushback") j4, val := .ref pa }, { hash := PyData.keyHash w.params (Str.ofString "read"), key := .str (Str.ofString "read") j5, val := .ref f }] 5), (f, kla_obj (Str.ofString "<lambda>") (Str.ofString "_law_stream.<locals>.<lambda>") params body scope [(Str.ofString "left", cL)] pm c' ctv), (c', oc), (cL, oL), (136, o136), (I, ciObj bm tI), (bm, methodObj (.ref 113) (.ref x)), (pb, W.listOf (#[] : Array Value) 0)] → Chs vs' r0 → n' = n + nls sk + nlOf [c0] → Q (.ret (.str (sL (a :: wd)) tT')) { s with heap := h', toks := tk' }) →
   OwitRest rw9.row.prog w ((ktrTop dp un gd cn cs L a0 ccd cl outer).deeper (envOf (Str.ofString "_netrclex.get_token") gsc L' 120 (.ref 119))) E (envOf (Str.ofString "_netrclex.get_token") gsc L' 120 (.ref 119)) (Str.ofString "ch") ob Q I fuel s := by
  k_fill
  w_top off
  k_with_none
  (k_with "my omega" => (first | with_reducible assumption | (law_purse 30000 => lia) | omega +splitDisjunctions))
  (k_with "my mem" => (first | exact m9_0 | exact m9_1 | exact m9_2 | exact m9_3 | exact m9_4 | exact m9_5 | exact m9_6 | exact m9_7 | (refine' m9_s ?_; k_mem)))
  (k_with "my sub" => (first | exact allNil | exact allCons (by k_mem) (by lcg_sub) | (intro q9 hq9; repeat (first | with_reducible exact hq9 | refine List.mem_cons_of_mem _ ?_))))
  (k_with "my room" => ktr_room)
  (k_with "my units" => ktr_units)
  (k_with "my ne" => (refine neN ?_; (try dsimp only); first | exact NeH.out (by assumption) | exact Ne.symm (NeH.out (by assumption)) | omega))
  (k_with "my all" => (first | exact allNil | (refine' allCons ?_ ?_; focus k_ne; k_all)))
  (k_with "my exec Assign" => k_fold)
  (k_with "my exec Expr" => k_fold)
  (k_with "my exec If" => k_fold)
  (k_with "my exec AugAssign" => k_fold)
  (k_with "my eval BinOp" => k_fold)
  (k_with "my eval Compare" => k_fold)
  (k_with "my eval Subscript" => k_fold)
  (k_with "my eval Call" => k_fold)
  (k_with "my eval Call Attribute" => k_fold)
  (k_with "my eval IfExp" => k_fold)
  (k_with "my eval List" => k_fold)
  (k_with "my eval Tuple" => k_fold)
  intro hgp B X TT hk hp hoc hvs hL q0 q1 q2 q3 q4 q5 q6 q7 q8 q9 q10 pb1 pb2 pb3 i0 i1 i2 i3 i4 i5 i6 i7 i8 hch a1 a2 hwd hwl c01 c02 hdp hun sk
  obtain ⟨zz0, zz1, zz2, zz3, zz4, zz5, zz6, zz7, zz8, zz9, zz10, zz11, zz12, zz13, zz14⟩ := lexNe q0 q1 q2 q3 q4 q5 q6 q7 q8 q9 q10
  cases hgp
  induction sk with
  | nil =>
    intro hsk fuel hfu s E hE n tn tT vs cnt och F N hc hsz hret
    obtain ⟨fu, rfl⟩ : ∃ k, fuel = k + 1 := ⟨fuel - 1, by omega⟩
    have hc : Chs vs (a :: (wd ++ c0 :: r0)) := hc
    have hin := (ws_in a1).trans (plain_ws a2)
    have hbs := bs_eq a2
    have hqt := qt_eq a2
    (k_with "my pyNext ref" => (k_here; (k_dflt (refine' nextcS _ _ _ _ _ _ _ _ _ _ _ _ _ _ _ _ _ _ _ _ _ (fun _ _ => True) _ _ _ _ _ _ _ _ _ _ _ _ _ _ _ _ _ _ _ _ _ _ _ _ _ _ _ _ _ _ _ _ _ _ _ _ _ _ _ _ _ _ _ (by k_asm) (by k_asm) (by k_asm) (newsCons (by k_asm) (by k_mem) (newsCons (by k_asm) (by k_mem) (newsCons (by k_asm) (by k_mem) (newsCons (by k_asm) (by k_mem) (newsCons (by k_asm) (by k_mem) (newsCons (by k_asm) (by k_mem) (newsCons (by k_asm) (by k_mem) (newsCons (by k_asm) (by k_mem) (newsCons (by k_asm) (by k_mem) newsNil))))))))) (by k_asm) rfl (by assumption) (by assumption) (by assumption) (by assumption) (by first | with_reducible assumption | omega) (by first | with_reducible assumption | omega) (by first | with_reducible assumption | omega) (by first | with_reducible assumption | omega) (by first | with_reducible assumption | omega) (by first | with_reducible assumption | omega) (by first | with_reducible assumption | omega) (by first | with_reducible assumption | omega) (by first | with_reducible assumption | omega) (by first | with_reducible assumption | omega) (by first | with_reducible assumption | omega) (by assumption) (by assumption) (by first | with_reducible assumption | omega) (newsGet (by k_asm) (by k_mem)) (newsGet (by k_asm) (by k_mem)) (by first | with_reducible assumption | omega) (by first | with_reducible assumption | omega) (by first | with_reducible assumption | omega) (by first | with_reducible assumption | omega) (by ktr_room) (by ktr_units) ?_); intro t9 h9 tk9 vs9 cnt9 n9 tn9 kb9 gD9 c9 gx9 en9; k_dflt (have F9 := kb2Fr (by k_asm) (by k_asm) (P := D) (R := dx) (o := W.listOf vs.toArray cnt) (o' := dictOf [{ hash := PyData.keyHash w.params (Str.ofString "lineno"), key := .str (Str.ofString "lineno") k1, val := .int n tn }, { hash := PyData.keyHash w.params (Str.ofString "instream"), key := .str (Str.ofString "instream") k2, val := .ref st }, { hash := PyData.keyHash w.params (Str.ofString "whitespace"), key := .str (Str.ofString "whitespace") k3, val := .str (Str.ofString "\n\t\r ") tw }, { hash := PyData.keyHash w.params (Str.ofString "pushback"), key := .str (Str.ofString "pushback") k4, val := .ref pb }] 4) (by k_mem) (by k_mem) kb9; have N9 := kb2Tab (P := D) (R := dx) (o := W.listOf vs.toArray cnt) (o' := dictOf [{ hash := PyData.keyHash w.params (Str.ofString "lineno"), key := .str (Str.ofString "lineno") k1, val := .int n tn }, { hash := PyData.keyHash w.params (Str.ofString "instream"), key := .str (Str.ofString "instream") k2, val := .ref st }, { hash := PyData.keyHash w.params (Str.ofString "whitespace"), key := .str (Str.ofString "whitespace") k3, val := .str (Str.ofString "\n\t\r ") tw }, { hash := PyData.keyHash w.params (Str.ofString "pushback"), key := .str (Str.ofString "pushback") k4, val := .ref pb }] 4) (by k_asm) (by k_mem) (by k_mem) gD9 gx9 (kb2News (news := [(x, instObj 130 dx), (st, instObj 130 ds), (ds, dictOf [{ hash := PyData.keyHash w.params (Str.ofString "lineno"), key := .str (Str.ofString "lineno") j1, val := .int 1 u1 }, { hash := PyData.keyHash w.params (Str.ofString "instream"), key := .str (Str.ofString "instream") j2, val := .none }, { hash := PyData.keyHash w.params (Str.ofString "whitespace"), key := .str (Str.ofString "whitespace") j3, val := .str (Str.ofString "\n\t\r ") u3 }, { hash := PyData.keyHash w.params (Str.ofString "pushback"), key := .str (Str.ofString "pushback") j4, val := .ref pa }, { hash := PyData.keyHash w.params (Str.ofString "read"), key := .str (Str.ofString "read") j5, val := .ref f }] 5), (f, kla_obj (Str.ofString "<lambda>") (Str.ofString "_law_stream.<locals>.<lambda>") params body scope [(Str.ofString "left", cL)] pm c' ctv), (c', oc), (cL, oL), (136, o136), (I, ciObj bm tI), (bm, methodObj (.ref 113) (.ref x)), (pb, W.listOf (#[] : Array Value) 0)]) (newsCons (by k_asm) (by k_mem) (newsCons (by k_asm) (by k_mem) (newsCons (by k_asm) (by k_mem) (newsCons (by k_asm) (by k_mem) (newsCons (by k_asm) (by k_mem) (newsCons (by k_asm) (by k_mem) (newsCons (by k_asm) (by k_mem) (newsCons (by k_asm) (by k_mem) (newsCons (by k_asm) (by k_mem) (newsCons (by k_asm) (by k_mem) newsNil)))))))))) (by k_all) (by k_all) kb9)); (try dsimp only))))
    (k_with "my compareOp Eq str str" => (k_here; refine eqS (by assumption) ?_))
    (k_with "my compareOp In str str" => (k_here; refine inS (by assumption) ?_))
    (k_with "my exec For Name Name cons nil" => (k_here; k_dflt (refine owit_for (hE := hE) ?_)))
    (k_with "my pyIter ref" => (k_here; k_dflt (refine ci_pyIter (newsGet (by k_asm) (by k_mem)) rfl ?_)))
    (k_with "my OwitRest" => (refine innerLoop w p loose mean mg mb dp un gd cn cs L a0 ccd cl outer base g L' _ _ _ _ x dx st ds pa pb f c' D cL I bm tw k1 k2 k3 k4 j1 j2 j3 j4 j5 u1 u3 tI oc oL o136 pm ctv params body scope vsc tq c0 r0 rfl B X TT hk hp hoc hvs hL q0 q1 q2 q3 q4 q5 q6 q7 q8 q9 q10 pb1 pb2 pb3 i0 i1 i2 i3 i4 i5 i6 i7 i8 hch c01 c02 (by first | with_reducible assumption | omega) (by first | with_reducible assumption | omega) wd hwd _ (by first | with_reducible assumption | omega) _ _ _ _ _ _ _ _ _ (frCongr (by k_asm) mapI) (by k_asm) c9 (chsTail hc c9 hsz) (by have e : (Str.ofString "" ++ (⟨#[a]⟩ : Str)).length = 1 := rfl; omega) ?_; intro h2 tk2 m2 vs2 cnt2 n2 tn2 tT2 F2 N2 c2 en2))
    refine OwitRest.succ ?_
    dsimp only
    k_steps
    rw [emp_sL]
    exact hret _ _ _ _ _ _ _ _ (by assumption) (by assumption) c2 (by rw [en2, en9, nl_plain a2]; show _ = n + 0 + _; omega)
  | cons c sk ih =>
    intro hsk fuel hfu s E hE n tn tT vs cnt och F N hc hsz hret
    obtain ⟨fu, rfl⟩ : ∃ k, fuel = k + 1 := ⟨fuel - 1, by omega⟩
    have hc : Chs vs (c :: (sk ++ a :: (wd ++ c0 :: r0))) := hc
    have hpc := hsk c (.head _)
    have hin := (ws_in hpc.1).trans hpc.2
    (k_with "my pyNext ref" => (k_here; (k_dflt (refine' nextcS _ _ _ _ _ _ _ _ _ _ _ _ _ _ _ _ _ _ _ _ _ (fun _ _ => True) _ _ _ _ _ _ _ _ _ _ _ _ _ _ _ _ _ _ _ _ _ _ _ _ _ _ _ _ _ _ _ _ _ _ _ _ _ _ _ _ _ _ _ (by k_asm) (by k_asm) (by k_asm) (newsCons (by k_asm) (by k_mem) (newsCons (by k_asm) (by k_mem) (newsCons (by k_asm) (by k_mem) (newsCons (by k_asm) (by k_mem) (newsCons (by k_asm) (by k_mem) (newsCons (by k_asm) (by k_mem) (newsCons (by k_asm) (by k_mem) (newsCons (by k_asm) (by k_mem) (newsCons (by k_asm) (by k_mem) newsNil))))))))) (by k_asm) rfl (by assumption) (by assumption) (by assumption) (by assumption) (by first | with_reducible assumption | omega) (by first | with_reducible assumption | omega) (by first | with_reducible assumption | omega) (by first | with_reducible assumption | omega) (by first | with_reducible assumption | omega) (by first | with_reducible assumption | omega) (by first | with_reducible assumption | omega) (by first | with_reducible assumption | omega) (by first | with_reducible assumption | omega) (by first | with_reducible assumption | omega) (by first | with_reducible assumption | omega) (by assumption) (by assumption) (by first | with_reducible assumption | omega) (newsGet (by k_asm) (by k_mem)) (newsGet (by k_asm) (by k_mem)) (by first | with_reducible assumption | omega) (by first | with_reducible assumption | omega) (by first | with_reducible assumption | omega) (by first | with_reducible assumption | omega) (by ktr_room) (by ktr_units) ?_); intro t9 h9 tk9 vs9 cnt9 n9 tn9 kb9 gD9 c9 gx9 en9; k_dflt (have F9 := kb2Fr (by k_asm) (by k_asm) (P := D) (R := dx) (o := W.listOf vs.toArray cnt) (o' := dictOf [{ hash := PyData.keyHash w.params (Str.ofString "lineno"), key := .str (Str.ofString "lineno") k1, val := .int n tn }, { hash := PyData.keyHash w.params (Str.ofString "instream"), key := .str (Str.ofString "instream") k2, val := .ref st }, { hash := PyData.keyHash w.params (Str.ofString "whitespace"), key := .str (Str.ofString "whitespace") k3, val := .str (Str.ofString "\n\t\r ") tw }, { hash := PyData.keyHash w.params (Str.ofString "pushback"), key := .str (Str.ofString "pushback") k4, val := .ref pb }] 4) (by k_mem) (by k_mem) kb9; have N9 := kb2Tab (P := D) (R := dx) (o := W.listOf vs.toArray cnt) (o' := dictOf [{ hash := PyData.keyHash w.params (Str.ofString "lineno"), key := .str (Str.ofString "lineno") k1, val := .int n tn }, { hash := PyData.keyHash w.params (Str.ofString "instream"), key := .str (Str.ofString "instream") k2, val := .ref st }, { hash := PyData.keyHash w.params (Str.ofString "whitespace"), key := .str (Str.ofString "whitespace") k3, val := .str (Str.ofString "\n\t\r ") tw }, { hash := PyData.keyHash w.params (Str.ofString "pushback"), key := .str (Str.ofString "pushback") k4, val := .ref pb }] 4) (by k_asm) (by k_mem) (by k_mem) gD9 gx9 (kb2News (news := [(x, instObj 130 dx), (st, instObj 130 ds), (ds, dictOf [{ hash := PyData.keyHash w.params (Str.ofString "lineno"), key := .str (Str.ofString "lineno") j1, val := .int 1 u1 }, { hash := PyData.keyHash w.params (Str.ofString "instream"), key := .str (Str.ofString "instream") j2, val := .none }, { hash := PyData.keyHash w.params (Str.ofString "whitespace"), key := .str (Str.ofString "whitespace") j3, val := .str (Str.ofString "\n\t\r ") u3 }, { hash := PyData.keyHash w.params (Str.ofString "pushback"), key := .str (Str.ofString "pushback") j4, val := .ref pa }, { hash := PyData.keyHash w.params (Str.ofString "read"), key := .str (Str.ofString "read") j5, val := .ref f }] 5), (f, kla_obj (Str.ofString "<lambda>") (Str.ofString "_law_stream.<locals>.<lambda>") params body scope [(Str.ofString "left", cL)] pm c' ctv), (c', oc), (cL, oL), (136, o136), (I, ciObj bm tI), (bm, methodObj (.ref 113) (.ref x)), (pb, W.listOf (#[] : Array Value) 0)]) (newsCons (by k_asm) (by k_mem) (newsCons (by k_asm) (by k_mem) (newsCons (by k_asm) (by k_mem) (newsCons (by k_asm) (by k_mem) (newsCons (by k_asm) (by k_mem) (newsCons (by k_asm) (by k_mem) (newsCons (by k_asm) (by k_mem) (newsCons (by k_asm) (by k_mem) (newsCons (by k_asm) (by k_mem) (newsCons (by k_asm) (by k_mem) newsNil)))))))))) (by k_all) (by k_all) kb9)); (try dsimp only))))
    (k_with "my compareOp Eq str str" => (k_here; refine eqS (by assumption) ?_))
    (k_with "my compareOp In str str" => (k_here; refine inS (by assumption) ?_))
    (k_with "my exec For Name Name cons nil" => (k_here; k_dflt (refine owit_for (hE := hE) ?_)))
    (k_with "my pyIter ref" => (k_here; k_dflt (refine ci_pyIter (newsGet (by k_asm) (by k_mem)) rfl ?_)))
    (k_with "my OwitRest" => (refine ih (fun d hd => hsk d (.tail _ hd)) _ (by simp only [List.length_cons] at hfu; omega) _ _ hE _ _ _ _ _ _ (frCongr (by k_asm) (mapO (a := none))) (by k_asm) c9 (chsTail hc c9 hsz) ?_; intro h2 tk2 m2 vs2 cnt2 n2 tn2 tT2 F2 N2 c2 en2))
    refine OwitRest.succ ?_
    dsimp only
    k_steps
    exact hret _ _ _ _ _ _ _ _ (by assumption) (by assumption) c2 (by rw [en2, en9]; show _ = n + (nlOf [c] + nls sk) + nlOf [c0]; omega)
end
section
open PySem PySem.W PyProof.Rows PySem.Calls
theorem ci_newB {prog : Program} {w : World} {A : Around} {E : Value → Shared → Prop} {s : Shared} {h₀ : Heap} {L : Addr} {m : Str → Option Value} {news : List (Addr × Obj)} {bm : Addr} {f self : Value} {t : Tok} {Q : Value → Shared → Prop} (F : Fr h₀ L s.heap m) (N : News h₀ L s.heap news) (hm : (bm, methodObj f self) ∈ news)
    (h : ∀ I h' b', b' = bm → Fr h₀ L h' m → News h₀ L h' ((I, ciObj bm t) :: news) → (∀ p ∈ news, p.1 < I) → Q (.ref I) { s with heap := h' }) : wpAny (model prog w) A (call (.builtin "iter") [.ref bm, .str (Str.ofString "") t]) Q E s :=
  ci_new F N hm fun I h' F' N' l => h I h' bm rfl F' N' l
theorem kb3Fr {h₀ h h' : Heap} {L P R S : Addr} {m : Str → Option Value} {o o' o'' : Obj} {news : List (Addr × Obj)} (F : Fr h₀ L h m) (N : News h₀ L h news) (hm : (P, o) ∈ news) (hm' : (R, o') ∈ news) (hm'' : (S, o'') ∈ news) (k : ∀ b o, h.get? b = some o → b ≠ P → b ≠ R → b ≠ S → h'.get? b = some o) : Fr h₀ L h' m := by
  obtain ⟨hP, hPL, hPn⟩ := N _ hm
  obtain ⟨hR, hRL, hRn⟩ := N _ hm'
  obtain ⟨hS, hSL, hSn⟩ := N _ hm''
  obtain ⟨oL, es, ep, hL, r⟩ := F.ns
  refine ⟨⟨oL, es, ep, k L oL hL (fun e => hPL e.symm) (fun e => hRL e.symm) (fun e => hSL e.symm), r⟩, fun b x e => k b x (F.keep b x e) (fun q => ?_) (fun q => ?_) (fun q => ?_), F.above⟩
  · rw [q] at e; rw [hPn] at e; cases e
  · rw [q] at e; rw [hRn] at e; cases e
  · rw [q] at e; rw [hSn] at e; cases e
theorem kb3News {h₀ h h' : Heap} {L P R S : Addr} {news : List (Addr × Obj)} (N : News h₀ L h news) (hn : ∀ p ∈ news, Ne (α := Nat) p.1 P) (hn' : ∀ p ∈ news, Ne (α := Nat) p.1 R) (hn'' : ∀ p ∈ news, Ne (α := Nat) p.1 S) (k : ∀ b o, h.get? b = some o → b ≠ P → b ≠ R → b ≠ S → h'.get? b = some o) : News h₀ L h' news :=
  fun p hp => ⟨k _ _ (N p hp).1 (hn p hp) (hn' p hp) (hn'' p hp), (N p hp).2⟩
theorem kb3Tab {h₀ h h' : Heap} {L P R S : Addr} {o o' o'' o1 o2 o3 : Obj} {news r : List (Addr × Obj)} (N : News h₀ L h news) (hm : (P, o) ∈ news) (hm' : (R, o') ∈ news) (hm'' : (S, o'') ∈ news) (hP : h'.get? P = some o1) (hR : h'.get? R = some o2) (hS : h'.get? S = some o3) (X : News h₀ L h' r) : News h₀ L h' ((P, o1) :: (R, o2) :: (S, o3) :: r) := by
  intro q hq
  rcases List.mem_cons.mp hq with rfl | hq
  · exact ⟨hP, (N _ hm).2⟩
  · rcases List.mem_cons.mp hq with rfl | hq
    · exact ⟨hR, (N _ hm').2⟩
    · rcases List.mem_cons.mp hq with rfl | hq
      · exact ⟨hS, (N _ hm'').2⟩
      · exact X q hq
theorem mapS {x I : Addr} {tT : Tok} : (fun y => if y = Str.ofString "fiter" then some (Value.ref I) else if y = Str.ofString "token" then some (Value.str (Str.ofString "") tT) else List.lookup y [(Str.ofString "self", Value.ref x)]) = (fun y => if y = Str.ofString "ch" then none else if y = Str.ofString "fiter" then some (.ref I) else if y = Str.ofString "token" then some (.str (Str.ofString "") tT) else List.lookup y [(Str.ofString "self", .ref x)]) := by
  funext y
  by_cases h2 : y = Str.ofString "ch"
  · subst h2
    have e1 : ¬ Str.ofString "ch" = Str.ofString "fiter" := by decide +kernel
    have e2 : ¬ Str.ofString "ch" = Str.ofString "token" := by decide +kernel
    have e3 : List.lookup (Str.ofString "ch") [(Str.ofString "self", Value.ref x)] = none := by
      have e4 : (Str.ofString "ch" == Str.ofString "self") = false := by decide +kernel
      simp [List.lookup, e4]
    simp only [e1, e2, e3, if_true, if_false]
  · simp only [h2, if_false]
set_option maxRecDepth 100000 in
set_option maxHeartbeats 8000000 in
set_option pp.deepTerms false in
set_option pp.maxSteps 3000 in
theorem nextcN (w : World) (p : Program) (loose : List Str) (mean : ExcName → Option Value) (mg mb : Str → Option Value) (dp un : Nat) (gd : Option (List Code)) (cn : Str) (cs : Scope) (a0 : Addr) (ccd : Value) (cl : List (Str × Addr)) (outer : List Env) (A₀ : Around) (base h₀ : Heap) (L : Addr) (m : Str → Option Value) (s : Shared) (Q E : Value → Shared → Prop) (x dx st ds pa pb f c' D cL : Addr) (n : Int) (tn tw k1 k2 k3 k4 j1 j2 j3 j4 j5 u1 u3 : Tok) (oc oL o136 : Obj) (pm ctv : Value) (params : Arguments) (body : Expr) (scope : Scope) (vsc : Array Value) (tq : Tok) (vs : List Value) (cnt : Nat) (I bm : Addr) (tI : Tok) (Qo : Option Value → Shared → Prop) :
   Below A₀ base outer h₀ → Fr h₀ L s.heap m → (K39 w.params).In h₀ → News h₀ L s.heap ([(x, instObj 130 dx), (dx, dictOf [{ hash := PyData.keyHash w.params (Str.ofString "lineno"), key := .str (Str.ofString "lineno") k1, val := .int n tn }, { hash := PyData.keyHash w.params (Str.ofString "instream"), key := .str (Str.ofString "instream") k2, val := .ref st }, { hash := PyData.keyHash w.params (Str.ofString "whitespace"), key := .str (Str.ofString "whitespace") k3, val := .str (Str.ofString "\n\t\r ") tw }, { hash := PyData.keyHash w.params (Str.ofString "pushback"), key := .str (Str.ofString "pushback") k4, val := .ref pb }] 4), (st, instObj 130 ds), (ds, dictOf [{ hash := PyData.keyHash w.params (Str.ofString "lineno"), key := .str (Str.ofString "lineno") j1, val := .int 1 u1 }, { hash := PyData.keyHash w.params (Str.ofString "instream"), key := .str (Str.ofString "instream") j2, val := .none }, { hash := PyData.keyHash w.params (Str.ofString "whitespace"), key := .str (Str.ofString "whitespace") j3, val := .str (Str.ofString "\n\t\r ") u3 }, { hash := PyData.keyHash w.params (Str.ofString "pushback"), key := .str (Str.ofString "pushback") j4, val := .ref pa }, { hash := PyData.keyHash w.params (Str.ofString "read"), key := .str (Str.ofString "read") j5, val := .ref f }] 5), (f, kla_obj (Str.ofString "<lambda>") (Str.ofString "_law_stream.<locals>.<lambda>") params body scope [(Str.ofString "left", cL)] pm c' ctv), (c', oc), (cL, oL), (136, o136), (D, W.listOf vs.toArray cnt)]) → Top p loose mean mg mb h₀ → cs.kind = .function → lamParts (K39 w.params) 141 1 = some (params, body, scope) → oc.data = .fields vsc → vsc[1]? = some (.str (Str.ofString "_law_stream.<locals>.<lambda>") tq) → oL.data = .cell (some (.ref D)) → LT.lt (α := Nat) 136 D → LT.lt (α := Nat) D cL → LT.lt (α := Nat) cL st → LT.lt (α := Nat) cL ds → LT.lt (α := Nat) st c' → LT.lt (α := Nat) ds c' → LT.lt (α := Nat) c' f → LT.lt (α := Nat) f x → LT.lt (α := Nat) f dx → Ne (α := Nat) st ds → Ne (α := Nat) x dx → CodeHd base 140 136 → Chs vs [] → vs.length ≤ 1000 → s.heap.get? I = some (ciObj bm tI) → s.heap.get? bm = some (methodObj (.ref 113) (.ref x)) → Ne (α := Nat) I D → Ne (α := Nat) I dx → Ne (α := Nat) bm D → Ne (α := Nat) bm dx → dp + 29 < recursionLimit → un + 170 < cLine →
   (∀ h' tk' vs' cnt' tn', (∀ b o, s.heap.get? b = some o → b ≠ D → b ≠ dx → b ≠ I → h'.get? b = some o) → h'.get? D = some (W.listOf vs'.toArray cnt') → Chs vs' [] → h'.get? dx = some (dictOf [{ hash := PyData.keyHash w.params (Str.ofString "lineno"), key := .str (Str.ofString "lineno") k1, val := .int n tn' }, { hash := PyData.keyHash w.params (Str.ofString "instream"), key := .str (Str.ofString "instream") k2, val := .ref st }, { hash := PyData.keyHash w.params (Str.ofString "whitespace"), key := .str (Str.ofString "whitespace") k3, val := .str (Str.ofString "\n\t\r ") tw }, { hash := PyData.keyHash w.params (Str.ofString "pushback"), key := .str (Str.ofString "pushback") k4, val := .ref pb }] 4) → h'.get? I = some ciEnd → Qo none { s with heap := h', toks := tk' }) →
   wpAny (model rw9.row.prog w) (ktrTop dp un gd cn cs L a0 ccd cl outer) (pyNext (.ref I)) Qo E s := by
  intro B F X N T hk hp hoc hvs hL q0 q1 q2 q3 q4 q5 q6 q7 q8 q9 q10 hch hc hsz hI hbm i1 i2 i3 i4 hdp hun hnone
  obtain ⟨zz0, zz1, zz2, zz3, zz4, zz5, zz6, zz7, zz8, zz9, zz10, zz11, zz12, zz13, zz14⟩ := lexNe q0 q1 q2 q3 q4 q5 q6 q7 q8 q9 q10
  exact nextc w p loose mean mg mb dp un gd cn cs a0 ccd cl outer A₀ base h₀ L m s Q E x dx st ds pa pb f c' D cL n tn tw k1 k2 k3 k4 j1 j2 j3 j4 j5 u1 u3 oc oL o136 pm ctv params body scope vsc tq vs [] cnt I bm tI Qo B F X N T hk hp hoc hvs hL q0 q1 q2 q3 q4 q5 q6 q7 q8 q9 q10 hch hc hsz hI hbm i1 i2 i3 i4 hdp hun
    (fun c r t h' tk' vs' cnt' n' tn' e => nomatch e) (fun h' tk' vs' cnt' tn' _ kb gD cD gx gI => hnone h' tk' vs' cnt' tn' kb gD cD gx gI)
set_option maxRecDepth 100000 in
set_option maxHeartbeats 8000000 in
set_option pp.deepTerms false in
set_option pp.maxSteps 3000 in
theorem outerV2 (w : World) (p : Program) (loose : List Str) (mean : ExcName → Option Value) (mg mb : Str → Option Value) (dp un : Nat) (gd : Option (List Code)) (cn : Str) (cs : Scope) (L a0 : Addr) (ccd : Value) (cl : List (Str × Addr)) (outer : List Env) (base g : Heap) (L' : Addr) (Q : Flow → Shared → Prop) (ob ib : List Stmt) (gsc : Scope) (x dx st ds pa pb f c' D cL I bm : Addr) (tw k1 k2 k3 k4 j1 j2 j3 j4 j5 u1 u3 tI : Tok) (oc oL o136 : Obj) (pm ctv : Value) (params : Arguments) (body : Expr) (scope : Scope) (vsc : Array Value) (tq : Tok) :
   gtParts (K39 w.params) = some (ob, ib, gsc) → Below (ktrTop dp un gd cn cs L a0 ccd cl outer) base (envX cn cs L a0 ccd cl :: outer) g → (K39 w.params).In g → Top p loose mean mg mb g → cs.kind = .function →
   lamParts (K39 w.params) 141 1 = some (params, body, scope) → oc.data = .fields vsc → vsc[1]? = some (.str (Str.ofString "_law_stream.<locals>.<lambda>") tq) → oL.data = .cell (some (.ref D)) → LT.lt (α := Nat) 136 D → LT.lt (α := Nat) D cL → LT.lt (α := Nat) cL st → LT.lt (α := Nat) cL ds → LT.lt (α := Nat) st c' → LT.lt (α := Nat) ds c' → LT.lt (α := Nat) c' f → LT.lt (α := Nat) f x → LT.lt (α := Nat) f dx → Ne (α := Nat) st ds → Ne (α := Nat) x dx → LT.lt (α := Nat) f pb → Ne (α := Nat) x pb → Ne (α := Nat) dx pb → LT.lt (α := Nat) f I → LT.lt (α := Nat) f bm → Ne (α := Nat) I dx → Ne (α := Nat) bm dx → Ne (α := Nat) I bm → Ne (α := Nat) I x → Ne (α := Nat) bm x → Ne (α := Nat) I pb → Ne (α := Nat) bm pb → CodeHd base 140 136 → dp + 36 < recursionLimit → un + 203 < cLine →
   ∀ sk : List Nat, (∀ c ∈ sk, c < 128 ∧ isWs c = true) → ∀ (fuel : Nat), sk.length < fuel → ∀ (s : Shared) (E : Value → Shared → Prop), PassesOwn (model rw9.row.prog w) ((ktrTop dp un gd cn cs L a0 ccd cl outer).deeper (envOf (Str.ofString "_netrclex.get_token") gsc L' 120 (.ref 119))) (envOf (Str.ofString "_netrclex.get_token") gsc L' 120 (.ref 119)) E → ∀ (n : Int) (tn tT : Tok) (vs : List Value) (cnt : Nat) (och : Option Value),
   Fr g L' s.heap (fun y => if y = Str.ofString "ch" then och else if y = Str.ofString "fiter" then some (.ref I) else if y = Str.ofString "token" then some (.str (Str.ofString "") tT) else List.lookup y [(Str.ofString "self", .ref x)]) → News g L' s.heap [(D, W.listOf vs.toArray cnt), (dx, dictOf [{ hash := PyData.keyHash w.params (Str.ofString "lineno"), key := .str (Str.ofString "lineno") k1, val := .int n tn }, { hash := PyData.keyHash w.params (Str.ofString "instream"), key := .str (Str.ofString "instream") k2, val := .ref st }, { hash := PyData.keyHash w.params (Str.ofString "whitespace"), key := .str (Str.ofString "whitespace") k3, val := .str (Str.ofString "\n\t\r ") tw }, { hash := PyData.keyHash w.params (Str.ofString "pushback"), key := .str (Str.ofString "pushback") k4, val := .ref pb }] 4), (x, instObj 130 dx), (st, instObj 130 ds), (ds, dictOf [{ hash := PyData.keyHash w.params (Str.ofString "lineno"), key := .str (Str.ofString "lineno") j1, val := .int 1 u1 }, { hash := PyData.keyHash w.params (Str.ofString "instream"), key := .str (Str.ofString "instream") j2, val := .none }, { hash := PyData.keyHash w.params (Str.ofString "whitespace"), key := .str (Str.ofString "whitespace") j3, val := .str (Str.ofString "\n\t\r ") u3 }, { hash := PyData.keyHash w.params (Str.ofString "pushback"), key := .str (Str.ofString "pushback") j4, val := .ref pa }, { hash := PyData.keyHash w.params (Str.ofString "read"), key := .str (Str.ofString "read") j5, val := .ref f }] 5), (f, kla_obj (Str.ofString "<lambda>") (Str.ofString "_law_stream.<locals>.<lambda>") params body scope [(Str.ofString "left", cL)] pm c' ctv), (c', oc), (cL, oL), (136, o136), (I, ciObj bm tI), (bm, methodObj (.ref 113) (.ref x)), (pb, W.listOf (#[] : Array Value) 0)] → Chs vs sk → vs.length ≤ 1000 →
   (∀ h' tk' vs' cnt' n' tn' och', Fr g L' h' (fun y => if y = Str.ofString "ch" then och' else if y = Str.ofString "fiter" then some (.ref I) else if y = Str.ofString "token" then some (.str (Str.ofString "") tT) else List.lookup y [(Str.ofString "self", .ref x)]) → News g L' h' [(D, W.listOf vs'.toArray cnt'), (dx, dictOf [{ hash := PyData.keyHash w.params (Str.ofString "lineno"), key := .str (Str.ofString "lineno") k1, val := .int n' tn' }, { hash := PyData.keyHash w.params (Str.ofString "instream"), key := .str (Str.ofString "instream") k2, val := .ref st }, { hash := PyData.keyHash w.params (Str.ofString "whitespace"), key := .str (Str.ofString "whitespace") k3, val := .str (Str.ofString "\n\t\r ") tw }, { hash := PyData.keyHash w.params (Str.ofString "pushback"), key := .str (Str.ofString "pushback") k4, val := .ref pb }] 4), (I, ciEnd), (x, instObj 130 dx), (st, instObj 130 ds), (ds, dictOf [{ hash := PyData.keyHash w.params (Str.ofString "lineno"), key := .str (Str.ofString "lineno") j1, val := .int 1 u1 }, { hash := PyData.keyHash w.params (Str.ofString "instream"), key := .str (Str.ofString "instream") j2, val := .none }, { hash := PyData.keyHash w.params (Str.ofString "whitespace"), key := .str (Str.ofString "whitespace") j3, val := .str (Str.ofString "\n\t\r ") u3 }, { hash := PyData.keyHash w.params (Str.ofString "pushback"), key := .str (Str.ofString "pushback") j4, val := .ref pa }, { hash := PyData.keyHash w.params (Str.ofString "read"), key := .str (Str.ofString "read") j5, val := .ref f }] 5), (f, kla_obj (Str.ofString "<lambda>") (Str.ofString "_law_stream.<locals>.<lambda>") params body scope [(Str.ofString "left", cL)] pm c' ctv), (c', oc), (cL, oL), (136, o136), (bm, methodObj (.ref 113) (.ref x)), (pb, W.listOf (#[] : Array Value) 0)] → Chs vs' [] → n' = n + nls sk → Q .next { s with heap := h', toks := tk' }) →
   OwitRest rw9.row.prog w ((ktrTop dp un gd cn cs L a0 ccd cl outer).deeper (envOf (Str.ofString "_netrclex.get_token") gsc L' 120 (.ref 119))) E (envOf (Str.ofString "_netrclex.get_token") gsc L' 120 (.ref 119)) (Str.ofString "ch") ob Q I fuel s := by
  k_fill
  w_top off
  k_with_none
  (k_with "my omega" => (first | with_reducible assumption | (law_purse 30000 => lia) | omega +splitDisjunctions))
  (k_with "my mem" => (first | exact m9_0 | exact m9_1 | exact m9_2 | exact m9_3 | exact m9_4 | exact m9_5 | exact m9_6 | exact m9_7 | (refine' m9_s ?_; k_mem)))
  (k_with "my sub" => (first | exact allNil | exact allCons (by k_mem) (by lcg_sub) | (intro q9 hq9; repeat (first | with_reducible exact hq9 | refine List.mem_cons_of_mem _ ?_))))
  (k_with "my room" => ktr_room)
  (k_with "my units" => ktr_units)
  (k_with "my ne" => (refine neN ?_; (try dsimp only); first | exact NeH.out (by assumption) | exact Ne.symm (NeH.out (by assumption)) | omega))
  (k_with "my all" => (first | exact allNil | (refine' allCons ?_ ?_; focus k_ne; k_all)))
  (k_with "my exec Assign" => k_fold)
  (k_with "my exec Expr" => k_fold)
  (k_with "my exec If" => k_fold)
  (k_with "my exec AugAssign" => k_fold)
  (k_with "my eval BinOp" => k_fold)
  (k_with "my eval Compare" => k_fold)
  (k_with "my eval Subscript" => k_fold)
  (k_with "my eval Call" => k_fold)
  (k_with "my eval Call Attribute" => k_fold)
  (k_with "my eval IfExp" => k_fold)
  (k_with "my eval List" => k_fold)
  (k_with "my eval Tuple" => k_fold)
  intro hgp B X TT hk hp hoc hvs hL q0 q1 q2 q3 q4 q5 q6 q7 q8 q9 q10 pb1 pb2 pb3 i0 i1 i2 i3 i4 i5 i6 i7 i8 hch hdp hun sk
  obtain ⟨zz0, zz1, zz2, zz3, zz4, zz5, zz6, zz7, zz8, zz9, zz10, zz11, zz12, zz13, zz14⟩ := lexNe q0 q1 q2 q3 q4 q5 q6 q7 q8 q9 q10
  cases hgp
  induction sk with
  | nil =>
    intro hsk fuel hfu s E hE n tn tT vs cnt och F N hc0 hsz hret
    obtain ⟨fu, rfl⟩ : ∃ k, fuel = k + 1 := ⟨fuel - 1, by omega⟩
    (k_with "my pyNext ref" => (k_here; (k_dflt (refine' nextcN _ _ _ _ _ _ _ _ _ _ _ _ _ _ _ _ _ _ _ _ _ (fun _ _ => True) _ _ _ _ _ _ _ _ _ _ _ _ _ _ _ _ _ _ _ _ _ _ _ _ _ _ _ _ _ _ _ _ _ _ _ _ _ _ _ _ _ (by k_asm) (by k_asm) (by k_asm) (newsCons (by k_asm) (by k_mem) (newsCons (by k_asm) (by k_mem) (newsCons (by k_asm) (by k_mem) (newsCons (by k_asm) (by k_mem) (newsCons (by k_asm) (by k_mem) (newsCons (by k_asm) (by k_mem) (newsCons (by k_asm) (by k_mem) (newsCons (by k_asm) (by k_mem) (newsCons (by k_asm) (by k_mem) newsNil))))))))) (by k_asm) rfl (by assumption) (by assumption) (by assumption) (by assumption) (by first | with_reducible assumption | omega) (by first | with_reducible assumption | omega) (by first | with_reducible assumption | omega) (by first | with_reducible assumption | omega) (by first | with_reducible assumption | omega) (by first | with_reducible assumption | omega) (by first | with_reducible assumption | omega) (by first | with_reducible assumption | omega) (by first | with_reducible assumption | omega) (by first | with_reducible assumption | omega) (by first | with_reducible assumption | omega) (by assumption) hc0 (by first | with_reducible assumption | omega) (newsGet (by k_asm) (by k_mem)) (newsGet (by k_asm) (by k_mem)) (by first | with_reducible assumption | omega) (by first | with_reducible assumption | omega) (by first | with_reducible assumption | omega) (by first | with_reducible assumption | omega) (by ktr_room) (by ktr_units) ?_); intro h9 tk9 vs9 cnt9 tn9 kb9 gD9 c9 gx9 gI9; k_dflt (have F9 := kb3Fr (by k_asm) (by k_asm) (P := D) (R := dx) (S := I) (o := W.listOf vs.toArray cnt) (o' := dictOf [{ hash := PyData.keyHash w.params (Str.ofString "lineno"), key := .str (Str.ofString "lineno") k1, val := .int n tn }, { hash := PyData.keyHash w.params (Str.ofString "instream"), key := .str (Str.ofString "instream") k2, val := .ref st }, { hash := PyData.keyHash w.params (Str.ofString "whitespace"), key := .str (Str.ofString "whitespace") k3, val := .str (Str.ofString "\n\t\r ") tw }, { hash := PyData.keyHash w.params (Str.ofString "pushback"), key := .str (Str.ofString "pushback") k4, val := .ref pb }] 4) (o'' := ciObj bm tI) (by k_mem) (by k_mem) (by k_mem) kb9; have N9 := kb3Tab (P := D) (R := dx) (S := I) (o := W.listOf vs.toArray cnt) (o' := dictOf [{ hash := PyData.keyHash w.params (Str.ofString "lineno"), key := .str (Str.ofString "lineno") k1, val := .int n tn }, { hash := PyData.keyHash w.params (Str.ofString "instream"), key := .str (Str.ofString "instream") k2, val := .ref st }, { hash := PyData.keyHash w.params (Str.ofString "whitespace"), key := .str (Str.ofString "whitespace") k3, val := .str (Str.ofString "\n\t\r ") tw }, { hash := PyData.keyHash w.params (Str.ofString "pushback"), key := .str (Str.ofString "pushback") k4, val := .ref pb }] 4) (o'' := ciObj bm tI) (by k_asm) (by k_mem) (by k_mem) (by k_mem) gD9 gx9 gI9 (kb3News (news := [(x, instObj 130 dx), (st, instObj 130 ds), (ds, dictOf [{ hash := PyData.keyHash w.params (Str.ofString "lineno"), key := .str (Str.ofString "lineno") j1, val := .int 1 u1 }, { hash := PyData.keyHash w.params (Str.ofString "instream"), key := .str (Str.ofString "instream") j2, val := .none }, { hash := PyData.keyHash w.params (Str.ofString "whitespace"), key := .str (Str.ofString "whitespace") j3, val := .str (Str.ofString "\n\t\r ") u3 }, { hash := PyData.keyHash w.params (Str.ofString "pushback"), key := .str (Str.ofString "pushback") j4, val := .ref pa }, { hash := PyData.keyHash w.params (Str.ofString "read"), key := .str (Str.ofString "read") j5, val := .ref f }] 5), (f, kla_obj (Str.ofString "<lambda>") (Str.ofString "_law_stream.<locals>.<lambda>") params body scope [(Str.ofString "left", cL)] pm c' ctv), (c', oc), (cL, oL), (136, o136), (bm, methodObj (.ref 113) (.ref x)), (pb, W.listOf (#[] : Array Value) 0)]) (newsCons (by k_asm) (by k_mem) (newsCons (by k_asm) (by k_mem) (newsCons (by k_asm) (by k_mem) (newsCons (by k_asm) (by k_mem) (newsCons (by k_asm) (by k_mem) (newsCons (by k_asm) (by k_mem) (newsCons (by k_asm) (by k_mem) (newsCons (by k_asm) (by k_mem) (newsCons (by k_asm) (by k_mem) newsNil))))))))) (by k_all) (by k_all) (by k_all) kb9)); (try dsimp only))))
    refine OwitRest.succ ?_
    dsimp only
    k_steps
    exact hret _ _ _ _ _ _ _ (by assumption) (by assumption) (by assumption) (by show n = n + 0; omega)
  | cons c sk ih =>
    intro hsk fuel hfu s E hE n tn tT vs cnt och F N hc hsz hret
    obtain ⟨fu, rfl⟩ : ∃ k, fuel = k + 1 := ⟨fuel - 1, by omega⟩
    have hpc := hsk c (.head _)
    have hin := (ws_in hpc.1).trans hpc.2
    (k_with "my pyNext ref" => (k_here; (k_dflt (refine' nextcS _ _ _ _ _ _ _ _ _ _ _ _ _ _ _ _ _ _ _ _ _ (fun _ _ => True) _ _ _ _ _ _ _ _ _ _ _ _ _ _ _ _ _ _ _ _ _ _ _ _ _ _ _ _ _ _ _ _ _ _ _ _ _ _ _ _ _ _ _ (by k_asm) (by k_asm) (by k_asm) (newsCons (by k_asm) (by k_mem) (newsCons (by k_asm) (by k_mem) (newsCons (by k_asm) (by k_mem) (newsCons (by k_asm) (by k_mem) (newsCons (by k_asm) (by k_mem) (newsCons (by k_asm) (by k_mem) (newsCons (by k_asm) (by k_mem) (newsCons (by k_asm) (by k_mem) (newsCons (by k_asm) (by k_mem) newsNil))))))))) (by k_asm) rfl (by assumption) (by assumption) (by assumption) (by assumption) (by first | with_reducible assumption | omega) (by first | with_reducible assumption | omega) (by first | with_reducible assumption | omega) (by first | with_reducible assumption | omega) (by first | with_reducible assumption | omega) (by first | with_reducible assumption | omega) (by first | with_reducible assumption | omega) (by first | with_reducible assumption | omega) (by first | with_reducible assumption | omega) (by first | with_reducible assumption | omega) (by first | with_reducible assumption | omega) (by assumption) (by assumption) (by first | with_reducible assumption | omega) (newsGet (by k_asm) (by k_mem)) (newsGet (by k_asm) (by k_mem)) (by first | with_reducible assumption | omega) (by first | with_reducible assumption | omega) (by first | with_reducible assumption | omega) (by first | with_reducible assumption | omega) (by ktr_room) (by ktr_units) ?_); intro t9 h9 tk9 vs9 cnt9 n9 tn9 kb9 gD9 c9 gx9 en9; k_dflt (have F9 := kb2Fr (by k_asm) (by k_asm) (P := D) (R := dx) (o := W.listOf vs.toArray cnt) (o' := dictOf [{ hash := PyData.keyHash w.params (Str.ofString "lineno"), key := .str (Str.ofString "lineno") k1, val := .int n tn }, { hash := PyData.keyHash w.params (Str.ofString "instream"), key := .str (Str.ofString "instream") k2, val := .ref st }, { hash := PyData.keyHash w.params (Str.ofString "whitespace"), key := .str (Str.ofString "whitespace") k3, val := .str (Str.ofString "\n\t\r ") tw }, { hash := PyData.keyHash w.params (Str.ofString "pushback"), key := .str (Str.ofString "pushback") k4, val := .ref pb }] 4) (by k_mem) (by k_mem) kb9; have N9 := kb2Tab (P := D) (R := dx) (o := W.listOf vs.toArray cnt) (o' := dictOf [{ hash := PyData.keyHash w.params (Str.ofString "lineno"), key := .str (Str.ofString "lineno") k1, val := .int n tn }, { hash := PyData.keyHash w.params (Str.ofString "instream"), key := .str (Str.ofString "instream") k2, val := .ref st }, { hash := PyData.keyHash w.params (Str.ofString "whitespace"), key := .str (Str.ofString "whitespace") k3, val := .str (Str.ofString "\n\t\r ") tw }, { hash := PyData.keyHash w.params (Str.ofString "pushback"), key := .str (Str.ofString "pushback") k4, val := .ref pb }] 4) (by k_asm) (by k_mem) (by k_mem) gD9 gx9 (kb2News (news := [(x, instObj 130 dx), (st, instObj 130 ds), (ds, dictOf [{ hash := PyData.keyHash w.params (Str.ofString "lineno"), key := .str (Str.ofString "lineno") j1, val := .int 1 u1 }, { hash := PyData.keyHash w.params (Str.ofString "instream"), key := .str (Str.ofString "instream") j2, val := .none }, { hash := PyData.keyHash w.params (Str.ofString "whitespace"), key := .str (Str.ofString "whitespace") j3, val := .str (Str.ofString "\n\t\r ") u3 }, { hash := PyData.keyHash w.params (Str.ofString "pushback"), key := .str (Str.ofString "pushback") j4, val := .ref pa }, { hash := PyData.keyHash w.params (Str.ofString "read"), key := .str (Str.ofString "read") j5, val := .ref f }] 5), (f, kla_obj (Str.ofString "<lambda>") (Str.ofString "_law_stream.<locals>.<lambda>") params body scope [(Str.ofString "left", cL)] pm c' ctv), (c', oc), (cL, oL), (136, o136), (I, ciObj bm tI), (bm, methodObj (.ref 113) (.ref x)), (pb, W.listOf (#[] : Array Value) 0)]) (newsCons (by k_asm) (by k_mem) (newsCons (by k_asm) (by k_mem) (newsCons (by k_asm) (by k_mem) (newsCons (by k_asm) (by k_mem) (newsCons (by k_asm) (by k_mem) (newsCons (by k_asm) (by k_mem) (newsCons (by k_asm) (by k_mem) (newsCons (by k_asm) (by k_mem) (newsCons (by k_asm) (by k_mem) (newsCons (by k_asm) (by k_mem) newsNil)))))))))) (by k_all) (by k_all) kb9)); (try dsimp only))))
    (k_with "my compareOp Eq str str" => (k_here; refine eqS (by assumption) ?_))
    (k_with "my compareOp In str str" => (k_here; refine inS (by assumption) ?_))
    (k_with "my exec For Name Name cons nil" => (k_here; k_dflt (refine owit_for (hE := hE) ?_)))
    (k_with "my pyIter ref" => (k_here; k_dflt (refine ci_pyIter (newsGet (by k_asm) (by k_mem)) rfl ?_)))
    (k_with "my OwitRest" => (refine ih (fun d hd => hsk d (.tail _ hd)) _ (by simp only [List.length_cons] at hfu; omega) _ _ hE _ _ _ _ _ _ (frCongr (by k_asm) (mapO (a := none))) (by k_asm) c9 (chsTail hc c9 hsz) ?_; intro h2 tk2 vs2 cnt2 n2 tn2 och2 F2 N2 c2 en2))
    refine OwitRest.succ ?_
    dsimp only
    k_steps
    exact hret _ _ _ _ _ _ _ (by assumption) (by assumption) c2 (by rw [en2, en9]; show _ = n + (nlOf [c] + nls sk); omega)
set_option maxRecDepth 100000 in
set_option maxHeartbeats 8000000 in
set_option pp.deepTerms false in
set_option pp.maxSteps 3000 in
theorem gtok1 (w : World) (p : Program) (loose : List Str) (mean : ExcName → Option Value) (mg mb : Str → Option Value) (dp un : Nat) (gd : Option (List Code)) (cn : Str) (cs : Scope) (a0 : Addr) (ccd : Value) (cl : List (Str × Addr)) (outer : List Env) (A₀ : Around) (base h₀ : Heap) (L : Addr) (m : Str → Option Value) (s : Shared) (Q E : Value → Shared → Prop) (x dx st ds pa pb f c' D cL : Addr) (n : Int) (tn tw k1 k2 k3 k4 j1 j2 j3 j4 j5 u1 u3 : Tok) (oc oL o136 : Obj) (pm ctv : Value) (params : Arguments) (body : Expr) (scope : Scope) (vsc : Array Value) (tq : Tok) (vs : List Value) (cnt : Nat) (sk : List Nat) (a : Nat) (wd : List Nat) (c0 : Nat) (r0 : List Nat) :
   Below A₀ base outer h₀ → Fr h₀ L s.heap m → (K39 w.params).In h₀ → News h₀ L s.heap ([(x, instObj 130 dx), (dx, dictOf [{ hash := PyData.keyHash w.params (Str.ofString "lineno"), key := .str (Str.ofString "lineno") k1, val := .int n tn }, { hash := PyData.keyHash w.params (Str.ofString "instream"), key := .str (Str.ofString "instream") k2, val := .ref st }, { hash := PyData.keyHash w.params (Str.ofString "whitespace"), key := .str (Str.ofString "whitespace") k3, val := .str (Str.ofString "\n\t\r ") tw }, { hash := PyData.keyHash w.params (Str.ofString "pushback"), key := .str (Str.ofString "pushback") k4, val := .ref pb }] 4), (st, instObj 130 ds), (ds, dictOf [{ hash := PyData.keyHash w.params (Str.ofString "lineno"), key := .str (Str.ofString "lineno") j1, val := .int 1 u1 }, { hash := PyData.keyHash w.params (Str.ofString "instream"), key := .str (Str.ofString "instream") j2, val := .none }, { hash := PyData.keyHash w.params (Str.ofString "whitespace"), key := .str (Str.ofString "whitespace") j3, val := .str (Str.ofString "\n\t\r ") u3 }, { hash := PyData.keyHash w.params (Str.ofString "pushback"), key := .str (Str.ofString "pushback") j4, val := .ref pa }, { hash := PyData.keyHash w.params (Str.ofString "read"), key := .str (Str.ofString "read") j5, val := .ref f }] 5), (f, kla_obj (Str.ofString "<lambda>") (Str.ofString "_law_stream.<locals>.<lambda>") params body scope [(Str.ofString "left", cL)] pm c' ctv), (c', oc), (cL, oL), (136, o136), (D, W.listOf vs.toArray cnt), (pb, W.listOf (#[] : Array Value) 0)]) → Top p loose mean mg mb h₀ → cs.kind = .function → lamParts (K39 w.params) 141 1 = some (params, body, scope) → oc.data = .fields vsc → vsc[1]? = some (.str (Str.ofString "_law_stream.<locals>.<lambda>") tq) → oL.data = .cell (some (.ref D)) → LT.lt (α := Nat) 136 D → LT.lt (α := Nat) D cL → LT.lt (α := Nat) cL st → LT.lt (α := Nat) cL ds → LT.lt (α := Nat) st c' → LT.lt (α := Nat) ds c' → LT.lt (α := Nat) c' f → LT.lt (α := Nat) f x → LT.lt (α := Nat) f dx → Ne (α := Nat) st ds → Ne (α := Nat) x dx → CodeHd base 140 136 → Chs vs (sk ++ a :: (wd ++ c0 :: r0)) → vs.length ≤ 1000 → LT.lt (α := Nat) f pb → Ne (α := Nat) x pb → Ne (α := Nat) dx pb → a < 128 → plainC a = true → (∀ c ∈ wd, c < 128 ∧ plainC c = true) → wd.length < 60 → c0 < 128 → isWs c0 = true → (∀ c ∈ sk, c < 128 ∧ isWs c = true) → sk.length < 60 → dp + 49 < recursionLimit → un + 260 < cLine →
   (∀ t h' tk' vs' cnt' n' tn', (∀ b o, s.heap.get? b = some o → b ≠ D → b ≠ dx → h'.get? b = some o) → h'.get? D = some (W.listOf vs'.toArray cnt') → Chs vs' r0 → h'.get? dx = some (dictOf [{ hash := PyData.keyHash w.params (Str.ofString "lineno"), key := .str (Str.ofString "lineno") k1, val := .int n' tn' }, { hash := PyData.keyHash w.params (Str.ofString "instream"), key := .str (Str.ofString "instream") k2, val := .ref st }, { hash := PyData.keyHash w.params (Str.ofString "whitespace"), key := .str (Str.ofString "whitespace") k3, val := .str (Str.ofString "\n\t\r ") tw }, { hash := PyData.keyHash w.params (Str.ofString "pushback"), key := .str (Str.ofString "pushback") k4, val := .ref pb }] 4) → n' = n + nls sk + nlOf [c0] → Q (.str (sL (a :: wd)) t) { s with heap := h', toks := tk' }) →
   wpAny (model rw9.row.prog w) (ktrTop dp un gd cn cs L a0 ccd cl outer) (call (.ref 120) [.ref x]) Q E s := by
  k_fill
  w_top off
  k_with_none
  (k_with "my omega" => (first | with_reducible assumption | (law_purse 30000 => lia) | omega +splitDisjunctions))
  (k_with "my mem" => (first | exact m9_0 | exact m9_1 | exact m9_2 | exact m9_3 | exact m9_4 | exact m9_5 | exact m9_6 | exact m9_7 | (refine' m9_s ?_; k_mem)))
  (k_with "my sub" => (first | exact allNil | exact allCons (by k_mem) (by lcg_sub) | (intro q9 hq9; repeat (first | with_reducible exact hq9 | refine List.mem_cons_of_mem _ ?_))))
  (k_with "my room" => ktr_room)
  (k_with "my units" => ktr_units)
  (k_with "my ne" => (refine neN ?_; (try dsimp only); first | exact NeH.out (by assumption) | exact Ne.symm (NeH.out (by assumption)) | omega))
  (k_with "my all" => (first | exact allNil | (refine' allCons ?_ ?_; focus k_ne; k_all)))
  (k_with "my exec Assign" => k_fold)
  (k_with "my exec Expr" => k_fold)
  (k_with "my exec If" => k_fold)
  (k_with "my exec AugAssign" => k_fold)
  (k_with "my eval BinOp" => k_fold)
  (k_with "my eval Compare" => k_fold)
  (k_with "my eval Subscript" => k_fold)
  (k_with "my eval Call" => k_fold)
  (k_with "my eval Call Attribute" => k_fold)
  (k_with "my eval IfExp" => k_fold)
  (k_with "my eval List" => k_fold)
  (k_with "my eval Tuple" => k_fold)
  intro B F X N T hk hp hoc hvs hL q0 q1 q2 q3 q4 q5 q6 q7 q8 q9 q10 hch hc hsz pb1 pb2 pb3 a1 a2 hwd hwl c01 c02 hsk hskl hdp hun hret
  obtain ⟨zz0, zz1, zz2, zz3, zz4, zz5, zz6, zz7, zz8, zz9, zz10, zz11, zz12, zz13, zz14⟩ := lexNe q0 q1 q2 q3 q4 q5 q6 q7 q8 q9 q10
  (k_with "my call builtin:iter" => (k_here; k_dflt (refine' ci_newB (by k_asm) (by k_asm) (by k_mem) ?_); intro I5 h5 b5 e5 F5 N5 l5; subst e5; (try k_lt l5); (try dsimp only)))
  (k_with "my exec For Name Name cons nil" => (k_here; k_dflt (refine owit_for ?_)))
  (k_with "my pyIter ref" => (k_here; k_dflt (refine ci_pyIter (newsGet (by k_asm) (by k_mem)) rfl ?_)))
  (k_with "my OwitRest" => (k_here; (k_dflt (refine' outerV1 w p loose mean mg mb dp un gd cn cs L a0 ccd cl outer base _ _ _ _ _ _ x dx st ds pa pb f c' D cL I5 b5 tw k1 k2 k3 k4 j1 j2 j3 j4 j5 u1 u3 _ oc oL o136 pm ctv params body scope vsc tq a wd c0 r0 rfl (by k_asm) (by k_asm) (by k_asm) hk hp hoc hvs hL q0 q1 q2 q3 q4 q5 q6 q7 q8 q9 q10 pb1 pb2 pb3 (by first | with_reducible assumption | omega) (by first | omega | skip) (by first | with_reducible assumption | omega) (by first | omega | skip) (by first | with_reducible assumption | omega) (by first | with_reducible assumption | omega) (by first | with_reducible assumption | omega) (by first | with_reducible assumption | omega) (by first | with_reducible assumption | omega) hch a1 a2 hwd hwl c01 c02 (by ktr_room) (by ktr_units) sk hsk _ (by first | with_reducible assumption | omega) _ _ (by passes_own) _ _ _ _ _ none (frCongr (by k_asm) mapS) (newsCons (by k_asm) (by k_mem) (newsCons (by k_asm) (by k_mem) (newsCons (by k_asm) (by k_mem) (newsCons (by k_asm) (by k_mem) (newsCons (by k_asm) (by k_mem) (newsCons (by k_asm) (by k_mem) (newsCons (by k_asm) (by k_mem) (newsCons (by k_asm) (by k_mem) (newsCons (by k_asm) (by k_mem) (newsCons (by k_asm) (by k_mem) (newsCons (by k_asm) (by k_mem) (newsCons (by k_asm) (by k_mem) newsNil)))))))))))) hc hsz ?_); intro h2 tk2 m2 vs2 cnt2 n2 tn2 tT2 F2 N2 c2 en2; (try dsimp only))))
  refine wpAny_call ?_
  k_dflt (refine' codeM ?k1 ?k2 ?k3 ?k4 ?k5 ?kA ?kF ?kK ?k6 ?k7 ?k8 ?k9 ?kB ?_ ?c2 ?c3 ?c4 ?c5; (case kA => exact rfl); (case kF => exact rfl); (case kK => assumption); (case k1 => k_asm); (case k2 => k_asm); (case k3 => k_asm); (case k4 => k_asm); (case k5 => k_asm); (case k6 => k_is); (case k7 => k_is); (case k8 => ktr_room); (case k9 => first | exact BindsTo.of_eq rfl | exact binds_K (by k_in) rfl (by k_is) rfl rfl rfl); (case c5 => decide); (case kB => exact locs rfl); (case c2 => exact rfl); (case c3 => exact rfl); (case c4 => exact rfl); k_whole; intro g' L' h' hg FG' F' N' B' X' T' l1 hL'; (try k_lt l1); (try dsimp only); (try k_lift B'); (try k_fold))
  have hLh := ltN (Heap.Ns.lt (Fr.ns F'))
  k_steps
  intro hkp
  exact hret _ _ _ _ _ _ _ (kb2Of hg hkp (fun q hq => (N q hq).1) (allCons (fun _ _ => newsGet (by k_asm) (by k_mem)) (allCons (fun _ h => absurd rfl h) (allCons (fun _ _ => newsGet (by k_asm) (by k_mem)) (allCons (fun _ _ => newsGet (by k_asm) (by k_mem)) (allCons (fun _ _ => newsGet (by k_asm) (by k_mem)) (allCons (fun _ _ => newsGet (by k_asm) (by k_mem)) (allCons (fun _ _ => newsGet (by k_asm) (by k_mem)) (allCons (fun _ _ => newsGet (by k_asm) (by k_mem)) (allCons (fun h _ => absurd rfl h) (allCons (fun _ _ => newsGet (by k_asm) (by k_mem)) (fun _ h => nomatch h)))))))))))) (newsGet (by k_asm) (by k_mem)) c2 (newsGet (by k_asm) (by k_mem)) en2
set_option maxRecDepth 100000 in
set_option maxHeartbeats 8000000 in
set_option pp.deepTerms false in
set_option pp.maxSteps 3000 in
theorem gtok2 (w : World) (p : Program) (loose : List Str) (mean : ExcName → Option Value) (mg mb : Str → Option Value) (dp un : Nat) (gd : Option (List Code)) (cn : Str) (cs : Scope) (a0 : Addr) (ccd : Value) (cl : List (Str × Addr)) (outer : List Env) (A₀ : Around) (base h₀ : Heap) (L : Addr) (m : Str → Option Value) (s : Shared) (Q E : Value → Shared → Prop) (x dx st ds pa pb f c' D cL : Addr) (n : Int) (tn tw k1 k2 k3 k4 j1 j2 j3 j4 j5 u1 u3 : Tok) (oc oL o136 : Obj) (pm ctv : Value) (params : Arguments) (body : Expr) (scope : Scope) (vsc : Array Value) (tq : Tok) (vs : List Value) (cnt : Nat) (sk : List Nat) :
   Below A₀ base outer h₀ → Fr h₀ L s.heap m → (K39 w.params).In h₀ → News h₀ L s.heap ([(x, instObj 130 dx), (dx, dictOf [{ hash := PyData.keyHash w.params (Str.ofString "lineno"), key := .str (Str.ofString "lineno") k1, val := .int n tn }, { hash := PyData.keyHash w.params (Str.ofString "instream"), key := .str (Str.ofString "instream") k2, val := .ref st }, { hash := PyData.keyHash w.params (Str.ofString "whitespace"), key := .str (Str.ofString "whitespace") k3, val := .str (Str.ofString "\n\t\r ") tw }, { hash := PyData.keyHash w.params (Str.ofString "pushback"), key := .str (Str.ofString "pushback") k4, val := .ref pb }] 4), (st, instObj 130 ds), (ds, dictOf [{ hash := PyData.keyHash w.params (Str.ofString "lineno"), key := .str (Str.ofString "lineno") j1, val := .int 1 u1 }, { hash := PyData.keyHash w.params (Str.ofString "instream"), key := .str (Str.ofString "instream") j2, val := .none }, { hash := PyData.keyHash w.params (Str.ofString "whitespace"), key := .str (Str.ofString "whitespace") j3, val := .str (Str.ofString "\n\t\r ") u3 }, { hash := PyData.keyHash w.params (Str.ofString "pushback"), key := .str (Str.ofString "pushback") j4, val := .ref pa }, { hash := PyData.keyHash w.params (Str.ofString "read"), key := .str (Str.ofString "read") j5, val := .ref f }] 5), (f, kla_obj (Str.ofString "<lambda>") (Str.ofString "_law_stream.<locals>.<lambda>") params body scope [(Str.ofString "left", cL)] pm c' ctv), (c', oc), (cL, oL), (136, o136), (D, W.listOf vs.toArray cnt), (pb, W.listOf (#[] : Array Value) 0)]) → Top p loose mean mg mb h₀ → cs.kind = .function → lamParts (K39 w.params) 141 1 = some (params, body, scope) → oc.data = .fields vsc → vsc[1]? = some (.str (Str.ofString "_law_stream.<locals>.<lambda>") tq) → oL.data = .cell (some (.ref D)) → LT.lt (α := Nat) 136 D → LT.lt (α := Nat) D cL → LT.lt (α := Nat) cL st → LT.lt (α := Nat) cL ds → LT.lt (α := Nat) st c' → LT.lt (α := Nat) ds c' → LT.lt (α := Nat) c' f → LT.lt (α := Nat) f x → LT.lt (α := Nat) f dx → Ne (α := Nat) st ds → Ne (α := Nat) x dx → CodeHd base 140 136 → Chs vs (sk) → vs.length ≤ 1000 → LT.lt (α := Nat) f pb → Ne (α := Nat) x pb → Ne (α := Nat) dx pb → (∀ c ∈ sk, c < 128 ∧ isWs c = true) → sk.length < 60 → dp + 49 < recursionLimit → un + 260 < cLine →
   (∀ t h' tk' vs' cnt' n' tn', (∀ b o, s.heap.get? b = some o → b ≠ D → b ≠ dx → h'.get? b = some o) → h'.get? D = some (W.listOf vs'.toArray cnt') → Chs vs' [] → h'.get? dx = some (dictOf [{ hash := PyData.keyHash w.params (Str.ofString "lineno"), key := .str (Str.ofString "lineno") k1, val := .int n' tn' }, { hash := PyData.keyHash w.params (Str.ofString "instream"), key := .str (Str.ofString "instream") k2, val := .ref st }, { hash := PyData.keyHash w.params (Str.ofString "whitespace"), key := .str (Str.ofString "whitespace") k3, val := .str (Str.ofString "\n\t\r ") tw }, { hash := PyData.keyHash w.params (Str.ofString "pushback"), key := .str (Str.ofString "pushback") k4, val := .ref pb }] 4) → n' = n + nls sk → Q (.str (Str.ofString "") t) { s with heap := h', toks := tk' }) →
   wpAny (model rw9.row.prog w) (ktrTop dp un gd cn cs L a0 ccd cl outer) (call (.ref 120) [.ref x]) Q E s := by
  k_fill
  w_top off
  k_with_none
  (k_with "my omega" => (first | with_reducible assumption | (law_purse 30000 => lia) | omega +splitDisjunctions))
  (k_with "my mem" => (first | exact m9_0 | exact m9_1 | exact m9_2 | exact m9_3 | exact m9_4 | exact m9_5 | exact m9_6 | exact m9_7 | (refine' m9_s ?_; k_mem)))
  (k_with "my sub" => (first | exact allNil | exact allCons (by k_mem) (by lcg_sub) | (intro q9 hq9; repeat (first | with_reducible exact hq9 | refine List.mem_cons_of_mem _ ?_))))
  (k_with "my room" => ktr_room)
  (k_with "my units" => ktr_units)
  (k_with "my ne" => (refine neN ?_; (try dsimp only); first | exact NeH.out (by assumption) | exact Ne.symm (NeH.out (by assumption)) | omega))
  (k_with "my all" => (first | exact allNil | (refine' allCons ?_ ?_; focus k_ne; k_all)))
  (k_with "my exec Assign" => k_fold)
  (k_with "my exec Expr" => k_fold)
  (k_with "my exec If" => k_fold)
  (k_with "my exec AugAssign" => k_fold)
  (k_with "my eval BinOp" => k_fold)
  (k_with "my eval Compare" => k_fold)
  (k_with "my eval Subscript" => k_fold)
  (k_with "my eval Call" => k_fold)
  (k_with "my eval Call Attribute" => k_fold)
  (k_with "my eval IfExp" => k_fold)
  (k_with "my eval List" => k_fold)
  (k_with "my eval Tuple" => k_fold)
  intro B F X N T hk hp hoc hvs hL q0 q1 q2 q3 q4 q5 q6 q7 q8 q9 q10 hch hc hsz pb1 pb2 pb3 hsk hskl hdp hun hret
  obtain ⟨zz0, zz1, zz2, zz3, zz4, zz5, zz6, zz7, zz8, zz9, zz10, zz11, zz12, zz13, zz14⟩ := lexNe q0 q1 q2 q3 q4 q5 q6 q7 q8 q9 q10
  (k_with "my call builtin:iter" => (k_here; k_dflt (refine' ci_newB (by k_asm) (by k_asm) (by k_mem) ?_); intro I5 h5 b5 e5 F5 N5 l5; subst e5; (try k_lt l5); (try dsimp only)))
  (k_with "my exec For Name Name cons nil" => (k_here; k_dflt (refine owit_for ?_)))
  (k_with "my pyIter ref" => (k_here; k_dflt (refine ci_pyIter (newsGet (by k_asm) (by k_mem)) rfl ?_)))
  (k_with "my OwitRest" => (k_here; (k_dflt (refine' outerV2 w p loose mean mg mb dp un gd cn cs L a0 ccd cl outer base _ _ _ _ _ _ x dx st ds pa pb f c' D cL I5 b5 tw k1 k2 k3 k4 j1 j2 j3 j4 j5 u1 u3 _ oc oL o136 pm ctv params body scope vsc tq  rfl (by k_asm) (by k_asm) (by k_asm) hk hp hoc hvs hL q0 q1 q2 q3 q4 q5 q6 q7 q8 q9 q10 pb1 pb2 pb3 (by first | with_reducible assumption | omega) (by first | omega | skip) (by first | with_reducible assumption | omega) (by first | omega | skip) (by first | with_reducible assumption | omega) (by first | with_reducible assumption | omega) (by first | with_reducible assumption | omega) (by first | with_reducible assumption | omega) (by first | with_reducible assumption | omega) hch  (by ktr_room) (by ktr_units) sk hsk _ (by first | with_reducible assumption | omega) _ _ (by passes_own) _ _ _ _ _ none (frCongr (by k_asm) mapS) (newsCons (by k_asm) (by k_mem) (newsCons (by k_asm) (by k_mem) (newsCons (by k_asm) (by k_mem) (newsCons (by k_asm) (by k_mem) (newsCons (by k_asm) (by k_mem) (newsCons (by k_asm) (by k_mem) (newsCons (by k_asm) (by k_mem) (newsCons (by k_asm) (by k_mem) (newsCons (by k_asm) (by k_mem) (newsCons (by k_asm) (by k_mem) (newsCons (by k_asm) (by k_mem) (newsCons (by k_asm) (by k_mem) newsNil)))))))))))) hc hsz ?_); intro h2 tk2 vs2 cnt2 n2 tn2 och2 F2 N2 c2 en2; (try dsimp only))))
  refine wpAny_call ?_
  k_dflt (refine' codeM ?k1 ?k2 ?k3 ?k4 ?k5 ?kA ?kF ?kK ?k6 ?k7 ?k8 ?k9 ?kB ?_ ?c2 ?c3 ?c4 ?c5; (case kA => exact rfl); (case kF => exact rfl); (case kK => assumption); (case k1 => k_asm); (case k2 => k_asm); (case k3 => k_asm); (case k4 => k_asm); (case k5 => k_asm); (case k6 => k_is); (case k7 => k_is); (case k8 => ktr_room); (case k9 => first | exact BindsTo.of_eq rfl | exact binds_K (by k_in) rfl (by k_is) rfl rfl rfl); (case c5 => decide); (case kB => exact locs rfl); (case c2 => exact rfl); (case c3 => exact rfl); (case c4 => exact rfl); k_whole; intro g' L' h' hg FG' F' N' B' X' T' l1 hL'; (try k_lt l1); (try dsimp only); (try k_lift B'); (try k_fold))
  have hLh := ltN (Heap.Ns.lt (Fr.ns F'))
  k_steps
  intro hkp
  exact hret _ _ _ _ _ _ _ (kb2Of hg hkp (fun q hq => (N q hq).1) (allCons (fun _ _ => newsGet (by k_asm) (by k_mem)) (allCons (fun _ h => absurd rfl h) (allCons (fun _ _ => newsGet (by k_asm) (by k_mem)) (allCons (fun _ _ => newsGet (by k_asm) (by k_mem)) (allCons (fun _ _ => newsGet (by k_asm) (by k_mem)) (allCons (fun _ _ => newsGet (by k_asm) (by k_mem)) (allCons (fun _ _ => newsGet (by k_asm) (by k_mem)) (allCons (fun _ _ => newsGet (by k_asm) (by k_mem)) (allCons (fun h _ => absurd rfl h) (allCons (fun _ _ => newsGet (by k_asm) (by k_mem)) (fun _ h => nomatch h)))))))))))) (newsGet (by k_asm) (by k_mem)) c2 (newsGet (by k_asm) (by k_mem)) en2
end
section
open PySem PySem.W PyProof.Rows PySem.Calls
set_option maxRecDepth 100000
theorem one_of {α : Type} {xs : Array α} (h : xs.size = 1) : ∃ e, xs = #[e] := by
  obtain ⟨l⟩ := xs
  cases l with
  | nil => exact absurd h Nat.zero_ne_one
  | cons a r =>
    cases r with
    | nil => exact ⟨a, rfl⟩
    | cons b r => exact absurd (Nat.succ.inj h) (Nat.succ_ne_zero _)
theorem noBool_set : typeLookup (.type "set") "__bool__" = pure none := by rw [typeLookup_type, builtinLookup_eq_fast]; kernel_rfl
section
variable {prog : Program} {w : World} {A : Around} {E : Value → Shared → Prop} {s : Shared}
theorem truthy_set {a : Addr} {o : Obj} {S : Int → Bool} {n : Nat} {Q : Bool → Shared → Prop} (ho : s.heap.get? a = some o) (hso : o.SetObjOf (intKind prog w) S n) (hn : n < 1000) (h : Q (decide (n ≠ 0)) { s with toks := s.toks + 1 + 1 }) :
    wpAny (model prog w) A (truthy (.ref a)) Q E s := by
  obtain ⟨hex, es, ep, t, hd, _, _, hsz, hf⟩ := hso
  subst hsz
  have hT : s.TypeIs (.ref a) "set" := ⟨o, ho, hex.1⟩
  have key : wpAny (model prog w) A (runValue (.builtin "len" ⟨[.ref a], []⟩)) (fun r s' => r = .int es.size (s.toks + 1) ∧ Q (decide (es.size ≠ 0)) s') E s := by
    refine wpAny_runValue (codeAny_builtin entry_len ?_)
    rw [Around.under_plainId plain_len _]
    exact wpAny_mono (wpAny_len_body_set (Q := fun r s' => r = .int es.size (s.toks + 1) ∧ Q (decide (es.size ≠ 0)) s') ho hex hd hf (by first | with_reducible assumption | omega) ⟨rfl, h⟩)
      (fun fin s' h' => by obtain ⟨r, rfl, hq⟩ := h'; exact hq) fun _ _ e => e
  have hne : (((es.size : Nat) : Int) != 0) = decide (es.size ≠ 0) := by
    by_cases e : es.size = 0
    · rw [e]; rfl
    · have h1 : ((es.size : Int) != 0) = true := bne_iff_ne.mpr (by first | with_reducible assumption | omega)
      rw [h1, decide_eq_true e]
  unfold truthy
  first
    | refine wpAny_bind (wpAny_callSpecial?_none (name := Str.ofString "__bool__") hT noBool_set ?_)
    | refine wpAny_bind (wpAny_pure (wpAny_bind (wpAny_callSpecial?_none (name := Str.ofString "__bool__") hT noBool_set ?_)))
  first
    | refine wpAny_bind (wpAny_specialOf (name := Str.ofString "__len__") hT F.slot_set_len.lookup ?_)
    | refine wpAny_bind (wpAny_pure (wpAny_bind (wpAny_specialOf (name := Str.ofString "__len__") hT F.slot_set_len.lookup ?_)))
  exact wpAny_bind (wpAny_mono key (fun r s' h' => by obtain ⟨rfl, hq⟩ := h'; exact wpAny_pure (hne ▸ hq)) fun _ _ e => e)
theorem wpAny_choose1 {src : Source} {Q : Nat → Shared → Prop} {M : Model} (h : Q 0 { s with drawn := s.drawn.bump src }) : wpAny M A (choose src 1) Q E s := fun Γ p hΓ => by
  unfold choose
  rw [Sem.wp_choose]
  refine ⟨by decide, ?_⟩
  rw [Nat.mod_one]
  exact h
theorem pop_raw {a : Addr} {o : Obj} {x : Int} {S : Int → Bool} {Q : Value → Shared → Prop} (ho : s.heap.get? a = some o) (hso : o.SetObjOf (intKind prog w) S 1) (hS : ∀ k, S k = true → k = x)
    (h : ∀ t h' o' dr, Heap.SameBut a s.heap h' → h'.get? a = some o' → o'.SetObjOf (intKind prog w) (fun _ => false) 0 → Q (.int x t) { s with heap := h', drawn := dr }) : wpAny (model prog w) A (call (.builtin "set.pop") [.ref a]) Q E s := by
  obtain ⟨hex, es, ep, t, hd, hel, hmem, hsz, hf⟩ := hso
  have hT : s.TypeIs (.ref a) "set" := ⟨o, ho, hex.1⟩
  obtain ⟨e, rfl⟩ : ∃ e, es = #[e] := by
    exact one_of hsz
  obtain ⟨⟨k, hk, hh⟩, hsc⟩ := hel e (by simp)
  have hkx : k = x := hS k ((hmem k).mpr ⟨e, by simp, hk⟩)
  subst hkx
  obtain ⟨tv, he2⟩ := Value.isInt_shape hk
  have hf' := hf
  simp only [SetTable.fits, Bool.and_eq_true, beq_iff_eq, decide_eq_true_eq] at hf'
  obtain ⟨hp1, hp2⟩ := hf'
  have hpl : t.place.size = 1 := hp1
  refine wpAny_call_entry F.slot_set_pop hT F.entry_set_pop ?_ (F.args_set_pop_1 _)
  unfold Builtin.«set.pop»
  refine wpAny_bind (wpAny_of_eq (a := a) rfl ?_)
  unfold setPop
  refine wpAny_bind (wpAny_bind (wpAny_setState_of ho hd hf ?_))
  have hpp : t.popPlace = some 0 := by
    unfold SetTable.popPlace
    rw [if_neg (by intro q; rw [Array.isEmpty_iff_size_eq_zero] at q; omega)]
    dsimp only
    split
    · rename_i q; congr 1; omega
    · rfl
  dsimp only
  rw [hpp]
  dsimp only
  have hput : (s.heap.update a (Obj.putSet (SetTable.eraseAt #[e] 0) (t.popped 0))).get? a = some (Obj.putSet (SetTable.eraseAt #[e] 0) (t.popped 0) o) := Heap.get?_update_self _ ho (by obtain ⟨c, d, da, sl⟩ := o; cases hd; rfl)
  have hset : (Obj.putSet (SetTable.eraseAt #[e] 0) (t.popped 0) o).SetObjOf (intKind prog w) (fun _ => false) 0 := by
    obtain ⟨c, d, da, sl⟩ := o
    cases hd
    have he : SetTable.eraseAt #[e] 0 = #[] := rfl
    obtain ⟨x1, x2, x3⟩ := hex
    refine ⟨⟨x1, x2, x3⟩, #[], ep + 1, t.popped 0, by rw [he]; rfl, (fun y hy => nomatch hy), (fun k => by simp), rfl, ?_⟩
    obtain ⟨j, hj⟩ : ∃ j, t.place = #[j] := by
      exact one_of hpl
    have h0 : t.place[0]? = some j := by rw [hj]; rfl
    have hdrop : t.drop 0 = { t with place := SetTable.eraseAt t.place 0, dummies := SetTable.insertAt t.dummies (SetTable.below t.dummies j) j } := by
      unfold SetTable.drop
      rw [h0]
    have e1 : (SetTable.eraseAt t.place 0).size = 0 := by rw [hj]; rfl
    have e2 : (SetTable.insertAt t.dummies (SetTable.below t.dummies j) j).size = t.dummies.size + 1 := by
      unfold SetTable.insertAt
      simp only [Array.size_append, Array.size_push, Array.size_extract]
      omega
    unfold SetTable.fits SetTable.popped
    rw [hdrop]
    simp only [SetTable.fill] at hp2
    rw [Bool.and_eq_true, beq_iff_eq]
    refine ⟨e1, decide_eq_true ?_⟩
    show (SetTable.eraseAt t.place 0).size + (SetTable.insertAt t.dummies (SetTable.below t.dummies j) j).size ≤ t.mask
    rw [e1, e2]
    first | (rw [hpl] at hp2; rw [Nat.zero_add, Nat.add_comm]; exact hp2) | omega
  have hsame := Heap.SameBut.update (h := s.heap) (a := a) (f := Obj.putSet (SetTable.eraseAt #[e] 0) (t.popped 0))
  have e0 : (#[e] : Array (Int × Value))[0]? = some e := rfl
  obtain ⟨eh, ev⟩ := e
  dsimp only at he2
  subst he2
  refine wpAny_bind (wpAny_bind (wpAny_askSetting (wpAny_pure ?_)))
  refine wpAny_ite ?_
  split
  · refine wpAny_bind (wpAny_choose1 ?_)
    rw [e0]
    refine wpAny_bind (wpAny_storeSet_of (o := o) ho hd ?_ (by rw [sizeLine_eq]; exact Nat.zero_le _))
    refine wpAny_pure ?_
    exact wpAny_pure ⟨_, rfl, h tv _ _ _ hsame hput hset⟩
  · refine wpAny_bind ?_
    show wpAny _ _ (if (!t.led && decide ((1 : Nat) > 1)) = true then _ else _) _ _ _
    rw [show (!t.led && decide ((1 : Nat) > 1)) = false from by cases t.led <;> rfl, if_neg Bool.false_ne_true]
    refine wpAny_pure ?_
    refine wpAny_bind (wpAny_pure ?_)
    rw [e0]
    refine wpAny_bind (wpAny_storeSet_of (o := o) ho hd ?_ (by rw [sizeLine_eq]; exact Nat.zero_le _))
    refine wpAny_pure ?_
    exact wpAny_pure ⟨_, rfl, h tv _ _ s.drawn hsame hput hset⟩
end
end
section
open PySem PySem.W PyProof.Rows PySem.Calls
theorem newsHead {h₀ h h' : Heap} {L a : Addr} {o o' : Obj} {rest : List (Addr × Obj)} (N : News h₀ L h ((a, o) :: rest)) (ne : ∀ p ∈ rest, Ne (α := Nat) p.1 a) (hb : Heap.SameBut a h h') (g : h'.get? a = some o') : News h₀ L h' ((a, o') :: rest) := by
  intro p hp
  rcases List.mem_cons.mp hp with rfl | hp
  · exact ⟨g, (N _ (.head _)).2⟩
  · exact ⟨hb.extBut _ _ (ne p hp) (N p (.tail _ hp)).1, (N p (.tail _ hp)).2⟩
theorem pop_only (x : Int) : ∀ k, (false || decide (k = x)) = true → k = x := fun k h => by simpa using h
theorem in_set {prog : Program} {w : World} {A : Around} {E : Value → Shared → Prop} {s : Shared} {a : Addr} {o : Obj} {S : Int → Bool} {n : Nat} {k : Int} {t : Tok} {Q : Value → Shared → Prop} (ho : s.heap.get? a = some o) (hso : o.SetObjOf (intKind prog w) S n) (hn : n < scanBound)
    (h : Q (.bool (S k)) { s with toks := s.toks + 1 }) : wpAny (model prog w) A (compareOp .In (.int k t) (.ref a)) Q E s :=
  wpAny_inSet_of (intKind_is prog w k t) rfl (hso.setOf ho hn) h
theorem getM_pop {prog : Program} {w : World} {A : Around} {E : Value → Shared → Prop} {s : Shared} {a : Addr} {o : Obj} {S : Int → Bool} {n : Nat} {pl : Sem Bool} {Q : Value × List Value → Shared → Prop} (ho : s.heap.get? a = some o) (hso : o.SetObjOf (intKind prog w) S n)
    (h : Q (.builtin "set.pop", [.ref a]) s) : wpAny (model prog w) A (getMethod (.ref a) "pop" pl) Q E s := by
  obtain ⟨hex, es, ep, t, hd, _⟩ := hso
  exact getMethod_builtin ⟨o, ho, hex.1⟩ F.plainAttrs_set F.slot_set_pop F.type_set_pop (fun a' e => by cases e; exact ⟨o, ho, hex.2.1⟩) h
set_option maxRecDepth 100000 in
set_option maxHeartbeats 8000000 in
set_option pp.deepTerms false in
set_option pp.maxSteps 3000 in
theorem cpow (w : World) (p : Program) (loose : List Str) (mean : ExcName → Option Value) (mg mb : Str → Option Value) (dp un : Nat) (gd : Option (List Code)) (cn : Str) (cs : Scope) (a0 : Addr) (ccd : Value) (cl : List (Str × Addr)) (outer : List Env) (A₀ : Around) (base h₀ : Heap) (L : Addr) (m : Str → Option Value) (s : Shared) (Q E : Value → Shared → Prop) (x : Int) (t1 t2 t3 : Tok) :
   Below A₀ base outer h₀ → Fr h₀ L s.heap m → (K39 w.params).In h₀ → News h₀ L s.heap ([]) → Top p loose mean mg mb h₀ → cs.kind = .function → 0 ≤ x → x ≤ 2048 → dp + 9 < recursionLimit → un + 60 < cLine →
   (∀ (D : Addr) o h' tk' dr', Kp s.heap h' → h'.get? D = some o → s.heap.get? D = none → Q (.ref D) { s with heap := h', toks := tk', drawn := dr' }) →
   wpAny (model rw9.row.prog w) (ktrTop dp un gd cn cs L a0 ccd cl outer) (call (.ref 29) [.int x t1, .int 5 t2, .int 2048 t3]) Q E s := by
  k_fill
  w_top off
  k_with_none
  (k_with "my omega" => (first | with_reducible assumption | (law_purse 30000 => lia) | omega +splitDisjunctions))
  (k_with "my mem" => (first | exact m9_0 | exact m9_1 | exact m9_2 | exact m9_3 | exact m9_4 | exact m9_5 | exact m9_6 | exact m9_7 | (refine' m9_s ?_; k_mem)))
  (k_with "my sub" => (first | exact allNil | exact allCons (by k_mem) (by lcg_sub) | (intro q9 hq9; repeat (first | with_reducible exact hq9 | refine List.mem_cons_of_mem _ ?_))))
  (k_with "my room" => ktr_room)
  (k_with "my units" => ktr_units)
  (k_with "my ne" => (refine neN ?_; (try dsimp only); first | exact NeH.out (by assumption) | exact Ne.symm (NeH.out (by assumption)) | omega))
  (k_with "my all" => (first | exact allNil | (refine' allCons ?_ ?_; focus k_ne; k_all)))
  (k_with "my exec Assign" => k_fold)
  (k_with "my exec Expr" => k_fold)
  (k_with "my exec If" => k_fold)
  (k_with "my exec AugAssign" => k_fold)
  (k_with "my eval BinOp" => k_fold)
  (k_with "my eval Compare" => k_fold)
  (k_with "my eval Subscript" => k_fold)
  (k_with "my eval Call" => k_fold)
  (k_with "my eval Call Attribute" => k_fold)
  (k_with "my eval IfExp" => k_fold)
  (k_with "my eval List" => k_fold)
  (k_with "my eval Tuple" => k_fold)
  intro B F X N T hk h0 h1 hdp hun hret
  (k_with "my truthy ref" => (k_here; k_dflt (refine truthy_set (newsGet (by k_asm) (by k_mem)) (by assumption) (by decide) ?_)))
  (k_with "my getMethod ref" => (k_here; k_dflt (refine getM_pop (newsGet (by k_asm) (by k_mem)) (by assumption) ?_)))
  (k_with "my call builtin:set.pop" => (k_here; k_dflt (refine pop_raw (newsGet (by k_asm) (by k_mem)) (by assumption) (pop_only x) ?_); intro t9 h9 o9 d9 hb9 g9 s9; k_dflt (have F9 := kbFr (by k_asm) (by k_asm) (List.Mem.head _) (fun b o e hb => hb9.extBut b o hb e); have N9 := newsHead (by k_asm) (by k_all) hb9 g9); (try dsimp only)))
  (k_with "my compareOp In int ref" => (k_here; k_dflt (refine in_set (newsGet (by k_asm) (by k_mem)) (by assumption) (by decide) ?_)))
  refine wpAny_call ?_
  k_dflt (refine' codeM ?k1 ?k2 ?k3 ?k4 ?k5 ?kA ?kF ?kK ?k6 ?k7 ?k8 ?k9 ?kB ?_ ?c2 ?c3 ?c4 ?c5; (case kA => exact rfl); (case kF => exact rfl); (case kK => assumption); (case k1 => k_asm); (case k2 => k_asm); (case k3 => k_asm); (case k4 => k_asm); (case k5 => k_asm); (case k6 => k_is); (case k7 => k_is); (case k8 => ktr_room); (case k9 => first | exact BindsTo.of_eq rfl | exact binds_K (by k_in) rfl (by k_is) rfl rfl rfl); (case c5 => decide); (case kB => exact locs rfl); (case c2 => exact rfl); (case c3 => exact rfl); (case c4 => exact rfl); k_whole; intro g' L' h' hg FG' F' N' B' X' T' l1 hL'; (try k_lt l1); (try dsimp only); (try k_lift B'); (try k_fold))
  have hLh := ltN (Heap.Ns.lt (Fr.ns F'))
  k_steps
  intro hkp
  exact hret _ _ _ _ _ (kpOf hg hkp (fun q hq => (N q hq).1) (fun _ h => nomatch h)) (newsGet (by k_asm) (by k_mem)) (noneOf hg (newsNone (by k_asm) (by k_mem)) (fun h => nomatch h))
end
section
open PySem PySem.W PyProof.Rows PySem.Calls PySem.NumText
theorem sliceAll {z : Str} (h : z.length ≤ 10) : Txt.slice z (some 0) (some (z.length : Int)) = z := by
  unfold Txt.slice
  have e : ∀ n : Nat, n ≤ 10 → (Builtin.Str.strSliceIndices (some 0) (some (n : Int)) 1 n).length = n := by decide +kernel
  have := e z.length h
  rw [if_pos (by rw [this]; simp)]
theorem sliceInt {z : Str} {cs : List Nat} (hz : z = sL cs) (hd : AllDigits cs) (h1 : 1 ≤ z.length) (h : z.length ≤ 10) : PySem.intText? (Txt.slice z (some 0) (some (z.length : Int))) = some ((digitsVal cs : Nat) : Int) := by
  rw [sliceAll h]
  subst hz
  exact intText_digits (x := sL cs) hd (fun e => by have e' : cs = [] := e; subst e'; exact absurd h1 (by decide)) (by first | with_reducible assumption | omega)
theorem sliceLen {z : Str} (h : z.length ≤ 10) : (Txt.slice z (some 0) (some (z.length : Int))).length ≤ 640 := by rw [sliceAll h]; omega
theorem notMemLt2 {D : Addr} {l : List Addr} (h : ∀ a ∈ l, Ne (α := Nat) a D) : ¬ D ∈ l := fun m => h D m rfl
set_option maxRecDepth 100000 in
set_option maxHeartbeats 8000000 in
set_option pp.deepTerms false in
set_option pp.maxSteps 3000 in
theorem sti_hit (w : World) (p : Program) (loose : List Str) (mean : ExcName → Option Value) (mg mb : Str → Option Value) (dp un : Nat) (gd : Option (List Code)) (cn : Str) (cs : Scope) (a0 : Addr) (ccd : Value) (cl : List (Str × Addr)) (outer : List Env) (A₀ : Around) (base h₀ : Heap) (L : Addr) (m : Str → Option Value) (s : Shared) (Q E : Value → Shared → Prop) (z : Str) (cs1 : List Nat) (tz : Tok) (c3 : Addr) (oc3 : Obj) (vs3 : Array Value) (tq3 : Tok) :
   Below A₀ base outer h₀ → Fr h₀ L s.heap m → (K39 w.params).In h₀ → News h₀ L s.heap ([(31, tabObj #[rawInt 49, rawInt 4, .ref c3]), (c3, oc3)]) → Top p loose mean mg mb h₀ → cs.kind = .function → z = sL cs1 → AllDigits cs1 → 1 ≤ z.length → z.length ≤ 10 → CodeHd base 35 31 → oc3.data = .fields vs3 → vs3[1]? = some (.str "_str_to_int_inner.<locals>.inner" tq3) → dp + 49 < recursionLimit → un + 260 < cLine →
   (∀ t h' tk' dr', Kp s.heap h' → Q (.int ((digitsVal cs1 : Nat) : Int) t) { s with heap := h', toks := tk', drawn := dr' }) →
   wpAny (model rw9.row.prog w) (ktrTop dp un gd cn cs L a0 ccd cl outer) (call (.ref 36) [.str z tz]) Q E s := by
  k_fill
  w_top off
  k_with_none
  (k_with "my omega" => (first | with_reducible assumption | (law_purse 30000 => lia) | omega +splitDisjunctions))
  (k_with "my mem" => (first | exact m9_0 | exact m9_1 | exact m9_2 | exact m9_3 | exact m9_4 | exact m9_5 | exact m9_6 | exact m9_7 | (refine' m9_s ?_; k_mem)))
  (k_with "my sub" => (first | exact allNil | exact allCons (by k_mem) (by lcg_sub) | (intro q9 hq9; repeat (first | with_reducible exact hq9 | refine List.mem_cons_of_mem _ ?_))))
  (k_with "my room" => ktr_room)
  (k_with "my units" => ktr_units)
  (k_with "my ne" => (refine neN ?_; (try dsimp only); first | exact NeH.out (by assumption) | exact Ne.symm (NeH.out (by assumption)) | omega))
  (k_with "my all" => (first | exact allNil | (refine' allCons ?_ ?_; focus k_ne; k_all)))
  (k_with "my exec Assign" => k_fold)
  (k_with "my exec Expr" => k_fold)
  (k_with "my exec If" => k_fold)
  (k_with "my exec AugAssign" => k_fold)
  (k_with "my eval BinOp" => k_fold)
  (k_with "my eval Compare" => k_fold)
  (k_with "my eval Subscript" => k_fold)
  (k_with "my eval Call" => k_fold)
  (k_with "my eval Call Attribute" => k_fold)
  (k_with "my eval IfExp" => k_fold)
  (k_with "my eval List" => k_fold)
  (k_with "my eval Tuple" => k_fold)
  intro B F X N T hk hz hd z1 z2 hch hoc3 hvs3 hdp hun hret
  (k_with "my call ref" => (k_dflt (refine' cpow _ _ _ _ _ _ _ _ _ _ _ _ _ _ _ _ _ _ _ _ _ _ _ _ _ _ _ (by k_asm) (by k_asm) (by k_asm) newsNil (by k_asm) rfl (by first | with_reducible assumption | omega) (by first | with_reducible assumption | omega) (by ktr_room) (by ktr_units) ?_); intro D9 o9 h9 tk9 dr9 k9 g9 s9; (obtain l9 := newsNe (by k_asm) s9); simp only [List.forall_mem_cons] at l9; (obtain F9 := kpFr (by k_asm) k9); (obtain N9 := kpNewG (by k_asm) (by k_asm) k9 g9 s9); (try dsimp only)))
  (k_with "my call type:int" => (k_here; refine KIN.call_text (n := ((digitsVal cs1 : Nat) : Int)) (sliceInt hz hd z1 z2) (sliceLen z2) ?_))
  refine wpAny_call ?_
  k_dflt (refine' codeMC ?k1 ?k2 ?k3 ?k4 ?k5 ?kA ?kF ?kK ?k6 ?k7 ?k8 ?k9 ?kB ?kD ?_ ?c2 ?c3 ?c4; (case kA => exact rfl); (case kF => exact rfl); (case kK => assumption); (case k1 => k_asm); (case k2 => k_asm); (case k3 => k_asm); (case k4 => k_asm); (case k5 => k_asm); (case k6 => k_is); (case k7 => k_is); (case k8 => ktr_room); (case k9 => first | exact BindsTo.of_eq rfl | exact binds_K (by k_in) rfl (by k_is) rfl rfl rfl); (case kB => exact rfl); (case kD => decide +kernel); (case c2 => exact rfl); (case c3 => exact rfl); (case c4 => exact rfl); k_whole; intro g' L' h' tk' cells' hg FG' F' N' Y' B' X' T' l1 hL'; (try k_lt l1); k_cells Y'; (try simp only [List.cons_append, List.nil_append] at N'); (try dsimp only); (try k_lift B'); (try k_fold))
  have hLh := ltN (Heap.Ns.lt (Fr.ns F'))
  k_steps
  intro hkp
  exact hret _ _ _ _ (kpOf hg hkp (fun q hq => (N q hq).1) (allCons (newsGet (by k_asm) (by k_mem)) (allCons (newsGet (by k_asm) (by k_mem)) (fun _ h => nomatch h))))
set_option maxRecDepth 100000 in
set_option maxHeartbeats 8000000 in
set_option pp.deepTerms false in
set_option pp.maxSteps 3000 in
theorem sti_miss (w : World) (p : Program) (loose : List Str) (mean : ExcName → Option Value) (mg mb : Str → Option Value) (dp un : Nat) (gd : Option (List Code)) (cn : Str) (cs : Scope) (a0 : Addr) (ccd : Value) (cl : List (Str × Addr)) (outer : List Env) (A₀ : Around) (base h₀ : Heap) (L : Addr) (m : Str → Option Value) (s : Shared) (Q E : Value → Shared → Prop) (z : Str) (cs1 : List Nat) (tz : Tok) :
   Below A₀ base outer h₀ → Fr h₀ L s.heap m → (K39 w.params).In h₀ → News h₀ L s.heap ([(31, tabObj #[])]) → Top p loose mean mg mb h₀ → cs.kind = .function → z = sL cs1 → AllDigits cs1 → 1 ≤ z.length → z.length ≤ 10 → CodeHd base 35 31 → dp + 49 < recursionLimit → un + 260 < cLine →
   (∀ t h' tk' dr' c3 oc3 vs3 tq3, (∀ b o, s.heap.get? b = some o → b ≠ 31 → h'.get? b = some o) → h'.get? 31 = some (tabObj #[rawInt 49, rawInt 4, .ref c3]) → h'.get? c3 = some oc3 → s.heap.get? c3 = none → oc3.data = .fields vs3 → vs3[1]? = some (.str "_str_to_int_inner.<locals>.inner" tq3) → Q (.int ((digitsVal cs1 : Nat) : Int) t) { s with heap := h', toks := tk', drawn := dr' }) →
   wpAny (model rw9.row.prog w) (ktrTop dp un gd cn cs L a0 ccd cl outer) (call (.ref 36) [.str z tz]) Q E s := by
  k_fill
  w_top off
  k_with_none
  (k_with "my omega" => (first | with_reducible assumption | (law_purse 30000 => lia) | omega +splitDisjunctions))
  (k_with "my mem" => (first | exact m9_0 | exact m9_1 | exact m9_2 | exact m9_3 | exact m9_4 | exact m9_5 | exact m9_6 | exact m9_7 | (refine' m9_s ?_; k_mem)))
  (k_with "my sub" => (first | exact allNil | exact allCons (by k_mem) (by lcg_sub) | (intro q9 hq9; repeat (first | with_reducible exact hq9 | refine List.mem_cons_of_mem _ ?_))))
  (k_with "my room" => ktr_room)
  (k_with "my units" => ktr_units)
  (k_with "my ne" => (refine neN ?_; (try dsimp only); first | exact NeH.out (by assumption) | exact Ne.symm (NeH.out (by assumption)) | omega))
  (k_with "my all" => (first | exact allNil | (refine' allCons ?_ ?_; focus k_ne; k_all)))
  (k_with "my exec Assign" => k_fold)
  (k_with "my exec Expr" => k_fold)
  (k_with "my exec If" => k_fold)
  (k_with "my exec AugAssign" => k_fold)
  (k_with "my eval BinOp" => k_fold)
  (k_with "my eval Compare" => k_fold)
  (k_with "my eval Subscript" => k_fold)
  (k_with "my eval Call" => k_fold)
  (k_with "my eval Call Attribute" => k_fold)
  (k_with "my eval IfExp" => k_fold)
  (k_with "my eval List" => k_fold)
  (k_with "my eval Tuple" => k_fold)
  intro B F X N T hk hz hd z1 z2 hch hdp hun hret
  (k_with "my call ref" => (k_dflt (refine' cpow _ _ _ _ _ _ _ _ _ _ _ _ _ _ _ _ _ _ _ _ _ _ _ _ _ _ _ (by k_asm) (by k_asm) (by k_asm) newsNil (by k_asm) rfl (by first | with_reducible assumption | omega) (by first | with_reducible assumption | omega) (by ktr_room) (by ktr_units) ?_); intro D9 o9 h9 tk9 dr9 k9 g9 s9; (obtain l9 := newsNe (by k_asm) s9); simp only [List.forall_mem_cons] at l9; (obtain F9 := kpFr (by k_asm) k9); (obtain N9 := kpNewG (by k_asm) (by k_asm) k9 g9 s9); (try dsimp only)))
  (k_with "my call type:int" => (k_here; refine KIN.call_text (n := ((digitsVal cs1 : Nat) : Int)) (sliceInt hz hd z1 z2) (sliceLen z2) ?_))
  refine wpAny_call ?_
  k_dflt (refine' codeMC ?k1 ?k2 ?k3 ?k4 ?k5 ?kA ?kF ?kK ?k6 ?k7 ?k8 ?k9 ?kB ?kD ?_ ?c2 ?c3 ?c4; (case kA => exact rfl); (case kF => exact rfl); (case kK => assumption); (case k1 => k_asm); (case k2 => k_asm); (case k3 => k_asm); (case k4 => k_asm); (case k5 => k_asm); (case k6 => k_is); (case k7 => k_is); (case k8 => ktr_room); (case k9 => first | exact BindsTo.of_eq rfl | exact binds_K (by k_in) rfl (by k_is) rfl rfl rfl); (case kB => exact rfl); (case kD => decide +kernel); (case c2 => exact rfl); (case c3 => exact rfl); (case c4 => exact rfl); k_whole; intro g' L' h' tk' cells' hg FG' F' N' Y' B' X' T' l1 hL'; (try k_lt l1); k_cells Y'; (try simp only [List.cons_append, List.nil_append] at N'); (try dsimp only); (try k_lift B'); (try k_fold))
  have hLh := ltN (Heap.Ns.lt (Fr.ns F'))
  k_steps
  intro hkp
  exact hret _ _ _ _ _ _ _ _ (fun b o e hb => hkp b o (hg b o e (by simpa using hb))) (newsGet (by k_asm) (by k_mem)) (newsGet (by k_asm) (by k_mem)) (noneOf hg (newsNone (by k_asm) (by k_mem)) (notMemLt2 (l := [(31 : Nat)]) (allCons (by first | with_reducible assumption | omega) (fun _ h => nomatch h)))) (by assumption) (by assumption)
end
section
open PySem PySem.W PyProof.Rows PySem.Calls PySem.NumText
theorem str_ext2 {a b : Str} (h : a.cps.toList = b.cps.toList) : a = b := by
  cases a; cases b
  exact congrArg Str.mk (Array.toList_inj.mp h)
theorem digit_space {c : Nat} (h : 48 ≤ c ∧ c ≤ 57) : Unicode.isSpace c = false := by
  have : ∀ i : Nat, i < 10 → Unicode.isSpace (48 + i) = false := by decide +kernel
  have := this (c - 48) (by first | with_reducible assumption | omega)
  rwa [show 48 + (c - 48) = c from by omega] at this
theorem sameDig {z : Str} {cs : List Nat} (hz : z = sL cs) (hd : AllDigits cs) : stripSame Unicode.isSpace false true z = true := by
  subst hz
  have hs : stripSame Unicode.isSpace false true (sL cs) = true := by
    have hr : (cs.reverse.takeWhile Unicode.isSpace) = [] := by
      cases e : cs.reverse with
      | nil => rfl
      | cons c r =>
        have hm : c ∈ cs := List.mem_reverse.mp (by rw [e]; exact List.mem_cons_self ..)
        rw [List.takeWhile_cons, digit_space (hd c hm)]
        rfl
    unfold stripSame stripHi stripLo
    simp [sL, hr, Str.length]
  exact hs
theorem rstripS {prog : Program} {w : World} {A : Around} {E : Value → Shared → Prop} {s : Shared} {x : Str} {t : Tok} {Q : Value → Shared → Prop} (e : stripSame Unicode.isSpace false true x = true) (h : Q (.str x t) s) : wpAny (model prog w) A (call (.builtin "str.rstrip") [.str x t]) Q E s :=
  call_gives F.slot_str_rstrip (typeIs_str s x t) F.entry_str_rstrip (F.args_str_rstrip_1 _) (gives_str_rstrip x t) (by rw [if_pos e]; exact h)
theorem tokNe {a b : Nat} (h : 0 < b) : a + b ≠ 0 := by omega
theorem replDig {z : Str} {cs : List Nat} (hz : z = sL cs) (hd : AllDigits cs) : Txt.replace z (Str.ofString "_") (Str.ofString "") = z := by
  subst hz
  have e1 : Str.ofString "_" = ⟨#[95]⟩ := by decide +kernel
  have e2 : Str.ofString "" = ⟨#[]⟩ := by decide +kernel
  rw [e1, e2]
  apply str_ext2
  rw [replace_strikes]
  show List.filter _ cs = cs
  exact List.filter_eq_self.mpr fun c hc => by have := hd c hc; simp; omega
theorem kbNewG {h₀ h h' : Heap} {L D : Addr} {m : Str → Option Value} {o : Obj} {news : List (Addr × Obj)} (F : Fr h₀ L h m) (_N : News h₀ L h news) (hd : h'.get? D = some o) (hn : h.get? D = none) : News h₀ L h' [(D, o)] := by
  intro p hp
  rcases List.mem_cons.mp hp with rfl | hp
  · refine ⟨hd, fun e => ?_, ?_⟩
    · obtain ⟨oL, es, ep, hL, r⟩ := F.ns
      have e' : D = L := e
      rw [← e', hn] at hL; cases hL
    · cases q : h₀.get? D with
      | none => rfl
      | some o' => have := F.keep _ _ q; rw [hn] at this; cases this
  · cases hp
set_option maxRecDepth 100000 in
set_option maxHeartbeats 8000000 in
set_option pp.deepTerms false in
set_option pp.maxSteps 3000 in
theorem ifs_hit (w : World) (p : Program) (loose : List Str) (mean : ExcName → Option Value) (mg mb : Str → Option Value) (dp un : Nat) (gd : Option (List Code)) (cn : Str) (cs : Scope) (a0 : Addr) (ccd : Value) (cl : List (Str × Addr)) (outer : List Env) (A₀ : Around) (base h₀ : Heap) (L : Addr) (m : Str → Option Value) (s : Shared) (Q E : Value → Shared → Prop) (z : Str) (cs1 : List Nat) (tz : Tok) (c3 : Addr) (oc3 : Obj) (vs3 : Array Value) (tq3 : Tok) :
   Below A₀ base outer h₀ → Fr h₀ L s.heap m → (K39 w.params).In h₀ → News h₀ L s.heap ([(31, tabObj #[rawInt 49, rawInt 4, .ref c3]), (c3, oc3)]) → Top p loose mean mg mb h₀ → cs.kind = .function → z = sL cs1 → AllDigits cs1 → 1 ≤ z.length → z.length ≤ 10 → CodeHd base 35 31 → oc3.data = .fields vs3 → vs3[1]? = some (.str "_str_to_int_inner.<locals>.inner" tq3) → dp + 59 < recursionLimit → un + 290 < cLine →
   (∀ t h' tk' dr', Kp s.heap h' → Q (.int ((digitsVal cs1 : Nat) : Int) t) { s with heap := h', toks := tk', drawn := dr' }) →
   wpAny (model rw9.row.prog w) (ktrTop dp un gd cn cs L a0 ccd cl outer) (call (.ref 43) [.str z tz]) Q E s := by
  k_fill
  w_top off
  k_with_none
  (k_with "my omega" => (first | with_reducible assumption | (law_purse 30000 => lia) | omega +splitDisjunctions))
  (k_with "my mem" => (first | exact m9_0 | exact m9_1 | exact m9_2 | exact m9_3 | exact m9_4 | exact m9_5 | exact m9_6 | exact m9_7 | (refine' m9_s ?_; k_mem)))
  (k_with "my sub" => (first | exact allNil | exact allCons (by k_mem) (by lcg_sub) | (intro q9 hq9; repeat (first | with_reducible exact hq9 | refine List.mem_cons_of_mem _ ?_))))
  (k_with "my room" => ktr_room)
  (k_with "my units" => ktr_units)
  (k_with "my ne" => (refine neN ?_; (try dsimp only); first | exact NeH.out (by assumption) | exact Ne.symm (NeH.out (by assumption)) | omega))
  (k_with "my all" => (first | exact allNil | (refine' allCons ?_ ?_; focus k_ne; k_all)))
  (k_with "my exec Assign" => k_fold)
  (k_with "my exec Expr" => k_fold)
  (k_with "my exec If" => k_fold)
  (k_with "my exec AugAssign" => k_fold)
  (k_with "my eval BinOp" => k_fold)
  (k_with "my eval Compare" => k_fold)
  (k_with "my eval Subscript" => k_fold)
  (k_with "my eval Call" => k_fold)
  (k_with "my eval Call Attribute" => k_fold)
  (k_with "my eval IfExp" => k_fold)
  (k_with "my eval List" => k_fold)
  (k_with "my eval Tuple" => k_fold)
  intro B F X N T hk hz hd z1 z2 hch hoc3 hvs3 hdp hun hret
  (k_with "my call ref" => (k_dflt (refine' sti_hit _ _ _ _ _ _ _ _ _ _ _ _ _ _ _ _ _ _ _ _ _ _ _ _ _ _ _ _ _ _ (by k_asm) (by k_asm) (by k_asm) (newsCons (by k_asm) (by k_mem) (newsCons (by k_asm) (by k_mem) newsNil)) (by k_asm) rfl ((replDig hz hd).trans hz) hd (by rw [replDig hz hd]; omega) (by rw [replDig hz hd]; omega) (by assumption) (by assumption) (by assumption) (by ktr_room) (by ktr_units) ?_); intro t9 h9 tk9 dr9 k9; (obtain F9 := kpFr (by k_asm) k9); (obtain N9 := kpNews (by k_asm) k9); (try dsimp only)))
  (k_with "my call builtin:str.rstrip" => (k_here; refine rstripS (sameDig hz hd) ?_))
  (k_with "my call builtin:str.replace" => (k_here; refine SC.replaceW (tokNe (by show 0 < 1; decide)) (by first | with_reducible assumption | omega) (by first | with_reducible assumption | omega) (by decide) (by first | with_reducible assumption | omega) (by decide) ?_; intro _ _))
  refine wpAny_call ?_
  k_dflt (refine' codeM ?k1 ?k2 ?k3 ?k4 ?k5 ?kA ?kF ?kK ?k6 ?k7 ?k8 ?k9 ?kB ?_ ?c2 ?c3 ?c4 ?c5; (case kA => exact rfl); (case kF => exact rfl); (case kK => assumption); (case k1 => k_asm); (case k2 => k_asm); (case k3 => k_asm); (case k4 => k_asm); (case k5 => k_asm); (case k6 => k_is); (case k7 => k_is); (case k8 => ktr_room); (case k9 => first | exact BindsTo.of_eq rfl | exact binds_K (by k_in) rfl (by k_is) rfl rfl rfl); (case c5 => decide); (case kB => exact locs rfl); (case c2 => exact rfl); (case c3 => exact rfl); (case c4 => exact rfl); k_whole; intro g' L' h' hg FG' F' N' B' X' T' l1 hL'; (try k_lt l1); (try dsimp only); (try k_lift B'); (try k_fold))
  have hLh := ltN (Heap.Ns.lt (Fr.ns F'))
  k_steps
  intro hkp
  exact hret _ _ _ _ (kpOf hg hkp (fun q hq => (N q hq).1) (allCons (newsGet (by k_asm) (by k_mem)) (allCons (newsGet (by k_asm) (by k_mem)) (fun _ h => nomatch h))))
set_option maxRecDepth 100000 in
set_option maxHeartbeats 8000000 in
set_option pp.deepTerms false in
set_option pp.maxSteps 3000 in
theorem ifs_miss (w : World) (p : Program) (loose : List Str) (mean : ExcName → Option Value) (mg mb : Str → Option Value) (dp un : Nat) (gd : Option (List Code)) (cn : Str) (cs : Scope) (a0 : Addr) (ccd : Value) (cl : List (Str × Addr)) (outer : List Env) (A₀ : Around) (base h₀ : Heap) (L : Addr) (m : Str → Option Value) (s : Shared) (Q E : Value → Shared → Prop) (z : Str) (cs1 : List Nat) (tz : Tok) :
   Below A₀ base outer h₀ → Fr h₀ L s.heap m → (K39 w.params).In h₀ → News h₀ L s.heap ([(31, tabObj #[])]) → Top p loose mean mg mb h₀ → cs.kind = .function → z = sL cs1 → AllDigits cs1 → 1 ≤ z.length → z.length ≤ 10 → CodeHd base 35 31 → dp + 59 < recursionLimit → un + 290 < cLine →
   (∀ t h' tk' dr' c3 oc3 vs3 tq3, (∀ b o, s.heap.get? b = some o → b ≠ 31 → h'.get? b = some o) → h'.get? 31 = some (tabObj #[rawInt 49, rawInt 4, .ref c3]) → h'.get? c3 = some oc3 → s.heap.get? c3 = none → oc3.data = .fields vs3 → vs3[1]? = some (.str "_str_to_int_inner.<locals>.inner" tq3) → Q (.int ((digitsVal cs1 : Nat) : Int) t) { s with heap := h', toks := tk', drawn := dr' }) →
   wpAny (model rw9.row.prog w) (ktrTop dp un gd cn cs L a0 ccd cl outer) (call (.ref 43) [.str z tz]) Q E s := by
  k_fill
  w_top off
  k_with_none
  (k_with "my omega" => (first | with_reducible assumption | (law_purse 30000 => lia) | omega +splitDisjunctions))
  (k_with "my mem" => (first | exact m9_0 | exact m9_1 | exact m9_2 | exact m9_3 | exact m9_4 | exact m9_5 | exact m9_6 | exact m9_7 | (refine' m9_s ?_; k_mem)))
  (k_with "my sub" => (first | exact allNil | exact allCons (by k_mem) (by lcg_sub) | (intro q9 hq9; repeat (first | with_reducible exact hq9 | refine List.mem_cons_of_mem _ ?_))))
  (k_with "my room" => ktr_room)
  (k_with "my units" => ktr_units)
  (k_with "my ne" => (refine neN ?_; (try dsimp only); first | exact NeH.out (by assumption) | exact Ne.symm (NeH.out (by assumption)) | omega))
  (k_with "my all" => (first | exact allNil | (refine' allCons ?_ ?_; focus k_ne; k_all)))
  (k_with "my exec Assign" => k_fold)
  (k_with "my exec Expr" => k_fold)
  (k_with "my exec If" => k_fold)
  (k_with "my exec AugAssign" => k_fold)
  (k_with "my eval BinOp" => k_fold)
  (k_with "my eval Compare" => k_fold)
  (k_with "my eval Subscript" => k_fold)
  (k_with "my eval Call" => k_fold)
  (k_with "my eval Call Attribute" => k_fold)
  (k_with "my eval IfExp" => k_fold)
  (k_with "my eval List" => k_fold)
  (k_with "my eval Tuple" => k_fold)
  intro B F X N T hk hz hd z1 z2 hch hdp hun hret
  (k_with "my call ref" => (k_dflt (refine' sti_miss _ _ _ _ _ _ _ _ _ _ _ _ _ _ _ _ _ _ _ _ _ _ _ _ _ _ (by k_asm) (by k_asm) (by k_asm) (newsCons (by k_asm) (by k_mem) newsNil) (by k_asm) rfl ((replDig hz hd).trans hz) hd (by rw [replDig hz hd]; omega) (by rw [replDig hz hd]; omega) (by assumption) (by ktr_room) (by ktr_units) ?_); intro t9 h9 tk9 dr9 c3 oc3 vs3 tq3 kb9 t31 gc3 sc3 hoc3 hvs3; have ne3 := newsNe (by k_asm) sc3 (31, tabObj #[]) (List.Mem.head _); k_dflt (have F9 := kbFr (P := 31) (o := tabObj #[]) (by k_asm) (by k_asm) (by k_mem) kb9; have N9 := kbTab (P := 31) (o := tabObj #[]) (by k_asm) (by k_mem) t31 (kbNewG (by k_asm) (by k_asm) gc3 sc3)); (try dsimp only)))
  (k_with "my call builtin:str.rstrip" => (k_here; refine rstripS (sameDig hz hd) ?_))
  (k_with "my call builtin:str.replace" => (k_here; refine SC.replaceW (tokNe (by show 0 < 1; decide)) (by first | with_reducible assumption | omega) (by first | with_reducible assumption | omega) (by decide) (by first | with_reducible assumption | omega) (by decide) ?_; intro _ _))
  refine wpAny_call ?_
  k_dflt (refine' codeM ?k1 ?k2 ?k3 ?k4 ?k5 ?kA ?kF ?kK ?k6 ?k7 ?k8 ?k9 ?kB ?_ ?c2 ?c3 ?c4 ?c5; (case kA => exact rfl); (case kF => exact rfl); (case kK => assumption); (case k1 => k_asm); (case k2 => k_asm); (case k3 => k_asm); (case k4 => k_asm); (case k5 => k_asm); (case k6 => k_is); (case k7 => k_is); (case k8 => ktr_room); (case k9 => first | exact BindsTo.of_eq rfl | exact binds_K (by k_in) rfl (by k_is) rfl rfl rfl); (case c5 => decide); (case kB => exact locs rfl); (case c2 => exact rfl); (case c3 => exact rfl); (case c4 => exact rfl); k_whole; intro g' L' h' hg FG' F' N' B' X' T' l1 hL'; (try k_lt l1); (try dsimp only); (try k_lift B'); (try k_fold))
  have hLh := ltN (Heap.Ns.lt (Fr.ns F'))
  k_steps
  intro hkp
  exact hret _ _ _ _ _ _ _ _ (fun b o e hb => hkp b o (hg b o e (by simpa using hb))) (newsGet (by k_asm) (by k_mem)) gc3 (noneOf hg (newsNone (a := c3) (o := oc3) (by k_asm) (by k_mem)) (notMemLt2 (l := [(31 : Nat)]) (allCons ne3 (fun _ h => nomatch h)))) hoc3 hvs3
end
section
open PySem PySem.W PyProof.Rows
noncomputable def dayW (y : Int) : Int := 1461 * ((y - 3760 - 2000) / 4) + 365 * ((y - 3760 - 2000) % 4) + lineDd y + (if lineM y = 3 then 0 else 31)
noncomputable def okY (y : Int) : Bool := decide (dayW y = feastD y) && decide (lineR y = 19 * moonP (y + 1)) && decide (dayW y % 7 = lineW y) && decide (lineM y = 3 ∨ lineM y = 4) && decide (1 ≤ lineDd y ∧ lineDd y < 32)
noncomputable def okAll (a n : Nat) : Bool := (List.range n).all fun i => okY ((a + i : Nat) : Int)
theorem okAt {a n : Nat} {y : Int} (h : okAll a n = true) (h0 : (a : Int) ≤ y) (h1 : y < (a + n : Nat)) : okY y = true := by
  have := List.all_eq_true.mp h (y - a).toNat (List.mem_range.mpr (by first | with_reducible assumption | omega))
  rwa [show ((a + (y - a).toNat : Nat) : Int) = y from by omega] at this
set_option maxRecDepth 100000 in
theorem chunk0 : okAll 3761 500 = true := by decide +kernel
set_option maxRecDepth 100000 in
theorem chunk1 : okAll 4261 500 = true := by decide +kernel
set_option maxRecDepth 100000 in
theorem chunk2 : okAll 4761 500 = true := by decide +kernel
set_option maxRecDepth 100000 in
theorem chunk3 : okAll 5261 500 = true := by decide +kernel
set_option maxRecDepth 100000 in
theorem chunk4 : okAll 5761 500 = true := by decide +kernel
set_option maxRecDepth 100000 in
theorem chunk5 : okAll 6261 500 = true := by decide +kernel
set_option maxRecDepth 100000 in
theorem chunk6 : okAll 6761 500 = true := by decide +kernel
set_option maxRecDepth 100000 in
theorem chunk7 : okAll 7261 500 = true := by decide +kernel
set_option maxRecDepth 100000 in
theorem chunk8 : okAll 7761 500 = true := by decide +kernel
set_option maxRecDepth 100000 in
theorem chunk9 : okAll 8261 500 = true := by decide +kernel
set_option maxRecDepth 100000 in
theorem chunk10 : okAll 8761 1 = true := by decide +kernel
theorem plainLaw {y : Int} (h0 : 3761 ≤ y) (h1 : y ≤ 8761) : dayW y = feastD y ∧ lineR y = 19 * moonP (y + 1) ∧ dayW y % 7 = lineW y ∧ (lineM y = 3 ∨ lineM y = 4) ∧ (1 ≤ lineDd y ∧ lineDd y < 32) := by
  have : okY y = true := by
    by_cases q0 : y < 4261
    · exact okAt chunk0 (by first | with_reducible assumption | omega) (by first | with_reducible assumption | omega)
    by_cases q1 : y < 4761
    · exact okAt chunk1 (by first | with_reducible assumption | omega) (by first | with_reducible assumption | omega)
    by_cases q2 : y < 5261
    · exact okAt chunk2 (by first | with_reducible assumption | omega) (by first | with_reducible assumption | omega)
    by_cases q3 : y < 5761
    · exact okAt chunk3 (by first | with_reducible assumption | omega) (by first | with_reducible assumption | omega)
    by_cases q4 : y < 6261
    · exact okAt chunk4 (by first | with_reducible assumption | omega) (by first | with_reducible assumption | omega)
    by_cases q5 : y < 6761
    · exact okAt chunk5 (by first | with_reducible assumption | omega) (by first | with_reducible assumption | omega)
    by_cases q6 : y < 7261
    · exact okAt chunk6 (by first | with_reducible assumption | omega) (by first | with_reducible assumption | omega)
    by_cases q7 : y < 7761
    · exact okAt chunk7 (by first | with_reducible assumption | omega) (by first | with_reducible assumption | omega)
    by_cases q8 : y < 8261
    · exact okAt chunk8 (by first | with_reducible assumption | omega) (by first | with_reducible assumption | omega)
    by_cases q9 : y < 8761
    · exact okAt chunk9 (by first | with_reducible assumption | omega) (by first | with_reducible assumption | omega)
    exact okAt chunk10 (by first | with_reducible assumption | omega) (by first | with_reducible assumption | omega)
  simp only [okY, Bool.and_eq_true, decide_eq_true_eq] at this
  obtain ⟨⟨⟨⟨a, b⟩, c⟩, d⟩, e⟩ := this
  exact ⟨a, b, c, d, e⟩
theorem lineW_bounds (y : Int) : 0 ≤ lineW y ∧ lineW y < 7 := by unfold lineW; omega
end
section
open PySem PySem.W PyProof.Rows PySem.Calls PyProof.Rows.LCg PyProof.Rows.LCp
set_option maxHeartbeats 2000000
theorem pcOff {h : Heap} {X : Addr} {o : Obj} {b : Addr} (hb : h.get? b = some o) (hX : h.objs.size ≤ X) : b ≠ X := fun e => by
  have h1 : LT.lt (α := Nat) b h.objs.size := Heap.lt_size hb
  have h2 : LE.le (α := Nat) h.objs.size X := hX
  have e' : Eq (α := Nat) b X := e
  omega
section
variable {prog : Program} {w : World} {A : Around} {E : Value → Shared → Prop} {s : Shared} {g : Heap} {L ll D1 D2 : Addr} {m : Str → Option Value} {news : List (Addr × Obj)} {env : Env} {scope : Scope} {cl : List (Str × Addr)} {elt iter : Expr} {x x₂ : Str} {px px₂ tp pos : Pos} {tk : Tok} {Q : Value → Shared → Prop}
/-- what has been laid so far -/
noncomputable def PcYs (f : Value → Str) (a1 a2 : Value) : Nat → List Value → Prop
  | 0, ys => ys = []
  | 1, ys => ∃ t, ys = [.str (f a1) t]
  | _, ys => ∃ t u, ys = [.str (f a1) t, .str (f a2) u]
theorem pcItem {f : Value → Str} {a1 b1 a2 b2 : Value} {i : Nat} {ys : List Value} (hi : i ≤ 2) (hn : ¬ i = 2) (hys : PcYs f a1 a2 i ys) (h1 : (D1, W.listOf #[a1, b1] 0) ∈ news) (h2 : (D2, W.listOf #[a2, b2] 0) ∈ news) :
    ∃ Di a b, (#[Value.ref D1, Value.ref D2] : Array Value)[i]? = some (.ref Di) ∧ (Di, W.listOf #[a, b] 0) ∈ news ∧ (a = a1 ∨ a = a2) ∧ (∀ t, PcYs f a1 a2 (i + 1) (ys ++ [.str (f a) t])) := by
  have : i = 0 ∨ i = 1 := by omega
  rcases this with rfl | rfl
  · refine ⟨D1, a1, b1, rfl, h1, .inl rfl, fun t => ⟨t, ?_⟩⟩
    rw [show ys = [] from hys]; rfl
  · obtain ⟨t0, rfl⟩ := hys
    exact ⟨D2, a2, b2, rfl, h2, .inr rfl, fun t => ⟨t0, t, rfl⟩⟩
theorem pcLen {f : Value → Str} {a1 a2 : Value} {i : Nat} {ys : List Value} (hi : i ≤ 2) (hys : PcYs f a1 a2 i ys) : ys.length ≤ 2 := by
  have : i = 0 ∨ i = 1 ∨ i = 2 := by omega
  rcases this with rfl | rfl | rfl
  · rw [show ys = [] from hys]; decide
  · obtain ⟨t0, rfl⟩ := hys; simp
  · obtain ⟨t0, u0, rfl⟩ := hys; simp
theorem pairTwo {a1 b1 a2 b2 : Value} (f : Value → Str) (hh : A.handled = none) (F : Fr g L s.heap m) (N : News g L s.heap news) (hll : (ll, lst [.ref D1, .ref D2]) ∈ news) (h1 : (D1, W.listOf #[a1, b1] 0) ∈ news) (h2 : (D2, W.listOf #[a2, b2] 0) ∈ news)
    (hclos : closureFor scope env = pure cl) (hcell : ∀ y ∈ scope.names, y.2 ≠ .cell) (hkind : scope.kind = .function) (hnames : ∀ y ∈ scope.names, y.2 = .local → scope.names.lookup y.1 = some .local) (hx : scope.names.lookup x = some .local) (hx₂ : scope.names.lookup x₂ = some .local) (hxx : x ≠ x₂)
    (hiter : wpAny (model prog w) A (eval iter env) (fun v s₁ => v = .ref ll ∧ s₁ = s) E s)
    (ev : ∀ (a : Value) (C : Addr) (oC : Obj) (m₂ : Str → Option Value) (h : Heap) (k : Nat) (E' : Value → Shared → Prop) (Q' : Value → Shared → Prop), (a = a1 ∨ a = a2) → NsObj oC m₂ → m₂ x = some a → Fr g L h m → News g L h ((C, oC) :: news) → (∀ t k', Q' (.str (f a) t) { s with heap := h, toks := k' }) → wpAny (model prog w) A (eval elt (compEnvC scope cl C env)) Q' E' { s with heap := h, toks := k })
    (done : ∀ (D : Addr) (h : Heap) (k : Nat) (t1 t2 : Tok), Fr g L h m → News g L h ((D, lst [.str (f a1) t1, .str (f a2) t2]) :: news) → s.heap.objs.size ≤ D → Q (.ref D) { s with heap := h, toks := k })
    (hs : ∀ z, foldedSetIterable iter env z = pure z := by intro _; rfl) :
    wpAny (model prog w) A (eval (.ListComp elt [⟨.Tuple [.Name x px, .Name x₂ px₂] tk tp, iter, [], 0⟩] scope pos) env) Q E s := by
  rw [eval_ListComp]
  refine wpAny_comprehension_free (use := none) rfl hs hclos hkind hnames (wpAny_mono hiter (fun xv s₁ h₁ => ?_) fun _ _ e => e)
  obtain ⟨rfl, rfl⟩ := h₁
  have hl : s₁.heap.IsList ll #[.ref D1, .ref D2] := ⟨_, (N _ hll).1, rfl, _, rfl⟩
  refine wpAny_pyIter_list hl ?_
  generalize hI : s₁.heap.objs.size = I
  generalize hH1 : s₁.heap.push { cls := .type "list_iterator", data := .fields #[.ref ll, .int 0 0] } = H1
  have zH1 : H1.objs.size = I + 1 := by rw [← hH1, Heap.size_push, hI]
  have up1 : ∀ b o, s₁.heap.get? b = some o → H1.get? b = some o := fun b o e => hH1 ▸ Heap.get?_push_of_some _ e
  have itI : H1.IsListIter I ll 0 := by rw [← hH1, ← hI]; exact ⟨_, Heap.get?_push_size _ rfl, rfl, rfl⟩
  refine wpAny_newObj_type (wpAny_newFunctionEnv hcell (by intro y hy; simp at hy) (fun h₁ hns₁ hsb₁ => ?_) hkind)
  dsimp only at hns₁ hsb₁ ⊢
  generalize hH2 : H1.push { cls := .type "list", dict := none, data := .seq ([] : List Value).toArray } = H2 at hns₁ hsb₁ ⊢
  have zH2 : H2.objs.size = I + 2 := by rw [← hH2, Heap.size_push, zH1]
  have up2 : ∀ b o, H1.get? b = some o → H2.get? b = some o := fun b o e => hH2 ▸ Heap.get?_push_of_some _ e
  have up3 : ∀ b o, H2.get? b = some o → h₁.get? b = some o := fun b o e => hsb₁.extBut b o (pcOff e (Nat.le_refl _)) (Heap.get?_push_of_some _ e)
  generalize hC : H2.objs.size = C at hns₁ hsb₁ ⊢
  generalize hD : H1.objs.size = D at ⊢
  have cC : C = I + 2 := by rw [← hC, zH2]
  have cD : D = I + 1 := by rw [← hD, zH1]
  have accD : h₁.get? D = some (lst []) := up3 _ _ (by rw [← hH2, ← hD]; exact Heap.get?_push_size _ rfl)
  have up : ∀ b o, s₁.heap.get? b = some o → h₁.get? b = some o := fun b o e => up3 _ _ (up2 _ _ (up1 _ _ e))
  have itI₁ : h₁.IsListIter I ll 0 := by
    obtain ⟨o, ho, r⟩ := itI
    exact ⟨o, up3 _ _ (up2 _ _ ho), r⟩
  have newAt : ∀ X : Addr, LE.le (α := Nat) I X → X ≠ L ∧ g.get? X = none := fun X hX => by
    have hLI : LT.lt (α := Nat) L I := by rw [← hI]; exact F.ns.lt
    refine ⟨fun e => ?_, ?_⟩
    · have e' : Eq (α := Nat) X L := e
      omega
    · cases q : g.get? X with
      | none => rfl
      | some o =>
        have := Heap.lt_size (F.keep _ _ q)
        rw [hI] at this
        have h2 : LT.lt (α := Nat) X I := this
        omega
  have nI := newAt I (Nat.le_refl _)
  have nD := newAt D (by rw [cD]; exact Nat.le_succ _)
  have nC := newAt C (by rw [cC]; exact Nat.le_add_right _ _)
  have nID : Ne (α := Nat) I D := by rw [cD]; exact Nat.ne_of_lt (Nat.lt_succ_self _)
  have nIC : Ne (α := Nat) I C := by rw [cC]; exact Nat.ne_of_lt (Nat.lt_add_of_pos_right (by decide))
  have nDC : Ne (α := Nat) D C := by rw [cD, cC]; exact Nat.ne_of_lt (Nat.lt_succ_self _)
  have offs : ∀ p ∈ news, Ne (α := Nat) p.1 I ∧ Ne (α := Nat) p.1 D ∧ Ne (α := Nat) p.1 C := fun p hp => by
    have h : LT.lt (α := Nat) p.1 I := by rw [← hI]; exact Heap.lt_size (N p hp).1
    have e1 : Eq (α := Nat) D (I + 1) := cD
    have e2 : Eq (α := Nat) C (I + 2) := cC
    exact ⟨Nat.ne_of_lt h, by omega, by omega⟩
  have loop : ∀ s₃ : Shared, s₃ = { s₁ with heap := h₁, toks := s₁.toks + ([] : List (Str × Value)).length } →
      codeAny (model prog w) A (.compLoop (.ListComp elt [⟨.Tuple [.Name x px, .Name x₂ px₂] tk tp, iter, [], 0⟩] scope pos) 0 (.ref I) (.ref D) (compEnvC scope cl C env))
        (compPost (model prog w) A E none Q (.ref D) C) s₃ := by
    rintro s₃ rfl
    refine codeAny_compLoop_pair
      (fun k s' => ∃ h' tk i ys m', s' = { s₁ with heap := h', toks := tk } ∧ k = 3 - i ∧ i ≤ 2 ∧ PcYs f a1 a2 i ys ∧ h'.IsListIter I ll i ∧ Fr g L h' m ∧ h'.Ns C m' ∧ News g L h' ((D, lst ys) :: news)) ?_ 3
      ⟨h₁, _, 0, [], _, rfl, rfl, by decide, rfl, itI₁, F.keeps up, hns₁, fun p hp => ?_⟩
    · rintro k s' ⟨h', tk', i, ys, m', rfl, rfl, hi, hys, hit, F', hn', N'⟩
      have hl' : h'.IsList ll #[.ref D1, .ref D2] := ⟨_, (N' _ (.tail _ hll)).1, rfl, _, rfl⟩
      have offD : ∀ p ∈ ((D, lst ys) :: news), Ne (α := Nat) p.1 I ∧ Ne (α := Nat) p.1 C := fun p hp => by
        rcases List.mem_cons.mp hp with rfl | hp
        · exact ⟨Ne.symm nID, nDC⟩
        · exact ⟨(offs p hp).1, (offs p hp).2.2⟩
      by_cases h2i : i = 2
      · subst h2i
        obtain ⟨t, u, rfl⟩ := hys
        refine wpAny_pyNext_list_end hh hit hl' rfl fun h₂ hb₂ => ?_
        refine ⟨m', hn'.at' fun o e => hb₂ _ _ (Ne.symm nIC) e, fun h₃ hs₃ => done D h₃ _ t u ?_ ?_ ?_⟩
        · exact ((⟨F'.ns.at' fun o e => hb₂ _ _ (Ne.symm nI.1) e, fun b o e => hb₂ b o (fun q => by rw [q, nI.2] at e; cases e) (F'.keep b o e), F'.above⟩ : Fr g L h₂ m)).change hs₃ nC.1 nC.2
        · intro p hp
          refine ⟨hs₃.extBut _ _ (offD p hp).2 (hb₂ _ _ (offD p hp).1 (N' p hp).1), (N' p hp).2⟩
        · rw [hI, cD]; exact Nat.le_succ _
      · obtain ⟨Di, a, b, hDi, hmem, ha, hnext⟩ : ∃ Di a b, (#[Value.ref D1, Value.ref D2] : Array Value)[i]? = some (.ref Di) ∧ (Di, W.listOf #[a, b] 0) ∈ news ∧ (a = a1 ∨ a = a2) ∧ (∀ t, PcYs f a1 a2 (i + 1) (ys ++ [.str (f a) t])) := pcItem hi h2i hys h1 h2
        refine wpAny_pyNext_list_item hit hl' hDi fun h₂ hit₂ hb₂ => ?_
        refine wpAny_letOwnedTupleGo_listiter hit₂ ?_
        have F₂ : Fr g L h₂ m := F'.change hb₂ nI.1 nI.2
        have hn₂ : h₂.Ns C m' := hn'.sameBut hb₂ (Ne.symm nIC)
        obtain ⟨oI, hoI, hcI, hdI⟩ := id hit₂
        obtain ⟨oC, hC₂, hoC⟩ := ns_obj hn₂
        have N₂ : News g L h₂ ((I, oI) :: (C, oC) :: (D, lst ys) :: news) := fun p hp => by
          rcases List.mem_cons.mp hp with rfl | hp
          · exact ⟨hoI, nI⟩
          · rcases List.mem_cons.mp hp with rfl | hp
            · exact ⟨hC₂, nC⟩
            · exact ⟨hb₂.extBut _ _ (offD p hp).1 (N' p hp).1, (N' p hp).2⟩
        have hlD : h₂.IsList Di #[a, b] := ⟨_, (N₂ _ (.tail _ (.tail _ (.tail _ hmem)))).1, rfl, _, rfl⟩
        refine kun_list F₂ N₂ hlD hh rfl rfl fun h₅ F₅ N₅ => ?_
        have hn₅ : h₅.Ns C m' := hoC.ns (N₅ (C, oC) (.tail _ (.head _))).1
        refine assignInOrder_cons (wpAny_assign_Name (wpAny_storeName_local (lookup_relabel_local hx) hn₅ (fun h₆ hn₆ hs₆ => ?_) (by simp [compEnvC, relabel, hkind])))
        refine assignInOrder_cons (wpAny_assign_Name (wpAny_storeName_local (lookup_relabel_local hx₂) hn₆ (fun h₇ hn₇ hs₇ => ?_) (by simp [compEnvC, relabel, hkind])))
        refine assignInOrder_nil ?_
        have F₇ : Fr g L h₇ m := (F₅.change hs₆ nC.1 nC.2).change hs₇ nC.1 nC.2
        obtain ⟨oC', hC₇, hoC'⟩ := ns_obj hn₇
        have k₇ : ∀ b o, b ≠ C → h₅.get? b = some o → h₇.get? b = some o := fun b o hb e => hs₇.extBut b o hb (hs₆.extBut b o hb e)
        have ND : News g L h₇ ((D, lst ys) :: news) := fun p hp => by
          have z := N₅ p (.tail _ (.tail _ hp))
          exact ⟨k₇ _ _ (offD p hp).2 z.1, z.2⟩
        refine ev a C oC' _ h₇ _ _ _ ha hoC' (by simp [hxx]) F₇ (fun p hp => ?_) fun t k' => ?_
        · rcases List.mem_cons.mp hp with rfl | hp
          · exact ⟨hC₇, nC⟩
          · exact ND p (.tail _ hp)
        · refine append_at (ND (D, lst ys) (.head _)).1 (fun h₈ hs₈ hD₈ => ?_) ?_
          · refine ⟨3 - (i + 1), by omega, h₈, k', i + 1, ys ++ [.str (f a) t], _, rfl, rfl, by omega, hnext t, ?_, F₇.change hs₈ nD.1 nD.2, (hoC'.ns hC₇).sameBut hs₈ (Ne.symm nDC), fun p hp => ?_⟩
            · exact ⟨oI, hs₈.extBut _ _ nID (k₇ _ _ nIC (N₅ (I, oI) (.head _)).1), hcI, hdI⟩
            · rcases List.mem_cons.mp hp with rfl | hp
              · exact ⟨hD₈.trans (congrArg some (lst_snoc ys _)), nD⟩
              · exact ⟨hs₈.extBut _ _ (offs p hp).2.1 (ND p (.tail _ hp)).1, (N p hp).2⟩
          · rw [List.size_toArray, sizeLine_eq]
            have : ys.length ≤ 2 := pcLen hi hys
            omega
    · rcases List.mem_cons.mp hp with rfl | hp
      · exact ⟨accD, nD⟩
      · exact ⟨up _ _ (N p hp).1, (N p hp).2⟩
  have hlt : ll ≠ I := pcOff (N _ hll).1 (Nat.le_of_eq hI)
  exact codeAny_compStart_list (loop _ rfl) ((Walks.list (prog := prog) (w := w) (A := A) hh I ll hlt #[.ref D1, .ref D2]).self 0 _ _ _ ⟨itI₁, ⟨_, up _ _ (N _ hll).1, rfl, _, rfl⟩⟩ (loop _ rfl))
end
end
section
open PySem PySem.W PyProof.Rows PySem.Calls PySem.NumText
theorem mulNl {e : Int} (h0 : 1 ≤ e) (h1 : e ≤ 4) : Txt.mul (Str.ofString "\n") e = sL (List.replicate e.toNat 10) := by
  have : e = 1 ∨ e = 2 ∨ e = 3 ∨ e = 4 := by omega
  rcases this with rfl | rfl | rfl | rfl <;> decide +kernel
noncomputable def clParts (K : Frag) : Option (Expr × Scope × Scope) := (fnParts K 165).bind fun q => (q.1[6]?).bind fun a => onAssign a fun v => onCall v fun l1 => (l1[0]?).bind fun x1 => onCall x1 fun l2 => (l2[0]?).bind fun x2 => onCall x2 fun l3 => (l3[0]?).bind fun x3 => onCall x3 fun l4 => (l4[0]?).bind fun x4 => onComp x4 fun elt _ s2 => some (elt, s2, q.2)
set_option maxRecDepth 100000 in
set_option maxHeartbeats 8000000 in
set_option pp.deepTerms false in
set_option pp.maxSteps 3000 in
theorem evLine (w : World) (p : Program) (loose : List Str) (mean : ExcName → Option Value) (mg mb : Str → Option Value) (dp un : Nat) (gd : Option (List Code)) (g : Heap) (L' fa : Addr) (cd : Value) (s : Shared) (Q E : Value → Shared → Prop) (elt : Expr) (s2 scope : Scope) (C : Addr) (oC o4 : Obj) (m m₂ : Str → Option Value) (z : Str) (tz te : Tok) (e : Int) :
   clParts (K39 w.params) = some (elt, s2, scope) → Fr g L' s.heap m → (K39 w.params).In g → News g L' s.heap [(C, oC), (L' + 1 + 1 + 1 + 1, o4)] → Top p loose mean mg mb g → LCg.NsObj oC m₂ → m₂ (Str.ofString "line") = some (.str z tz) → o4.data = .cell (some (.int e te)) → 1 ≤ e → e ≤ 4 → z.length ≤ 60 →
   (∀ t k', Q (.str (z ++ sL (List.replicate e.toNat 10)) t) { s with toks := k' }) →
   wpAny (model rw9.row.prog w) (({ depth := dp, frames := some [], guards := gd, units := un } : Around).deeper (envOfC (Str.ofString "law") scope L' fa cd)) (eval elt (compEnvC s2 [(Str.ofString "ends", L' + 1 + 1 + 1 + 1)] C (envOfC (Str.ofString "law") scope L' fa cd))) Q E s := by
  k_fill
  w_top off
  k_with_none
  (k_with "my omega" => (first | with_reducible assumption | (law_purse 30000 => lia) | omega +splitDisjunctions))
  (k_with "my mem" => (first | exact m9_0 | exact m9_1 | exact m9_2 | exact m9_3 | exact m9_4 | exact m9_5 | exact m9_6 | exact m9_7 | (refine' m9_s ?_; k_mem)))
  (k_with "my sub" => (first | exact allNil | exact allCons (by k_mem) (by lcg_sub) | (intro q9 hq9; repeat (first | with_reducible exact hq9 | refine List.mem_cons_of_mem _ ?_))))
  (k_with "my room" => ktr_room)
  (k_with "my units" => ktr_units)
  (k_with "my ne" => (refine neN ?_; (try dsimp only); first | exact NeH.out (by assumption) | exact Ne.symm (NeH.out (by assumption)) | omega))
  (k_with "my all" => (first | exact allNil | (refine' allCons ?_ ?_; focus k_ne; k_all)))
  (k_with "my exec Assign" => k_fold)
  (k_with "my exec Expr" => k_fold)
  (k_with "my exec If" => k_fold)
  (k_with "my exec AugAssign" => k_fold)
  (k_with "my eval BinOp" => k_fold)
  (k_with "my eval Compare" => k_fold)
  (k_with "my eval Subscript" => k_fold)
  (k_with "my eval Call" => k_fold)
  (k_with "my eval Call Attribute" => k_fold)
  (k_with "my eval IfExp" => k_fold)
  (k_with "my eval List" => k_fold)
  (k_with "my eval Tuple" => k_fold)
  intro hp F X N TT hC hx hd4 e0 e1 zl hret
  cases hp
  dsimp only
  k_steps
  rw [mulNl e0 e1]
  exact hret _ _
end
section
open PySem PySem.W PyProof.Rows PySem.Calls
section
variable {prog : Program} {w : World} {A : Around} {E : Value → Shared → Prop} {s : Shared} {Q : Value → Shared → Prop}
theorem joinNil (a b : Str) : Txt.join (Str.ofString "") [a, b] = a ++ b := by
  have e : (Str.ofString "").cps.toList = [] := by decide +kernel
  apply str_ext
  simp [Txt.join, Builtin.Str.glued, Str.cps_append, e]
theorem joinTwo {D : Addr} {a b : Str} {t u v : Tok} (hl : s.heap.get? D = some (LCg.lst [.str a t, .str b u])) (ha : a.length ≤ 1000) (hb : b.length ≤ 1000) (h : ∀ t' k, Q (.str (a ++ b) t') { s with toks := k }) : wpAny (model prog w) A (call (.builtin "str.join") [.str (Str.ofString "") v, .ref D]) Q E s := by
  have h0 : (Str.ofString "").length = 0 := by decide +kernel
  refine join_list (items := #[.str a t, .str b u]) (ys := [a, b]) ⟨_, hl, rfl, _, rfl⟩ (by repeat constructor) (by simp only [List.map_cons, List.map_nil, List.sum_cons, List.sum_nil, List.length_cons, List.length_nil, h0]; omega) fun t' k => ?_
  rw [joinNil]
  exact h t' k
theorem chsItems : ∀ (cs : List Nat) (vs : List Value), vs.length = cs.length → (∀ (j : Nat) (v : Value), vs[j]? = some v → ∃ (c : Nat) (u : Tok), cs[j]? = some c ∧ v = Value.str ⟨#[c]⟩ u) → Chs vs cs
  | [], [], _, _ => .nil
  | [], _ :: _, e, _ => nomatch e
  | _ :: _, [], e, _ => nomatch e
  | c :: cs, v :: vs, e, h => by
    obtain ⟨c', u, h1, rfl⟩ := h 0 v rfl
    have h1' : c = c' := Option.some.inj h1
    subst h1'
    refine .cons c u (chsItems cs vs (by simpa using e) fun j v hj => ?_)
    exact h (j + 1) v (by simpa using hj)
theorem listChs (hh : A.handled = none) {x : Str} {t : Tok} (hn : x.length ≤ 1000) (h : ∀ h' k vs cnt, Kp s.heap h' → h'.get? s.heap.objs.size = some (W.listOf vs.toArray cnt) → Chs vs x.cps.toList → Q (.ref s.heap.objs.size) { s with heap := h', toks := k }) : wpAny (model prog w) A (call (.type "list") [.str x t]) Q E s := by
  refine call_list_str hh x t (fun h' tk acc c hk hS hi => ?_) (by rw [sizeLine_eq]; show x.length ≤ _; omega)
  refine h h' tk acc.toList c (fun b o e => hk b o e) (by rw [hS, Array.toArray_toList]) ?_
  refine chsItems _ _ (by rw [Array.length_toList, Array.length_toList]; exact hi.1) fun j v hj => ?_
  obtain ⟨c', u, h1, h2⟩ := hi.2 j v (by rw [← Array.getElem?_toList]; exact hj)
  exact ⟨c', u, by rw [Array.getElem?_toList]; exact h1, h2⟩
end
end
section
open PySem PySem.W PyProof.Rows
set_option maxRecDepth 100000 in
set_option maxHeartbeats 8000000 in
set_option pp.deepTerms false in
set_option pp.maxSteps 3000 in
theorem stream (w : World) (p : Program) (loose : List Str) (mean : ExcName → Option Value) (mg mb : Str → Option Value) (dp un : Nat) (gd : Option (List Code)) (cn : Str) (cs : Scope) (a0 : Addr) (ccd : Value) (cl : List (Str × Addr)) (outer : List Env) (A₀ : Around) (base h₀ : Heap) (L : Addr) (m : Str → Option Value) (s : Shared) (Q E : Value → Shared → Prop) (l : Addr) (cnt : Nat) (vs : List Value) :
   Below A₀ base outer h₀ → Fr h₀ L s.heap m → (K39 w.params).In h₀ → News h₀ L s.heap ([(136, tabObj #[]), (l, W.listOf vs.toArray cnt)]) → Top p loose mean mg mb h₀ → cs.kind = .function → CodeHd base 140 136 → LT.lt (α := Nat) 136 l → dp + 29 < recursionLimit → un + 160 < cLine →
   (∀ (st ds pa f c' cL : Addr) (oc oL : Obj) (pm ctv : Value) (params : Arguments) (body : Expr) (scope : Scope) (vsc : Array Value) (tq j1 j2 j3 j4 j5 u1 u3 : Tok) h' tk', (∀ b o, s.heap.get? b = some o → b ≠ 136 → h'.get? b = some o) → h'.get? 136 = some (tabObj #[rawInt 183, rawInt 18, .ref c']) → lamParts (K39 w.params) 141 1 = some (params, body, scope) → h'.get? st = some (instObj 130 ds) → h'.get? ds = some (dictOf [{ hash := PyData.keyHash w.params (Str.ofString "lineno"), key := .str (Str.ofString "lineno") j1, val := .int 1 u1 }, { hash := PyData.keyHash w.params (Str.ofString "instream"), key := .str (Str.ofString "instream") j2, val := .none }, { hash := PyData.keyHash w.params (Str.ofString "whitespace"), key := .str (Str.ofString "whitespace") j3, val := .str (Str.ofString "\n\t\r ") u3 }, { hash := PyData.keyHash w.params (Str.ofString "pushback"), key := .str (Str.ofString "pushback") j4, val := .ref pa }, { hash := PyData.keyHash w.params (Str.ofString "read"), key := .str (Str.ofString "read") j5, val := .ref f }] 5) → h'.get? f = some (kla_obj (Str.ofString "<lambda>") (Str.ofString "_law_stream.<locals>.<lambda>") params body scope [(Str.ofString "left", cL)] pm c' ctv) → h'.get? c' = some oc → oc.data = .fields vsc → vsc[1]? = some (.str (Str.ofString "_law_stream.<locals>.<lambda>") tq) → h'.get? cL = some oL → oL.data = .cell (some (.ref l)) → s.heap.objs.size ≤ cL → LT.lt (α := Nat) cL st → LT.lt (α := Nat) cL ds → LT.lt (α := Nat) st c' → LT.lt (α := Nat) ds c' → LT.lt (α := Nat) c' f → LT.lt (α := Nat) ds st → Q (.ref st) { s with heap := h', toks := tk' }) →
   wpAny (model rw9.row.prog w) (ktrTop dp un gd cn cs L a0 ccd cl outer) (call (.ref 141) [.ref l]) Q E s := by
  k_fill
  w_top off
  k_with_none
  (k_with "my omega" => (first | with_reducible assumption | (law_purse 30000 => lia) | omega +splitDisjunctions))
  (k_with "my mem" => (first | exact m9_0 | exact m9_1 | exact m9_2 | exact m9_3 | exact m9_4 | exact m9_5 | exact m9_6 | exact m9_7 | (refine' m9_s ?_; k_mem)))
  (k_with "my sub" => (first | exact allNil | exact allCons (by k_mem) (by lcg_sub) | (intro q9 hq9; repeat (first | with_reducible exact hq9 | refine List.mem_cons_of_mem _ ?_))))
  (k_with "my room" => ktr_room)
  (k_with "my units" => ktr_units)
  (k_with "my ne" => (refine neN ?_; (try dsimp only); first | exact NeH.out (by assumption) | exact Ne.symm (NeH.out (by assumption)) | omega))
  (k_with "my all" => (first | exact allNil | (refine' allCons ?_ ?_; focus k_ne; k_all)))
  (k_with "my exec Assign" => k_fold)
  (k_with "my exec Expr" => k_fold)
  (k_with "my exec If" => k_fold)
  (k_with "my exec AugAssign" => k_fold)
  (k_with "my eval BinOp" => k_fold)
  (k_with "my eval Compare" => k_fold)
  (k_with "my eval Subscript" => k_fold)
  (k_with "my eval Call" => k_fold)
  (k_with "my eval Call Attribute" => k_fold)
  (k_with "my eval IfExp" => k_fold)
  (k_with "my eval List" => k_fold)
  (k_with "my eval Tuple" => k_fold)
  intro B F X N T hk hch l6 hdp hun hret
  refine wpAny_call ?_
  k_dflt (refine' codeMC ?k1 ?k2 ?k3 ?k4 ?k5 ?kA ?kF ?kK ?k6 ?k7 ?k8 ?k9 ?kB ?kD ?_ ?c2 ?c3 ?c4; (case kA => exact rfl); (case kF => exact rfl); (case kK => assumption); (case k1 => k_asm); (case k2 => k_asm); (case k3 => k_asm); (case k4 => k_asm); (case k5 => k_asm); (case k6 => k_is); (case k7 => k_is); (case k8 => ktr_room); (case k9 => first | exact BindsTo.of_eq rfl | exact binds_K (by k_in) rfl (by k_is) rfl rfl rfl); (case kB => exact rfl); (case kD => decide +kernel); (case c2 => exact rfl); (case c3 => exact rfl); (case c4 => exact rfl); k_whole; intro g' L' h' tk' cells' hg FG' F' N' Y' B' X' T' l1 hL'; (try k_lt l1); k_cells Y'; (try simp only [List.cons_append, List.nil_append] at N'); (try dsimp only); (try k_lift B'); (try k_fold))
  have hLh := ltN (Heap.Ns.lt (Fr.ns F'))
  k_steps
  intro hkp
  exact hret _ _ _ _ _ _ _ _ _ _ _ _ _ _ _ _ _ _ _ _ _ _ _ _ (fun b o e hb => (Decidable.em (b = l)).elim (fun q => by subst q; exact ((N _ (.tail _ (.head _))).1.symm.trans e) ▸ newsGet (by k_asm) (by k_mem)) (fun q => hkp b o (hg b o e (by simpa using ⟨hb, q⟩)))) (newsGet (by k_asm) (by k_mem)) rfl (newsGet (by k_asm) (by k_mem)) (newsGet (by k_asm) (by k_mem)) (newsGet (by k_asm) (by k_mem)) (newsGet (by k_asm) (by k_mem)) (by assumption) (by assumption) (newsGet (by k_asm) (by k_mem)) (by assumption) (by first | with_reducible assumption | omega) (by first | with_reducible assumption | omega) (by first | with_reducible assumption | omega) (by first | with_reducible assumption | omega) (by first | with_reducible assumption | omega) (by first | with_reducible assumption | omega) (by first | with_reducible assumption | omega)
end
section
open PySem PySem.W PyProof.Rows PySem.Calls PySem.NumText
theorem updMem {D : Addr} {o o' : Obj} {news news' : List (Addr × Obj)} (U : Upd D o o' news news') : (D, o) ∈ news ∧ ∀ q ∈ news', q = (D, o') ∨ (q ∈ news ∧ q.1 ≠ D) := by
  obtain ⟨pre, post, rfl, rfl, a, b⟩ := U.split
  refine ⟨List.mem_append.mpr (.inr (.head _)), fun q hq => ?_⟩
  rcases List.mem_append.mp hq with h | h
  · exact .inr ⟨List.mem_append.mpr (.inl h), a q h⟩
  · rcases List.mem_cons.mp h with rfl | h
    · exact .inl rfl
    · exact .inr ⟨List.mem_append.mpr (.inr (.tail _ h)), b q h⟩
theorem kbUpd2 {h₀ h h' : Heap} {L P R : Addr} {o1 o1' o2 o2' : Obj} {news n1 n2 : List (Addr × Obj)} (N : News h₀ L h news) (U1 : Upd P o1 o1' news n1) (U2 : Upd R o2 o2' n1 n2) (k : ∀ b o, h.get? b = some o → b ≠ P → b ≠ R → h'.get? b = some o) (hP : h'.get? P = some o1') (hR : h'.get? R = some o2') : News h₀ L h' n2 := by
  obtain ⟨m1, f1⟩ := updMem U1
  obtain ⟨m2, f2⟩ := updMem U2
  intro q hq
  rcases f2 q hq with rfl | ⟨hq, nR⟩
  · rcases f1 _ m2 with e | ⟨hq, _⟩
    · have e1 : R = P := congrArg Prod.fst e
      exact ⟨hR, by rw [e1]; exact (N _ m1).2⟩
    · exact ⟨hR, (N _ hq).2⟩
  · rcases f1 q hq with rfl | ⟨hq, nP⟩
    · exact ⟨hP, (N _ m1).2⟩
    · exact ⟨k _ _ (N q hq).1 nP nR, (N q hq).2⟩
theorem newsSz {h₀ h : Heap} {L D : Addr} {news : List (Addr × Obj)} (N : News h₀ L h news) (_ : h.objs.size ≤ D) : ∀ p ∈ news, p.1 < h.objs.size := fun p hp => Heap.lt_size (N p hp).1
theorem noneGe {h : Heap} {D : Addr} (hD : h.objs.size ≤ D) : h.get? D = none := Heap.get?_none_of_le hD
theorem geNe {h : Heap} {I X : Addr} {o : Obj} (hI : h.get? I = some o) (hX : h.objs.size ≤ X) : Ne (α := Nat) X I := fun e => by
  have h1 : LT.lt (α := Nat) I h.objs.size := Heap.lt_size hI
  have h2 : LE.le (α := Nat) h.objs.size X := hX
  have e' : Eq (α := Nat) X I := e
  omega
theorem off3Same {I C D : Addr} : ∀ {r r' : List (Addr × Obj)}, r.map (·.1) = r'.map (·.1) → LCg.Off3 I C D r → LCg.Off3 I C D r'
  | [], [], _, _ => True.intro
  | [], _ :: _, e, _ => nomatch e
  | _ :: _, [], e, _ => nomatch e
  | p :: r, q :: r', e, h => by
    injection e with e1 e2
    refine ⟨?_, off3Same e2 h.2⟩
    have e1' : p.1 = q.1 := e1
    rw [← e1']; exact h.1
theorem updFst {D : Addr} {o o' : Obj} {news news' : List (Addr × Obj)} (U : Upd D o o' news news') : news.map (·.1) = news'.map (·.1) := by
  obtain ⟨pre, post, rfl, rfl, _, _⟩ := U.split
  simp
theorem compMiss {h₀ h' : Heap} {L I C D P R D9 c1 c2 : Addr} {m : Str → Option Value} {s₁ : Shared} {oI oC oD oP oP' oR oR' o9 oc1 oc2 : Obj} {rest : Value → List (Addr × Obj) → Prop} {y : Value} {tk : Nat} {r r1 r2 : List (Addr × Obj)}
   (F : Fr h₀ L s₁.heap m) (N : News h₀ L s₁.heap ((I, oI) :: (C, oC) :: (D, oD) :: r)) (off : LCg.Off3 I C D r) (U1 : Upd P oP oP' r r1) (U2 : Upd R oR oR' r1 r2)
   (k : ∀ b o, s₁.heap.get? b = some o → b ≠ P → b ≠ R → h'.get? b = some o) (hP : h'.get? P = some oP') (hR : h'.get? R = some oR') (g9 : h'.get? D9 = some o9) (s9 : s₁.heap.objs.size ≤ D9) (gc1 : h'.get? c1 = some oc1) (sc1 : s₁.heap.objs.size ≤ c1) (gc2 : h'.get? c2 = some oc2) (sc2 : s₁.heap.objs.size ≤ c2)
   (hrest : rest y ((D9, o9) :: (c1, oc1) :: (c2, oc2) :: r2)) : LCg.CompEnd h₀ L m s₁ I oI C oC D oD (fun _ => True) rest y { s₁ with heap := h', toks := tk } := by
  have Nr : News h₀ L s₁.heap r := newsSub N fun p hp => .tail _ (.tail _ (.tail _ hp))
  have N2 := kbUpd2 Nr U1 U2 k hP hR
  obtain ⟨mP, _⟩ := updMem U1
  obtain ⟨mR', fR⟩ := updMem U2
  have off1 := off3Same (updFst U1) off
  have offP := LCg.Off3.mem off _ mP
  have offR := LCg.Off3.mem off1 _ mR'
  have mPN : (P, oP) ∈ ((I, oI) :: (C, oC) :: (D, oD) :: r) := .tail _ (.tail _ (.tail _ mP))
  have mR : ∃ o, (R, o) ∈ r := by
    have : R ∈ r1.map (·.1) := List.mem_map.mpr ⟨_, mR', rfl⟩
    rw [← updFst U1] at this
    obtain ⟨q, hq, e⟩ := List.mem_map.mp this
    obtain ⟨q1, q2⟩ := q
    cases e
    exact ⟨q2, hq⟩
  obtain ⟨oR0, mR⟩ := mR
  have mRN : (R, oR0) ∈ ((I, oI) :: (C, oC) :: (D, oD) :: r) := .tail _ (.tail _ (.tail _ mR))
  have F' : Fr h₀ L h' m := kb2Fr F N mPN mRN k
  have hI := N (I, oI) (.head _)
  have hC := N (C, oC) (.tail _ (.head _))
  have hD := N (D, oD) (.tail _ (.tail _ (.head _)))
  have NA : News h₀ L h' ((D9, o9) :: (c1, oc1) :: (c2, oc2) :: r2) := newsAdd F (newsAdd F (newsAdd F N2 gc2 (noneGe sc2)) gc1 (noneGe sc1)) g9 (noneGe s9)
  refine ⟨h', tk, (D9, o9) :: (c1, oc1) :: (c2, oc2) :: r2, rfl, F', ?_, ?_, True.intro, hrest⟩
  · intro q hq
    rcases List.mem_cons.mp hq with rfl | hq
    · exact ⟨k _ _ hI.1 (Ne.symm offP.1) (Ne.symm offR.1), hI.2⟩
    · rcases List.mem_cons.mp hq with rfl | hq
      · exact ⟨k _ _ hC.1 (Ne.symm offP.2.1) (Ne.symm offR.2.1), hC.2⟩
      · rcases List.mem_cons.mp hq with rfl | hq
        · exact ⟨k _ _ hD.1 (Ne.symm offP.2.2) (Ne.symm offR.2.2), hD.2⟩
        · exact NA q hq
  · exact ⟨⟨geNe hI.1 s9, geNe hC.1 s9, geNe hD.1 s9⟩, ⟨geNe hI.1 sc1, geNe hC.1 sc1, geNe hD.1 sc1⟩, ⟨geNe hI.1 sc2, geNe hC.1 sc2, geNe hD.1 sc2⟩, off3Same (updFst U2) off1⟩
theorem compHit {h₀ h' : Heap} {L I C D D9 : Addr} {m : Str → Option Value} {s₁ : Shared} {oI oC oD o9 : Obj} {rest : Value → List (Addr × Obj) → Prop} {y : Value} {tk : Nat} {r : List (Addr × Obj)}
   (F : Fr h₀ L s₁.heap m) (N : News h₀ L s₁.heap ((I, oI) :: (C, oC) :: (D, oD) :: r)) (off : LCg.Off3 I C D r) (k : Kp s₁.heap h') (g9 : h'.get? D9 = some o9) (s9 : s₁.heap.objs.size ≤ D9)
   (hrest : rest y ((D9, o9) :: r)) : LCg.CompEnd h₀ L m s₁ I oI C oC D oD (fun _ => True) rest y { s₁ with heap := h', toks := tk } := by
  have hI := N (I, oI) (.head _)
  have hC := N (C, oC) (.tail _ (.head _))
  have hD := N (D, oD) (.tail _ (.tail _ (.head _)))
  refine ⟨h', tk, (D9, o9) :: r, rfl, kpFr F k, ?_, ⟨⟨geNe hI.1 s9, geNe hC.1 s9, geNe hD.1 s9⟩, off⟩, True.intro, hrest⟩
  intro q hq
  rcases List.mem_cons.mp hq with rfl | hq
  · exact ⟨k _ _ hI.1, hI.2⟩
  · rcases List.mem_cons.mp hq with rfl | hq
    · exact ⟨k _ _ hC.1, hC.2⟩
    · rcases List.mem_cons.mp hq with rfl | hq
      · exact ⟨k _ _ hD.1, hD.2⟩
      · exact newsAdd F (newsSub (kpNews N k) fun p hp => .tail _ (.tail _ (.tail _ hp))) g9 (noneGe s9) q hq
theorem bringNe {h₀ h : Heap} {L D : Addr} {news : List (Addr × Obj)} {P : Prop} (N : News h₀ L h news) (hn : h.get? D = none) (k : (∀ p ∈ news, Ne (α := Nat) p.1 D) → P) : P := k (newsNe N hn)
theorem kbUpd1 {h₀ h h' : Heap} {L P : Addr} {o1 o1' : Obj} {news n1 : List (Addr × Obj)} (N : News h₀ L h news) (U1 : Upd P o1 o1' news n1) (k : ∀ b o, h.get? b = some o → b ≠ P → h'.get? b = some o) (hP : h'.get? P = some o1') : News h₀ L h' n1 := by
  obtain ⟨m1, f1⟩ := updMem U1
  intro q hq
  rcases f1 q hq with rfl | ⟨hq, nP⟩
  · exact ⟨hP, (N _ m1).2⟩
  · exact ⟨k _ _ (N q hq).1 nP, (N q hq).2⟩
theorem listChsD {prog : Program} {w : World} {A : Around} {E : Value → Shared → Prop} {s : Shared} {Q : Value → Shared → Prop} (hh : A.handled = none) {x : Str} {t : Tok} (hn : x.length ≤ 1000) (h : ∀ D h' k vs cnt, Kp s.heap h' → h'.get? D = some (W.listOf vs.toArray cnt) → s.heap.objs.size ≤ D → Chs vs x.cps.toList → Q (.ref D) { s with heap := h', toks := k }) : wpAny (model prog w) A (call (.type "list") [.str x t]) Q E s :=
  listChs hh hn fun h' k vs cnt kp g c => h _ h' k vs cnt kp g (Nat.le_refl _) c
theorem lenR {e : Int} (e0 : 1 ≤ e) (e1 : e ≤ 4) : (sL (List.replicate e.toNat 10)).length ≤ 4 := by
  simp only [sL, Str.length, List.size_toArray, List.length_replicate]
  omega
theorem lenE {e : Int} {z : Str} (e0 : 1 ≤ e) (e1 : e ≤ 4) (h : z.length ≤ 60) : (z ++ sL (List.replicate e.toNat 10)).length ≤ 1000 := by
  rw [Str.length_append]; have := lenR e0 e1; omega
theorem lenE2 {e : Int} {z z' : Str} (e0 : 1 ≤ e) (e1 : e ≤ 4) (h : z.length ≤ 60) (h' : z'.length ≤ 60) : (z ++ sL (List.replicate e.toNat 10) ++ (z' ++ sL (List.replicate e.toNat 10))).length ≤ 1000 := by
  rw [Str.length_append, Str.length_append, Str.length_append]; have := lenR e0 e1; omega
theorem newsOne {h₀ h : Heap} {L : Addr} {news : List (Addr × Obj)} {q : Addr × Obj} (N : News h₀ L h news) (hm : q ∈ news) : News h₀ L h [q] := newsCons N hm newsNil
end
section
open PySem PySem.W PyProof.Rows PySem.Calls
/-- two lists, item by item -/
noncomputable def All2 (R : Value → Value → Prop) : List Value → List Value → Prop
  | [], [] => True
  | a :: l, b :: r => R a b ∧ All2 R l r
  | _, _ => False
theorem all2Snoc {R : Value → Value → Prop} {a b : Value} : ∀ {l r : List Value}, All2 R l r → R a b → All2 R (l ++ [a]) (r ++ [b])
  | [], [], _, h => ⟨h, trivial⟩
  | [], _ :: _, h, _ => nomatch h
  | _ :: _, [], h, _ => nomatch h
  | _ :: _, _ :: _, h, h' => ⟨h.1, all2Snoc h.2 h'⟩
theorem all2cons {R : Value → Value → Prop} {a : Value} {l ys : List Value} (h : All2 R (a :: l) ys) : ∃ b r, ys = b :: r ∧ R a b ∧ All2 R l r := by
  cases ys with
  | nil => exact False.elim h
  | cons b r => exact ⟨b, r, rfl, h.1, h.2⟩
theorem all2nil {R : Value → Value → Prop} {ys : List Value} (h : All2 R [] ys) : ys = [] := by
  cases ys with
  | nil => rfl
  | cons b r => exact False.elim h
theorem all2three {R : Value → Value → Prop} {x0 x1 x2 : Value} {ys : List Value} (h : All2 R [x0, x1, x2] ys) : ∃ v0 v1 v2, ys = [v0, v1, v2] ∧ R x0 v0 ∧ R x1 v1 ∧ R x2 v2 := by
  obtain ⟨v0, r0, e0, h0, h⟩ := all2cons h
  obtain ⟨v1, r1, e1, h1, h⟩ := all2cons h
  obtain ⟨v2, r2, e2, h2, h⟩ := all2cons h
  have e := all2nil h
  refine ⟨v0, v1, v2, ?_, h0, h1, h2⟩
  rw [e0, e1, e2, e]
theorem all2six {R : Value → Value → Prop} {x0 x1 x2 x3 x4 x5 : Value} {ys : List Value} (h : All2 R [x0, x1, x2, x3, x4, x5] ys) : ∃ v0 v1 v2 v3 v4 v5, ys = [v0, v1, v2, v3, v4, v5] ∧ R x0 v0 ∧ R x1 v1 ∧ R x2 v2 ∧ R x3 v3 ∧ R x4 v4 ∧ R x5 v5 := by
  obtain ⟨v0, r0, e0, h0, h⟩ := all2cons h
  obtain ⟨v1, r1, e1, h1, h⟩ := all2cons h
  obtain ⟨v2, r2, e2, h2, h⟩ := all2cons h
  obtain ⟨v3, r3, e3, h3, h⟩ := all2cons h
  obtain ⟨v4, r4, e4, h4, h⟩ := all2cons h
  obtain ⟨v5, r5, e5, h5, h⟩ := all2cons h
  have e := all2nil h
  refine ⟨v0, v1, v2, v3, v4, v5, ?_, h0, h1, h2, h3, h4, h5⟩
  rw [e0, e1, e2, e3, e4, e5, e]
theorem pickOf {P : Value → Prop} {l : List Value} {a : Value} (h : ∃ i : Nat, l.toArray[i]? = some a) (hp : ∀ v ∈ l, P v) : P a := by
  obtain ⟨i, hi⟩ := h
  rw [List.getElem?_toArray] at hi
  exact hp a (List.mem_of_getElem? hi)
section
variable {prog : Program} {w : World} {A : Around} {E : Value → Shared → Prop} {s : Shared} {h₀ : Heap} {L : Addr} {m : Str → Option Value} {env : Env} {news : List (Addr × Obj)}
theorem restKp {elt : Expr} {x : Str} {scope : Scope} {cl : List (Str × Addr)} {Fin : List Value → List (Addr × Obj) → Prop} {ax : Addr} {its : Array Value} {k : Nat} (R : Value → Value → Prop) (hm : (ax, ({ cls := .type "list", data := .seq its k } : Obj)) ∈ news)
    (ev : ∀ (a : Value) (C : Addr) (oC : Obj) (m₂ : Str → Option Value) (h : Heap) (tk : Nat) (E' Q' : Value → Shared → Prop), (∃ i : Nat, its[i]? = some a) → LCg.NsObj oC m₂ → m₂ x = some a → Fr h₀ L h m → ∀ led : List (Addr × Obj), (∀ p ∈ news, p ∈ led) → News h₀ L h ((C, oC) :: led) → (∀ v h' tk', R a v → Fr h₀ L h' m → News h₀ L h' ((C, oC) :: led) → Q' v { s with heap := h', toks := tk' }) → wpAny (model prog w) A (eval elt (compEnvC scope cl C env)) Q' E' { s with heap := h, toks := tk })
    (fin : ∀ ys, All2 R its.toList ys → Fin ys news) :
    ∀ (n i : Nat) (ys : List Value), i + n = its.size → All2 R (its.toList.take i) ys → LCg.CompRest prog w A h₀ L m env elt x scope cl s (LCg.SrcAt h₀ ax its) (fun i v => its[i]? = some v) Fin n i ys news := by
  intro n
  induction n with
  | zero =>
    intro i ys e hy
    refine LCg.CompRest.zero (fin ys ?_)
    rwa [List.take_of_length_le (by rw [Array.length_toList]; omega)] at hy
  | succ n ih =>
    intro i ys e hy
    refine LCg.CompRest.succ fun v I oI C oC D m₂ h tk E' hv hC hx F N off ne => ?_
    refine ev v C oC m₂ h tk E' _ ⟨i, hv⟩ hC hx F ((I, oI) :: (D, LCg.lst ys) :: news) (fun p hp => .tail _ (.tail _ hp)) (newsSub N fun p hp => ?_) fun y h' tk' hR F' N' => ?_
    · rcases List.mem_cons.mp hp with rfl | hp
      · exact .tail _ (.head _)
      rcases List.mem_cons.mp hp with rfl | hp
      · exact .head _
      · exact .tail _ (.tail _ hp)
    · refine ⟨h', tk', news, rfl, F', newsSub N' (fun p hp => ?_), off, .inr ⟨_, hm, rfl, _, rfl⟩, ih (i + 1) _ (by first | with_reducible assumption | omega) ?_⟩
      · rcases List.mem_cons.mp hp with rfl | hp
        · exact .tail _ (.head _)
        rcases List.mem_cons.mp hp with rfl | hp
        · exact .head _
        · exact .tail _ (.tail _ hp)
      have hv' : its.toList[i]? = some v := by rw [Array.getElem?_toList]; exact hv
      rw [List.take_add_one, hv']
      exact all2Snoc hy hR
theorem compKp {elt iter : Expr} {x : Str} {px : Pos} {scope : Scope} {cl : List (Str × Addr)} {pos : Pos} {Q : Value → Shared → Prop} {ax : Addr} {its : Array Value} {k : Nat} (R : Value → Value → Prop) (hh : A.handled = none) (F : Fr h₀ L s.heap m) (N : News h₀ L s.heap news) (hm : (ax, ({ cls := .type "list", data := .seq its k } : Obj)) ∈ news) (hsz : its.size ≤ sizeLine)
    (hclos : closureFor scope env = pure cl) (hcell : ∀ y ∈ scope.names, y.2 ≠ .cell) (hkind : scope.kind = .function)
    (hnames : ∀ y ∈ scope.names, y.2 = .local → scope.names.lookup y.1 = some .local) (hx : scope.names.lookup x = some .local)
    (hiter : wpAny (model prog w) A (eval iter env) (fun v s₁ => v = .ref ax ∧ s₁ = s) E s)
    (ev : ∀ (a : Value) (C : Addr) (oC : Obj) (m₂ : Str → Option Value) (h : Heap) (tk : Nat) (E' Q' : Value → Shared → Prop), (∃ i : Nat, its[i]? = some a) → LCg.NsObj oC m₂ → m₂ x = some a → Fr h₀ L h m → ∀ led : List (Addr × Obj), (∀ p ∈ news, p ∈ led) → News h₀ L h ((C, oC) :: led) → (∀ v h' tk', R a v → Fr h₀ L h' m → News h₀ L h' ((C, oC) :: led) → Q' v { s with heap := h', toks := tk' }) → wpAny (model prog w) A (eval elt (compEnvC scope cl C env)) Q' E' { s with heap := h, toks := tk })
    (done : ∀ D ys h tk, All2 R its.toList ys → Fr h₀ L h m → News h₀ L h ((D, LCg.lst ys) :: news) → LCg.Off1 D news → Q (.ref D) { s with heap := h, toks := tk })
    (hs : ∀ z, foldedSetIterable iter env z = pure z := by intro _; rfl) :
    wpAny (model prog w) A (eval (.ListComp elt [⟨.Name x px, iter, [], 0⟩] scope pos) env) Q E s := by
  refine LCg.ListComp_U F hclos hcell hkind hnames hx (wpAny_mono hiter (fun v s₁ h => ?_) fun _ _ e => e) hs
  obtain ⟨rfl, rfl⟩ := h
  refine LCg.CompSrc.ledger hh F N hm hsz fun g => ?_
  refine restKp (s := { s₁ with heap := g }) R hm (fun a C oC m₂ h tk E' Q' ha hC hx' F' led hs N' hq => ev a C oC m₂ h tk E' Q' ha hC hx' F' led hs N' hq) (fun ys hy => ?_) its.size 0 [] (by first | with_reducible assumption | omega) trivial
  exact fun D h tk F' N' o1 => done D ys h tk hy F' N' o1
end
end
section
open PySem PySem.W PyProof.Rows PySem.Calls PySem.NumText
abbrev Tk := List Nat × Nat × List Nat × Nat
noncomputable def flat : List Tk → List Nat → List Nat
  | [], r => r
  | t :: ts, r => t.1 ++ t.2.1 :: (t.2.2.1 ++ t.2.2.2 :: flat ts r)
noncomputable def tkOk (t : Tk) : Prop := t.2.1 < 128 ∧ plainC t.2.1 = true ∧ (∀ c ∈ t.2.2.1, c < 128 ∧ plainC c = true) ∧ t.2.2.1.length < 60 ∧ t.2.2.2 < 128 ∧ isWs t.2.2.2 = true ∧ (∀ c ∈ t.1, c < 128 ∧ isWs c = true) ∧ t.1.length < 60
noncomputable def tkN : List Tk → Int
  | [] => 0
  | t :: ts => nls t.1 + nlOf [t.2.2.2] + tkN ts
noncomputable def tkW (t : Tk) : Str := sL (t.2.1 :: t.2.2.1)
theorem flatLen (r : List Nat) : ∀ ts : List Tk, r.length ≤ (flat ts r).length
  | [] => Nat.le_refl _
  | t :: ts => by have := flatLen r ts; simp only [flat, List.length_append, List.length_cons]; omega
theorem flatTail (t : Tk) (ts : List Tk) (r : List Nat) : (flat ts r).length ≤ (flat (t :: ts) r).length := by
  simp only [flat, List.length_append, List.length_cons]; omega
noncomputable def wcParts (K : Frag) : Option (Stmt × Expr × Scope × Expr × Scope) := ((fnParts K 165).bind fun q => (q.1[8]?).bind fun a => onFor a fun fb => some (fb, q.2)).bind fun q => (q.1[0]?).bind fun a => onAssign a fun v => (compOf q.2 v).bind fun x => some (a, x.2)
set_option maxRecDepth 100000 in
set_option maxHeartbeats 8000000 in
set_option pp.deepTerms false in
set_option pp.maxSteps 3000 in
theorem evTok (w : World) (p : Program) (loose : List Str) (mean : ExcName → Option Value) (mg mb : Str → Option Value) (dp un : Nat) (gd : Option (List Code)) (A₀ : Around) (base g : Heap) (L' fa : Addr) (cd : Value) (s : Shared) (Q E : Value → Shared → Prop) (x dx st ds pa pb f c' D cL : Addr) (tw k1 k2 k3 k4 j1 j2 j3 j4 j5 u1 u3 tq : Tok) (oc oL o136 : Obj) (pm ctv : Value) (params : Arguments) (bodyL : Expr) (scopeL : Scope) (vsc : Array Value) (o5 : Obj) (lc : Stmt) (elt it : Expr) (s2 scope : Scope) (C : Addr) (oC : Obj) (m m₂ : Str → Option Value) (n : Int) (tn : Tok) (vs : List Value) (cnt : Nat) (t : Tk) (r : List Nat) :
   wcParts (K39 w.params) = some (lc, elt, s2, it, scope) → Below A₀ base [] g → Fr g L' s.heap m → (K39 w.params).In g → News g L' s.heap [(C, oC), (L' + 1 + 1 + 1 + 1 + 1, o5), (dx, dictOf [{ hash := PyData.keyHash w.params (Str.ofString "lineno"), key := .str (Str.ofString "lineno") k1, val := .int n tn }, { hash := PyData.keyHash w.params (Str.ofString "instream"), key := .str (Str.ofString "instream") k2, val := .ref st }, { hash := PyData.keyHash w.params (Str.ofString "whitespace"), key := .str (Str.ofString "whitespace") k3, val := .str (Str.ofString "\n\t\r ") tw }, { hash := PyData.keyHash w.params (Str.ofString "pushback"), key := .str (Str.ofString "pushback") k4, val := .ref pb }] 4), (D, W.listOf vs.toArray cnt), (x, instObj 130 dx), (st, instObj 130 ds), (ds, dictOf [{ hash := PyData.keyHash w.params (Str.ofString "lineno"), key := .str (Str.ofString "lineno") j1, val := .int 1 u1 }, { hash := PyData.keyHash w.params (Str.ofString "instream"), key := .str (Str.ofString "instream") j2, val := .none }, { hash := PyData.keyHash w.params (Str.ofString "whitespace"), key := .str (Str.ofString "whitespace") j3, val := .str (Str.ofString "\n\t\r ") u3 }, { hash := PyData.keyHash w.params (Str.ofString "pushback"), key := .str (Str.ofString "pushback") j4, val := .ref pa }, { hash := PyData.keyHash w.params (Str.ofString "read"), key := .str (Str.ofString "read") j5, val := .ref f }] 5), (f, kla_obj (Str.ofString "<lambda>") (Str.ofString "_law_stream.<locals>.<lambda>") params bodyL scopeL [(Str.ofString "left", cL)] pm c' ctv), (c', oc), (cL, oL), (136, o136), (pb, W.listOf (#[] : Array Value) 0)] → Top p loose mean mg mb g → lamParts (K39 w.params) 141 1 = some (params, bodyL, scopeL) → oc.data = .fields vsc → vsc[1]? = some (.str (Str.ofString "_law_stream.<locals>.<lambda>") tq) → oL.data = .cell (some (.ref D)) → LT.lt (α := Nat) 136 D → LT.lt (α := Nat) D cL → LT.lt (α := Nat) cL st → LT.lt (α := Nat) cL ds → LT.lt (α := Nat) st c' → LT.lt (α := Nat) ds c' → LT.lt (α := Nat) c' f → LT.lt (α := Nat) f x → LT.lt (α := Nat) f dx → LT.lt (α := Nat) dx x → LT.lt (α := Nat) x pb → NeH st ds → CodeHd base 140 136 → o5.data = .cell (some (.ref x)) → LCg.NsObj oC m₂ → tkOk t → Chs vs (flat [t] r) → vs.length ≤ 1000 → dp + 300 < recursionLimit → un + 900 < cLine →
   (∀ t' h' tk' vs' cnt' n' tn', (∀ b o, s.heap.get? b = some o → b ≠ D → b ≠ dx → h'.get? b = some o) → h'.get? D = some (W.listOf vs'.toArray cnt') → Chs vs' r → h'.get? dx = some (dictOf [{ hash := PyData.keyHash w.params (Str.ofString "lineno"), key := .str (Str.ofString "lineno") k1, val := .int n' tn' }, { hash := PyData.keyHash w.params (Str.ofString "instream"), key := .str (Str.ofString "instream") k2, val := .ref st }, { hash := PyData.keyHash w.params (Str.ofString "whitespace"), key := .str (Str.ofString "whitespace") k3, val := .str (Str.ofString "\n\t\r ") tw }, { hash := PyData.keyHash w.params (Str.ofString "pushback"), key := .str (Str.ofString "pushback") k4, val := .ref pb }] 4) → n' = n + nls t.1 + nlOf [t.2.2.2] → Q (.str (tkW t) t') { s with heap := h', toks := tk' }) →
   wpAny (model rw9.row.prog w) (({ depth := dp, frames := some [], guards := gd, units := un } : Around).deeper (envOfC (Str.ofString "law") scope L' fa cd)) (eval elt (compEnvC s2 [(Str.ofString "lexer", L' + 1 + 1 + 1 + 1 + 1)] C (envOfC (Str.ofString "law") scope L' fa cd))) Q E s := by
  k_fill
  w_top off
  k_with_none
  (k_with "my omega" => (first | with_reducible assumption | (law_purse 30000 => lia) | omega +splitDisjunctions))
  (k_with "my mem" => (first | exact m9_0 | exact m9_1 | exact m9_2 | exact m9_3 | exact m9_4 | exact m9_5 | exact m9_6 | exact m9_7 | (refine' m9_s ?_; k_mem)))
  (k_with "my sub" => (first | exact allNil | exact allCons (by k_mem) (by lcg_sub) | (intro q9 hq9; repeat (first | with_reducible exact hq9 | refine List.mem_cons_of_mem _ ?_))))
  (k_with "my room" => ktr_room)
  (k_with "my units" => ktr_units)
  (k_with "my ne" => (refine neN ?_; (try dsimp only); first | exact NeH.out (by assumption) | exact Ne.symm (NeH.out (by assumption)) | omega))
  (k_with "my all" => (first | exact allNil | (refine' allCons ?_ ?_; focus k_ne; k_all)))
  (k_with "my exec Assign" => k_fold)
  (k_with "my exec Expr" => k_fold)
  (k_with "my exec If" => k_fold)
  (k_with "my exec AugAssign" => k_fold)
  (k_with "my eval BinOp" => k_fold)
  (k_with "my eval Compare" => k_fold)
  (k_with "my eval Subscript" => k_fold)
  (k_with "my eval Call" => k_fold)
  (k_with "my eval Call Attribute" => k_fold)
  (k_with "my eval IfExp" => k_fold)
  (k_with "my eval List" => k_fold)
  (k_with "my eval Tuple" => k_fold)
  intro hp B F X N TT hlam hoc hvs hL lo0 lo1 lo2 lo3 lo4 lo5 lo6 lo7 lo8 lo9 lo10 lne hch d5 hC ht hchs hsz hdp hun hret
  cases hp
  obtain ⟨t1, t2, t3, t4⟩ := t
  obtain ⟨ha1, ha2, ha3, ha4, ha5, ha6, ha7, ha8⟩ := ht
  (k_with "my call ref" => (k_here; k_dflt ((refine' gtok1 _ _ _ _ _ _ _ _ _ _ _ _ _ _ _ _ _ _ _ _ _ _ _ _ _ _ _ _ _ _ _ _ _ _ _ _ _ _ _ _ _ _ _ _ _ _ _ _ _ _ _ _ _ _ _ _ _ _ _ _ _ _ _ _ (by k_asm) (by k_asm) (by k_asm) (newsCons (by k_asm) (by k_mem) (newsCons (by k_asm) (by k_mem) (newsCons (by k_asm) (by k_mem) (newsCons (by k_asm) (by k_mem) (newsCons (by k_asm) (by k_mem) (newsCons (by k_asm) (by k_mem) (newsCons (by k_asm) (by k_mem) (newsCons (by k_asm) (by k_mem) (newsCons (by k_asm) (by k_mem) (newsCons (by k_asm) (by k_mem) newsNil)))))))))) (by k_asm) rfl hlam hoc hvs hL lo0 lo1 lo2 lo3 lo4 lo5 lo6 lo7 lo8 (NeH.out lne) (Ne.symm (Nat.ne_of_lt lo9)) hch hchs hsz (Nat.lt_trans lo7 lo10) (Nat.ne_of_lt lo10) (Nat.ne_of_lt (Nat.lt_trans lo9 lo10)) ha1 ha2 ha3 ha4 ha5 ha6 ha7 ha8 (by ktr_room) (by ktr_units) ?_); intro t9 h9 tk9 vs9 cnt9 n9 tn9 kb9 gD9 c9 gx9 en9)))
  dsimp only
  k_steps
  exact hret _ _ _ _ _ _ _ kb9 gD9 c9 gx9 en9
end
section
open PySem PySem.W PyProof.Rows PySem.Calls PySem.NumText
theorem wordsRest (w : World) (p : Program) (loose : List Str) (mean : ExcName → Option Value) (mg mb : Str → Option Value) (dp un : Nat) (gd : Option (List Code)) (A₀ : Around) (base g : Heap) (L' fa : Addr) (cd : Value) (s : Shared) (x dx st ds pa pb f c' D cL : Addr) (tw k1 k2 k3 k4 j1 j2 j3 j4 j5 u1 u3 tq : Tok) (oc oL o136 : Obj) (pm ctv : Value) (params : Arguments) (bodyL : Expr) (scopeL : Scope) (vsc : Array Value) (o5 : Obj) (lc : Stmt) (elt it : Expr) (s2 scope : Scope) (m : Str → Option Value) (rest : List (Addr × Obj)) (xj : Str) (r : List Nat) (P : Nat → Value → Prop) :
   wcParts (K39 w.params) = some (lc, elt, s2, it, scope) → Below A₀ base [] g → (K39 w.params).In g → Top p loose mean mg mb g → lamParts (K39 w.params) 141 1 = some (params, bodyL, scopeL) → oc.data = .fields vsc → vsc[1]? = some (.str (Str.ofString "_law_stream.<locals>.<lambda>") tq) → oL.data = .cell (some (.ref D)) → LT.lt (α := Nat) 136 D → LT.lt (α := Nat) D cL → LT.lt (α := Nat) cL st → LT.lt (α := Nat) cL ds → LT.lt (α := Nat) st c' → LT.lt (α := Nat) ds c' → LT.lt (α := Nat) c' f → LT.lt (α := Nat) f x → LT.lt (α := Nat) f dx → LT.lt (α := Nat) dx x → LT.lt (α := Nat) x pb → NeH st ds → CodeHd base 140 136 → o5.data = .cell (some (.ref x)) → (x, instObj 130 dx) ∈ rest → (st, instObj 130 ds) ∈ rest → (ds, dictOf [{ hash := PyData.keyHash w.params (Str.ofString "lineno"), key := .str (Str.ofString "lineno") j1, val := .int 1 u1 }, { hash := PyData.keyHash w.params (Str.ofString "instream"), key := .str (Str.ofString "instream") j2, val := .none }, { hash := PyData.keyHash w.params (Str.ofString "whitespace"), key := .str (Str.ofString "whitespace") j3, val := .str (Str.ofString "\n\t\r ") u3 }, { hash := PyData.keyHash w.params (Str.ofString "pushback"), key := .str (Str.ofString "pushback") j4, val := .ref pa }, { hash := PyData.keyHash w.params (Str.ofString "read"), key := .str (Str.ofString "read") j5, val := .ref f }] 5) ∈ rest → (f, kla_obj (Str.ofString "<lambda>") (Str.ofString "_law_stream.<locals>.<lambda>") params bodyL scopeL [(Str.ofString "left", cL)] pm c' ctv) ∈ rest → (c', oc) ∈ rest → (cL, oL) ∈ rest → (136, o136) ∈ rest → (pb, W.listOf (#[] : Array Value) 0) ∈ rest → (L' + 1 + 1 + 1 + 1 + 1, o5) ∈ rest → (∀ p ∈ rest, Ne (α := Nat) p.1 D ∧ Ne (α := Nat) p.1 dx) → dp + 300 < recursionLimit → un + 900 < cLine →
   ∀ (ts : List Tk) (Fin : List Value → List (Addr × Obj) → Prop) (i : Nat) (ys : List Value) (n : Int) (tn : Tok) (vs : List Value) (cnt : Nat), (∀ t ∈ ts, tkOk t) → Chs vs (flat ts r) → vs.length ≤ 1000 →
   (∀ ys' vs' cnt' n' tn', StrsAre ys' (ts.map tkW) → Chs vs' r → vs'.length ≤ 1000 → n' = n + tkN ts → Fin (ys ++ ys') ((D, W.listOf vs'.toArray cnt') :: (dx, dictOf [{ hash := PyData.keyHash w.params (Str.ofString "lineno"), key := .str (Str.ofString "lineno") k1, val := .int n' tn' }, { hash := PyData.keyHash w.params (Str.ofString "instream"), key := .str (Str.ofString "instream") k2, val := .ref st }, { hash := PyData.keyHash w.params (Str.ofString "whitespace"), key := .str (Str.ofString "whitespace") k3, val := .str (Str.ofString "\n\t\r ") tw }, { hash := PyData.keyHash w.params (Str.ofString "pushback"), key := .str (Str.ofString "pushback") k4, val := .ref pb }] 4) :: rest)) →
   LCg.CompRest rw9.row.prog w (({ depth := dp, frames := some [], guards := gd, units := un } : Around).deeper (envOfC (Str.ofString "law") scope L' fa cd)) g L' m (envOfC (Str.ofString "law") scope L' fa cd) elt xj s2 [(Str.ofString "lexer", L' + 1 + 1 + 1 + 1 + 1)] s (fun _ => True) P Fin ts.length i ys ((D, W.listOf vs.toArray cnt) :: (dx, dictOf [{ hash := PyData.keyHash w.params (Str.ofString "lineno"), key := .str (Str.ofString "lineno") k1, val := .int n tn }, { hash := PyData.keyHash w.params (Str.ofString "instream"), key := .str (Str.ofString "instream") k2, val := .ref st }, { hash := PyData.keyHash w.params (Str.ofString "whitespace"), key := .str (Str.ofString "whitespace") k3, val := .str (Str.ofString "\n\t\r ") tw }, { hash := PyData.keyHash w.params (Str.ofString "pushback"), key := .str (Str.ofString "pushback") k4, val := .ref pb }] 4) :: rest) := by
  intro hp B X TT hlam hoc hvs hL lo0 lo1 lo2 lo3 lo4 lo5 lo6 lo7 lo8 lo9 lo10 lne hch d5 hx hst hds hf hcc hcL h136 hpb h5 hoff hdp hun ts
  have eDx : Ne (α := Nat) D dx := by omega
  induction ts with
  | nil =>
    intro Fin i ys n tn vs cnt _ hc hsz hfin
    have := hfin [] vs cnt n tn .nil hc hsz (by simp [tkN])
    rw [List.append_nil] at this
    exact LCg.CompRest.zero this
  | cons t ts ih =>
    intro Fin i ys n tn vs cnt hok hc hsz hfin
    refine LCg.CompRest.succ fun v I oI C oC D0 m₂ h tk E' hv hC hxv F N off ne => ?_
    have hI := N (I, oI) (.head _)
    have hCC := N (C, oC) (.tail _ (.head _))
    have hD0 := N (D0, LCg.lst ys) (.tail _ (.tail _ (.head _)))
    have hDD := N (D, W.listOf vs.toArray cnt) (.tail _ (.tail _ (.tail _ (.head _))))
    have hdx := N (dx, dictOf [{ hash := PyData.keyHash w.params (Str.ofString "lineno"), key := .str (Str.ofString "lineno") k1, val := .int n tn }, { hash := PyData.keyHash w.params (Str.ofString "instream"), key := .str (Str.ofString "instream") k2, val := .ref st }, { hash := PyData.keyHash w.params (Str.ofString "whitespace"), key := .str (Str.ofString "whitespace") k3, val := .str (Str.ofString "\n\t\r ") tw }, { hash := PyData.keyHash w.params (Str.ofString "pushback"), key := .str (Str.ofString "pushback") k4, val := .ref pb }] 4) (.tail _ (.tail _ (.tail _ (.tail _ (.head _)))))
    have hr : ∀ q ∈ rest, h.get? q.1 = some q.2 ∧ q.1 ≠ L' ∧ g.get? q.1 = none := fun q hq => N q (.tail _ (.tail _ (.tail _ (.tail _ (.tail _ hq)))))
    refine evTok w p loose mean mg mb dp un gd A₀ base g L' fa cd _ _ _ x dx st ds pa pb f c' D cL tw k1 k2 k3 k4 j1 j2 j3 j4 j5 u1 u3 tq oc oL o136 pm ctv params bodyL scopeL vsc o5 lc elt it s2 scope C oC m m₂ n tn vs cnt t (flat ts r) hp B F X (newsCons N (.tail _ (.head _)) (newsCons N (.tail _ (.tail _ (.tail _ (.tail _ (.tail _ h5))))) (newsCons N (.tail _ (.tail _ (.tail _ (.tail _ (.head _))))) (newsCons N (.tail _ (.tail _ (.tail _ (.head _)))) (newsCons N (.tail _ (.tail _ (.tail _ (.tail _ (.tail _ hx))))) (newsCons N (.tail _ (.tail _ (.tail _ (.tail _ (.tail _ hst))))) (newsCons N (.tail _ (.tail _ (.tail _ (.tail _ (.tail _ hds))))) (newsCons N (.tail _ (.tail _ (.tail _ (.tail _ (.tail _ hf))))) (newsCons N (.tail _ (.tail _ (.tail _ (.tail _ (.tail _ hcc))))) (newsCons N (.tail _ (.tail _ (.tail _ (.tail _ (.tail _ hcL))))) (newsCons N (.tail _ (.tail _ (.tail _ (.tail _ (.tail _ h136))))) (newsCons N (.tail _ (.tail _ (.tail _ (.tail _ (.tail _ hpb))))) newsNil)))))))))))) TT hlam hoc hvs hL lo0 lo1 lo2 lo3 lo4 lo5 lo6 lo7 lo8 lo9 lo10 lne hch d5 hC (hok t (.head _)) hc hsz hdp hun ?_
    intro t' h' tk' vs' cnt' n' tn' kb gD c' gx en
    have hsz' : vs'.length ≤ 1000 := by
      have e1 := chsLen hc
      have e2 := chsLen c'
      have e3 := flatTail t ts r
      omega
    refine ⟨h', tk', ((D, W.listOf vs'.toArray cnt') :: (dx, dictOf [{ hash := PyData.keyHash w.params (Str.ofString "lineno"), key := .str (Str.ofString "lineno") k1, val := .int n' tn' }, { hash := PyData.keyHash w.params (Str.ofString "instream"), key := .str (Str.ofString "instream") k2, val := .ref st }, { hash := PyData.keyHash w.params (Str.ofString "whitespace"), key := .str (Str.ofString "whitespace") k3, val := .str (Str.ofString "\n\t\r ") tw }, { hash := PyData.keyHash w.params (Str.ofString "pushback"), key := .str (Str.ofString "pushback") k4, val := .ref pb }] 4) :: rest), rfl, kb2Fr F N (P := D) (R := dx) (.tail _ (.tail _ (.tail _ (.head _)))) (.tail _ (.tail _ (.tail _ (.tail _ (.head _))))) kb, ?_, off, trivial, ?_⟩
    · intro q hq
      rcases List.mem_cons.mp hq with rfl | hq
      · exact ⟨kb _ _ hI.1 (Ne.symm off.1.1) (Ne.symm off.2.1.1), hI.2⟩
      rcases List.mem_cons.mp hq with rfl | hq
      · exact ⟨kb _ _ hCC.1 (Ne.symm off.1.2.1) (Ne.symm off.2.1.2.1), hCC.2⟩
      rcases List.mem_cons.mp hq with rfl | hq
      · exact ⟨kb _ _ hD0.1 (Ne.symm off.1.2.2) (Ne.symm off.2.1.2.2), hD0.2⟩
      rcases List.mem_cons.mp hq with rfl | hq
      · exact ⟨gD, hDD.2⟩
      rcases List.mem_cons.mp hq with rfl | hq
      · exact ⟨gx, hdx.2⟩
      exact ⟨kb _ _ (hr q hq).1 (hoff q hq).1 (hoff q hq).2, (hr q hq).2⟩
    · refine ih Fin (i + 1) (ys ++ [.str (tkW t) t']) n' tn' vs' cnt' (fun q hq => hok q (.tail _ hq)) c' hsz' fun ys2 vs2 cnt2 n2 tn2 hy c2 hs2 en2 => ?_
      rw [List.append_assoc]
      refine hfin _ vs2 cnt2 n2 tn2 (.cons _ _ hy) c2 hs2 ?_
      rw [en2, en]; simp only [tkN]; omega
end
section
open PySem PySem.W PyProof.Rows PySem.Calls PySem.NumText
theorem off1Ne {D : Addr} : ∀ {l : List (Addr × Obj)}, LCg.Off1 D l → ∀ {q : Addr × Obj}, q ∈ l → NeH D q.1
  | [], _, _, h => nomatch h
  | _ :: _, x, q, h => by
    rcases List.mem_cons.mp h with rfl | h
    · exact Ne.symm x.1
    · exact off1Ne x.2 h
set_option maxRecDepth 100000 in
set_option maxHeartbeats 8000000 in
set_option pp.deepTerms false in
set_option pp.maxSteps 3000 in
theorem wordsC (w : World) (p : Program) (loose : List Str) (mean : ExcName → Option Value) (mg mb : Str → Option Value) (dp un : Nat) (gd : Option (List Code)) (A₀ : Around) (base g : Heap) (L' fa : Addr) (cd : Value) (s : Shared) (Q : Flow → Shared → Prop) (E : Value → Shared → Prop) (x dx st ds pa pb f c' D cL : Addr) (tw k1 k2 k3 k4 j1 j2 j3 j4 j5 u1 u3 tq : Tok) (oc oL o136 : Obj) (pm ctv : Value) (params : Arguments) (bodyL : Expr) (scopeL : Scope) (vsc : Array Value) (o5 : Obj) (lc : Stmt) (elt it : Expr) (s2 scope : Scope) (m : Str → Option Value) (rest : List (Addr × Obj)) (r : List Nat) (ts : List Tk) (n : Int) (tn : Tok) (vs : List Value) (cnt : Nat) :
   wcParts (K39 w.params) = some (lc, elt, s2, it, scope) → Below A₀ base [] g → Fr g L' s.heap m → (K39 w.params).In g → News g L' s.heap ((D, W.listOf vs.toArray cnt) :: (dx, dictOf [{ hash := PyData.keyHash w.params (Str.ofString "lineno"), key := .str (Str.ofString "lineno") k1, val := .int n tn }, { hash := PyData.keyHash w.params (Str.ofString "instream"), key := .str (Str.ofString "instream") k2, val := .ref st }, { hash := PyData.keyHash w.params (Str.ofString "whitespace"), key := .str (Str.ofString "whitespace") k3, val := .str (Str.ofString "\n\t\r ") tw }, { hash := PyData.keyHash w.params (Str.ofString "pushback"), key := .str (Str.ofString "pushback") k4, val := .ref pb }] 4) :: rest) → Top p loose mean mg mb g → lamParts (K39 w.params) 141 1 = some (params, bodyL, scopeL) → oc.data = .fields vsc → vsc[1]? = some (.str (Str.ofString "_law_stream.<locals>.<lambda>") tq) → oL.data = .cell (some (.ref D)) → LT.lt (α := Nat) 136 D → LT.lt (α := Nat) D cL → LT.lt (α := Nat) cL st → LT.lt (α := Nat) cL ds → LT.lt (α := Nat) st c' → LT.lt (α := Nat) ds c' → LT.lt (α := Nat) c' f → LT.lt (α := Nat) f x → LT.lt (α := Nat) f dx → LT.lt (α := Nat) dx x → LT.lt (α := Nat) x pb → NeH st ds → CodeHd base 140 136 → o5.data = .cell (some (.ref x)) → (x, instObj 130 dx) ∈ rest → (st, instObj 130 ds) ∈ rest → (ds, dictOf [{ hash := PyData.keyHash w.params (Str.ofString "lineno"), key := .str (Str.ofString "lineno") j1, val := .int 1 u1 }, { hash := PyData.keyHash w.params (Str.ofString "instream"), key := .str (Str.ofString "instream") j2, val := .none }, { hash := PyData.keyHash w.params (Str.ofString "whitespace"), key := .str (Str.ofString "whitespace") j3, val := .str (Str.ofString "\n\t\r ") u3 }, { hash := PyData.keyHash w.params (Str.ofString "pushback"), key := .str (Str.ofString "pushback") j4, val := .ref pa }, { hash := PyData.keyHash w.params (Str.ofString "read"), key := .str (Str.ofString "read") j5, val := .ref f }] 5) ∈ rest → (f, kla_obj (Str.ofString "<lambda>") (Str.ofString "_law_stream.<locals>.<lambda>") params bodyL scopeL [(Str.ofString "left", cL)] pm c' ctv) ∈ rest → (c', oc) ∈ rest → (cL, oL) ∈ rest → (136, o136) ∈ rest → (pb, W.listOf (#[] : Array Value) 0) ∈ rest → (L' + 1 + 1 + 1 + 1 + 1, o5) ∈ rest → (∀ p ∈ rest, Ne (α := Nat) p.1 D ∧ Ne (α := Nat) p.1 dx) → (∀ t ∈ ts, tkOk t) → Chs vs (flat ts r) → vs.length ≤ 1000 → ts.length = 6 → dp + 300 < recursionLimit → un + 900 < cLine →
   (∀ D0 h' tk' ys vs' cnt' n' tn', Fr g L' h' (fun z => if z = Str.ofString "words" then some (.ref D0) else m z) → News g L' h' ((D0, LCg.lst ys) :: ((D, W.listOf vs'.toArray cnt') :: (dx, dictOf [{ hash := PyData.keyHash w.params (Str.ofString "lineno"), key := .str (Str.ofString "lineno") k1, val := .int n' tn' }, { hash := PyData.keyHash w.params (Str.ofString "instream"), key := .str (Str.ofString "instream") k2, val := .ref st }, { hash := PyData.keyHash w.params (Str.ofString "whitespace"), key := .str (Str.ofString "whitespace") k3, val := .str (Str.ofString "\n\t\r ") tw }, { hash := PyData.keyHash w.params (Str.ofString "pushback"), key := .str (Str.ofString "pushback") k4, val := .ref pb }] 4) :: rest)) → NeH D0 D → NeH D0 dx → (∀ q ∈ rest, NeH D0 q.1) → StrsAre ys (ts.map tkW) → Chs vs' r → vs'.length ≤ 1000 → n' = n + tkN ts → Q .next { s with heap := h', toks := tk' }) →
   wpAny (model rw9.row.prog w) (({ depth := dp, frames := some [], guards := gd, units := un } : Around).deeper (envOfC (Str.ofString "law") scope L' fa cd)) (exec lc (envOfC (Str.ofString "law") scope L' fa cd)) Q E s := by
  k_fill
  w_top off
  k_with_none
  (k_with "my omega" => (first | with_reducible assumption | (law_purse 30000 => lia) | omega +splitDisjunctions))
  (k_with "my mem" => (first | exact m9_0 | exact m9_1 | exact m9_2 | exact m9_3 | exact m9_4 | exact m9_5 | exact m9_6 | exact m9_7 | (refine' m9_s ?_; k_mem)))
  (k_with "my sub" => (first | exact allNil | exact allCons (by k_mem) (by lcg_sub) | (intro q9 hq9; repeat (first | with_reducible exact hq9 | refine List.mem_cons_of_mem _ ?_))))
  (k_with "my room" => ktr_room)
  (k_with "my units" => ktr_units)
  (k_with "my ne" => (refine neN ?_; (try dsimp only); first | exact NeH.out (by assumption) | exact Ne.symm (NeH.out (by assumption)) | omega))
  (k_with "my all" => (first | exact allNil | (refine' allCons ?_ ?_; focus k_ne; k_all)))
  (k_with "my exec Assign" => k_fold)
  (k_with "my exec Expr" => k_fold)
  (k_with "my exec If" => k_fold)
  (k_with "my exec AugAssign" => k_fold)
  (k_with "my eval BinOp" => k_fold)
  (k_with "my eval Compare" => k_fold)
  (k_with "my eval Subscript" => k_fold)
  (k_with "my eval Call" => k_fold)
  (k_with "my eval Call Attribute" => k_fold)
  (k_with "my eval IfExp" => k_fold)
  (k_with "my eval List" => k_fold)
  (k_with "my eval Tuple" => k_fold)
  intro hp B F X N TT hlam hoc hvs hL lo0 lo1 lo2 lo3 lo4 lo5 lo6 lo7 lo8 lo9 lo10 lne hch d5 hx hst hds hf hcc hcL h136 hpb h5 hoff hok hc hsz h6 hdp hun hret
  have hp' := hp
  cases hp
  dsimp only
  refine LCg.Assign_ListComp_U (F₀ := F) (by rfl) (by with_unfolding_all rfl) (by rfl) (by decide) (by rfl) (by decide) (by rfl) (by rfl) (by rfl) ?_
  (k_with "my CompSrc" => (k_here; k_dflt (refine LCg.CompSrc.range (by rfl) (by k_asm) (by k_asm) (by assumption) (by first | decide | rfl) (n := ts.length) (by rw [h6]; first | rfl | decide) (by rw [h6]; first | size_fits | exact Nat.le_of_ble_eq_true rfl) ?_; intro g'; refine stopHere ?_)))
  k_steps
  unfold Stopped
  refine wordsRest w p loose mean mg mb dp un gd A₀ base g L' fa cd _ x dx st ds pa pb f c' D cL tw k1 k2 k3 k4 j1 j2 j3 j4 j5 u1 u3 tq oc oL o136 pm ctv params bodyL scopeL vsc o5 _ _ _ _ _ m rest _ r _ hp' B X TT hlam hoc hvs hL lo0 lo1 lo2 lo3 lo4 lo5 lo6 lo7 lo8 lo9 lo10 lne hch d5 hx hst hds hf hcc hcL h136 hpb h5 hoff hdp hun ts _ 0 [] n tn vs cnt hok hc hsz ?_
  intro ys vs' cnt' n' tn' hy c' hs' en D0 h tk F' N' o1
  exact hret _ _ _ _ _ _ _ _ F' N' (Ne.symm o1.1) (Ne.symm o1.2.1) (fun q hq => off1Ne o1.2.2 hq) hy c' hs' en
end
section
open PySem PySem.W PyProof.Rows PySem.Calls PySem.NumText
noncomputable def fbParts (K : Frag) : Option (List Stmt × Scope) := (fnParts K 165).bind fun q => (q.1[8]?).bind fun a => onFor a fun fb => some (fb, q.2)
noncomputable def lnParts (K : Frag) : Option (Expr × Expr × Scope × Expr × Scope) := (fbParts K).bind fun q => (q.1[1]?).bind fun a => onIf a fun t _ => onCompare t fun l => onBin l fun r => compOf q.2 r
set_option maxRecDepth 100000 in
set_option maxHeartbeats 8000000 in
set_option pp.deepTerms false in
set_option pp.maxSteps 3000 in
theorem evLen (w : World) (p : Program) (loose : List Str) (mean : ExcName → Option Value) (mg mb : Str → Option Value) (dp un : Nat) (gd : Option (List Code)) (A₀ : Around) (base g : Heap) (L' fa : Addr) (cd : Value) (s : Shared) (Q E : Value → Shared → Prop) (lc elt it : Expr) (s2 scope : Scope) (C : Addr) (oC : Obj) (m m₂ : Str → Option Value) (z : Str) (tz : Tok) (led : List (Addr × Obj)) :
   lnParts (K39 w.params) = some (lc, elt, s2, it, scope) → Fr g L' s.heap m → (K39 w.params).In g → News g L' s.heap ((C, oC) :: led) → Top p loose mean mg mb g → LCg.NsObj oC m₂ → m₂ (Str.ofString "word") = some (.str z tz) → z.length ≤ 60 → dp + 300 < recursionLimit → un + 900 < cLine →
   (∀ t' h' tk', Fr g L' h' m → News g L' h' ((C, oC) :: led) → Q (.int z.length t') { s with heap := h', toks := tk' }) →
   wpAny (model rw9.row.prog w) (({ depth := dp, frames := some [], guards := gd, units := un } : Around).deeper (envOfC (Str.ofString "law") scope L' fa cd)) (eval elt (compEnvC s2 [] C (envOfC (Str.ofString "law") scope L' fa cd))) Q E s := by
  k_fill
  w_top off
  k_with_none
  (k_with "my omega" => (first | with_reducible assumption | (law_purse 30000 => lia) | omega +splitDisjunctions))
  (k_with "my mem" => (first | exact m9_0 | exact m9_1 | exact m9_2 | exact m9_3 | exact m9_4 | exact m9_5 | exact m9_6 | exact m9_7 | (refine' m9_s ?_; k_mem)))
  (k_with "my sub" => (first | exact allNil | exact allCons (by k_mem) (by lcg_sub) | (intro q9 hq9; repeat (first | with_reducible exact hq9 | refine List.mem_cons_of_mem _ ?_))))
  (k_with "my room" => ktr_room)
  (k_with "my units" => ktr_units)
  (k_with "my ne" => (refine neN ?_; (try dsimp only); first | exact NeH.out (by assumption) | exact Ne.symm (NeH.out (by assumption)) | omega))
  (k_with "my all" => (first | exact allNil | (refine' allCons ?_ ?_; focus k_ne; k_all)))
  (k_with "my exec Assign" => k_fold)
  (k_with "my exec Expr" => k_fold)
  (k_with "my exec If" => k_fold)
  (k_with "my exec AugAssign" => k_fold)
  (k_with "my eval BinOp" => k_fold)
  (k_with "my eval Compare" => k_fold)
  (k_with "my eval Subscript" => k_fold)
  (k_with "my eval Call" => k_fold)
  (k_with "my eval Call Attribute" => k_fold)
  (k_with "my eval IfExp" => k_fold)
  (k_with "my eval List" => k_fold)
  (k_with "my eval Tuple" => k_fold)
  intro hp F X N TT hC hx zl hdp hun hret
  cases hp
  dsimp only
  k_steps
  exact hret _ _ _ (by assumption) (by assumption)
noncomputable def LenP (a : Value) : Prop := ∃ z t, a = .str z t ∧ z.length ≤ 60
noncomputable def LenR (a v : Value) : Prop := ∃ z t t', a = .str z t ∧ v = .int (Str.length z) t'
theorem lenP {z : Str} {t : Tok} (h : z.length ≤ 60) : LenP (.str z t) := ⟨z, t, rfl, h⟩
theorem lenOf {z : Str} {t : Tok} {v : Value} (h : LenR (.str z t) v) : ∃ t', v = .int (Str.length z) t' := by
  obtain ⟨_, _, t', e, rfl⟩ := h
  cases e
  exact ⟨t', rfl⟩
set_option maxRecDepth 100000 in
set_option maxHeartbeats 8000000 in
set_option pp.deepTerms false in
set_option pp.maxSteps 3000 in
theorem lensC (w : World) (p : Program) (loose : List Str) (mean : ExcName → Option Value) (mg mb : Str → Option Value) (dp un : Nat) (gd : Option (List Code)) (A₀ : Around) (base g : Heap) (L' fa : Addr) (cd : Value) (s : Shared) (Q E : Value → Shared → Prop) (lc elt it : Expr) (s2 scope : Scope) (m : Str → Option Value) (W : Addr) (z0 z1 z2 z3 z4 z5 : Str) (t0 t1 t2 t3 t4 t5 : Tok) (n0 n1 n2 n3 n4 n5 : Int) (news : List (Addr × Obj)) :
   lnParts (K39 w.params) = some (lc, elt, s2, it, scope) → Fr g L' s.heap m → (K39 w.params).In g → News g L' s.heap news → Top p loose mean mg mb g → (W, LCg.lst [.str z0 t0, .str z1 t1, .str z2 t2, .str z3 t3, .str z4 t4, .str z5 t5]) ∈ news → m (Str.ofString "words") = some (.ref W) → z0.length ≤ 60 → z1.length ≤ 60 → z2.length ≤ 60 → z3.length ≤ 60 → z4.length ≤ 60 → z5.length ≤ 60 → (z0.length : Int) = n0 → (z1.length : Int) = n1 → (z2.length : Int) = n2 → (z3.length : Int) = n3 → (z4.length : Int) = n4 → (z5.length : Int) = n5 → dp + 300 < recursionLimit → un + 900 < cLine →
   (∀ D h' tk' u0 u1 u2 u3 u4 u5, Fr g L' h' m → News g L' h' ((D, LCg.lst [.int n0 u0, .int n1 u1, .int n2 u2, .int n3 u3, .int n4 u4, .int n5 u5]) :: news) → LCg.Off1 D news → Q (.ref D) { s with heap := h', toks := tk' }) →
   wpAny (model rw9.row.prog w) (({ depth := dp, frames := some [], guards := gd, units := un } : Around).deeper (envOfC (Str.ofString "law") scope L' fa cd)) (eval lc (envOfC (Str.ofString "law") scope L' fa cd)) Q E s := by
  intro hp F X N TT mW hW zl0 zl1 zl2 zl3 zl4 zl5 en0 en1 en2 en3 en4 en5 hdp hun hret
  subst en0 en1 en2 en3 en4 en5
  have hp' := hp
  cases hp
  refine compKp LenR rfl F N mW (by first | size_fits | exact Nat.le_of_ble_eq_true rfl) (cl := []) (by rfl) (by decide) (by rfl) (by decide) (by rfl) (ld (name := Str.ofString "law") (a := fa) (cd := cd) F hW ⟨rfl, rfl⟩) (fun a C oC m₂ h tk E' Q' ha hC hx F' led hs N' hq => ?_) (fun D ys h tk hy F' N' o1 => ?_)
  · have hn : LenP a := pickOf ha (allCons (lenP zl0) (allCons (lenP zl1) (allCons (lenP zl2) (allCons (lenP zl3) (allCons (lenP zl4) (allCons (lenP zl5) allNil))))))
    obtain ⟨z, t, rfl, zl⟩ := hn
    exact evLen w p loose mean mg mb dp un gd A₀ base g L' fa cd _ Q' E' _ _ _ _ _ C oC m m₂ z t led hp' F' X N' TT hC hx zl hdp hun fun t' h' tk' F2 N2 => hq _ h' tk' ⟨z, t, t', rfl, rfl⟩ F2 N2
  · obtain ⟨v1, v2, v3, v4, v5, v6, ey, h1, h2, h3, h4, h5, h6⟩ := all2six hy
    subst ey
    obtain ⟨t1_, rfl⟩ := lenOf h1
    obtain ⟨t2_, rfl⟩ := lenOf h2
    obtain ⟨t3_, rfl⟩ := lenOf h3
    obtain ⟨t4_, rfl⟩ := lenOf h4
    obtain ⟨t5_, rfl⟩ := lenOf h5
    obtain ⟨t6_, rfl⟩ := lenOf h6
    exact hret D h tk t1_ t2_ t3_ t4_ t5_ t6_ F' N' o1
end
section
open PySem PySem.W PyProof.Rows PySem.Calls PySem.NumText
theorem news31 {h₀ h h' : Heap} {L c' : Addr} {o31 o31' oc' : Obj} {news : List (Addr × Obj)} (rest' : List (Addr × Obj)) (N : News h₀ L h news) (kb : ∀ b o, h.get? b = some o → b ≠ 31 → h'.get? b = some o) (g31 : h'.get? 31 = some o31') (m31 : (31, o31) ∈ news) (gc : h'.get? c' = some oc') (nc : c' ≠ L ∧ h₀.get? c' = none) (hs : ∀ p ∈ rest', p ∈ news) (hne : ∀ p ∈ rest', Ne (α := Nat) p.1 31) : News h₀ L h' ((31, o31') :: (c', oc') :: rest') := by
  intro q hq
  rcases List.mem_cons.mp hq with rfl | hq
  · exact ⟨g31, (N _ m31).2⟩
  rcases List.mem_cons.mp hq with rfl | hq
  · exact ⟨gc, nc⟩
  · exact ⟨kb _ _ (N q (hs q hq)).1 (hne q hq), (N q (hs q hq)).2⟩
noncomputable def T3 (o31 : Obj) (c3 : Addr) (oc3 : Obj) : Prop := o31 = tabObj #[] ∨ (o31 = tabObj #[rawInt 49, rawInt 4, .ref c3] ∧ ∃ (vs3 : Array Value) (tq3 : Tok), oc3.data = .fields vs3 ∧ vs3[1]? = some (.str "_str_to_int_inner.<locals>.inner" tq3))
theorem ne3 {h : Heap} {c c' X : Addr} {o : Obj} (e : c' = c ∨ h.get? c' = none) (n : NeH c X) (g : h.get? X = some o) : NeH c' X := by
  rcases e with rfl | e
  · exact n
  · intro q
    have q' : c' = X := q
    rw [q', g] at e; cases e
theorem noneFr {h₀ h : Heap} {L D : Addr} {m : Str → Option Value} (F : Fr h₀ L h m) (hn : h.get? D = none) : D ≠ L ∧ h₀.get? D = none := by
  refine ⟨fun e => ?_, ?_⟩
  · obtain ⟨oL, es, ep, hL, r⟩ := F.ns
    rw [← e, hn] at hL; cases hL
  · cases q : h₀.get? D with
    | none => rfl
    | some o' => have := F.keep _ _ q; rw [hn] at this; cases this
theorem dm_any (w : World) (p : Program) (loose : List Str) (mean : ExcName → Option Value) (mg mb : Str → Option Value) (dp un : Nat) (gd : Option (List Code)) (cn : Str) (cs : Scope) (a0 : Addr) (ccd : Value) (cl : List (Str × Addr)) (outer : List Env) (A₀ : Around) (base h₀ : Heap) (L : Addr) (m : Str → Option Value) (s : Shared) (Q E : Value → Shared → Prop) (x b : Int) (t1 t2 : Tok) (c1 c2 : Addr) (oc1 oc2 : Obj) (vs1 vs2 : Array Value) (tq1 tq2 : Tok) :
   Below A₀ base outer h₀ → Fr h₀ L s.heap m → (K39 w.params).In h₀ → News h₀ L s.heap ([(59, tabObj #[rawInt 89, rawInt 4, .ref c1]), (c1, oc1), (66, tabObj #[rawInt 104, rawInt 4, .ref c2]), (c2, oc2)]) → Top p loose mean mg mb h₀ → cs.kind = .function → -2 ^ 40 < x → x < 2 ^ 40 → 0 < b → b < 2 ^ 20 → CodeHd base 63 59 → CodeHd base 70 66 → oc1.data = .fields vs1 → vs1[1]? = some (.str "_int2digits.<locals>.inner" tq1) → oc2.data = .fields vs2 → vs2[1]? = some (.str "_digits2int.<locals>.inner" tq2) → dp + 140 < recursionLimit → un + 440 < cLine →
   (∀ (D : Addr) (q r : Int) (u1 u2 : Tok) h' tk', Kp s.heap h' → h'.get? D = some { cls := .type "tuple", data := .seq #[.int q u1, .int r u2] } → s.heap.objs.size ≤ D → x = b * q + r → 0 ≤ r → r < b → Q (.ref D) { s with heap := h', toks := tk' }) →
   wpAny (model rw9.row.prog w) (ktrTop dp un gd cn cs L a0 ccd cl outer) (call (.ref 85) [.int x t1, .int b t2]) Q E s := by
  intro B F X N T hk x0 x1 b0 b1 e1 e2 e3 e4 e5 e6 hdp hun hret
  by_cases h : 0 ≤ x
  · exact dm_hit0 w p loose mean mg mb dp un gd cn cs a0 ccd cl outer A₀ base h₀ L m s Q E x b t1 t2 c1 c2 oc1 oc2 vs1 vs2 tq1 tq2 B F X N T hk h x1 b0 b1 e1 e2 e3 e4 e5 e6 (by first | with_reducible assumption | omega) (by first | with_reducible assumption | omega) hret
  · exact dm_hitn w p loose mean mg mb dp un gd cn cs a0 ccd cl outer A₀ base h₀ L m s Q E x b t1 t2 c1 c2 oc1 oc2 vs1 vs2 tq1 tq2 B F X N T hk (by first | with_reducible assumption | omega) x0 b0 b1 e1 e2 e3 e4 e5 e6 hdp hun hret
theorem ifs_any (w : World) (p : Program) (loose : List Str) (mean : ExcName → Option Value) (mg mb : Str → Option Value) (dp un : Nat) (gd : Option (List Code)) (cn : Str) (cs : Scope) (a0 : Addr) (ccd : Value) (cl : List (Str × Addr)) (outer : List Env) (A₀ : Around) (base h₀ : Heap) (L : Addr) (m : Str → Option Value) (s : Shared) (Q E : Value → Shared → Prop) (z : Str) (cs1 : List Nat) (tz : Tok) (c3 : Addr) (o31 oc3 : Obj) (v : Int) :
   Below A₀ base outer h₀ → Fr h₀ L s.heap m → (K39 w.params).In h₀ → News h₀ L s.heap ([(31, o31), (c3, oc3)]) → Top p loose mean mg mb h₀ → cs.kind = .function → T3 o31 c3 oc3 → NeH c3 31 → ((digitsVal cs1 : Nat) : Int) = v → z = sL cs1 → AllDigits cs1 → 1 ≤ z.length → z.length ≤ 10 → CodeHd base 35 31 → dp + 59 < recursionLimit → un + 290 < cLine →
   (∀ t h' tk' dr' o31' c3' oc3', (∀ b o, s.heap.get? b = some o → b ≠ 31 → h'.get? b = some o) → h'.get? 31 = some o31' → h'.get? c3' = some oc3' → c3' ≠ L ∧ h₀.get? c3' = none → T3 o31' c3' oc3' → c3' = c3 ∨ s.heap.get? c3' = none → NeH c3' 31 → Q (.int v t) { s with heap := h', toks := tk', drawn := dr' }) →
   wpAny (model rw9.row.prog w) (ktrTop dp un gd cn cs L a0 ccd cl outer) (call (.ref 43) [.str z tz]) Q E s := by
  intro B F X N T hk h3 n3 ev hz hd1 hl1 hl2 hch hdp hun hret
  subst ev
  have N3 := N (31, o31) (.head _)
  have Nc := N (c3, oc3) (.tail _ (.head _))
  rcases h3 with rfl | ⟨rfl, vs3, tq3, hv, hq⟩
  · refine ifs_miss w p loose mean mg mb dp un gd cn cs a0 ccd cl outer A₀ base h₀ L m s Q E z cs1 tz B F X (newsOne N (.head _)) T hk hz hd1 hl1 hl2 hch hdp hun ?_
    intro t h' tk' dr' c' oc' vs' tq' kb g31 gc nc dc qc
    refine hret t h' tk' dr' _ c' oc' kb g31 gc (noneFr F nc) (.inr ⟨rfl, vs', tq', dc, qc⟩) (.inr nc) ?_
    intro e
    have e' : c' = 31 := e
    rw [e', N3.1] at nc; cases nc
  · refine ifs_hit w p loose mean mg mb dp un gd cn cs a0 ccd cl outer A₀ base h₀ L m s Q E z cs1 tz c3 oc3 vs3 tq3 B F X N T hk hz hd1 hl1 hl2 hch hv hq hdp hun ?_
    intro t h' tk' dr' kp
    exact hret t h' tk' dr' _ c3 oc3 (fun b o e _ => kp b o e) (kp _ _ N3.1) (kp _ _ Nc.1) Nc.2 (.inr ⟨rfl, vs3, tq3, hv, hq⟩) (.inl rfl) n3
end
section
open PySem PySem.W PyProof.Rows PySem.Calls PySem.NumText
noncomputable def mkT (sk l : List Nat) (c : Nat) : Tk := (sk, l.headD 0, l.tail, c)
theorem flatMk {sk l : List Nat} {c : Nat} {ts : List Tk} {r : List Nat} (h : l ≠ []) : flat (mkT sk l c :: ts) r = sk ++ (l ++ c :: flat ts r) := by
  cases l with
  | nil => exact absurd rfl h
  | cons a l => simp [flat, mkT]
theorem okMk {sk l : List Nat} {c : Nat} (h : l ≠ []) (hl : l.length ≤ 60) (h1 : ∀ c ∈ l, c < 128 ∧ plainC c = true) (h2 : c < 128) (h3 : isWs c = true) (h4 : ∀ c ∈ sk, c < 128 ∧ isWs c = true) (h5 : sk.length < 60) : tkOk (mkT sk l c) := by
  cases l with
  | nil => exact absurd rfl h
  | cons a l => exact ⟨(h1 a (.head _)).1, (h1 a (.head _)).2, fun c hc => h1 c (.tail _ hc), by show l.length < 60; simp only [List.length_cons] at hl; omega, h2, h3, h4, h5⟩
theorem tkWMk {sk l : List Nat} {c : Nat} (h : l ≠ []) : tkW (mkT sk l c) = sL l := by
  cases l with
  | nil => exact absurd rfl h
  | cons a l => rfl
noncomputable def w0L (y : Int) : List Nat := (wdS (lineW y).toNat).cps.toList ++ [44]
noncomputable def w1L (y : Int) : List Nat := d2 (lineDd y).toNat
noncomputable def w2L (y : Int) : List Nat := (moS (lineM y - 1).toNat).cps.toList
noncomputable def w3L (y : Int) : List Nat := d4 (y - 3760).toNat
noncomputable def w4L (hh mi sc : Int) : List Nat := d2 hh.toNat ++ [58] ++ d2 mi.toNat ++ [58] ++ d2 sc.toNat
noncomputable def tks (sk : List Nat) (y hh mi sc : Int) (zone : Str) : List Tk := [mkT sk (w0L y) 32, mkT [] (w1L y) 32, mkT [] (w2L y) 32, mkT [] (w3L y) 32, mkT [] (w4L hh mi sc) 32, mkT [] zone.cps.toList 10]
theorem plain9 {c : Nat} (h : 48 ≤ c ∧ c ≤ 58) : c < 128 ∧ plainC c = true := by
  have : c = 48 ∨ c = 49 ∨ c = 50 ∨ c = 51 ∨ c = 52 ∨ c = 53 ∨ c = 54 ∨ c = 55 ∨ c = 56 ∨ c = 57 ∨ c = 58 := by omega
  rcases this with rfl | rfl | rfl | rfl | rfl | rfl | rfl | rfl | rfl | rfl | rfl <;> decide
theorem d2P {n : Nat} (h : n < 100) : ∀ c ∈ d2 n, c < 128 ∧ plainC c = true := fun c hc => by
  simp only [d2, List.mem_cons, List.not_mem_nil, or_false] at hc
  rcases hc with rfl | rfl <;> exact plain9 (by first | with_reducible assumption | omega)
theorem d4P {n : Nat} (h : n < 10000) : ∀ c ∈ d4 n, c < 128 ∧ plainC c = true := fun c hc => by
  simp only [d4, List.mem_cons, List.not_mem_nil, or_false] at hc
  rcases hc with rfl | rfl | rfl | rfl <;> exact plain9 (by first | with_reducible assumption | omega)
theorem w4P {hh mi sc : Int} (h : hh < 100) (h' : mi < 100) (h'' : sc < 100) : ∀ c ∈ w4L hh mi sc, c < 128 ∧ plainC c = true := fun c hc => by
  simp only [w4L, List.mem_append, List.mem_singleton] at hc
  rcases hc with (((hc | rfl) | hc) | rfl) | hc
  · exact d2P (by first | with_reducible assumption | omega) c hc
  · exact plain9 (by first | with_reducible assumption | omega)
  · exact d2P (by first | with_reducible assumption | omega) c hc
  · exact plain9 (by first | with_reducible assumption | omega)
  · exact d2P (by first | with_reducible assumption | omega) c hc
theorem w0P (y : Int) : ∀ c ∈ w0L y, c < 128 ∧ plainC c = true := by
  have hb := lineW_bounds y
  have : ∀ k : Fin 7, ∀ c ∈ (wdS k.val).cps.toList ++ [44], c < 128 ∧ plainC c = true := by decide +kernel
  exact this ⟨(lineW y).toNat, by omega⟩
theorem w0N (y : Int) : (w0L y).length = 4 := by
  have hb := lineW_bounds y
  have : ∀ k : Fin 7, ((wdS k.val).cps.toList ++ [44]).length = 4 := by decide +kernel
  exact this ⟨(lineW y).toNat, by omega⟩
theorem w2P {y : Int} (h : lineM y = 3 ∨ lineM y = 4) : (∀ c ∈ w2L y, c < 128 ∧ plainC c = true) ∧ (w2L y).length = 3 := by
  unfold w2L
  rcases h with h | h <;> rw [h] <;> decide +kernel
theorem neLen {l : List Nat} {k : Nat} (h : l.length = k + 1) : l ≠ [] := fun e => by rw [e] at h; cases h
theorem w4N (hh mi sc : Int) : (w4L hh mi sc).length = 8 := rfl
theorem tksOk {sk : List Nat} {y hh mi sc : Int} {zone : Str} (y0 : 3761 ≤ y) (y1 : y ≤ 8761) (h : hh < 100) (h' : mi < 100) (h'' : sc < 100) (zok : ∀ c ∈ zone.cps.toList, c < 128 ∧ plainC c = true) (zl0 : 1 ≤ zone.length) (zl1 : zone.length ≤ 10) (hsk : ∀ c ∈ sk, c < 128 ∧ isWs c = true) (hskl : sk.length < 60) :
    (∀ t ∈ tks sk y hh mi sc zone, tkOk t) ∧ (∀ r, flat (tks sk y hh mi sc zone) r = sk ++ ((lineS y hh mi sc zone).cps.toList ++ 10 :: r)) ∧ (tks sk y hh mi sc zone).map tkW = [sL (w0L y), sL (w1L y), sL (w2L y), sL (w3L y), sL (w4L hh mi sc), zone] ∧ tkN (tks sk y hh mi sc zone) = nls sk + 1 := by
  obtain ⟨_, _, _, hm, hd⟩ := plainLaw y0 y1
  have zn : zone.cps.toList.length = zone.length := Array.length_toList
  have z0 : zone.cps.toList ≠ [] := fun e => by rw [e] at zn; simp at zn; omega
  have e0 : w0L y ≠ [] := neLen (w0N y)
  have e1 : w1L y ≠ [] := neLen (k := 1) rfl
  have e2 : w2L y ≠ [] := neLen (w2P hm).2
  have e3 : w3L y ≠ [] := neLen (k := 3) rfl
  have e4 : w4L hh mi sc ≠ [] := neLen (k := 7) rfl
  have nil : ∀ c ∈ ([] : List Nat), c < 128 ∧ isWs c = true := fun _ h => nomatch h
  refine ⟨?_, ?_, ?_, ?_⟩
  · intro t ht
    simp only [tks, List.mem_cons, List.not_mem_nil, or_false] at ht
    rcases ht with rfl | rfl | rfl | rfl | rfl | rfl
    · exact okMk e0 (by rw [w0N]; decide) (w0P y) (by decide) (by decide) hsk hskl
    · exact okMk e1 (Nat.le_of_ble_eq_true rfl) (d2P (by first | with_reducible assumption | omega)) (by decide) (by decide) nil (by decide)
    · exact okMk e2 (by rw [(w2P hm).2]; decide) (w2P hm).1 (by decide) (by decide) nil (by decide)
    · exact okMk e3 (Nat.le_of_ble_eq_true rfl) (d4P (by first | with_reducible assumption | omega)) (by decide) (by decide) nil (by decide)
    · exact okMk e4 (Nat.le_of_ble_eq_true rfl) (w4P h h' h'') (by decide) (by decide) nil (by decide)
    · exact okMk z0 (by first | with_reducible assumption | omega) zok (by decide) (by decide) nil (by decide)
  · intro r
    unfold tks
    rw [flatMk e0, flatMk e1, flatMk e2, flatMk e3, flatMk e4, flatMk z0]
    simp [flat, lineS, fmtLine, fmtL, sL, w0L, w1L, w2L, w3L, w4L]
  · simp only [tks, List.map_cons, List.map_nil, tkWMk e0, tkWMk e1, tkWMk e2, tkWMk e3, tkWMk e4, tkWMk z0]
    rfl
  · simp only [tks, tkN, mkT]
    simp [nls, nlOf]
end
section
open PySem PySem.W PyProof.Rows PySem.Calls PySem.NumText PySem.Spec PyProof.V
noncomputable def mth (y : Int) : Int := if lineM y = 3 then 0 else 31
theorem monthAt {y : Int} (hm : lineM y = 3 ∨ lineM y = 4) : (PySem.Spec.lookup (.str (sL (w2L y))) [(.str (Str.ofString "Mar"), .int 0), (.str (Str.ofString "Apr"), .int 31)]).getD (.int 99) = .int (mth y) := by
  unfold w2L mth
  have a : sL (moS (3 - 1 : Int).toNat).cps.toList = Str.ofString "Mar" := by decide +kernel
  have b : sL (moS (4 - 1 : Int).toNat).cps.toList = Str.ofString "Apr" := by decide +kernel
  have n : ¬ Str.ofString "Mar" = Str.ofString "Apr" := by decide +kernel
  rcases hm with h | h
  · rw [h, a]; simp [PySem.Spec.lookup, PySem.Spec.same]
  · rw [h, b]; simp [PySem.Spec.lookup, PySem.Spec.same, n]
theorem flatMonth {y : Int} (hm : lineM y = 3 ∨ lineM y = 4) {v : Value} (h : Flat v ((PySem.Spec.lookup (.str (sL (w2L y))) [(.str (Str.ofString "Mar"), .int 0), (.str (Str.ofString "Apr"), .int 31)]).getD (.int 99))) : ∃ t, v = .int (mth y) t := by
  rw [monthAt hm] at h
  exact h.int_inv
end
section
open PySem PySem.W PyProof.Rows PySem.Calls PySem.NumText
noncomputable def wkParts (K : Frag) : Option (Expr × Scope) := (fbParts K).bind fun q => (q.1[5]?).bind fun a => onAssign a fun v => some (v, q.2)
theorem weekLen {i : Int} : (Txt.slice (Str.ofString "Mon,Tue,Wed,Thu,Fri,Sat,Sun,") (some i) none).length ≤ sizeLine :=
  Nat.le_trans (PyProof.Txt.length_slice_le _ _ _) (Nat.le_of_ble_eq_true rfl)
theorem weekS {dd y : Int} (h : dd % 7 = lineW y) : Txt.slice (Txt.slice (Str.ofString "Mon,Tue,Wed,Thu,Fri,Sat,Sun,") (some (dd.fmod 7 * 4)) none) none (some 4) = sL (w0L y) := by
  have : ∀ k : Fin 7, Txt.slice (Txt.slice (Str.ofString "Mon,Tue,Wed,Thu,Fri,Sat,Sun,") (some (((k.val : Nat) : Int) * 4)) none) none (some 4) = sL ((wdS k.val).cps.toList ++ [44]) := by decide +kernel
  have hb := lineW_bounds y
  have := this ⟨(lineW y).toNat, by omega⟩
  simp only [Int.toNat_of_nonneg hb.1] at this
  rw [Int.fmod_eq_emod_of_nonneg _ (by decide), h]; exact this
set_option maxRecDepth 100000 in
set_option maxHeartbeats 8000000 in
set_option pp.deepTerms false in
set_option pp.maxSteps 3000 in
theorem evWeek (w : World) (p : Program) (loose : List Str) (mean : ExcName → Option Value) (mg mb : Str → Option Value) (dp un : Nat) (gd : Option (List Code)) (A₀ : Around) (base g : Heap) (L' fa : Addr) (cd : Value) (s : Shared) (Q E : Value → Shared → Prop) (ex : Expr) (scope : Scope) (mr : Str → Option Value) (dd : Int) (td : Tok) (led : List (Addr × Obj)) (y : Int) :
   wkParts (K39 w.params) = some (ex, scope) → Fr g L' s.heap (fun z => if z = Str.ofString "day" then some (.int dd td) else mr z) → (K39 w.params).In g → News g L' s.heap led → Top p loose mean mg mb g → dd % 7 = lineW y → -10000000 < dd → dd < 10000000 → dp + 300 < recursionLimit → un + 900 < cLine →
   (∀ t' h' tk', Fr g L' h' (fun z => if z = Str.ofString "day" then some (.int dd td) else mr z) → News g L' h' led → Q (.str (sL (w0L y)) t') { s with heap := h', toks := tk' }) →
   wpAny (model rw9.row.prog w) (({ depth := dp, frames := some [], guards := gd, units := un } : Around).deeper (envOfC (Str.ofString "law") scope L' fa cd)) (eval ex (envOfC (Str.ofString "law") scope L' fa cd)) Q E s := by
  k_fill
  w_top off
  k_with_none
  (k_with "my omega" => (first | with_reducible assumption | (law_purse 30000 => lia) | omega +splitDisjunctions))
  (k_with "my mem" => (first | exact m9_0 | exact m9_1 | exact m9_2 | exact m9_3 | exact m9_4 | exact m9_5 | exact m9_6 | exact m9_7 | (refine' m9_s ?_; k_mem)))
  (k_with "my sub" => (first | exact allNil | exact allCons (by k_mem) (by lcg_sub) | (intro q9 hq9; repeat (first | with_reducible exact hq9 | refine List.mem_cons_of_mem _ ?_))))
  (k_with "my room" => ktr_room)
  (k_with "my units" => ktr_units)
  (k_with "my ne" => (refine neN ?_; (try dsimp only); first | exact NeH.out (by assumption) | exact Ne.symm (NeH.out (by assumption)) | omega))
  (k_with "my all" => (first | exact allNil | (refine' allCons ?_ ?_; focus k_ne; k_all)))
  (k_with "my exec Assign" => k_fold)
  (k_with "my exec Expr" => k_fold)
  (k_with "my exec If" => k_fold)
  (k_with "my exec AugAssign" => k_fold)
  (k_with "my eval BinOp" => k_fold)
  (k_with "my eval Compare" => k_fold)
  (k_with "my eval Subscript" => k_fold)
  (k_with "my eval Call" => k_fold)
  (k_with "my eval Call Attribute" => k_fold)
  (k_with "my eval IfExp" => k_fold)
  (k_with "my eval List" => k_fold)
  (k_with "my eval Tuple" => k_fold)
  intro hp F X N TT hw d0 d1 hdp hun hret
  (k_with "my subscriptTail" => (k_here; k_dflt (refine slice_strN_sn (hsz := ?hsz) (s := ⟨_, _, _, _, _⟩) (by k_asm) (by k_asm) ?_; (case hsz => exact Nat.le_of_ble_eq_true rfl); intro h1 t1 k1 F1 N1)))
  (k_with "my last subscriptTail" => (k_here; k_dflt (refine slice_strN_ns (hsz := ?hsz) (s := ⟨_, _, _, _, _⟩) (by k_asm) (by k_asm) ?_; (case hsz => exact weekLen); intro h2 t2 k2 F2 N2)))
  cases hp
  dsimp only
  k_steps
  rw [weekS hw]
  exact hret _ _ _ (by assumption) (by assumption)
end
section
open PySem PySem.W PyProof.Rows PySem.Calls PySem.NumText
theorem sixE {ys : List Value} {a b c d e f : Str} {l : List Str} (h : StrsAre ys l) (q : l = [a, b, c, d, e, f]) : ∃ t0 t1 t2 t3 t4 t5, ys = [.str a t0, .str b t1, .str c t2, .str d t3, .str e t4, .str f t5] := by
  subst q
  cases h with
  | cons _ t0 h => cases h with
    | cons _ t1 h => cases h with
      | cons _ t2 h => cases h with
        | cons _ t3 h => cases h with
          | cons _ t4 h => cases h with
            | cons _ t5 h => cases h with
              | nil => exact ⟨t0, t1, t2, t3, t4, t5, rfl⟩
theorem my_item {prog : Program} {w : World} {A : Around} {E : Value → Shared → Prop} {s : Shared} {value slice : PySem.Expr} {l : Addr} {vs : List Value} {k : Int} {u : Tok} {v : Value} {Q : Value → Shared → Prop}
    (hl : s.heap.IsList l vs.toArray) (h0 : 0 ≤ k) (hhi : k < 2 ^ 63) (hx : vs[k.toNat]? = some v) (h : Q v s)
    (hs : subscripted slice false (.ref l) (.int k u) = operate [.ref l, .int k u] (getItem (.ref l) (.int k u)) := by with_unfolding_all rfl) :
    wpAny (model prog w) A (subscriptTail value slice (.ref l) (.int k u)) Q E s :=
  tail_any hl.typeIs slot_list_getitem.lookup (wpAny_getItem_list hl h0 hhi (by simpa using hx) h) hs
theorem joinSix {prog : Program} {w : World} {A : Around} {E : Value → Shared → Prop} {s : Shared} {Q : Value → Shared → Prop} {D : Addr} {z0 z1 z2 z3 z4 z5 zz : Str} {t0 t1 t2 t3 t4 t5 v : Tok} (hl : s.heap.get? D = some (LCg.lst [.str z0 t0, .str z1 t1, .str z2 t2, .str z3 t3, .str z4 t4, .str z5 t5])) (e : Txt.join (Str.ofString " ") [z0, z1, z2, z3, z4, z5] = zz)
    (hb : z0.length ≤ 60 ∧ z1.length ≤ 60 ∧ z2.length ≤ 60 ∧ z3.length ≤ 60 ∧ z4.length ≤ 60 ∧ z5.length ≤ 60) (h : ∀ t' k, Q (.str zz t') { s with toks := k }) : wpAny (model prog w) A (call (.builtin "str.join") [.str (Str.ofString " ") v, .ref D]) Q E s := by
  have h0 : (Str.ofString " ").length = 1 := by decide +kernel
  refine join_list (items := #[.str z0 t0, .str z1 t1, .str z2 t2, .str z3 t3, .str z4 t4, .str z5 t5]) (ys := [z0, z1, z2, z3, z4, z5]) ⟨_, hl, rfl, _, rfl⟩ (by repeat constructor) (by simp only [List.map_cons, List.map_nil, List.sum_cons, List.sum_nil, List.length_cons, List.length_nil, h0]; omega) fun t' k => ?_
  rw [e]
  exact h t' k
theorem joinLine (y hh mi sc : Int) (zone : Str) : Txt.join (Str.ofString " ") [sL (w0L y), sL (w1L y), sL (w2L y), sL (w3L y), sL (w4L hh mi sc), zone] = lineS y hh mi sc zone := by
  have e : (Str.ofString " ").cps.toList = [32] := by decide +kernel
  apply str_ext
  simp [Txt.join, Builtin.Str.glued, e, lineS, fmtLine, fmtL, sL, w0L, w1L, w2L, w3L, w4L]
theorem sLlen (l : List Nat) : (sL l).length = l.length := by simp [sL, Str.length]
theorem wLens {y hh mi sc : Int} {zone : Str} (y0 : 3761 ≤ y) (y1 : y ≤ 8761) (zl : zone.length ≤ 10) : (sL (w0L y)).length = 4 ∧ (sL (w1L y)).length = 2 ∧ (sL (w2L y)).length = 3 ∧ (sL (w3L y)).length = 4 ∧ (sL (w4L hh mi sc)).length = 8 ∧ ((sL (w0L y)).length ≤ 60 ∧ (sL (w1L y)).length ≤ 60 ∧ (sL (w2L y)).length ≤ 60 ∧ (sL (w3L y)).length ≤ 60 ∧ (sL (w4L hh mi sc)).length ≤ 60 ∧ zone.length ≤ 60) := by
  obtain ⟨_, _, _, hm, hd⟩ := plainLaw y0 y1
  have e0 : (sL (w0L y)).length = 4 := (sLlen _).trans (w0N y)
  have e2 : (sL (w2L y)).length = 3 := (sLlen _).trans (w2P hm).2
  have e1 : (sL (w1L y)).length = 2 := rfl
  have e3 : (sL (w3L y)).length = 4 := rfl
  have e4 : (sL (w4L hh mi sc)).length = 8 := rfl
  omega
theorem neSame {prog : Program} {w : World} {A : Around} {E : Value → Shared → Prop} {s : Shared} {Q : Value → Shared → Prop} {h₀ : Heap} {L a b : Addr} {news : List (Addr × Obj)} {oa ob : Obj} {xs ys : List Value} {ka kb : Nat} (ds : List Dat) (N : News h₀ L s.heap news) (ma : (a, oa) ∈ news) (ca : oa.cls = .type "list") (da : oa.data = .seq xs.toArray ka) (Da : DatAll [] xs ds)
    (mb : (b, ob) ∈ news) (cb : ob.cls = .type "list") (db : ob.data = .seq ys.toArray kb) (Db : DatAll [] ys ds) (hok : ∀ d ∈ ds, kqdOk 8 d = true) (hu : A.units + 64 < cLine) (h : Q (.bool false) s) : wpAny (model prog w) A (compareOp .NotEq (.ref a) (.ref b)) Q E s :=
  kqd_ne N ma ca da Da (fun _ h => nomatch h) mb cb db Db (fun _ h => nomatch h) hok hok hu (by simpa using h)
theorem datInt {news : List (Addr × Obj)} {i j : Int} {t : Tok} (e : i = j) : DatIn news (.int i t) (.int j) := e ▸ .int i t
theorem datStr {news : List (Addr × Obj)} {i j : Str} {t : Tok} (e : i = j) : DatIn news (.str i t) (.str j) := e ▸ .str i t
theorem okPlain {l : List Nat} (h : ∀ c ∈ l, c < 128 ∧ plainC c = true) : PyData.strOk (sL l) = true := by
  rw [PyData.strOk, ← Array.all_toList]
  exact List.all_eq_true.mpr fun c hc => decide_eq_true (Nat.lt_trans (h c hc).1 (by decide))
theorem okOf {z : Str} (h : ∀ c ∈ z.cps.toList, c < 128 ∧ plainC c = true) : PyData.strOk z = true := okPlain h
theorem okLine {y hh mi sc : Int} {zone : Str} (y0 : 3761 ≤ y) (y1 : y ≤ 8761) (h : hh < 100) (h' : mi < 100) (h'' : sc < 100) (zok : ∀ c ∈ zone.cps.toList, c < 128 ∧ plainC c = true) : PyData.strOk (lineS y hh mi sc zone) = true := by
  obtain ⟨_, _, _, hm, hd⟩ := plainLaw y0 y1
  have e : (lineS y hh mi sc zone).cps.toList = w0L y ++ 32 :: (w1L y ++ 32 :: (w2L y ++ 32 :: (w3L y ++ 32 :: (w4L hh mi sc ++ 32 :: zone.cps.toList)))) := by
    simp [lineS, fmtLine, fmtL, sL, w0L, w1L, w2L, w3L, w4L]
  rw [PyData.strOk, ← Array.all_toList, e]
  refine List.all_eq_true.mpr fun c hc => decide_eq_true (Nat.lt_trans (?_ : c < 128) (by decide))
  simp only [List.mem_append, List.mem_cons] at hc
  rcases hc with hc | rfl | hc | rfl | hc | rfl | hc | rfl | hc | rfl | hc
  · exact (w0P y c hc).1
  · decide
  · exact (d2P (by first | with_reducible assumption | omega) c hc).1
  · decide
  · exact ((w2P hm).1 c hc).1
  · decide
  · exact (d4P (by first | with_reducible assumption | omega) c hc).1
  · decide
  · exact (w4P h h' h'' c hc).1
  · decide
  · exact (zok c hc).1
theorem dv3 {y : Int} (y0 : 3761 ≤ y) (y1 : y ≤ 8761) : ((digitsVal (w3L y) : Nat) : Int) = y - 3760 := by
  rw [w3L, (d4_all (by first | with_reducible assumption | omega)).2]; omega
theorem dv1 {y : Int} (y0 : 3761 ≤ y) (y1 : y ≤ 8761) : ((digitsVal (w1L y) : Nat) : Int) = lineDd y := by
  have := (plainLaw y0 y1).2.2.2.2
  rw [w1L, (d2_all (by first | with_reducible assumption | omega)).2]; omega
theorem ad3 {y : Int} (y0 : 3761 ≤ y) (y1 : y ≤ 8761) : AllDigits (w3L y) := (d4_all (by first | with_reducible assumption | omega)).1
theorem ad1 {y : Int} (y0 : 3761 ≤ y) (y1 : y ≤ 8761) : AllDigits (w1L y) := by
  have := (plainLaw y0 y1).2.2.2.2
  exact (d2_all (by first | with_reducible assumption | omega)).1
theorem frName {h₀ h : Heap} {L : Addr} {m : Str → Option Value} {x : Str} {v : Value} (F : Fr h₀ L h m) (e : m x = some v) : Fr h₀ L h (fun z => if z = x then some v else m z) := by
  have : (fun z => if z = x then some v else m z) = m := by
    funext z
    by_cases h : z = x
    · subst h; rw [if_pos rfl, e]
    · rw [if_neg h]
  rw [this]; exact F
end
section
open PySem PySem.W PyProof.Rows PySem.Calls PySem.NumText
set_option maxRecDepth 100000 in
set_option maxHeartbeats 8000000 in
set_option pp.deepTerms false in
set_option pp.maxSteps 3000 in
theorem turnC (w : World) (p : Program) (loose : List Str) (mean : ExcName → Option Value) (mg mb : Str → Option Value) (dp un : Nat) (gd : Option (List Code)) (A₀ : Around) (base g : Heap) (L' fa : Addr) (cd : Value) (s : Shared) (Q : Flow → Shared → Prop) (E : Value → Shared → Prop) (body : List Stmt) (scope : Scope) (ll D1 D2 Dk : Addr) (y hh mi sc k : Int) (ty tz tk tst uk vk : Tok) (rk : Int) (zone stp z : Str) (o1 o3 : Obj) (mr : Str → Option Value) (dd : Int) (td : Tok) (Wd : Addr) (w90 w91 w92 w93 w94 w95 : Tok) (rest : List (Addr × Obj)) :
   (fbParts (K39 w.params)).map (fun q => (q.1.drop 5, q.2)) = some (body, scope) → Below A₀ base [] g → Fr g L' s.heap (fun z => if z = Str.ofString "day" then some (.int dd td) else if z = Str.ofString "words" then some (.ref Wd) else if z = Str.ofString "k" then some (.int k tk) else if z = Str.ofString "stamp" then some (.str stp tst) else if z = Str.ofString "lines" then some (.ref ll) else mr z) → (K39 w.params).In g → News g L' s.heap ((Wd, LCg.lst [.str (sL (w0L (y + k))) w90, .str (sL (w1L (y + k))) w91, .str (sL (w2L (y + k))) w92, .str (sL (w3L (y + k))) w93, .str (sL (w4L hh mi sc)) w94, .str zone w95]) :: (L' + 1, o1) :: (L' + 1 + 1 + 1, o3) :: (ll, LCg.lst [.ref D1, .ref D2]) :: (Dk, W.listOf #[.str z uk, .int rk vk] 0) :: rest) → Top p loose mean mg mb g → 0 ≤ k → k ≤ 1 → ([Value.ref D1, .ref D2] : List Value)[k.toNat]? = some (.ref Dk) → 3761 ≤ y + k → y + k ≤ 8761 → hh < 100 → mi < 100 → sc < 100 → (∀ c ∈ zone.cps.toList, c < 128 ∧ plainC c = true) → rk = lineR (y + k) → stp = sL (w4L hh mi sc) → o1.data = .cell (some (.int y ty)) → o3.data = .cell (some (.str zone tz)) → (dd = feastD (y + k)) → dd % 7 = lineW (y + k) → -10000000 < dd → dd < 10000000 → dp + 300 < recursionLimit → un + 900 < cLine →
   (∀ h' tk' (mr' : Str → Option Value), Fr g L' h' (fun z => if z = Str.ofString "stamp" then some (.str stp tst) else if z = Str.ofString "lines" then some (.ref ll) else mr' z) → News g L' h' ((Wd, LCg.lst [.str (sL (w0L (y + k))) w90, .str (sL (w1L (y + k))) w91, .str (sL (w2L (y + k))) w92, .str (sL (w3L (y + k))) w93, .str (sL (w4L hh mi sc)) w94, .str zone w95]) :: (L' + 1, o1) :: (L' + 1 + 1 + 1, o3) :: (ll, LCg.lst [.ref D1, .ref D2]) :: (Dk, W.listOf #[.str z uk, .int rk vk] 0) :: rest) → Q .next { s with heap := h', toks := tk' }) →
   wpAny (model rw9.row.prog w) (({ depth := dp, frames := some [], guards := gd, units := un } : Around).deeper (envOfC (Str.ofString "law") scope L' fa cd)) (execs body (envOfC (Str.ofString "law") scope L' fa cd)) Q E s := by
  k_fill
  w_top off
  k_with_none
  (k_with "my omega" => (first | with_reducible assumption | (law_purse 30000 => lia) | omega +splitDisjunctions))
  (k_with "my mem" => (first | exact m9_0 | exact m9_1 | exact m9_2 | exact m9_3 | exact m9_4 | exact m9_5 | exact m9_6 | exact m9_7 | (refine' m9_s ?_; k_mem)))
  (k_with "my sub" => (first | exact allNil | exact allCons (by k_mem) (by lcg_sub) | (intro q9 hq9; repeat (first | with_reducible exact hq9 | refine List.mem_cons_of_mem _ ?_))))
  (k_with "my room" => ktr_room)
  (k_with "my units" => ktr_units)
  (k_with "my ne" => (refine neN ?_; (try dsimp only); first | exact NeH.out (by assumption) | exact Ne.symm (NeH.out (by assumption)) | omega))
  (k_with "my all" => (first | exact allNil | (refine' allCons ?_ ?_; focus k_ne; k_all)))
  (k_with "my exec Assign" => k_fold)
  (k_with "my exec Expr" => k_fold)
  (k_with "my exec If" => k_fold)
  (k_with "my exec AugAssign" => k_fold)
  (k_with "my eval BinOp" => k_fold)
  (k_with "my eval Compare" => k_fold)
  (k_with "my eval Subscript" => k_fold)
  (k_with "my eval Call" => k_fold)
  (k_with "my eval Call Attribute" => k_fold)
  (k_with "my eval IfExp" => k_fold)
  (k_with "my eval List" => k_fold)
  (k_with "my eval Tuple" => k_fold)
  intro hp B F X N TT kk0 kk1 hk y0 y1 hh1 mi1 sc1 zok hrk hstp d1 d3 edd ew0 dd0 dd1 hdp hun hret
  cases hp
  have plR := (plainLaw y0 y1).2.1
  have okI : ∀ d ∈ [Dat.int (feastD (y + k)), .int (lineR (y + k))], kqdOk 8 d = true := fun d hd => by
    simp only [List.mem_cons, List.not_mem_nil, or_false] at hd
    rcases hd with rfl | rfl <;> rfl
  have okS : ∀ d ∈ [Dat.str (sL (w0L (y + k))), .str (sL (w4L hh mi sc)), .str zone], kqdOk 8 d = true := allCons (okPlain (w0P _)) (allCons (okPlain (w4P hh1 mi1 sc1)) (allCons (okOf zok) (List.forall_mem_nil _)))
  (k_with "my exec Assign" => (k_here; k_dflt ((refine wpAny_Assign_Name ?_); (refine evWeek w p loose mean mg mb dp un gd A₀ base _ _ _ _ _ _ _ _ _ _ _ _ _ (y + k) (by rfl) (by k_asm) (by k_asm) (by k_asm) (by k_asm) ew0 dd0 dd1 hdp hun ?_); intro t9w h9w tk9w F9w N9w)))
  (k_with "my subscriptTail Name Name ref int" => (k_here; (with_reducible show wpAny _ _ (subscriptTail _ _ (Value.ref _) (Value.int _ _)) _ _ _); k_dflt (refine my_item (vs := [.ref D1, .ref D2]) ⟨_, newsGet (by k_asm) (by k_mem), rfl, _, rfl⟩ kk0 (by first | with_reducible assumption | omega) hk ?_)))
  (k_with "my compareOp NotEq ref ref" => first
    | (k_here; k_dflt (refine neSame [.int (feastD (y + k)), .int (lineR (y + k))] (by k_asm) (by k_mem) rfl rfl (.cons (datInt edd) (.cons (datInt hrk) .nil)) (by k_mem) rfl rfl (.cons (datInt ea4) (.cons (datInt (eb4.trans plR.symm)) .nil)) okI (by ke_room) ?_))
    | (k_here; k_dflt (refine neSame [.str (sL (w0L (y + k))), .str (sL (w4L hh mi sc)), .str zone] (by k_asm) (by k_mem) rfl rfl (.cons (.str _ _) (.cons (.str _ _) (.cons (.str _ _) .nil))) (by k_mem) rfl rfl (.cons (.str _ _) (.cons (datStr hstp) (.cons (.str _ _) .nil))) okS (by ke_room) ?_)))
  (k_with "my call ref" => first
    | (k_dflt ((refine' feast _ _ _ _ _ _ _ _ _ _ _ _ _ _ _ _ _ _ _ _ _ _ _ _ _ (by k_asm) (by k_asm) (by k_asm) newsNil (by k_asm) rfl (by first | with_reducible assumption | omega) (by first | with_reducible assumption | omega) (by ktr_room) (by ktr_units) ?_); intro D4 a4 b4 u14 u24 h4 tk4 kp4 g4 s4 ea4 eb4; (obtain N4 := kpNewG (by k_asm) (by k_asm) kp4 g4 s4); (obtain F4 := kpFr (by k_asm) kp4); clear kp4 g4 s4; (try dsimp only)))
    | refine stopHere ?_)
  dsimp only
  k_steps
  exact hret _ _ _ (frName (frName (by k_asm) rfl) rfl) (newsSub (by k_asm) (by lcg_sub))
end
section
open PySem PySem.W PyProof.Rows PySem.Calls PySem.NumText
theorem dayEq {y q r : Int} (y0 : 3761 ≤ y) (y1 : y ≤ 8761) (e : y - 3760 - 2000 = 4 * q + r) (r0 : 0 ≤ r) (r1 : r < 4) : 1461 * q + 365 * r + lineDd y + mth y = dayW y := by
  have e1 : q = (y - 3760 - 2000) / 4 := by omega
  have e2 : r = (y - 3760 - 2000) % 4 := by omega
  unfold dayW mth
  rw [← e1, ← e2]
theorem dayFacts {y q r : Int} (y0 : 3761 ≤ y) (y1 : y ≤ 8761) (e : y - 3760 - 2000 = 4 * q + r) (r0 : 0 ≤ r) (r1 : r < 4) : 1461 * q + 365 * r + lineDd y + mth y = feastD y ∧ (1461 * q + 365 * r + lineDd y + mth y) % 7 = lineW y ∧ -10000000 < 1461 * q + 365 * r + lineDd y + mth y ∧ 1461 * q + 365 * r + lineDd y + mth y < 10000000 := by
  obtain ⟨a, b, c, _, d⟩ := plainLaw y0 y1
  have hb : 0 ≤ mth y ∧ mth y ≤ 31 := by unfold mth; split <;> omega
  refine ⟨(dayEq y0 y1 e r0 r1).trans a, ?_, by omega, by omega⟩
  rw [dayEq y0 y1 e r0 r1]
  exact c
theorem neRest {h₀ h : Heap} {L c c' : Addr} {led rest : List (Addr × Obj)} (N : News h₀ L h led) (sub : ∀ q ∈ rest, q ∈ led) (e : c' = c ∨ h.get? c' = none) : ∀ q ∈ rest, NeH c q.1 → NeH c' q.1 := fun q hq n => ne3 e n (N q (sub q hq)).1
set_option maxRecDepth 100000 in
set_option maxHeartbeats 8000000 in
set_option pp.deepTerms false in
set_option pp.maxSteps 3000 in
theorem turnB (w : World) (p : Program) (loose : List Str) (mean : ExcName → Option Value) (mg mb : Str → Option Value) (dp un : Nat) (gd : Option (List Code)) (A₀ : Around) (base g : Heap) (L' fa : Addr) (cd : Value) (s : Shared) (Q : Flow → Shared → Prop) (E : Value → Shared → Prop) (body : List Stmt) (scope : Scope) (ll D1 D2 Dk c1 c2 c3 : Addr) (y hh mi sc k : Int) (ty tz tk tst uk vk tq1 tq2 : Tok) (rk : Int) (zone stp z : Str) (o1 o3 oc1 oc2 oc3 o31 : Obj) (vs1 vs2 : Array Value) (mr : Str → Option Value) (Wd : Addr) (w90 w91 w92 w93 w94 w95 : Tok) (rest : List (Addr × Obj)) :
   (fbParts (K39 w.params)).map (fun q => (q.1.drop 2, q.2)) = some (body, scope) → Below A₀ base [] g → Fr g L' s.heap (fun z => if z = Str.ofString "words" then some (.ref Wd) else if z = Str.ofString "k" then some (.int k tk) else if z = Str.ofString "stamp" then some (.str stp tst) else if z = Str.ofString "lines" then some (.ref ll) else mr z) → (K39 w.params).In g → News g L' s.heap ((31, o31) :: (c3, oc3) :: (Wd, LCg.lst [.str (sL (w0L (y + k))) w90, .str (sL (w1L (y + k))) w91, .str (sL (w2L (y + k))) w92, .str (sL (w3L (y + k))) w93, .str (sL (w4L hh mi sc)) w94, .str zone w95]) :: (66, tabObj #[rawInt 104, rawInt 4, .ref c2]) :: (c2, oc2) :: (59, tabObj #[rawInt 89, rawInt 4, .ref c1]) :: (c1, oc1) :: (L' + 1, o1) :: (L' + 1 + 1 + 1, o3) :: (ll, LCg.lst [.ref D1, .ref D2]) :: (Dk, W.listOf #[.str z uk, .int rk vk] 0) :: rest) → Top p loose mean mg mb g → 0 ≤ k → k ≤ 1 → ([Value.ref D1, .ref D2] : List Value)[k.toNat]? = some (.ref Dk) → 3761 ≤ y + k → y + k ≤ 8761 → hh < 100 → mi < 100 → sc < 100 → (∀ c ∈ zone.cps.toList, c < 128 ∧ plainC c = true) → zone.length ≤ 10 → rk = lineR (y + k) → stp = sL (w4L hh mi sc) → o1.data = .cell (some (.int y ty)) → o3.data = .cell (some (.str zone tz)) → oc1.data = .fields vs1 → vs1[1]? = some (.str "_int2digits.<locals>.inner" tq1) → oc2.data = .fields vs2 → vs2[1]? = some (.str "_digits2int.<locals>.inner" tq2) → T3 o31 c3 oc3 → NeH c3 31 → (∀ p ∈ ((Wd, LCg.lst [.str (sL (w0L (y + k))) w90, .str (sL (w1L (y + k))) w91, .str (sL (w2L (y + k))) w92, .str (sL (w3L (y + k))) w93, .str (sL (w4L hh mi sc)) w94, .str zone w95]) :: (66, tabObj #[rawInt 104, rawInt 4, .ref c2]) :: (c2, oc2) :: (59, tabObj #[rawInt 89, rawInt 4, .ref c1]) :: (c1, oc1) :: (L' + 1, o1) :: (L' + 1 + 1 + 1, o3) :: (ll, LCg.lst [.ref D1, .ref D2]) :: (Dk, W.listOf #[.str z uk, .int rk vk] 0) :: rest : List (Addr × Obj)), Ne (α := Nat) p.1 31) → CodeHd base 70 66 → CodeHd base 63 59 → CodeHd base 35 31 → dp + 300 < recursionLimit → un + 900 < cLine →
   (∀ h' tk' dr' (mr' : Str → Option Value) o31' c3' oc3', Fr g L' h' (fun z => if z = Str.ofString "stamp" then some (.str stp tst) else if z = Str.ofString "lines" then some (.ref ll) else mr' z) → News g L' h' ((31, o31') :: (c3', oc3') :: (Wd, LCg.lst [.str (sL (w0L (y + k))) w90, .str (sL (w1L (y + k))) w91, .str (sL (w2L (y + k))) w92, .str (sL (w3L (y + k))) w93, .str (sL (w4L hh mi sc)) w94, .str zone w95]) :: (66, tabObj #[rawInt 104, rawInt 4, .ref c2]) :: (c2, oc2) :: (59, tabObj #[rawInt 89, rawInt 4, .ref c1]) :: (c1, oc1) :: (L' + 1, o1) :: (L' + 1 + 1 + 1, o3) :: (ll, LCg.lst [.ref D1, .ref D2]) :: (Dk, W.listOf #[.str z uk, .int rk vk] 0) :: rest) → T3 o31' c3' oc3' → NeH c3' 31 → (∀ q ∈ rest, NeH c3 q.1 → NeH c3' q.1) → Q .next { s with heap := h', toks := tk', drawn := dr' }) →
   wpAny (model rw9.row.prog w) (({ depth := dp, frames := some [], guards := gd, units := un } : Around).deeper (envOfC (Str.ofString "law") scope L' fa cd)) (execs body (envOfC (Str.ofString "law") scope L' fa cd)) Q E s := by
  k_fill
  w_top off
  k_with_none
  (k_with "my omega" => (first | with_reducible assumption | (law_purse 30000 => lia) | omega +splitDisjunctions))
  (k_with "my mem" => (first | exact m9_0 | exact m9_1 | exact m9_2 | exact m9_3 | exact m9_4 | exact m9_5 | exact m9_6 | exact m9_7 | (refine' m9_s ?_; k_mem)))
  (k_with "my sub" => (first | exact allNil | exact allCons (by k_mem) (by lcg_sub) | (intro q9 hq9; repeat (first | with_reducible exact hq9 | refine List.mem_cons_of_mem _ ?_))))
  (k_with "my room" => ktr_room)
  (k_with "my units" => ktr_units)
  (k_with "my ne" => (refine neN ?_; (try dsimp only); first | exact NeH.out (by assumption) | exact Ne.symm (NeH.out (by assumption)) | omega))
  (k_with "my all" => (first | exact allNil | (refine' allCons ?_ ?_; focus k_ne; k_all)))
  (k_with "my exec Assign" => k_fold)
  (k_with "my exec Expr" => k_fold)
  (k_with "my exec If" => k_fold)
  (k_with "my exec AugAssign" => k_fold)
  (k_with "my eval BinOp" => k_fold)
  (k_with "my eval Compare" => k_fold)
  (k_with "my eval Subscript" => k_fold)
  (k_with "my eval Call" => k_fold)
  (k_with "my eval Call Attribute" => k_fold)
  (k_with "my eval IfExp" => k_fold)
  (k_with "my eval List" => k_fold)
  (k_with "my eval Tuple" => k_fold)
  intro hp B F X N TT kk0 kk1 hk y0 y1 hh1 mi1 sc1 zok zl1 hrk hstp d1 d3 hv1 hq1 hv2 hq2 h3 n31 off31 ch2 ch3 ch4 hdp hun hret
  cases hp
  have hm : lineM (y + k) = 3 ∨ lineM (y + k) = 4 := (plainLaw y0 y1).2.2.2.1
  obtain ⟨hl0, hl1, hl2, hl3, hl4, hlen⟩ := wLens (hh := hh) (mi := mi) (sc := sc) y0 y1 zl1
  (k_with "my call ref" => first
    | (k_dflt ((refine' ifs_any _ _ _ _ _ _ _ _ _ _ _ _ _ _ _ _ _ _ _ _ _ _ _ _ (w1L (y + k)) _ c3a o31a oc3a (lineDd (y + k)) (by k_asm) (by k_asm) (by k_asm) (newsCons (by k_asm) (by k_mem) (newsCons (by k_asm) (by k_mem) newsNil)) (by k_asm) rfl h3a n31a (dv1 y0 y1) rfl (ad1 y0 y1) (by rw [hl1]; decide) (by rw [hl1]; decide) ch4 (by ktr_room) (by ktr_units) ?_); intro t7b h7b tk7b dr7b o31b c3b oc3b kb7b g31b gc7b nc7b h3b odb n31b; (obtain neb : ∀ q ∈ rest, NeH c3 q.1 → NeH c3b q.1 := fun q hq n => neRest (by k_asm) (by intro q9 hq9; repeat (first | with_reducible exact hq9 | refine List.mem_cons_of_mem _ ?_)) odb q hq (nea q hq n)); (obtain N7b := news31 ((Wd, LCg.lst [.str (sL (w0L (y + k))) w90, .str (sL (w1L (y + k))) w91, .str (sL (w2L (y + k))) w92, .str (sL (w3L (y + k))) w93, .str (sL (w4L hh mi sc)) w94, .str zone w95]) :: (66, tabObj #[rawInt 104, rawInt 4, .ref c2]) :: (c2, oc2) :: (59, tabObj #[rawInt 89, rawInt 4, .ref c1]) :: (c1, oc1) :: (L' + 1, o1) :: (L' + 1 + 1 + 1, o3) :: (ll, LCg.lst [.ref D1, .ref D2]) :: (Dk, W.listOf #[.str z uk, .int rk vk] 0) :: rest) (by k_asm) kb7b g31b (by k_mem) gc7b nc7b (by intro q9 hq9; repeat (first | with_reducible exact hq9 | refine List.mem_cons_of_mem _ ?_)) off31); (obtain F7b := kbFr (P := 31) (by k_asm) (by k_asm) (by k_mem) kb7b); clear kb7b g31b gc7b nc7b odb; (try dsimp only)))
    | (k_dflt ((refine' ifs_any _ _ _ _ _ _ _ _ _ _ _ _ _ _ _ _ _ _ _ _ _ _ _ _ (w3L (y + k)) _ c3 o31 oc3 (y + k - 3760) (by k_asm) (by k_asm) (by k_asm) (newsCons (by k_asm) (by k_mem) (newsCons (by k_asm) (by k_mem) newsNil)) (by k_asm) rfl h3 n31 (dv3 y0 y1) rfl (ad3 y0 y1) (by rw [hl3]; decide) (by rw [hl3]; decide) ch4 (by ktr_room) (by ktr_units) ?_); intro t7a h7a tk7a dr7a o31a c3a oc3a kb7a g31a gc7a nc7a h3a oda n31a; (obtain nea : ∀ q ∈ rest, NeH c3 q.1 → NeH c3a q.1 := neRest (by k_asm) (by intro q9 hq9; repeat (first | with_reducible exact hq9 | refine List.mem_cons_of_mem _ ?_)) oda); (obtain N7a := news31 ((Wd, LCg.lst [.str (sL (w0L (y + k))) w90, .str (sL (w1L (y + k))) w91, .str (sL (w2L (y + k))) w92, .str (sL (w3L (y + k))) w93, .str (sL (w4L hh mi sc)) w94, .str zone w95]) :: (66, tabObj #[rawInt 104, rawInt 4, .ref c2]) :: (c2, oc2) :: (59, tabObj #[rawInt 89, rawInt 4, .ref c1]) :: (c1, oc1) :: (L' + 1, o1) :: (L' + 1 + 1 + 1, o3) :: (ll, LCg.lst [.ref D1, .ref D2]) :: (Dk, W.listOf #[.str z uk, .int rk vk] 0) :: rest) (by k_asm) kb7a g31a (by k_mem) gc7a nc7a (by intro q9 hq9; repeat (first | with_reducible exact hq9 | refine List.mem_cons_of_mem _ ?_)) off31); (obtain F7a := kbFr (P := 31) (by k_asm) (by k_asm) (by k_mem) kb7a); clear kb7a g31a gc7a nc7a oda; (try dsimp only)))
    | (k_dflt ((refine' dm_any _ _ _ _ _ _ _ _ _ _ _ _ _ _ _ _ _ _ _ _ _ _ _ _ _ _ _ _ _ _ _ _ _ _ _ (by k_asm) (by k_asm) (by k_asm) (newsCons (by k_asm) (by k_mem) (newsCons (by k_asm) (by k_mem) (newsCons (by k_asm) (by k_mem) (newsCons (by k_asm) (by k_mem) newsNil)))) (by k_asm) rfl (by first | with_reducible assumption | omega) (by first | with_reducible assumption | omega) (by first | with_reducible assumption | omega) (by first | with_reducible assumption | omega) ch3 ch2 hv1 hq1 hv2 hq2 (by ktr_room) (by ktr_units) ?_); intro D5 q5 r5 u15 u25 h5 tk5 kp5 g5 s5 e5 r50 r51; (obtain N5 := kpNew (by k_asm) (by k_asm) kp5 g5 s5); (obtain F5 := kpFr (by k_asm) kp5); clear kp5 g5 s5; (try dsimp only)))
    | refine stopHere ?_)
  (k_with "my call builtin:dict.get" => (k_here; k_dflt ((refine' call_get2_strTab ?k1 ?k2 ?_; (case k1 => k_tabat); (case k2 => k_flat); k_whole); intro v6 hv6; (obtain ⟨t6m, ev6⟩ := flatMonth hm hv6); clear hv6; subst ev6; (try dsimp only))))
  (k_with "my execs cons" => ((have hmm := t6m); refine stopHere ?_))
  dsimp only
  k_steps
  unfold Stopped
  obtain ⟨edd, ew0, dd0, dd1⟩ := dayFacts y0 y1 e5 r50 r51
  exact turnC w p loose mean mg mb dp un gd A₀ base g L' fa cd _ Q E _ _ ll D1 D2 Dk y hh mi sc k ty tz _ tst uk vk rk zone stp z o1 o3 _ _ _ Wd w90 w91 w92 w93 w94 w95 ((31, o31b) :: (c3b, oc3b) :: (66, tabObj #[rawInt 104, rawInt 4, .ref c2]) :: (c2, oc2) :: (59, tabObj #[rawInt 89, rawInt 4, .ref c1]) :: (c1, oc1) :: rest) (by rfl) B (frName (frName (frName (frName (frName (by k_asm) (by rfl)) (by rfl)) (by rfl)) (by rfl)) (by rfl)) X (newsSub (by k_asm) (by lcg_sub)) TT kk0 kk1 hk y0 y1 hh1 mi1 sc1 zok hrk hstp d1 d3 edd ew0 dd0 dd1 hdp hun (fun h' tk' mr' F' N' => hret h' tk' _ mr' o31b c3b oc3b F' (newsSub N' (by lcg_sub)) h3b n31b neb)
end
section
open PySem PySem.W PyProof.Rows PySem.Calls PySem.NumText
theorem newsPut {h₀ h : Heap} {L : Addr} {q : Addr × Obj} {led : List (Addr × Obj)} (N : News h₀ L h led) (hm : q ∈ led) : News h₀ L h (q :: led) := newsCons N hm N
theorem viaN {P : Prop} {h₀ h : Heap} {L : Addr} {led : List (Addr × Obj)} (N : News h₀ L h led) (k : News h₀ L h led → P) : P := k N
set_option maxRecDepth 100000 in
set_option maxHeartbeats 8000000 in
set_option pp.deepTerms false in
set_option pp.maxSteps 3000 in
theorem turnA (w : World) (p : Program) (loose : List Str) (mean : ExcName → Option Value) (mg mb : Str → Option Value) (dp un : Nat) (gd : Option (List Code)) (A₀ : Around) (base g : Heap) (L' fa : Addr) (cd : Value) (s : Shared) (Q : Flow → Shared → Prop) (E : Value → Shared → Prop) (body : List Stmt) (scope : Scope) (x dx st ds pa pb f c' D cL : Addr) (tw k1 k2 k3 k4 j1 j2 j3 j4 j5 u1 u3 tq : Tok) (oc oL o136 : Obj) (pm ctv : Value) (params : Arguments) (bodyL : Expr) (scopeL : Scope) (vsc : Array Value) (ll D1 D2 Dk c1 c2 c3 : Addr) (y hh mi sc k : Int) (n : Int) (tn ty tz tk tst uk vk tq1 tq2 : Tok) (rk : Int) (vs : List Value) (cnt : Nat) (zone stp z : Str) (o1 o3 o5 oc1 oc2 oc3 o31 : Obj) (vs1 vs2 : Array Value) (mr : Str → Option Value) (sk r : List Nat) (rest : List (Addr × Obj)) :
   (fbParts (K39 w.params)).map (fun q => (q.1.drop 0, q.2)) = some (body, scope) → Below A₀ base [] g → Fr g L' s.heap (fun z => if z = Str.ofString "k" then some (.int k tk) else if z = Str.ofString "stamp" then some (.str stp tst) else if z = Str.ofString "lines" then some (.ref ll) else mr z) → (K39 w.params).In g → News g L' s.heap ((D, W.listOf vs.toArray cnt) :: (dx, dictOf [{ hash := PyData.keyHash w.params (Str.ofString "lineno"), key := .str (Str.ofString "lineno") k1, val := .int n tn }, { hash := PyData.keyHash w.params (Str.ofString "instream"), key := .str (Str.ofString "instream") k2, val := .ref st }, { hash := PyData.keyHash w.params (Str.ofString "whitespace"), key := .str (Str.ofString "whitespace") k3, val := .str (Str.ofString "\n\t\r ") tw }, { hash := PyData.keyHash w.params (Str.ofString "pushback"), key := .str (Str.ofString "pushback") k4, val := .ref pb }] 4) :: (31, o31) :: (c3, oc3) :: rest) → Top p loose mean mg mb g → (x, instObj 130 dx) ∈ rest → (st, instObj 130 ds) ∈ rest → (ds, dictOf [{ hash := PyData.keyHash w.params (Str.ofString "lineno"), key := .str (Str.ofString "lineno") j1, val := .int 1 u1 }, { hash := PyData.keyHash w.params (Str.ofString "instream"), key := .str (Str.ofString "instream") j2, val := .none }, { hash := PyData.keyHash w.params (Str.ofString "whitespace"), key := .str (Str.ofString "whitespace") j3, val := .str (Str.ofString "\n\t\r ") u3 }, { hash := PyData.keyHash w.params (Str.ofString "pushback"), key := .str (Str.ofString "pushback") j4, val := .ref pa }, { hash := PyData.keyHash w.params (Str.ofString "read"), key := .str (Str.ofString "read") j5, val := .ref f }] 5) ∈ rest → (f, kla_obj (Str.ofString "<lambda>") (Str.ofString "_law_stream.<locals>.<lambda>") params bodyL scopeL [(Str.ofString "left", cL)] pm c' ctv) ∈ rest → (c', oc) ∈ rest → (cL, oL) ∈ rest → (136, o136) ∈ rest → (pb, W.listOf (#[] : Array Value) 0) ∈ rest → (L' + 1 + 1 + 1 + 1 + 1, o5) ∈ rest → (L' + 1, o1) ∈ rest → (L' + 1 + 1 + 1, o3) ∈ rest → (ll, LCg.lst [.ref D1, .ref D2]) ∈ rest → (Dk, W.listOf #[.str z uk, .int rk vk] 0) ∈ rest → (66, tabObj #[rawInt 104, rawInt 4, .ref c2]) ∈ rest → (c2, oc2) ∈ rest → (59, tabObj #[rawInt 89, rawInt 4, .ref c1]) ∈ rest → (c1, oc1) ∈ rest → 0 ≤ k → k ≤ 1 → ([Value.ref D1, .ref D2] : List Value)[k.toNat]? = some (.ref Dk) → 3761 ≤ y + k → y + k ≤ 8761 → hh < 100 → mi < 100 → sc < 100 → (∀ c ∈ zone.cps.toList, c < 128 ∧ plainC c = true) → 1 ≤ zone.length → zone.length ≤ 10 → z = lineS (y + k) hh mi sc zone → rk = lineR (y + k) → stp = sL (w4L hh mi sc) → o1.data = .cell (some (.int y ty)) → o3.data = .cell (some (.str zone tz)) → o5.data = .cell (some (.ref x)) → oc1.data = .fields vs1 → vs1[1]? = some (.str "_int2digits.<locals>.inner" tq1) → oc2.data = .fields vs2 → vs2[1]? = some (.str "_digits2int.<locals>.inner" tq2) → T3 o31 c3 oc3 → NeH c3 31 → NeH c3 D → NeH c3 dx → NeH 31 D → NeH 31 dx → lamParts (K39 w.params) 141 1 = some (params, bodyL, scopeL) → oc.data = .fields vsc → vsc[1]? = some (.str (Str.ofString "_law_stream.<locals>.<lambda>") tq) → oL.data = .cell (some (.ref D)) → LT.lt (α := Nat) 136 D → LT.lt (α := Nat) D cL → LT.lt (α := Nat) cL st → LT.lt (α := Nat) cL ds → LT.lt (α := Nat) st c' → LT.lt (α := Nat) ds c' → LT.lt (α := Nat) c' f → LT.lt (α := Nat) f x → LT.lt (α := Nat) f dx → LT.lt (α := Nat) dx x → LT.lt (α := Nat) x pb → NeH st ds → CodeHd base 140 136 → (∀ p ∈ rest, Ne (α := Nat) p.1 D ∧ Ne (α := Nat) p.1 dx) → (∀ p ∈ rest, Ne (α := Nat) p.1 31) → CodeHd base 70 66 → CodeHd base 63 59 → CodeHd base 35 31 → (∀ c ∈ sk, c < 128 ∧ isWs c = true) → sk.length < 60 → Chs vs (sk ++ (z.cps.toList ++ 10 :: r)) → vs.length ≤ 1000 → dp + 300 < recursionLimit → un + 900 < cLine →
   (∀ h' tk' dr' (mr' : Str → Option Value) vs' cnt' n' tn' o31' c3' oc3', Fr g L' h' (fun z => if z = Str.ofString "stamp" then some (.str stp tst) else if z = Str.ofString "lines" then some (.ref ll) else mr' z) → News g L' h' ((D, W.listOf vs'.toArray cnt') :: (dx, dictOf [{ hash := PyData.keyHash w.params (Str.ofString "lineno"), key := .str (Str.ofString "lineno") k1, val := .int n' tn' }, { hash := PyData.keyHash w.params (Str.ofString "instream"), key := .str (Str.ofString "instream") k2, val := .ref st }, { hash := PyData.keyHash w.params (Str.ofString "whitespace"), key := .str (Str.ofString "whitespace") k3, val := .str (Str.ofString "\n\t\r ") tw }, { hash := PyData.keyHash w.params (Str.ofString "pushback"), key := .str (Str.ofString "pushback") k4, val := .ref pb }] 4) :: (31, o31') :: (c3', oc3') :: rest) → Chs vs' r → vs'.length ≤ 1000 → n' = n + nls sk + 1 → T3 o31' c3' oc3' → NeH c3' 31 → NeH c3' D → NeH c3' dx → (∀ q ∈ rest, NeH c3 q.1 → NeH c3' q.1) → Q .next { s with heap := h', toks := tk', drawn := dr' }) →
   wpAny (model rw9.row.prog w) (({ depth := dp, frames := some [], guards := gd, units := un } : Around).deeper (envOfC (Str.ofString "law") scope L' fa cd)) (execs body (envOfC (Str.ofString "law") scope L' fa cd)) Q E s := by
  k_fill
  w_top off
  k_with_none
  (k_with "my omega" => (first | with_reducible assumption | (law_purse 30000 => lia) | omega +splitDisjunctions))
  (k_with "my mem" => (first | exact m9_0 | exact m9_1 | exact m9_2 | exact m9_3 | exact m9_4 | exact m9_5 | exact m9_6 | exact m9_7 | (refine' m9_s ?_; k_mem)))
  (k_with "my sub" => (first | exact allNil | exact allCons (by k_mem) (by lcg_sub) | (intro q9 hq9; repeat (first | with_reducible exact hq9 | refine List.mem_cons_of_mem _ ?_))))
  (k_with "my room" => ktr_room)
  (k_with "my units" => ktr_units)
  (k_with "my ne" => (refine neN ?_; (try dsimp only); first | exact NeH.out (by assumption) | exact Ne.symm (NeH.out (by assumption)) | omega))
  (k_with "my all" => (first | exact allNil | (refine' allCons ?_ ?_; focus k_ne; k_all)))
  (k_with "my exec Assign" => k_fold)
  (k_with "my exec Expr" => k_fold)
  (k_with "my exec If" => k_fold)
  (k_with "my exec AugAssign" => k_fold)
  (k_with "my eval BinOp" => k_fold)
  (k_with "my eval Compare" => k_fold)
  (k_with "my eval Subscript" => k_fold)
  (k_with "my eval Call" => k_fold)
  (k_with "my eval Call Attribute" => k_fold)
  (k_with "my eval IfExp" => k_fold)
  (k_with "my eval List" => k_fold)
  (k_with "my eval Tuple" => k_fold)
  intro hp B F X N TT hx hst hds hf hcc hcL h136 hpb h5 h1m h3m hll hDk h66 hc2 h59 hc1 kk0 kk1 hk y0 y1 hh1 mi1 sc1 zok zl0 zl1 hz hrk hstp d1 d3 d5 hv1 hq1 hv2 hq2 h3 n31 n3D n3x nD31 nx31 hlam hoc hvs hL lo0 lo1 lo2 lo3 lo4 lo5 lo6 lo7 lo8 lo9 lo10 lne hch offD off31 ch2 ch3 ch4 hsk hskl hc hsz hdp hun hret
  cases hp
  obtain ⟨tk1, tk2, tk3, tk4⟩ := tksOk (sk := sk) y0 y1 hh1 mi1 sc1 zok zl0 zl1 hsk hskl
  have hc' : Chs vs (flat (tks sk (y + k) hh mi sc zone) r) := by rw [tk2, ← hz]; exact hc
  clear hc tk2
  obtain ⟨hl0, hl1, hl2, hl3, hl4, hlen⟩ := wLens (hh := hh) (mi := mi) (sc := sc) y0 y1 zl1
  have okz : ∀ d ∈ [Dat.str z, .int 4, .int 2, .int 3, .int 4, .int 8, .int zone.length], kqdOk 8 d = true := allCons (hz ▸ okLine y0 y1 hh1 mi1 sc1 zok) (fun d hd => by simp only [List.mem_cons, List.not_mem_nil, or_false] at hd; rcases hd with rfl | rfl | rfl | rfl | rfl | rfl <;> rfl)
  (k_with "my eval ListComp" => (k_here; k_dflt ((refine lensC w p loose mean mg mb dp un gd A₀ base _ _ _ _ _ _ _ _ _ _ _ _ _ _ _ _ _ _ _ _ _ _ _ _ _ _ _ (by rfl) (by k_asm) (by k_asm) (by k_asm) (by k_asm) (by k_mem) (by rfl) hlen.1 hlen.2.1 hlen.2.2.1 hlen.2.2.2.1 hlen.2.2.2.2.1 hlen.2.2.2.2.2 (n0 := 4) (n1 := 2) (n2 := 3) (n3 := 4) (n4 := 8) (n5 := zone.length) (by rw [hl0]; rfl) (by rw [hl1]; rfl) (by rw [hl2]; rfl) (by rw [hl3]; rfl) (by rw [hl4]; rfl) rfl hdp hun ?_); intro D8 h8 tk8 v80 v81 v82 v83 v84 v85 F8 N8 of8; clear of8; (try dsimp only))))
  (k_with "my exec Assign cons ListComp" => (k_here; k_dflt ((refine wordsC _ _ _ _ _ _ _ _ _ _ _ _ _ _ _ _ _ _ _ _ _ _ _ _ _ _ _ _ _ _ _ _ _ _ _ _ _ _ _ _ _ _ _ _ _ _ _ _ _ _ _ _ _ _ _ _ _ _ _ _ _ _ (ts := tks sk (y + k) hh mi sc zone) (rest := (31, o31) :: (c3, oc3) :: rest) (by rfl) (by k_asm) (by k_asm) (by k_asm) (by k_asm) (by k_asm) hlam hoc hvs hL lo0 lo1 lo2 lo3 lo4 lo5 lo6 lo7 lo8 lo9 lo10 lne hch d5 (.tail _ (.tail _ hx)) (.tail _ (.tail _ hst)) (.tail _ (.tail _ hds)) (.tail _ (.tail _ hf)) (.tail _ (.tail _ hcc)) (.tail _ (.tail _ hcL)) (.tail _ (.tail _ h136)) (.tail _ (.tail _ hpb)) (.tail _ (.tail _ h5)) (allCons (⟨NeH.out nD31, NeH.out nx31⟩) (allCons (⟨NeH.out n3D, NeH.out n3x⟩) offD)) tk1 hc' hsz rfl hdp hun ?_); intro D9 h9 tk9 ys9 vs9 cnt9 n9 tn9 F9 N9 nwD nwx nwr hy9 c9 sz9 en9; (try dsimp only); (obtain ⟨w90, w91, w92, w93, w94, w95, ew9⟩ := sixE hy9 tk3); subst ew9; (obtain nw31 : NeH D9 31 := nwr _ (.head _)); clear nwr hy9; (obtain N9b := newsPut (newsPut N9 (.tail _ (.tail _ (.tail _ (.tail _ (.tail _ hDk)))))) (.tail _ (.tail _ (.tail _ (.tail _ (.tail _ (.tail _ hll))))))); clear N9; (try dsimp only))))
  (k_with "my call builtin:str.join" => (k_here; k_dflt (refine joinSix (newsGet (by k_asm) (by k_mem)) ((joinLine _ _ _ _ _).trans hz.symm) hlen ?_); intro t6 k6))
  (k_with "my subscriptTail Name Name ref int" => (k_here; (with_reducible show wpAny _ _ (subscriptTail _ _ (Value.ref _) (Value.int _ _)) _ _ _); k_dflt (refine my_item (vs := [.ref D1, .ref D2]) ⟨_, newsGet (by k_asm) (by k_mem), rfl, _, rfl⟩ kk0 (by first | with_reducible assumption | omega) hk ?_)))
  (k_with "my compareOp NotEq ref ref" => (k_here; k_dflt (refine neSame [.str z, .int 4, .int 2, .int 3, .int 4, .int 8, .int zone.length] (by k_asm) (by k_mem) rfl rfl (.cons (.str _ _) (.cons (.int _ _) (.cons (.int _ _) (.cons (.int _ _) (.cons (.int _ _) (.cons (.int _ _) (.cons (.int _ _) .nil))))))) (by k_mem) rfl rfl (.cons (.str _ _) (.cons (.int _ _) (.cons (.int _ _) (.cons (.int _ _) (.cons (.int _ _) (.cons (.int _ _) (.cons (.int _ _) .nil))))))) okz (by ke_room) ?_; (obtain mk9 : True := True.intro))))
  (k_with "my execs cons" => ((have hmm := mk9); refine stopHere ?_))
  dsimp only
  k_steps
  unfold Stopped
  refine viaN (h₀ := g) (L := L') (by assumption) fun Nf => ?_
  have Nr : News g L' _ rest := newsSub Nf (by intro q9 hq9; repeat (first | with_reducible exact hq9 | refine List.mem_cons_of_mem _ ?_))
  exact turnB w p loose mean mg mb dp un gd A₀ base g L' fa cd _ Q E _ _ ll D1 D2 Dk c1 c2 c3 y hh mi sc k ty tz _ tst uk vk tq1 tq2 rk zone stp z o1 o3 oc1 oc2 oc3 o31 vs1 vs2 mr D9 w90 w91 w92 w93 w94 w95 ((D, W.listOf vs9.toArray cnt9) :: (dx, dictOf [{ hash := PyData.keyHash w.params (Str.ofString "lineno"), key := .str (Str.ofString "lineno") k1, val := .int n9 tn9 }, { hash := PyData.keyHash w.params (Str.ofString "instream"), key := .str (Str.ofString "instream") k2, val := .ref st }, { hash := PyData.keyHash w.params (Str.ofString "whitespace"), key := .str (Str.ofString "whitespace") k3, val := .str (Str.ofString "\n\t\r ") tw }, { hash := PyData.keyHash w.params (Str.ofString "pushback"), key := .str (Str.ofString "pushback") k4, val := .ref pb }] 4) :: rest) (by rfl) B (by k_asm) X (newsCons Nf (by k_mem) (newsCons Nf (by k_mem) (newsCons Nf (by k_mem) (newsCons Nr h66 (newsCons Nr hc2 (newsCons Nr h59 (newsCons Nr hc1 (newsCons Nr h1m (newsCons Nr h3m (newsCons Nr hll (newsCons Nr hDk (newsCons Nf (by k_mem) (newsCons Nf (by k_mem) Nr))))))))))))) TT kk0 kk1 hk y0 y1 hh1 mi1 sc1 zok zl1 hrk hstp d1 d3 hv1 hq1 hv2 hq2 h3 n31 (allCons (NeH.out nw31) (allCons (off31 _ h66) (allCons (off31 _ hc2) (allCons (off31 _ h59) (allCons (off31 _ hc1) (allCons (off31 _ h1m) (allCons (off31 _ h3m) (allCons (off31 _ hll) (allCons (off31 _ hDk) (allCons (Ne.symm (NeH.out nD31)) (allCons (Ne.symm (NeH.out nx31)) off31))))))))))) ch2 ch3 ch4 hdp hun (fun h' tk' dr' mr' o31' c3' oc3' F' N' h3' n31' ne' => hret h' tk' dr' mr' vs9 cnt9 n9 tn9 o31' c3' oc3' F' (newsSub N' (by lcg_sub)) c9 sz9 (by rw [en9, tk4]; omega) h3' n31' (ne' _ (.head _) n3D) (ne' _ (.tail _ (.head _)) n3x) (fun q hq => ne' q (.tail _ (.tail _ hq))))
end
section
open PySem PySem.W PyProof.Rows PySem.Calls PySem.NumText
noncomputable def rit (x left : Int) : Obj := { cls := .type "range_iterator", dict := none, data := .fields #[rawInt x, rawInt left, rawInt 1], slots := #[] }
theorem newsBut {h₀ h h' : Heap} {L I : Addr} {news : List (Addr × Obj)} (N : News h₀ L h news) (hs : Heap.SameBut I h h') (hne : ∀ p ∈ news, Ne (α := Nat) p.1 I) : News h₀ L h' news := fun p hp => ⟨(hs.2 p.1 (hne p hp)).trans (N p hp).1, (N p hp).2⟩
set_option maxRecDepth 100000 in
set_option maxHeartbeats 8000000 in
set_option pp.deepTerms false in
set_option pp.maxSteps 3000 in
theorem loopTurn (w : World) (p : Program) (loose : List Str) (mean : ExcName → Option Value) (mg mb : Str → Option Value) (dp un : Nat) (gd : Option (List Code)) (A₀ : Around) (base g : Heap) (L' fa : Addr) (cd : Value) (s : Shared) (Q : Flow → Shared → Prop) (E : Value → Shared → Prop) (body : List Stmt) (scope : Scope) (x dx st ds pa pb f c' D cL : Addr) (tw k1 k2 k3 k4 j1 j2 j3 j4 j5 u1 u3 tq : Tok) (oc oL o136 : Obj) (pm ctv : Value) (params : Arguments) (bodyL : Expr) (scopeL : Scope) (vsc : Array Value) (ll D1 D2 Dk c1 c2 c3 I : Addr) (y hh mi sc k : Int) (n : Int) (tn ty tz tst uk vk tq1 tq2 : Tok) (rk : Int) (vs : List Value) (cnt : Nat) (zone stp z : Str) (o1 o3 o5 oc1 oc2 oc3 o31 : Obj) (vs1 vs2 : Array Value) (mr : Str → Option Value) (sk r : List Nat) (fuel : Nat) (rest : List (Addr × Obj)) :
   (fbParts (K39 w.params)).map (fun q => (q.1.drop 0, q.2)) = some (body, scope) → Below A₀ base [] g → Fr g L' s.heap (fun z => if z = Str.ofString "stamp" then some (.str stp tst) else if z = Str.ofString "lines" then some (.ref ll) else mr z) → (K39 w.params).In g → News g L' s.heap ((I, (rit k (2 - k))) :: (D, W.listOf vs.toArray cnt) :: (dx, dictOf [{ hash := PyData.keyHash w.params (Str.ofString "lineno"), key := .str (Str.ofString "lineno") k1, val := .int n tn }, { hash := PyData.keyHash w.params (Str.ofString "instream"), key := .str (Str.ofString "instream") k2, val := .ref st }, { hash := PyData.keyHash w.params (Str.ofString "whitespace"), key := .str (Str.ofString "whitespace") k3, val := .str (Str.ofString "\n\t\r ") tw }, { hash := PyData.keyHash w.params (Str.ofString "pushback"), key := .str (Str.ofString "pushback") k4, val := .ref pb }] 4) :: (31, o31) :: (c3, oc3) :: rest) → Top p loose mean mg mb g → (x, instObj 130 dx) ∈ rest → (st, instObj 130 ds) ∈ rest → (ds, dictOf [{ hash := PyData.keyHash w.params (Str.ofString "lineno"), key := .str (Str.ofString "lineno") j1, val := .int 1 u1 }, { hash := PyData.keyHash w.params (Str.ofString "instream"), key := .str (Str.ofString "instream") j2, val := .none }, { hash := PyData.keyHash w.params (Str.ofString "whitespace"), key := .str (Str.ofString "whitespace") j3, val := .str (Str.ofString "\n\t\r ") u3 }, { hash := PyData.keyHash w.params (Str.ofString "pushback"), key := .str (Str.ofString "pushback") j4, val := .ref pa }, { hash := PyData.keyHash w.params (Str.ofString "read"), key := .str (Str.ofString "read") j5, val := .ref f }] 5) ∈ rest → (f, kla_obj (Str.ofString "<lambda>") (Str.ofString "_law_stream.<locals>.<lambda>") params bodyL scopeL [(Str.ofString "left", cL)] pm c' ctv) ∈ rest → (c', oc) ∈ rest → (cL, oL) ∈ rest → (136, o136) ∈ rest → (pb, W.listOf (#[] : Array Value) 0) ∈ rest → (L' + 1 + 1 + 1 + 1 + 1, o5) ∈ rest → (L' + 1, o1) ∈ rest → (L' + 1 + 1 + 1, o3) ∈ rest → (ll, LCg.lst [.ref D1, .ref D2]) ∈ rest → (Dk, W.listOf #[.str z uk, .int rk vk] 0) ∈ rest → (66, tabObj #[rawInt 104, rawInt 4, .ref c2]) ∈ rest → (c2, oc2) ∈ rest → (59, tabObj #[rawInt 89, rawInt 4, .ref c1]) ∈ rest → (c1, oc1) ∈ rest → 0 ≤ k → k ≤ 1 → ([Value.ref D1, .ref D2] : List Value)[k.toNat]? = some (.ref Dk) → 3761 ≤ y + k → y + k ≤ 8761 → hh < 100 → mi < 100 → sc < 100 → (∀ c ∈ zone.cps.toList, c < 128 ∧ plainC c = true) → 1 ≤ zone.length → zone.length ≤ 10 → z = lineS (y + k) hh mi sc zone → rk = lineR (y + k) → stp = sL (w4L hh mi sc) → o1.data = .cell (some (.int y ty)) → o3.data = .cell (some (.str zone tz)) → o5.data = .cell (some (.ref x)) → oc1.data = .fields vs1 → vs1[1]? = some (.str "_int2digits.<locals>.inner" tq1) → oc2.data = .fields vs2 → vs2[1]? = some (.str "_digits2int.<locals>.inner" tq2) → T3 o31 c3 oc3 → NeH c3 31 → NeH c3 D → NeH c3 dx → NeH 31 D → NeH 31 dx → lamParts (K39 w.params) 141 1 = some (params, bodyL, scopeL) → oc.data = .fields vsc → vsc[1]? = some (.str (Str.ofString "_law_stream.<locals>.<lambda>") tq) → oL.data = .cell (some (.ref D)) → LT.lt (α := Nat) 136 D → LT.lt (α := Nat) D cL → LT.lt (α := Nat) cL st → LT.lt (α := Nat) cL ds → LT.lt (α := Nat) st c' → LT.lt (α := Nat) ds c' → LT.lt (α := Nat) c' f → LT.lt (α := Nat) f x → LT.lt (α := Nat) f dx → LT.lt (α := Nat) dx x → LT.lt (α := Nat) x pb → NeH st ds → CodeHd base 140 136 → NeH c3 I → NeH D I → NeH dx I → NeH 31 I → (∀ p ∈ rest, Ne (α := Nat) p.1 I) → (∀ p ∈ rest, Ne (α := Nat) p.1 D ∧ Ne (α := Nat) p.1 dx) → (∀ p ∈ rest, Ne (α := Nat) p.1 31) → CodeHd base 70 66 → CodeHd base 63 59 → CodeHd base 35 31 → (∀ c ∈ sk, c < 128 ∧ isWs c = true) → sk.length < 60 → Chs vs (sk ++ (z.cps.toList ++ 10 :: r)) → vs.length ≤ 1000 → dp + 300 < recursionLimit → un + 900 < cLine →
   (∀ h' tk' dr' (mr' : Str → Option Value) vs' cnt' n' tn' o31' c3' oc3', Fr g L' h' (fun z => if z = Str.ofString "stamp" then some (.str stp tst) else if z = Str.ofString "lines" then some (.ref ll) else mr' z) → News g L' h' ((I, (rit (k + 1) (2 - k - 1))) :: (D, W.listOf vs'.toArray cnt') :: (dx, dictOf [{ hash := PyData.keyHash w.params (Str.ofString "lineno"), key := .str (Str.ofString "lineno") k1, val := .int n' tn' }, { hash := PyData.keyHash w.params (Str.ofString "instream"), key := .str (Str.ofString "instream") k2, val := .ref st }, { hash := PyData.keyHash w.params (Str.ofString "whitespace"), key := .str (Str.ofString "whitespace") k3, val := .str (Str.ofString "\n\t\r ") tw }, { hash := PyData.keyHash w.params (Str.ofString "pushback"), key := .str (Str.ofString "pushback") k4, val := .ref pb }] 4) :: (31, o31') :: (c3', oc3') :: rest) → Chs vs' r → vs'.length ≤ 1000 → n' = n + nls sk + 1 → T3 o31' c3' oc3' → NeH c3' 31 → NeH c3' D → NeH c3' dx → NeH c3' I → OwitRest rw9.row.prog w (({ depth := dp, frames := some [], guards := gd, units := un } : Around).deeper (envOfC (Str.ofString "law") scope L' fa cd)) E (envOfC (Str.ofString "law") scope L' fa cd) (Str.ofString "k") body Q I fuel { s with heap := h', toks := tk', drawn := dr' }) →
   OwitRest rw9.row.prog w (({ depth := dp, frames := some [], guards := gd, units := un } : Around).deeper (envOfC (Str.ofString "law") scope L' fa cd)) E (envOfC (Str.ofString "law") scope L' fa cd) (Str.ofString "k") body Q I (fuel + 1) s := by
  intro hp B F X N TT hx hst hds hf hcc hcL h136 hpb h5 h1m h3m hll hDk h66 hc2 h59 hc1 kk0 kk1 hk y0 y1 hh1 mi1 sc1 zok zl0 zl1 hz hrk hstp d1 d3 d5 hv1 hq1 hv2 hq2 h3 n31 n3D n3x nD31 nx31 hlam hoc hvs hL lo0 lo1 lo2 lo3 lo4 lo5 lo6 lo7 lo8 lo9 lo10 lne hch n3I i1 i2 i3 offI offD off31 ch2 ch3 ch4 hsk hskl hc hsz hdp hun hret
  have hp' := hp
  cases hp
  have NI := N (I, rit k (2 - k)) (.head _)
  refine OwitRest.succ ?_
  refine wpAny_pyNext_range_item (x := k) (left := 2 - k) (step := 1) NI.1 (by first | with_reducible assumption | omega) fun h2 hit2 hb2 => ?_
  have F2 : Fr g L' h2 _ := F.change hb2 NI.2.1 NI.2.2
  have NR2 := newsBut (news := (D, W.listOf vs.toArray cnt) :: (dx, dictOf [{ hash := PyData.keyHash w.params (Str.ofString "lineno"), key := .str (Str.ofString "lineno") k1, val := .int n tn }, { hash := PyData.keyHash w.params (Str.ofString "instream"), key := .str (Str.ofString "instream") k2, val := .ref st }, { hash := PyData.keyHash w.params (Str.ofString "whitespace"), key := .str (Str.ofString "whitespace") k3, val := .str (Str.ofString "\n\t\r ") tw }, { hash := PyData.keyHash w.params (Str.ofString "pushback"), key := .str (Str.ofString "pushback") k4, val := .ref pb }] 4) :: (31, o31) :: (c3, oc3) :: rest) (fun q hq => N q (.tail _ hq)) hb2 (allCons (NeH.out i1) (allCons (NeH.out i2) (allCons (NeH.out i3) (allCons (NeH.out n3I) offI))))
  have NI2 : News g L' h2 [(I, rit (k + 1) (2 - k - 1))] := allCons ⟨hit2, NI.2⟩ allNil
  refine wpAny_storeName_local (m := (fun z => if z = Str.ofString "stamp" then some (.str stp tst) else if z = Str.ofString "lines" then some (.ref ll) else mr z)) (by rfl) F2.ns (fun g3 hn3 hs3 => ?_) (by rfl)
  have F3 := F2.set hn3 hs3
  have NR3 := NR2.set hs3
  have NI3 := NI2.set hs3
  refine turnA w p loose mean mg mb dp un gd A₀ base g L' fa cd _ (OwitFlow Q _) E _ _ x dx st ds pa pb f c' D cL tw k1 k2 k3 k4 j1 j2 j3 j4 j5 u1 u3 tq oc oL o136 pm ctv params bodyL scopeL vsc ll D1 D2 Dk c1 c2 c3 y hh mi sc k n tn ty tz _ tst uk vk tq1 tq2 rk vs cnt zone stp z o1 o3 o5 oc1 oc2 oc3 o31 vs1 vs2 mr sk r ((I, rit (k + 1) (2 - k - 1)) :: rest) hp' B F3 X (newsCons NR3 (.head _) (newsCons NR3 (.tail _ (.head _)) (newsCons NR3 (.tail _ (.tail _ (.head _))) (newsCons NR3 (.tail _ (.tail _ (.tail _ (.head _)))) (newsCons NI3 (.head _) (newsSub NR3 (fun _ hq => (.tail _ (.tail _ (.tail _ (.tail _ hq))))))))))) TT (.tail _ hx) (.tail _ hst) (.tail _ hds) (.tail _ hf) (.tail _ hcc) (.tail _ hcL) (.tail _ h136) (.tail _ hpb) (.tail _ h5) (.tail _ h1m) (.tail _ h3m) (.tail _ hll) (.tail _ hDk) (.tail _ h66) (.tail _ hc2) (.tail _ h59) (.tail _ hc1) kk0 kk1 hk y0 y1 hh1 mi1 sc1 zok zl0 zl1 hz hrk hstp d1 d3 d5 hv1 hq1 hv2 hq2 h3 n31 n3D n3x nD31 nx31 hlam hoc hvs hL lo0 lo1 lo2 lo3 lo4 lo5 lo6 lo7 lo8 lo9 lo10 lne hch (allCons ⟨Ne.symm (NeH.out i1), Ne.symm (NeH.out i2)⟩ offD) (allCons (Ne.symm (NeH.out i3)) off31) ch2 ch3 ch4 hsk hskl hc hsz hdp hun ?_
  intro h' tk' dr' mr' vs' cnt' n' tn' o31' c3' oc3' F' N' c9 hs9 en h39 a b c ne9
  exact hret h' tk' dr' mr' vs' cnt' n' tn' o31' c3' oc3' F' (newsCons N' (.tail _ (.tail _ (.tail _ (.tail _ (.head _))))) (newsCons N' (.head _) (newsCons N' (.tail _ (.head _)) (newsCons N' (.tail _ (.tail _ (.head _))) (newsCons N' (.tail _ (.tail _ (.tail _ (.head _)))) (newsSub N' (fun _ hq => (.tail _ (.tail _ (.tail _ (.tail _ (.tail _ hq)))))))))))) c9 hs9 en h39 a b c (ne9 _ (.head _) n3I)
end
section
open PySem PySem.W PyProof.Rows PySem.Calls PySem.NumText
theorem newsKb2 {h₀ h h' : Heap} {L D X : Addr} {oD oX oD' oX' : Obj} {news : List (Addr × Obj)} (rest' : List (Addr × Obj)) (N : News h₀ L h news) (kb : ∀ b o, h.get? b = some o → b ≠ D → b ≠ X → h'.get? b = some o) (gD : h'.get? D = some oD') (gX : h'.get? X = some oX') (mD : (D, oD) ∈ news) (mX : (X, oX) ∈ news) (hs : ∀ p ∈ rest', p ∈ news) (hne : ∀ p ∈ rest', Ne (α := Nat) p.1 D ∧ Ne (α := Nat) p.1 X) : News h₀ L h' ((D, oD') :: (X, oX') :: rest') := by
  intro q hq
  rcases List.mem_cons.mp hq with rfl | hq
  · exact ⟨gD, (N _ mD).2⟩
  rcases List.mem_cons.mp hq with rfl | hq
  · exact ⟨gX, (N _ mX).2⟩
  · exact ⟨kb _ _ (N q (hs q hq)).1 (hne q hq).1 (hne q hq).2, (N q (hs q hq)).2⟩
theorem nlsRep : ∀ k : Nat, nls (List.replicate k 10) = (k : Int)
  | 0 => rfl
  | k + 1 => by
    rw [List.replicate_succ]
    show nlOf [10] + nls (List.replicate k 10) = _
    rw [nlsRep k]; show (1 : Int) + (k : Int) = _; omega
theorem wsRep (k : Nat) : ∀ c ∈ List.replicate k 10, c < 128 ∧ isWs c = true := fun c hc => by
  rw [List.eq_of_mem_replicate hc]; decide
theorem repLen {e : Int} (e0 : 1 ≤ e) : List.replicate e.toNat 10 = 10 :: List.replicate (e - 1).toNat 10 := by
  rw [← List.replicate_succ]; congr 1; omega
theorem chsText {vs : List Value} {z1 z2 : Str} {e : Int} (e0 : 1 ≤ e) (h : Chs vs (z1 ++ sL (List.replicate e.toNat 10) ++ (z2 ++ sL (List.replicate e.toNat 10))).cps.toList) : Chs vs ([] ++ (z1.cps.toList ++ 10 :: (List.replicate (e - 1).toNat 10 ++ (z2.cps.toList ++ 10 :: List.replicate (e - 1).toNat 10)))) := by
  have q : (z1 ++ sL (List.replicate e.toNat 10) ++ (z2 ++ sL (List.replicate e.toNat 10))).cps.toList = [] ++ (z1.cps.toList ++ 10 :: (List.replicate (e - 1).toNat 10 ++ (z2.cps.toList ++ 10 :: List.replicate (e - 1).toNat 10))) := by
    rw [repLen e0]
    simp [Str.cps_append, sL]
  rwa [q] at h
theorem offsL {L' : Addr} {x dx st ds pa pb f c' D cL : Addr} {ll D1 D2 c1 c2 : Addr} {oc oL o136 o1 o3 o4 o5 oc1 oc2 : Obj} {w : World} {j1 j2 j3 j4 j5 u1 u3 u2 v2 u1_ v1 : Tok} {pm ctv : Value} {params : Arguments} {bodyL : Expr} {scopeL : Scope} {z1 z2 : Str} {r1 r2 : Int} : LT.lt (α := Nat) 136 D → LT.lt (α := Nat) D cL → LT.lt (α := Nat) cL st → LT.lt (α := Nat) cL ds → LT.lt (α := Nat) st c' → LT.lt (α := Nat) ds c' → LT.lt (α := Nat) c' f → LT.lt (α := Nat) f x → LT.lt (α := Nat) f dx → LT.lt (α := Nat) dx x → LT.lt (α := Nat) x pb → NeH st ds → LT.lt (α := Nat) (136) L' → LT.lt (α := Nat) (L' + 5) c1 → LT.lt (α := Nat) (L' + 5) c2 → LT.lt (α := Nat) (L' + 5) D1 → LT.lt (α := Nat) (L' + 5) D2 → LT.lt (α := Nat) (ll) D → LT.lt (α := Nat) (D1) D → LT.lt (α := Nat) (D2) D → LT.lt (α := Nat) (c1) D → LT.lt (α := Nat) (c2) D → NeH ll 31 → (∀ p ∈ ([(x, instObj 130 dx), (st, instObj 130 ds), (ds, dictOf [{ hash := PyData.keyHash w.params (Str.ofString "lineno"), key := .str (Str.ofString "lineno") j1, val := .int 1 u1 }, { hash := PyData.keyHash w.params (Str.ofString "instream"), key := .str (Str.ofString "instream") j2, val := .none }, { hash := PyData.keyHash w.params (Str.ofString "whitespace"), key := .str (Str.ofString "whitespace") j3, val := .str (Str.ofString "\n\t\r ") u3 }, { hash := PyData.keyHash w.params (Str.ofString "pushback"), key := .str (Str.ofString "pushback") j4, val := .ref pa }, { hash := PyData.keyHash w.params (Str.ofString "read"), key := .str (Str.ofString "read") j5, val := .ref f }] 5), (f, kla_obj (Str.ofString "<lambda>") (Str.ofString "_law_stream.<locals>.<lambda>") params bodyL scopeL [(Str.ofString "left", cL)] pm c' ctv), (c', oc), (cL, oL), (136, o136), (pb, W.listOf (#[] : Array Value) 0), (L' + 1 + 1 + 1 + 1 + 1, o5), (L' + 1 + 1 + 1 + 1, o4), (L' + 1 + 1 + 1, o3), (L' + 1, o1), (ll, LCg.lst [.ref D1, .ref D2]), (D2, W.listOf #[.str z2 u2, .int r2 v2] 0), (D1, W.listOf #[.str z1 u1_, .int r1 v1] 0), (66, tabObj #[rawInt 104, rawInt 4, .ref c2]), (c2, oc2), (59, tabObj #[rawInt 89, rawInt 4, .ref c1]), (c1, oc1)] : List (Addr × Obj)), Ne (α := Nat) p.1 D ∧ Ne (α := Nat) p.1 dx) ∧ (∀ p ∈ ([(x, instObj 130 dx), (st, instObj 130 ds), (ds, dictOf [{ hash := PyData.keyHash w.params (Str.ofString "lineno"), key := .str (Str.ofString "lineno") j1, val := .int 1 u1 }, { hash := PyData.keyHash w.params (Str.ofString "instream"), key := .str (Str.ofString "instream") j2, val := .none }, { hash := PyData.keyHash w.params (Str.ofString "whitespace"), key := .str (Str.ofString "whitespace") j3, val := .str (Str.ofString "\n\t\r ") u3 }, { hash := PyData.keyHash w.params (Str.ofString "pushback"), key := .str (Str.ofString "pushback") j4, val := .ref pa }, { hash := PyData.keyHash w.params (Str.ofString "read"), key := .str (Str.ofString "read") j5, val := .ref f }] 5), (f, kla_obj (Str.ofString "<lambda>") (Str.ofString "_law_stream.<locals>.<lambda>") params bodyL scopeL [(Str.ofString "left", cL)] pm c' ctv), (c', oc), (cL, oL), (136, o136), (pb, W.listOf (#[] : Array Value) 0), (L' + 1 + 1 + 1 + 1 + 1, o5), (L' + 1 + 1 + 1 + 1, o4), (L' + 1 + 1 + 1, o3), (L' + 1, o1), (ll, LCg.lst [.ref D1, .ref D2]), (D2, W.listOf #[.str z2 u2, .int r2 v2] 0), (D1, W.listOf #[.str z1 u1_, .int r1 v1] 0), (66, tabObj #[rawInt 104, rawInt 4, .ref c2]), (c2, oc2), (59, tabObj #[rawInt 89, rawInt 4, .ref c1]), (c1, oc1)] : List (Addr × Obj)), Ne (α := Nat) p.1 31) := by
  intro lo0 lo1 lo2 lo3 lo4 lo5 lo6 lo7 lo8 lo9 lo10 lne o90 o91 o92 o93 o94 o95 o96 o97 o98 o99 nl31 
  exact ⟨(allCons (⟨(Nat.ne_of_gt (Nat.lt_trans lo1 (Nat.lt_trans lo2 (Nat.lt_trans lo4 (Nat.lt_trans lo6 lo7))))), (Nat.ne_of_gt lo9)⟩) (allCons (⟨(Nat.ne_of_gt (Nat.lt_trans lo1 lo2)), (Nat.ne_of_lt (Nat.lt_trans lo4 (Nat.lt_trans lo6 lo8)))⟩) (allCons (⟨(Nat.ne_of_gt (Nat.lt_trans lo1 lo3)), (Nat.ne_of_lt (Nat.lt_trans lo5 (Nat.lt_trans lo6 lo8)))⟩) (allCons (⟨(Nat.ne_of_gt (Nat.lt_trans lo1 (Nat.lt_trans lo2 (Nat.lt_trans lo4 lo6)))), (Nat.ne_of_lt lo8)⟩) (allCons (⟨(Nat.ne_of_gt (Nat.lt_trans lo1 (Nat.lt_trans lo2 lo4))), (Nat.ne_of_lt (Nat.lt_trans lo6 lo8))⟩) (allCons (⟨(Nat.ne_of_gt lo1), (Nat.ne_of_lt (Nat.lt_trans lo2 (Nat.lt_trans lo4 (Nat.lt_trans lo6 lo8))))⟩) (allCons (⟨(Nat.ne_of_lt lo0), (Nat.ne_of_lt (Nat.lt_trans lo0 (Nat.lt_trans lo1 (Nat.lt_trans lo2 (Nat.lt_trans lo4 (Nat.lt_trans lo6 lo8))))))⟩) (allCons (⟨(Nat.ne_of_gt (Nat.lt_trans lo1 (Nat.lt_trans lo2 (Nat.lt_trans lo4 (Nat.lt_trans lo6 (Nat.lt_trans lo7 lo10)))))), (Nat.ne_of_gt (Nat.lt_trans lo9 lo10))⟩) (allCons (⟨(fun (q : Eq (α := Nat) (L' + 1 + 1 + 1 + 1 + 1) D) => by omega), (fun (q : Eq (α := Nat) (L' + 1 + 1 + 1 + 1 + 1) dx) => by omega)⟩) (allCons (⟨(fun (q : Eq (α := Nat) (L' + 1 + 1 + 1 + 1) D) => by omega), (fun (q : Eq (α := Nat) (L' + 1 + 1 + 1 + 1) dx) => by omega)⟩) (allCons (⟨(fun (q : Eq (α := Nat) (L' + 1 + 1 + 1) D) => by omega), (fun (q : Eq (α := Nat) (L' + 1 + 1 + 1) dx) => by omega)⟩) (allCons (⟨(fun (q : Eq (α := Nat) (L' + 1) D) => by omega), (fun (q : Eq (α := Nat) (L' + 1) dx) => by omega)⟩) (allCons (⟨(Nat.ne_of_lt o95), (Nat.ne_of_lt (Nat.lt_trans o95 (Nat.lt_trans lo1 (Nat.lt_trans lo2 (Nat.lt_trans lo4 (Nat.lt_trans lo6 lo8))))))⟩) (allCons (⟨(Nat.ne_of_lt o97), (Nat.ne_of_lt (Nat.lt_trans o97 (Nat.lt_trans lo1 (Nat.lt_trans lo2 (Nat.lt_trans lo4 (Nat.lt_trans lo6 lo8))))))⟩) (allCons (⟨(Nat.ne_of_lt o96), (Nat.ne_of_lt (Nat.lt_trans o96 (Nat.lt_trans lo1 (Nat.lt_trans lo2 (Nat.lt_trans lo4 (Nat.lt_trans lo6 lo8))))))⟩) (allCons (⟨(fun (q : Eq (α := Nat) (66) D) => by omega), (fun (q : Eq (α := Nat) (66) dx) => by omega)⟩) (allCons (⟨(Nat.ne_of_lt o99), (Nat.ne_of_lt (Nat.lt_trans o99 (Nat.lt_trans lo1 (Nat.lt_trans lo2 (Nat.lt_trans lo4 (Nat.lt_trans lo6 lo8))))))⟩) (allCons (⟨(fun (q : Eq (α := Nat) (59) D) => by omega), (fun (q : Eq (α := Nat) (59) dx) => by omega)⟩) (allCons (⟨(Nat.ne_of_lt o98), (Nat.ne_of_lt (Nat.lt_trans o98 (Nat.lt_trans lo1 (Nat.lt_trans lo2 (Nat.lt_trans lo4 (Nat.lt_trans lo6 lo8))))))⟩) (List.forall_mem_nil _)))))))))))))))))))), (allCons (Nat.ne_of_gt (Nat.lt_trans (show LT.lt (α := Nat) 31 136 by decide) (Nat.lt_trans lo0 (Nat.lt_trans lo1 (Nat.lt_trans lo2 (Nat.lt_trans lo4 (Nat.lt_trans lo6 lo7))))))) (allCons (Nat.ne_of_gt (Nat.lt_trans (show LT.lt (α := Nat) 31 136 by decide) (Nat.lt_trans lo0 (Nat.lt_trans lo1 lo2)))) (allCons (Nat.ne_of_gt (Nat.lt_trans (show LT.lt (α := Nat) 31 136 by decide) (Nat.lt_trans lo0 (Nat.lt_trans lo1 lo3)))) (allCons (Nat.ne_of_gt (Nat.lt_trans (show LT.lt (α := Nat) 31 136 by decide) (Nat.lt_trans lo0 (Nat.lt_trans lo1 (Nat.lt_trans lo2 (Nat.lt_trans lo4 lo6)))))) (allCons (Nat.ne_of_gt (Nat.lt_trans (show LT.lt (α := Nat) 31 136 by decide) (Nat.lt_trans lo0 (Nat.lt_trans lo1 (Nat.lt_trans lo2 lo4))))) (allCons (Nat.ne_of_gt (Nat.lt_trans (show LT.lt (α := Nat) 31 136 by decide) (Nat.lt_trans lo0 lo1))) (allCons (show Ne (α := Nat) 136 31 by decide) (allCons (Nat.ne_of_gt (Nat.lt_trans (show LT.lt (α := Nat) 31 136 by decide) (Nat.lt_trans lo0 (Nat.lt_trans lo1 (Nat.lt_trans lo2 (Nat.lt_trans lo4 (Nat.lt_trans lo6 (Nat.lt_trans lo7 lo10)))))))) (allCons (fun (q : Eq (α := Nat) (L' + 1 + 1 + 1 + 1 + 1) 31) => by omega) (allCons (fun (q : Eq (α := Nat) (L' + 1 + 1 + 1 + 1) 31) => by omega) (allCons (fun (q : Eq (α := Nat) (L' + 1 + 1 + 1) 31) => by omega) (allCons (fun (q : Eq (α := Nat) (L' + 1) 31) => by omega) (allCons (NeH.out nl31) (allCons (fun (q : Eq (α := Nat) (D2) 31) => by omega) (allCons (fun (q : Eq (α := Nat) (D1) 31) => by omega) (allCons (show Ne (α := Nat) 66 31 by decide) (allCons (fun (q : Eq (α := Nat) (c2) 31) => by omega) (allCons (show Ne (α := Nat) 59 31 by decide) (allCons (fun (q : Eq (α := Nat) (c1) 31) => by omega) (List.forall_mem_nil _))))))))))))))))))))⟩
end
section
open PySem PySem.W PyProof.Rows PySem.Calls PySem.NumText
theorem iterStart {prog : Program} {w : World} {A : Around} {E : Value → Shared → Prop} {s : Shared} {g : Heap} {L r : Addr} {m : Str → Option Value} {news : List (Addr × Obj)} {env : Env} {v : Str} {body : List Stmt} {Q : Flow → Shared → Prop} {t u x : Tok} (F : Fr g L s.heap m) (N : News g L s.heap news) (hr : IsRange s.heap r 0 2 1 t u x) (h : ∀ I h', Fr g L h' m → News g L h' ((I, rit 0 (2 - 0)) :: news) → (∀ p ∈ news, Ne (α := Nat) p.1 I) → OwitRest prog w A E env v body Q I 64 { s with heap := h' }) : wpAny (model prog w) A (pyIter (.ref r)) (OwitAt prog w A E env v body Q) E s :=
  wpAny_pyIter_range hr (by decide) (OwitAt.intro (h _ _ (F.push _) (N.push F (rit 0 (2 - 0))) (fun p hp => Nat.ne_of_lt (Heap.lt_size (N p hp).1))))
theorem iterEnd {prog : Program} {w : World} {A : Around} {E : Value → Shared → Prop} {s : Shared} {g : Heap} {L I : Addr} {m : Str → Option Value} {news : List (Addr × Obj)} {env : Env} {v : Str} {body : List Stmt} {Q : Flow → Shared → Prop} {n : Nat} {a b : Int} (hh : A.handled = none) (F : Fr g L s.heap m) (N : News g L s.heap ((I, rit a b) :: news)) (hb : b ≤ 0) (hne : ∀ p ∈ news, Ne (α := Nat) p.1 I) (h : ∀ h', Fr g L h' m → News g L h' news → Q .next { s with heap := h' }) : OwitRest prog w A E env v body Q I (n + 1) s := by
  have NI := N (I, rit a b) (.head _)
  refine OwitRest.succ (wpAny_pyNext_range_end hh NI.1 hb fun h' hx => ?_)
  have hk : ∀ c o, c ∉ [I] → s.heap.get? c = some o → h'.get? c = some o := fun c o hc e => hx c o (by simpa using hc) e
  exact h h' (LCg.fr_but F hk (Ne.symm NI.2.1) NI.2.2) (LCg.news_but (fun p hp => N p (.tail _ hp)) hk hne)
theorem loop2 (w : World) (p : Program) (loose : List Str) (mean : ExcName → Option Value) (mg mb : Str → Option Value) (dp un : Nat) (gd : Option (List Code)) (A₀ : Around) (base g : Heap) (L' fa : Addr) (cd : Value) (s : Shared) (Q : Flow → Shared → Prop) (E : Value → Shared → Prop) (body : List Stmt) (scope : Scope) (rr : Addr) (tr ur xr : Tok) (x dx st ds pa pb f c' D cL : Addr) (tw k1 k2 k3 k4 j1 j2 j3 j4 j5 u1 u3 tq : Tok) (oc oL o136 : Obj) (pm ctv : Value) (params : Arguments) (bodyL : Expr) (scopeL : Scope) (vsc : Array Value) (ll D1 D2 c1 c2 : Addr) (y hh mi sc e : Int) (tn ty tz tst u2 v2 u1_ v1 tq1 tq2 : Tok) (r1 r2 : Int) (vs : List Value) (cnt : Nat) (zone stp z1 z2 : Str) (o1 o3 o5 oc1 oc2 : Obj) (vs1 vs2 : Array Value) (mr : Str → Option Value) (rest : List (Addr × Obj)) :
   (fbParts (K39 w.params)).map (fun q => (q.1.drop 0, q.2)) = some (body, scope) → Below A₀ base [] g → Fr g L' s.heap (fun z => if z = Str.ofString "stamp" then some (.str stp tst) else if z = Str.ofString "lines" then some (.ref ll) else mr z) → (K39 w.params).In g → News g L' s.heap ((D, W.listOf vs.toArray cnt) :: (dx, dictOf [{ hash := PyData.keyHash w.params (Str.ofString "lineno"), key := .str (Str.ofString "lineno") k1, val := .int 1 tn }, { hash := PyData.keyHash w.params (Str.ofString "instream"), key := .str (Str.ofString "instream") k2, val := .ref st }, { hash := PyData.keyHash w.params (Str.ofString "whitespace"), key := .str (Str.ofString "whitespace") k3, val := .str (Str.ofString "\n\t\r ") tw }, { hash := PyData.keyHash w.params (Str.ofString "pushback"), key := .str (Str.ofString "pushback") k4, val := .ref pb }] 4) :: (31, tabObj #[]) :: rest) → Top p loose mean mg mb g → (x, instObj 130 dx) ∈ rest → (st, instObj 130 ds) ∈ rest → (ds, dictOf [{ hash := PyData.keyHash w.params (Str.ofString "lineno"), key := .str (Str.ofString "lineno") j1, val := .int 1 u1 }, { hash := PyData.keyHash w.params (Str.ofString "instream"), key := .str (Str.ofString "instream") j2, val := .none }, { hash := PyData.keyHash w.params (Str.ofString "whitespace"), key := .str (Str.ofString "whitespace") j3, val := .str (Str.ofString "\n\t\r ") u3 }, { hash := PyData.keyHash w.params (Str.ofString "pushback"), key := .str (Str.ofString "pushback") j4, val := .ref pa }, { hash := PyData.keyHash w.params (Str.ofString "read"), key := .str (Str.ofString "read") j5, val := .ref f }] 5) ∈ rest → (f, kla_obj (Str.ofString "<lambda>") (Str.ofString "_law_stream.<locals>.<lambda>") params bodyL scopeL [(Str.ofString "left", cL)] pm c' ctv) ∈ rest → (c', oc) ∈ rest → (cL, oL) ∈ rest → (136, o136) ∈ rest → (pb, W.listOf (#[] : Array Value) 0) ∈ rest → (L' + 1 + 1 + 1 + 1 + 1, o5) ∈ rest → (L' + 1, o1) ∈ rest → (L' + 1 + 1 + 1, o3) ∈ rest → (ll, LCg.lst [.ref D1, .ref D2]) ∈ rest → (D2, W.listOf #[.str z2 u2, .int r2 v2] 0) ∈ rest → (D1, W.listOf #[.str z1 u1_, .int r1 v1] 0) ∈ rest → (66, tabObj #[rawInt 104, rawInt 4, .ref c2]) ∈ rest → (c2, oc2) ∈ rest → (59, tabObj #[rawInt 89, rawInt 4, .ref c1]) ∈ rest → (c1, oc1) ∈ rest → 3761 ≤ y → y ≤ 8760 → hh < 100 → mi < 100 → sc < 100 → 1 ≤ e → (∀ c ∈ zone.cps.toList, c < 128 ∧ plainC c = true) → 1 ≤ zone.length → zone.length ≤ 10 → z1 = lineS y hh mi sc zone → r1 = lineR y → z2 = lineS (y + 1) hh mi sc zone → r2 = lineR (y + 1) → e ≤ 4 → stp = sL (w4L hh mi sc) → o1.data = .cell (some (.int y ty)) → o3.data = .cell (some (.str zone tz)) → o5.data = .cell (some (.ref x)) → oc1.data = .fields vs1 → vs1[1]? = some (.str "_int2digits.<locals>.inner" tq1) → oc2.data = .fields vs2 → vs2[1]? = some (.str "_digits2int.<locals>.inner" tq2) → lamParts (K39 w.params) 141 1 = some (params, bodyL, scopeL) → oc.data = .fields vsc → vsc[1]? = some (.str (Str.ofString "_law_stream.<locals>.<lambda>") tq) → oL.data = .cell (some (.ref D)) → LT.lt (α := Nat) 136 D → LT.lt (α := Nat) D cL → LT.lt (α := Nat) cL st → LT.lt (α := Nat) cL ds → LT.lt (α := Nat) st c' → LT.lt (α := Nat) ds c' → LT.lt (α := Nat) c' f → LT.lt (α := Nat) f x → LT.lt (α := Nat) f dx → LT.lt (α := Nat) dx x → LT.lt (α := Nat) x pb → NeH st ds → CodeHd base 140 136 → NeH 31 D → NeH 31 dx → (∀ p ∈ rest, Ne (α := Nat) p.1 D ∧ Ne (α := Nat) p.1 dx) → (∀ p ∈ rest, Ne (α := Nat) p.1 31) → CodeHd base 70 66 → CodeHd base 63 59 → CodeHd base 35 31 → Chs vs (z1 ++ sL (List.replicate e.toNat 10) ++ (z2 ++ sL (List.replicate e.toNat 10))).cps.toList → vs.length ≤ 1000 → dp + 300 < recursionLimit → un + 900 < cLine → IsRange s.heap rr 0 2 1 tr ur xr →
   (∀ h' tk' dr' (mr' : Str → Option Value) vs' cnt' n' tn' o31' c3' oc3', Fr g L' h' (fun z => if z = Str.ofString "stamp" then some (.str stp tst) else if z = Str.ofString "lines" then some (.ref ll) else mr' z) → News g L' h' ((D, W.listOf vs'.toArray cnt') :: (dx, dictOf [{ hash := PyData.keyHash w.params (Str.ofString "lineno"), key := .str (Str.ofString "lineno") k1, val := .int n' tn' }, { hash := PyData.keyHash w.params (Str.ofString "instream"), key := .str (Str.ofString "instream") k2, val := .ref st }, { hash := PyData.keyHash w.params (Str.ofString "whitespace"), key := .str (Str.ofString "whitespace") k3, val := .str (Str.ofString "\n\t\r ") tw }, { hash := PyData.keyHash w.params (Str.ofString "pushback"), key := .str (Str.ofString "pushback") k4, val := .ref pb }] 4) :: (31, o31') :: rest) → Chs vs' (List.replicate (e - 1).toNat 10) → vs'.length ≤ 1000 → n' + nls (List.replicate (e - 1).toNat 10) = 1 + 2 * e → T3 o31' c3' oc3' → Q .next { s with heap := h', toks := tk', drawn := dr' }) →
   wpAny (model rw9.row.prog w) (({ depth := dp, frames := some [], guards := gd, units := un } : Around).deeper (envOfC (Str.ofString "law") scope L' fa cd)) (pyIter (.ref rr)) (OwitAt rw9.row.prog w (({ depth := dp, frames := some [], guards := gd, units := un } : Around).deeper (envOfC (Str.ofString "law") scope L' fa cd)) E (envOfC (Str.ofString "law") scope L' fa cd) (Str.ofString "k") body Q) E s := by
  intro hp B F X N TT hx hst hds hf hcc hcL h136 hpb h5 h1m h3m hll hD2m hD1m h66 hc2 h59 hc1 y0 y1 hh1 mi1 sc1 e0 zok zl0 zl1 hz1 hr1 hz2 hr2 e1 hstp d1 d3 d5 hv1 hq1 hv2 hq2 hlam hoc hvs hL lo0 lo1 lo2 lo3 lo4 lo5 lo6 lo7 lo8 lo9 lo10 lne hch nD31 nx31 offD off31 ch2 ch3 ch4 hc hsz hdp hun hr hret
  have nc31 : NeH c1 31 := off31 _ hc1
  have ncD : NeH c1 D := (offD _ hc1).1
  have ncx : NeH c1 dx := (offD _ hc1).2
  have repS : (List.replicate (e - 1).toNat 10).length < 60 := by rw [List.length_replicate]; omega
  have hct := chsText e0 hc
  refine iterStart F N hr fun I h1 F1 N1 hI => ?_
  have iD : NeH D I := hI _ (.head _)
  have ix : NeH dx I := hI _ (.tail _ (.head _))
  have i31 : NeH 31 I := hI _ (.tail _ (.tail _ (.head _)))
  have offI : ∀ q ∈ rest, Ne (α := Nat) q.1 I := fun q hq => hI q (.tail _ (.tail _ (.tail _ hq)))
  refine loopTurn w p loose mean mg mb dp un gd A₀ base g L' fa cd _ _ _ _ _ x dx st ds pa pb f c' D cL tw k1 k2 k3 k4 j1 j2 j3 j4 j5 u1 u3 tq oc oL o136 pm ctv params bodyL scopeL vsc ll D1 D2 D1 c1 c2 c1 I y hh mi sc 0 1 tn ty tz tst u1_ v1 tq1 tq2 r1 vs cnt zone stp z1 o1 o3 o5 oc1 oc2 oc1 _ vs1 vs2 mr [] (List.replicate (e - 1).toNat 10 ++ (z2.cps.toList ++ 10 :: List.replicate (e - 1).toNat 10)) 63 rest hp B F1 X (newsCons N1 (.head _) (newsCons N1 (.tail _ (.head _)) (newsCons N1 (.tail _ (.tail _ (.head _))) (newsCons N1 (.tail _ (.tail _ (.tail _ (.head _)))) (newsCons N1 (.tail _ (.tail _ (.tail _ (.tail _ hc1)))) (newsSub N1 (fun _ hq => (.tail _ (.tail _ (.tail _ (.tail _ hq))))))))))) TT hx hst hds hf hcc hcL h136 hpb h5 h1m h3m hll hD1m h66 hc2 h59 hc1 (by decide) (by decide) rfl (by first | with_reducible assumption | omega) (by first | with_reducible assumption | omega) hh1 mi1 sc1 zok zl0 zl1 (by rw [Int.add_zero]; exact hz1) (by rw [Int.add_zero]; exact hr1) hstp d1 d3 d5 hv1 hq1 hv2 hq2 (.inl rfl) nc31 ncD ncx nD31 nx31 hlam hoc hvs hL lo0 lo1 lo2 lo3 lo4 lo5 lo6 lo7 lo8 lo9 lo10 lne hch (offI _ hc1) iD ix i31 offI offD off31 ch2 ch3 ch4 (fun _ h => nomatch h) (by decide) hct hsz hdp hun ?_
  intro h2 tk2 dr2 mra vsa cnta n1 tn1 o31a c3a oc3a F2 N2 c2_ sz2_ en2 h3a n31a n3Da n3xa n3Ia
  refine loopTurn w p loose mean mg mb dp un gd A₀ base g L' fa cd _ _ _ _ _ x dx st ds pa pb f c' D cL tw k1 k2 k3 k4 j1 j2 j3 j4 j5 u1 u3 tq oc oL o136 pm ctv params bodyL scopeL vsc ll D1 D2 D2 c1 c2 c3a I y hh mi sc 1 n1 tn1 ty tz tst u2 v2 tq1 tq2 r2 vsa cnta zone stp z2 o1 o3 o5 oc1 oc2 oc3a o31a vs1 vs2 mra (List.replicate (e - 1).toNat 10) (List.replicate (e - 1).toNat 10) 62 rest hp B F2 X N2 TT hx hst hds hf hcc hcL h136 hpb h5 h1m h3m hll hD2m h66 hc2 h59 hc1 (by decide) (by decide) rfl (by first | with_reducible assumption | omega) (by first | with_reducible assumption | omega) hh1 mi1 sc1 zok zl0 zl1 hz2 hr2 hstp d1 d3 d5 hv1 hq1 hv2 hq2 h3a n31a n3Da n3xa nD31 nx31 hlam hoc hvs hL lo0 lo1 lo2 lo3 lo4 lo5 lo6 lo7 lo8 lo9 lo10 lne hch n3Ia iD ix i31 offI offD off31 ch2 ch3 ch4 (wsRep _) repS c2_ sz2_ hdp hun ?_
  intro h3 tk3 dr3 mrb vsb cntb n2 tn2 o31b c3b oc3b F3 N3 cc2 sz2 en3 h3b n31b n3Db n3xb n3Ib
  refine iterEnd rfl F3 N3 (by decide) (allCons (NeH.out iD) (allCons (NeH.out ix) (allCons (NeH.out i31) (allCons (NeH.out n3Ib) offI)))) fun h4 F4 N4 => ?_
  refine hret h4 tk3 dr3 mrb vsb cntb n2 tn2 o31b c3b oc3b F4 (newsSub N4 (by lcg_sub)) cc2 sz2 ?_ h3b
  rw [en3, en2, nlsRep]
  show (1 : Int) + 0 + 1 + _ + 1 + _ = _
  omega
set_option maxRecDepth 100000 in
set_option maxHeartbeats 8000000 in
set_option pp.deepTerms false in
set_option pp.maxSteps 3000 in
theorem law9 (w : World) (p : Program) (loose : List Str) (mean : ExcName → Option Value) (mg mb : Str → Option Value) (dp un : Nat) (gd : Option (List Code)) (A₀ : Around) (base g : Heap) (L' fa : Addr) (cd : Value) (s : Shared) (Q : Flow → Shared → Prop) (E : Value → Shared → Prop) (body : List Stmt) (scope : Scope) (x dx st ds pa pb f c' D cL : Addr) (tw k1 k2 k3 k4 j1 j2 j3 j4 j5 u1 u3 tq : Tok) (oc oL o136 : Obj) (pm ctv : Value) (params : Arguments) (bodyL : Expr) (scopeL : Scope) (vsc : Array Value) (ll D1 D2 c1 c2 : Addr) (y hh mi sc e : Int) (tn ty tz te tst u2 v2 u1_ v1 tq1 tq2 : Tok) (r1 r2 : Int) (vs : List Value) (cnt : Nat) (zone stp z1 z2 : Str) (o1 o3 o4 o5 oc1 oc2 : Obj) (vs1 vs2 : Array Value) (mr : Str → Option Value) (rest : List (Addr × Obj)) :
   (fnParts (K39 w.params) 165).map (fun x => (x.1.drop 8, x.2)) = some (body, scope) → Below A₀ base [] g → Fr g L' s.heap (fun z => if z = Str.ofString "stamp" then some (.str stp tst) else if z = Str.ofString "lines" then some (.ref ll) else mr z) → (K39 w.params).In g → News g L' s.heap ((D, W.listOf vs.toArray cnt) :: (dx, dictOf [{ hash := PyData.keyHash w.params (Str.ofString "lineno"), key := .str (Str.ofString "lineno") k1, val := .int 1 tn }, { hash := PyData.keyHash w.params (Str.ofString "instream"), key := .str (Str.ofString "instream") k2, val := .ref st }, { hash := PyData.keyHash w.params (Str.ofString "whitespace"), key := .str (Str.ofString "whitespace") k3, val := .str (Str.ofString "\n\t\r ") tw }, { hash := PyData.keyHash w.params (Str.ofString "pushback"), key := .str (Str.ofString "pushback") k4, val := .ref pb }] 4) :: (31, tabObj #[]) :: rest) → Top p loose mean mg mb g → (x, instObj 130 dx) ∈ rest → (st, instObj 130 ds) ∈ rest → (ds, dictOf [{ hash := PyData.keyHash w.params (Str.ofString "lineno"), key := .str (Str.ofString "lineno") j1, val := .int 1 u1 }, { hash := PyData.keyHash w.params (Str.ofString "instream"), key := .str (Str.ofString "instream") j2, val := .none }, { hash := PyData.keyHash w.params (Str.ofString "whitespace"), key := .str (Str.ofString "whitespace") j3, val := .str (Str.ofString "\n\t\r ") u3 }, { hash := PyData.keyHash w.params (Str.ofString "pushback"), key := .str (Str.ofString "pushback") j4, val := .ref pa }, { hash := PyData.keyHash w.params (Str.ofString "read"), key := .str (Str.ofString "read") j5, val := .ref f }] 5) ∈ rest → (f, kla_obj (Str.ofString "<lambda>") (Str.ofString "_law_stream.<locals>.<lambda>") params bodyL scopeL [(Str.ofString "left", cL)] pm c' ctv) ∈ rest → (c', oc) ∈ rest → (cL, oL) ∈ rest → (136, o136) ∈ rest → (pb, W.listOf (#[] : Array Value) 0) ∈ rest → (L' + 1 + 1 + 1 + 1 + 1, o5) ∈ rest → (L' + 1, o1) ∈ rest → (L' + 1 + 1 + 1, o3) ∈ rest → (ll, LCg.lst [.ref D1, .ref D2]) ∈ rest → (D2, W.listOf #[.str z2 u2, .int r2 v2] 0) ∈ rest → (D1, W.listOf #[.str z1 u1_, .int r1 v1] 0) ∈ rest → (66, tabObj #[rawInt 104, rawInt 4, .ref c2]) ∈ rest → (c2, oc2) ∈ rest → (59, tabObj #[rawInt 89, rawInt 4, .ref c1]) ∈ rest → (c1, oc1) ∈ rest → (L' + 1 + 1 + 1 + 1, o4) ∈ rest → 3761 ≤ y → y ≤ 8760 → hh < 100 → mi < 100 → sc < 100 → 1 ≤ e → (∀ c ∈ zone.cps.toList, c < 128 ∧ plainC c = true) → 1 ≤ zone.length → zone.length ≤ 10 → z1 = lineS y hh mi sc zone → r1 = lineR y → z2 = lineS (y + 1) hh mi sc zone → r2 = lineR (y + 1) → e ≤ 4 → stp = sL (w4L hh mi sc) → o4.data = .cell (some (.int e te)) → o1.data = .cell (some (.int y ty)) → o3.data = .cell (some (.str zone tz)) → o5.data = .cell (some (.ref x)) → oc1.data = .fields vs1 → vs1[1]? = some (.str "_int2digits.<locals>.inner" tq1) → oc2.data = .fields vs2 → vs2[1]? = some (.str "_digits2int.<locals>.inner" tq2) → lamParts (K39 w.params) 141 1 = some (params, bodyL, scopeL) → oc.data = .fields vsc → vsc[1]? = some (.str (Str.ofString "_law_stream.<locals>.<lambda>") tq) → oL.data = .cell (some (.ref D)) → LT.lt (α := Nat) 136 D → LT.lt (α := Nat) D cL → LT.lt (α := Nat) cL st → LT.lt (α := Nat) cL ds → LT.lt (α := Nat) st c' → LT.lt (α := Nat) ds c' → LT.lt (α := Nat) c' f → LT.lt (α := Nat) f x → LT.lt (α := Nat) f dx → LT.lt (α := Nat) dx x → LT.lt (α := Nat) x pb → NeH st ds → CodeHd base 140 136 → NeH 31 D → NeH 31 dx → (∀ p ∈ rest, Ne (α := Nat) p.1 D ∧ Ne (α := Nat) p.1 dx) → (∀ p ∈ rest, Ne (α := Nat) p.1 31) → CodeHd base 70 66 → CodeHd base 63 59 → CodeHd base 35 31 → (∃ q136 : Array Value, o136 = tabObj q136) → PassesOwn (model rw9.row.prog w) (({ depth := dp, frames := some [], guards := gd, units := un } : Around).deeper (envOfC (Str.ofString "law") scope L' fa cd)) (envOfC (Str.ofString "law") scope L' fa cd) E → Chs vs (z1 ++ sL (List.replicate e.toNat 10) ++ (z2 ++ sL (List.replicate e.toNat 10))).cps.toList → vs.length ≤ 1000 → dp + 300 < recursionLimit → un + 900 < cLine →
   (∀ h' tk' dr' m' q1_ q2_ q3_ q4_, Fr g L' h' m' → News g L' h' [(136, tabObj q1_), (66, tabObj q2_), (59, tabObj q3_), (31, tabObj q4_)] → Q (.ret (.bool true)) { s with heap := h', toks := tk', drawn := dr' }) →
   wpAny (model rw9.row.prog w) (({ depth := dp, frames := some [], guards := gd, units := un } : Around).deeper (envOfC (Str.ofString "law") scope L' fa cd)) (execs body (envOfC (Str.ofString "law") scope L' fa cd)) Q E s := by
  k_fill
  w_top off
  k_with_none
  (k_with "my omega" => (first | with_reducible assumption | (law_purse 30000 => lia) | omega +splitDisjunctions))
  (k_with "my mem" => (first | exact m9_0 | exact m9_1 | exact m9_2 | exact m9_3 | exact m9_4 | exact m9_5 | exact m9_6 | exact m9_7 | (refine' m9_s ?_; k_mem)))
  (k_with "my sub" => (first | exact allNil | exact allCons (by k_mem) (by lcg_sub) | (intro q9 hq9; repeat (first | with_reducible exact hq9 | refine List.mem_cons_of_mem _ ?_))))
  (k_with "my room" => ktr_room)
  (k_with "my units" => ktr_units)
  (k_with "my ne" => (refine neN ?_; (try dsimp only); first | exact NeH.out (by assumption) | exact Ne.symm (NeH.out (by assumption)) | omega))
  (k_with "my all" => (first | exact allNil | (refine' allCons ?_ ?_; focus k_ne; k_all)))
  (k_with "my exec Assign" => k_fold)
  (k_with "my exec Expr" => k_fold)
  (k_with "my exec If" => k_fold)
  (k_with "my exec AugAssign" => k_fold)
  (k_with "my eval BinOp" => k_fold)
  (k_with "my eval Compare" => k_fold)
  (k_with "my eval Subscript" => k_fold)
  (k_with "my eval Call" => k_fold)
  (k_with "my eval Call Attribute" => k_fold)
  (k_with "my eval IfExp" => k_fold)
  (k_with "my eval List" => k_fold)
  (k_with "my eval Tuple" => k_fold)
  intro hp B F X N TT hx hst hds hf hcc hcL h136 hpb h5 h1m h3m hll hD2m hD1m h66 hc2 h59 hc1 h4m y0 y1 hh1 mi1 sc1 e0 zok zl0 zl1 hz1 hr1 hz2 hr2 e1 hstp d4 d1 d3 d5 hv1 hq1 hv2 hq2 hlam hoc hvs hL lo0 lo1 lo2 lo3 lo4 lo5 lo6 lo7 lo8 lo9 lo10 lne hch nD31 nx31 offD off31 ch2 ch3 ch4 ht136 hE hc hsz hdp hun hret
  cases hp
  obtain ⟨p136, ep136⟩ := ht136
  replace N := newsPut (newsPut (newsPut N (.tail _ (.tail _ (.tail _ h4m)))) (.tail _ (.tail _ (.tail _ (.tail _ h5))))) (.tail _ (.tail _ (.tail _ (.tail _ (.tail _ hx)))))
  (k_with "my exec For Name Call cons nil" => (k_here; k_dflt (refine owit_for ?_ (hE := hE))))
  (k_with "my pyIter ref" => refine stopHere ?_)
  dsimp only
  k_steps
  unfold Stopped
  refine loop2 w p loose mean mg mb dp un gd A₀ base g L' fa cd _ _ E _ _ _ _ _ _ x dx st ds pa pb f c' D cL tw k1 k2 k3 k4 j1 j2 j3 j4 j5 u1 u3 tq oc oL o136 pm ctv params bodyL scopeL vsc ll D1 D2 c1 c2 y hh mi sc e tn ty tz tst u2 v2 u1_ v1 tq1 tq2 r1 r2 vs cnt zone stp z1 z2 o1 o3 o5 oc1 oc2 vs1 vs2 mr rest (by rfl) B (by k_asm) X (newsSub (by k_asm) (by lcg_sub)) TT hx hst hds hf hcc hcL h136 hpb h5 h1m h3m hll hD2m hD1m h66 hc2 h59 hc1 y0 y1 hh1 mi1 sc1 e0 zok zl0 zl1 hz1 hr1 hz2 hr2 e1 hstp d1 d3 d5 hv1 hq1 hv2 hq2 hlam hoc hvs hL lo0 lo1 lo2 lo3 lo4 lo5 lo6 lo7 lo8 lo9 lo10 lne hch nD31 nx31 offD off31 ch2 ch3 ch4 hc hsz hdp hun (by assumption) ?_
  intro h4 tk4 dr4 mrb vsb cntb n2 tn2 o31b c3b oc3b F4 N4 cc2 sz2 en3 h3b
  have repS : (List.replicate (e - 1).toNat 10).length < 60 := by rw [List.length_replicate]; omega
  have N5 := newsPut (newsPut (newsPut N4 (.tail _ (.tail _ (.tail _ h4m)))) (.tail _ (.tail _ (.tail _ (.tail _ h5))))) (.tail _ (.tail _ (.tail _ (.tail _ (.tail _ hx)))))
  clear N4
  (try clear N)
  (k_with "my call ref" => (k_here; k_dflt ((refine' gtok2 _ _ _ _ _ _ _ _ _ _ _ _ _ _ _ _ _ _ _ _ _ _ _ _ _ _ _ _ _ _ _ _ _ _ _ _ _ _ _ _ _ _ _ _ _ _ _ _ _ _ _ _ _ _ _ _ _ _ _ _ (by k_asm) (by k_asm) (by k_asm) (newsCons (by k_asm) (by k_mem) (newsCons (by k_asm) (by k_mem) (newsCons (by k_asm) (by repeat (first | with_reducible exact hst | refine List.mem_cons_of_mem _ ?_)) (newsCons (by k_asm) (by repeat (first | with_reducible exact hds | refine List.mem_cons_of_mem _ ?_)) (newsCons (by k_asm) (by repeat (first | with_reducible exact hf | refine List.mem_cons_of_mem _ ?_)) (newsCons (by k_asm) (by repeat (first | with_reducible exact hcc | refine List.mem_cons_of_mem _ ?_)) (newsCons (by k_asm) (by repeat (first | with_reducible exact hcL | refine List.mem_cons_of_mem _ ?_)) (newsCons (by k_asm) (by repeat (first | with_reducible exact h136 | refine List.mem_cons_of_mem _ ?_)) (newsCons (by k_asm) (by k_mem) (newsCons (by k_asm) (by repeat (first | with_reducible exact hpb | refine List.mem_cons_of_mem _ ?_)) newsNil)))))))))) (by k_asm) rfl hlam hoc hvs hL lo0 lo1 lo2 lo3 lo4 lo5 lo6 lo7 lo8 (NeH.out lne) (Ne.symm (Nat.ne_of_lt lo9)) hch cc2 sz2 (Nat.lt_trans lo7 lo10) (Nat.ne_of_lt lo10) (Nat.ne_of_lt (Nat.lt_trans lo9 lo10)) (wsRep _) repS (by ktr_room) (by ktr_units) ?_); intro t9 h9 tk9 vs9 cnt9 n9 tn9 kb9 gD9 c9 gx9 en9; (obtain N9 := newsKb2 ((31, o31b) :: (x, instObj 130 dx) :: (L' + 1 + 1 + 1 + 1 + 1, o5) :: (L' + 1 + 1 + 1 + 1, o4) :: rest) (by k_asm) kb9 gD9 gx9 (by k_mem) (by k_mem) (by lcg_sub) (allCons ⟨NeH.out nD31, NeH.out nx31⟩ (allCons (offD _ hx) (allCons (offD _ h5) (allCons (offD _ h4m) offD))))); (obtain F9 := kb2Fr (P := D) (R := dx) (by k_asm) (by k_asm) (by k_mem) (by k_mem) kb9); clear kb9 gD9 gx9; (try dsimp only))))
  dsimp only
  k_steps
  have eb : (n9 == 1 + 2 * e) = true := by
    rw [beq_iff_eq, en9]; exact en3
  rw [eb]
  obtain ⟨p31, ep31⟩ : ∃ q31, o31b = tabObj q31 := by rcases h3b with q | ⟨q, _⟩ <;> exact ⟨_, q⟩
  subst ep31
  subst ep136
  exact hret _ _ _ _ _ _ _ _ (by k_asm) (newsSub (by k_asm) (allCons (by repeat (first | with_reducible exact h136 | refine List.mem_cons_of_mem _ ?_)) (allCons (by repeat (first | with_reducible exact h66 | refine List.mem_cons_of_mem _ ?_)) (allCons (by repeat (first | with_reducible exact h59 | refine List.mem_cons_of_mem _ ?_)) (allCons (by k_mem) allNil)))))
end
section
open PySem PySem.W PyProof.Rows PySem.Calls PySem.NumText
noncomputable def spParts (K : Frag) : Option (Expr × Expr × Scope × Expr × Scope) := (fnParts K 165).bind fun q => (q.1[7]?).bind fun a => onAssign a fun v => onCall v fun l => (l[0]?).bind fun r => compOf q.2 r
theorem strD2 {n : Int} (h0 : 0 ≤ n) (h1 : n < 100) : Txt.slice (Str.ofString (toString (100 + n))) (some 1) none = sL (d2 n.toNat) := by
  have : ∀ k : Fin 100, Txt.slice (Str.ofString (toString (100 + ((k.val : Nat) : Int)))) (some 1) none = sL (d2 k.val) := by decide +kernel
  have := this ⟨n.toNat, by omega⟩
  simp only [Int.toNat_of_nonneg h0] at this
  exact this
set_option maxRecDepth 100000 in
set_option maxHeartbeats 8000000 in
set_option pp.deepTerms false in
set_option pp.maxSteps 3000 in
theorem evStamp (w : World) (p : Program) (loose : List Str) (mean : ExcName → Option Value) (mg mb : Str → Option Value) (dp un : Nat) (gd : Option (List Code)) (A₀ : Around) (base g : Heap) (L' fa : Addr) (cd : Value) (s : Shared) (Q E : Value → Shared → Prop) (lc elt it : Expr) (s2 scope : Scope) (C : Addr) (oC : Obj) (m m₂ : Str → Option Value) (n : Int) (tn : Tok) (led : List (Addr × Obj)) :
   spParts (K39 w.params) = some (lc, elt, s2, it, scope) → Fr g L' s.heap m → (K39 w.params).In g → News g L' s.heap ((C, oC) :: led) → Top p loose mean mg mb g → LCg.NsObj oC m₂ → m₂ (Str.ofString "part") = some (.int n tn) → 0 ≤ n → n < 100 → dp + 300 < recursionLimit → un + 900 < cLine →
   (∀ t' h' tk', Fr g L' h' m → News g L' h' ((C, oC) :: led) → Q (.str (sL (d2 n.toNat)) t') { s with heap := h', toks := tk' }) →
   wpAny (model rw9.row.prog w) (({ depth := dp, frames := some [], guards := gd, units := un } : Around).deeper (envOfC (Str.ofString "law") scope L' fa cd)) (eval elt (compEnvC s2 [] C (envOfC (Str.ofString "law") scope L' fa cd))) Q E s := by
  k_fill
  w_top off
  k_with_none
  (k_with "my omega" => (first | with_reducible assumption | (law_purse 30000 => lia) | omega +splitDisjunctions))
  (k_with "my mem" => (first | exact m9_0 | exact m9_1 | exact m9_2 | exact m9_3 | exact m9_4 | exact m9_5 | exact m9_6 | exact m9_7 | (refine' m9_s ?_; k_mem)))
  (k_with "my sub" => (first | exact allNil | exact allCons (by k_mem) (by lcg_sub) | (intro q9 hq9; repeat (first | with_reducible exact hq9 | refine List.mem_cons_of_mem _ ?_))))
  (k_with "my room" => ktr_room)
  (k_with "my units" => ktr_units)
  (k_with "my ne" => (refine neN ?_; (try dsimp only); first | exact NeH.out (by assumption) | exact Ne.symm (NeH.out (by assumption)) | omega))
  (k_with "my all" => (first | exact allNil | (refine' allCons ?_ ?_; focus k_ne; k_all)))
  (k_with "my exec Assign" => k_fold)
  (k_with "my exec Expr" => k_fold)
  (k_with "my exec If" => k_fold)
  (k_with "my exec AugAssign" => k_fold)
  (k_with "my eval BinOp" => k_fold)
  (k_with "my eval Compare" => k_fold)
  (k_with "my eval Subscript" => k_fold)
  (k_with "my eval Call" => k_fold)
  (k_with "my eval Call Attribute" => k_fold)
  (k_with "my eval IfExp" => k_fold)
  (k_with "my eval List" => k_fold)
  (k_with "my eval Tuple" => k_fold)
  intro hp F X N TT hC hx n0 n1 hdp hun hret
  cases hp
  dsimp only
  k_steps
  rw [strD2 n0 n1]
  exact hret _ _ _ (by assumption) (by assumption)
end
section
open PySem PySem.W PyProof.Rows PySem.Calls PySem.NumText

set_option maxRecDepth 100000 in
set_option maxHeartbeats 8000000 in
set_option pp.deepTerms false in
set_option pp.maxSteps 3000 in
theorem itClock (w : World) (p : Program) (loose : List Str) (mean : ExcName → Option Value) (mg mb : Str → Option Value) (dp un : Nat) (gd : Option (List Code)) (A₀ : Around) (base g : Heap) (L' fa : Addr) (cd : Value) (s : Shared) (E : Value → Shared → Prop) (lc elt it : Expr) (s2 scope : Scope) (o2 : Obj) (m : Str → Option Value) (lk : Addr) :
   spParts (K39 w.params) = some (lc, elt, s2, it, scope) → Fr g L' s.heap m → (K39 w.params).In g → News g L' s.heap [(L' + 1 + 1, o2)] → Top p loose mean mg mb g → o2.data = .cell (some (.ref lk)) →
   wpAny (model rw9.row.prog w) (({ depth := dp, frames := some [], guards := gd, units := un } : Around).deeper (envOfC (Str.ofString "law") scope L' fa cd)) (eval it (envOfC (Str.ofString "law") scope L' fa cd)) (fun v s₁ => v = .ref lk ∧ s₁ = s) E s := by
  k_fill
  w_top off
  k_with_none
  (k_with "my omega" => (first | with_reducible assumption | (law_purse 30000 => lia) | omega +splitDisjunctions))
  (k_with "my mem" => (first | exact m9_0 | exact m9_1 | exact m9_2 | exact m9_3 | exact m9_4 | exact m9_5 | exact m9_6 | exact m9_7 | (refine' m9_s ?_; k_mem)))
  (k_with "my sub" => (first | exact allNil | exact allCons (by k_mem) (by lcg_sub) | (intro q9 hq9; repeat (first | with_reducible exact hq9 | refine List.mem_cons_of_mem _ ?_))))
  (k_with "my room" => ktr_room)
  (k_with "my units" => ktr_units)
  (k_with "my ne" => (refine neN ?_; (try dsimp only); first | exact NeH.out (by assumption) | exact Ne.symm (NeH.out (by assumption)) | omega))
  (k_with "my all" => (first | exact allNil | (refine' allCons ?_ ?_; focus k_ne; k_all)))
  (k_with "my exec Assign" => k_fold)
  (k_with "my exec Expr" => k_fold)
  (k_with "my exec If" => k_fold)
  (k_with "my exec AugAssign" => k_fold)
  (k_with "my eval BinOp" => k_fold)
  (k_with "my eval Compare" => k_fold)
  (k_with "my eval Subscript" => k_fold)
  (k_with "my eval Call" => k_fold)
  (k_with "my eval Call Attribute" => k_fold)
  (k_with "my eval IfExp" => k_fold)
  (k_with "my eval List" => k_fold)
  (k_with "my eval Tuple" => k_fold)
  intro hp F X N TT d2
  cases hp
  dsimp only
  k_steps
noncomputable def D2P (a : Value) : Prop := ∃ n t, a = .int n t ∧ 0 ≤ n ∧ n < 100
noncomputable def D2R (a v : Value) : Prop := ∃ n t t', a = .int n t ∧ v = .str (sL (d2 n.toNat)) t'
theorem d2Pv {n : Int} {t : Tok} (h : 0 ≤ n) (h' : n < 100) : D2P (.int n t) := ⟨n, t, rfl, h, h'⟩
theorem d2Of {n : Int} {t : Tok} {v : Value} (h : D2R (.int n t) v) : ∃ t', v = .str (sL (d2 n.toNat)) t' := by
  obtain ⟨_, _, t', e, rfl⟩ := h
  cases e
  exact ⟨t', rfl⟩
set_option maxRecDepth 100000 in
set_option maxHeartbeats 8000000 in
set_option pp.deepTerms false in
set_option pp.maxSteps 3000 in
theorem stampC (w : World) (p : Program) (loose : List Str) (mean : ExcName → Option Value) (mg mb : Str → Option Value) (dp un : Nat) (gd : Option (List Code)) (A₀ : Around) (base g : Heap) (L' fa : Addr) (cd : Value) (s : Shared) (Q E : Value → Shared → Prop) (lc elt it : Expr) (s2 scope : Scope) (o2 : Obj) (m : Str → Option Value) (lk : Addr) (cnt : Nat) (hh mi sc : Int) (thh tmi tsc : Tok) (news : List (Addr × Obj)) :
   spParts (K39 w.params) = some (lc, elt, s2, it, scope) → Fr g L' s.heap m → (K39 w.params).In g → News g L' s.heap news → Top p loose mean mg mb g → o2.data = .cell (some (.ref lk)) → (L' + 1 + 1, o2) ∈ news → (lk, W.listOf #[.int hh thh, .int mi tmi, .int sc tsc] cnt) ∈ news → 0 ≤ hh → hh < 100 → 0 ≤ mi → mi < 100 → 0 ≤ sc → sc < 100 → dp + 300 < recursionLimit → un + 900 < cLine →
   (∀ D h' tk' t1 t2 t3, Fr g L' h' m → News g L' h' ((D, LCg.lst [.str (sL (d2 hh.toNat)) t1, .str (sL (d2 mi.toNat)) t2, .str (sL (d2 sc.toNat)) t3]) :: news) → LCg.Off1 D news → Q (.ref D) { s with heap := h', toks := tk' }) →
   wpAny (model rw9.row.prog w) (({ depth := dp, frames := some [], guards := gd, units := un } : Around).deeper (envOfC (Str.ofString "law") scope L' fa cd)) (eval lc (envOfC (Str.ofString "law") scope L' fa cd)) Q E s := by
  intro hp F X N TT d2' m2 mlk hh0 hh1 mi0 mi1 sc0 sc1 hdp hun hret
  have hp' := hp
  cases hp
  refine compKp D2R rfl F N mlk (by first | size_fits | exact Nat.le_of_ble_eq_true rfl) (cl := []) (by rfl) (by decide) (by rfl) (by decide) (by rfl) (itClock w p loose mean mg mb dp un gd A₀ base g L' fa cd s E _ _ _ _ _ o2 m lk hp' F X (newsOne N m2) TT d2') (fun a C oC m₂ h tk E' Q' ha hC hx F' led hs N' hq => ?_) (fun D ys h tk hy F' N' o1 => ?_)
  · have hn : D2P a := pickOf ha (allCons (d2Pv hh0 hh1) (allCons (d2Pv mi0 mi1) (allCons (d2Pv sc0 sc1) allNil)))
    obtain ⟨n, t, rfl, n0, n1⟩ := hn
    exact evStamp w p loose mean mg mb dp un gd A₀ base g L' fa cd _ Q' E' _ _ _ _ _ C oC m m₂ n t led hp' F' X N' TT hC hx n0 n1 hdp hun fun t' h' tk' F2 N2 => hq _ h' tk' ⟨n, t, t', rfl, rfl⟩ F2 N2
  · obtain ⟨v1, v2, v3, ey, h1, h2, h3⟩ := all2three hy
    subst ey
    obtain ⟨t1_, rfl⟩ := d2Of h1
    obtain ⟨t2_, rfl⟩ := d2Of h2
    obtain ⟨t3_, rfl⟩ := d2Of h3
    exact hret D h tk t1_ t2_ t3_ F' N' o1
end
section
open PySem PySem.W PyProof.Rows PySem.Calls PySem.NumText
theorem joinThree {prog : Program} {w : World} {A : Around} {E : Value → Shared → Prop} {s : Shared} {Q : Value → Shared → Prop} {D : Addr} {hh mi sc : Int} {t0 t1 t2 v : Tok} (hl : s.heap.get? D = some (LCg.lst [.str (sL (d2 hh.toNat)) t0, .str (sL (d2 mi.toNat)) t1, .str (sL (d2 sc.toNat)) t2]))
    (h : ∀ t' k, Q (.str (sL (w4L hh mi sc)) t') { s with toks := k }) : wpAny (model prog w) A (call (.builtin "str.join") [.str (Str.ofString ":") v, .ref D]) Q E s := by
  have h0 : (Str.ofString ":").length = 1 := by decide +kernel
  have e : (Str.ofString ":").cps.toList = [58] := by decide +kernel
  have l2 : ∀ n : Nat, (sL (d2 n)).length = 2 := fun _ => rfl
  refine join_list (items := #[.str (sL (d2 hh.toNat)) t0, .str (sL (d2 mi.toNat)) t1, .str (sL (d2 sc.toNat)) t2]) (ys := [sL (d2 hh.toNat), sL (d2 mi.toNat), sL (d2 sc.toNat)]) ⟨_, hl, rfl, _, rfl⟩ (by repeat constructor) (by simp only [List.map_cons, List.map_nil, List.sum_cons, List.sum_nil, List.length_cons, List.length_nil, h0, l2]; omega) fun t' k => ?_
  have q : Txt.join (Str.ofString ":") [sL (d2 hh.toNat), sL (d2 mi.toNat), sL (d2 sc.toNat)] = sL (w4L hh mi sc) := by
    apply str_ext
    simp [Txt.join, Builtin.Str.glued, e, sL, w4L]
  rw [q]
  exact h t' k
set_option maxRecDepth 100000 in
set_option maxHeartbeats 8000000 in
set_option pp.deepTerms false in
set_option pp.maxSteps 3000 in
theorem law8 (w : World) (p : Program) (loose : List Str) (mean : ExcName → Option Value) (mg mb : Str → Option Value) (dp un : Nat) (gd : Option (List Code)) (A₀ : Around) (base g : Heap) (L' fa : Addr) (cd : Value) (s : Shared) (Q : Flow → Shared → Prop) (E : Value → Shared → Prop) (body : List Stmt) (scope : Scope) (x dx st ds pa pb f c' D cL : Addr) (tw k1 k2 k3 k4 j1 j2 j3 j4 j5 u1 u3 tq : Tok) (oc oL o136 : Obj) (pm ctv : Value) (params : Arguments) (bodyL : Expr) (scopeL : Scope) (vsc : Array Value) (lc ll D1 D2 c1 c2 : Addr) (y hh mi sc e : Int) (tn ty tz te thh tmi tsc u2 v2 u1_ v1 tq1 tq2 : Tok) (r1 r2 : Int) (vs : List Value) (cnt cntc : Nat) (zone z1 z2 : Str) (o1 o2 o3 o4 o5 oc1 oc2 : Obj) (vs1 vs2 : Array Value) (mr : Str → Option Value) (rest : List (Addr × Obj)) :
   (fnParts (K39 w.params) 165).map (fun x => (x.1.drop 7, x.2)) = some (body, scope) → Below A₀ base [] g → Fr g L' s.heap (fun z => if z = Str.ofString "lines" then some (.ref ll) else mr z) → (K39 w.params).In g → News g L' s.heap ((D, W.listOf vs.toArray cnt) :: (dx, dictOf [{ hash := PyData.keyHash w.params (Str.ofString "lineno"), key := .str (Str.ofString "lineno") k1, val := .int 1 tn }, { hash := PyData.keyHash w.params (Str.ofString "instream"), key := .str (Str.ofString "instream") k2, val := .ref st }, { hash := PyData.keyHash w.params (Str.ofString "whitespace"), key := .str (Str.ofString "whitespace") k3, val := .str (Str.ofString "\n\t\r ") tw }, { hash := PyData.keyHash w.params (Str.ofString "pushback"), key := .str (Str.ofString "pushback") k4, val := .ref pb }] 4) :: (31, tabObj #[]) :: (L' + 1 + 1, o2) :: (lc, W.listOf #[.int hh thh, .int mi tmi, .int sc tsc] cntc) :: rest) → Top p loose mean mg mb g → (x, instObj 130 dx) ∈ rest → (st, instObj 130 ds) ∈ rest → (ds, dictOf [{ hash := PyData.keyHash w.params (Str.ofString "lineno"), key := .str (Str.ofString "lineno") j1, val := .int 1 u1 }, { hash := PyData.keyHash w.params (Str.ofString "instream"), key := .str (Str.ofString "instream") j2, val := .none }, { hash := PyData.keyHash w.params (Str.ofString "whitespace"), key := .str (Str.ofString "whitespace") j3, val := .str (Str.ofString "\n\t\r ") u3 }, { hash := PyData.keyHash w.params (Str.ofString "pushback"), key := .str (Str.ofString "pushback") j4, val := .ref pa }, { hash := PyData.keyHash w.params (Str.ofString "read"), key := .str (Str.ofString "read") j5, val := .ref f }] 5) ∈ rest → (f, kla_obj (Str.ofString "<lambda>") (Str.ofString "_law_stream.<locals>.<lambda>") params bodyL scopeL [(Str.ofString "left", cL)] pm c' ctv) ∈ rest → (c', oc) ∈ rest → (cL, oL) ∈ rest → (136, o136) ∈ rest → (pb, W.listOf (#[] : Array Value) 0) ∈ rest → (L' + 1 + 1 + 1 + 1 + 1, o5) ∈ rest → (L' + 1, o1) ∈ rest → (L' + 1 + 1 + 1, o3) ∈ rest → (ll, LCg.lst [.ref D1, .ref D2]) ∈ rest → (D2, W.listOf #[.str z2 u2, .int r2 v2] 0) ∈ rest → (D1, W.listOf #[.str z1 u1_, .int r1 v1] 0) ∈ rest → (66, tabObj #[rawInt 104, rawInt 4, .ref c2]) ∈ rest → (c2, oc2) ∈ rest → (59, tabObj #[rawInt 89, rawInt 4, .ref c1]) ∈ rest → (c1, oc1) ∈ rest → (L' + 1 + 1 + 1 + 1, o4) ∈ rest → 3761 ≤ y → y ≤ 8760 → hh < 100 → mi < 100 → sc < 100 → 1 ≤ e → (∀ c ∈ zone.cps.toList, c < 128 ∧ plainC c = true) → 1 ≤ zone.length → zone.length ≤ 10 → z1 = lineS y hh mi sc zone → r1 = lineR y → z2 = lineS (y + 1) hh mi sc zone → r2 = lineR (y + 1) → e ≤ 4 → 0 ≤ hh → 0 ≤ mi → 0 ≤ sc → o2.data = .cell (some (.ref lc)) → o4.data = .cell (some (.int e te)) → o1.data = .cell (some (.int y ty)) → o3.data = .cell (some (.str zone tz)) → o5.data = .cell (some (.ref x)) → oc1.data = .fields vs1 → vs1[1]? = some (.str "_int2digits.<locals>.inner" tq1) → oc2.data = .fields vs2 → vs2[1]? = some (.str "_digits2int.<locals>.inner" tq2) → lamParts (K39 w.params) 141 1 = some (params, bodyL, scopeL) → oc.data = .fields vsc → vsc[1]? = some (.str (Str.ofString "_law_stream.<locals>.<lambda>") tq) → oL.data = .cell (some (.ref D)) → LT.lt (α := Nat) 136 D → LT.lt (α := Nat) D cL → LT.lt (α := Nat) cL st → LT.lt (α := Nat) cL ds → LT.lt (α := Nat) st c' → LT.lt (α := Nat) ds c' → LT.lt (α := Nat) c' f → LT.lt (α := Nat) f x → LT.lt (α := Nat) f dx → LT.lt (α := Nat) dx x → LT.lt (α := Nat) x pb → NeH st ds → CodeHd base 140 136 → NeH 31 D → NeH 31 dx → ((∀ p ∈ rest, Ne (α := Nat) p.1 D ∧ Ne (α := Nat) p.1 dx) ∧ (∀ p ∈ rest, Ne (α := Nat) p.1 31)) → CodeHd base 70 66 → CodeHd base 63 59 → CodeHd base 35 31 → (∃ q136 : Array Value, o136 = tabObj q136) → PassesOwn (model rw9.row.prog w) (({ depth := dp, frames := some [], guards := gd, units := un } : Around).deeper (envOfC (Str.ofString "law") scope L' fa cd)) (envOfC (Str.ofString "law") scope L' fa cd) E → Chs vs (z1 ++ sL (List.replicate e.toNat 10) ++ (z2 ++ sL (List.replicate e.toNat 10))).cps.toList → vs.length ≤ 1000 → dp + 300 < recursionLimit → un + 900 < cLine →
   (∀ h' tk' dr' m' q1_ q2_ q3_ q4_, Fr g L' h' m' → News g L' h' [(136, tabObj q1_), (66, tabObj q2_), (59, tabObj q3_), (31, tabObj q4_)] → Q (.ret (.bool true)) { s with heap := h', toks := tk', drawn := dr' }) →
   wpAny (model rw9.row.prog w) (({ depth := dp, frames := some [], guards := gd, units := un } : Around).deeper (envOfC (Str.ofString "law") scope L' fa cd)) (execs body (envOfC (Str.ofString "law") scope L' fa cd)) Q E s := by
  k_fill
  w_top off
  k_with_none
  (k_with "my omega" => (first | with_reducible assumption | (law_purse 30000 => lia) | omega +splitDisjunctions))
  (k_with "my mem" => (first | exact m9_0 | exact m9_1 | exact m9_2 | exact m9_3 | exact m9_4 | exact m9_5 | exact m9_6 | exact m9_7 | (refine' m9_s ?_; k_mem)))
  (k_with "my sub" => (first | exact allNil | exact allCons (by k_mem) (by lcg_sub) | (intro q9 hq9; repeat (first | with_reducible exact hq9 | refine List.mem_cons_of_mem _ ?_))))
  (k_with "my room" => ktr_room)
  (k_with "my units" => ktr_units)
  (k_with "my ne" => (refine neN ?_; (try dsimp only); first | exact NeH.out (by assumption) | exact Ne.symm (NeH.out (by assumption)) | omega))
  (k_with "my all" => (first | exact allNil | (refine' allCons ?_ ?_; focus k_ne; k_all)))
  (k_with "my exec Assign" => k_fold)
  (k_with "my exec Expr" => k_fold)
  (k_with "my exec If" => k_fold)
  (k_with "my exec AugAssign" => k_fold)
  (k_with "my eval BinOp" => k_fold)
  (k_with "my eval Compare" => k_fold)
  (k_with "my eval Subscript" => k_fold)
  (k_with "my eval Call" => k_fold)
  (k_with "my eval Call Attribute" => k_fold)
  (k_with "my eval IfExp" => k_fold)
  (k_with "my eval List" => k_fold)
  (k_with "my eval Tuple" => k_fold)
  intro hp B F X N TT hx hst hds hf hcc hcL h136 hpb h5 h1m h3m hll hD2m hD1m h66 hc2 h59 hc1 h4m y0 y1 hh1 mi1 sc1 e0 zok zl0 zl1 hz1 hr1 hz2 hr2 e1 hh0 mi0 sc0 d2_ d4 d1 d3 d5 hv1 hq1 hv2 hq2 hlam hoc hvs hL lo0 lo1 lo2 lo3 lo4 lo5 lo6 lo7 lo8 lo9 lo10 lne hch nD31 nx31 hoffs ch2 ch3 ch4 ht136 hE hc hsz hdp hun hret
  cases hp
  (k_with "my eval ListComp" => (k_here; k_dflt ((refine stampC w p loose mean mg mb dp un gd A₀ base _ _ _ _ _ _ _ _ _ _ _ _ _ _ _ _ _ _ _ _ _ _ _ (by rfl) (by k_asm) (by k_asm) (by k_asm) (by k_asm) d2_ (by k_mem) (by k_mem) hh0 hh1 mi0 mi1 sc0 sc1 hdp hun ?_); intro D8 h8 tk8 t81 t82 t83 F8 N8 of8; clear of8; (try dsimp only))))
  (k_with "my call builtin:str.join" => (k_here; k_dflt (refine joinThree (newsGet (by k_asm) (by k_mem)) ?_); intro t6 k6))
  (k_with "my execs cons" => ((have hmm := t6); refine stopHere ?_))
  dsimp only
  k_steps
  unfold Stopped
  exact law9 w p loose mean mg mb dp un gd A₀ base g L' fa cd _ Q E _ _ x dx st ds pa pb f c' D cL tw k1 k2 k3 k4 j1 j2 j3 j4 j5 u1 u3 tq oc oL o136 pm ctv params bodyL scopeL vsc ll D1 D2 c1 c2 y hh mi sc e tn ty tz te _ u2 v2 u1_ v1 tq1 tq2 r1 r2 vs cnt zone _ z1 z2 o1 o3 o4 o5 oc1 oc2 vs1 vs2 _ rest rfl B (frName (frName (by k_asm) (by rfl)) (by rfl)) X (newsSub (by k_asm) (by lcg_sub)) TT hx hst hds hf hcc hcL h136 hpb h5 h1m h3m hll hD2m hD1m h66 hc2 h59 hc1 h4m y0 y1 hh1 mi1 sc1 e0 zok zl0 zl1 hz1 hr1 hz2 hr2 e1 rfl d4 d1 d3 d5 hv1 hq1 hv2 hq2 hlam hoc hvs hL lo0 lo1 lo2 lo3 lo4 lo5 lo6 lo7 lo8 lo9 lo10 lne hch nD31 nx31 hoffs.1 hoffs.2 ch2 ch3 ch4 ht136 hE hc hsz hdp hun hret
end
section
open PySem PySem.W PyProof.Rows PySem.Calls PySem.NumText
theorem lineLen {y hh mi sc : Int} {zone : Str} (y0 : 3761 ≤ y) (y1 : y ≤ 8761) (zl : zone.length ≤ 10) : (lineS y hh mi sc zone).length ≤ 60 := by
  obtain ⟨_, _, _, hm, hd⟩ := plainLaw y0 y1
  have zn : zone.cps.toList.length = zone.length := Array.length_toList
  have e : (lineS y hh mi sc zone).cps.toList = w0L y ++ 32 :: (w1L y ++ 32 :: (w2L y ++ 32 :: (w3L y ++ 32 :: (w4L hh mi sc ++ 32 :: zone.cps.toList)))) := by
    simp [lineS, fmtLine, fmtL, sL, w0L, w1L, w2L, w3L, w4L]
  have e1 : (lineS y hh mi sc zone).length = (lineS y hh mi sc zone).cps.toList.length := Array.length_toList.symm
  have a1 : (w1L y).length = 2 := rfl
  have a3 : (w3L y).length = 4 := rfl
  have a4 : (w4L hh mi sc).length = 8 := rfl
  have a0 := w0N y
  have a2 := (w2P hm).2
  rw [e1, e]
  simp only [List.length_append, List.length_cons]
  omega
theorem chs1000 {vs : List Value} {z : Str} (h : Chs vs z.cps.toList) (hz : z.length ≤ 1000) : vs.length ≤ 1000 := by
  rw [chsLen h, Array.length_toList]; exact hz
theorem restNe {r : List (Addr × Obj)} {c X : Nat} (h : ∀ p ∈ r, LT.lt (α := Nat) p.1 c) (hX : LT.lt (α := Nat) c X) : ∀ p ∈ r, Ne (α := Nat) p.1 X := fun p hp => Nat.ne_of_lt (Nat.lt_trans (h p hp) hX)
theorem hide9 {P : Prop} {h₀ h : Heap} {L : Addr} {f c d s l q : Addr × Obj} {led : List (Addr × Obj)} (N : News h₀ L h (f :: c :: d :: s :: l :: q :: led)) (hc : LT.lt (α := Nat) c.1 f.1) (hd : LT.lt (α := Nat) d.1 c.1) (hs : LT.lt (α := Nat) s.1 c.1) (hl : LT.lt (α := Nat) l.1 s.1) (hl' : LT.lt (α := Nat) l.1 d.1) (hq : LT.lt (α := Nat) q.1 l.1) (hled : ∀ p ∈ led, LT.lt (α := Nat) p.1 l.1) (h5 : ∀ p ∈ led, Ne (α := Nat) p.1 q.1)
    (k : ∀ r, r = c :: d :: s :: l :: led → (∀ p ∈ r, LT.lt (α := Nat) p.1 f.1) → (∀ p ∈ r, Ne (α := Nat) p.1 q.1) → News h₀ L h (q :: f :: r) → P) : P := by
  have s1 := Nat.lt_trans hs hc
  have l1 := Nat.lt_trans hl s1
  have q1 := Nat.lt_trans hq hl
  refine k _ rfl (allCons hc (allCons (Nat.lt_trans hd hc) (allCons s1 (allCons l1 fun p hp => Nat.lt_trans (hled p hp) l1)))) (allCons (Nat.ne_of_gt (Nat.lt_trans q1 hs)) (allCons (Nat.ne_of_gt (Nat.lt_trans hq hl')) (allCons (Nat.ne_of_gt q1) (allCons (Nat.ne_of_gt hq) h5)))) ?_
  refine newsCons N (.tail _ (.tail _ (.tail _ (.tail _ (.tail _ (.head _)))))) (newsCons N (.head _) (newsSub N fun p hp => .tail _ ?_))
  rcases List.mem_cons.mp hp with rfl | hp
  · exact .head _
  rcases List.mem_cons.mp hp with rfl | hp
  · exact .tail _ (.head _)
  rcases List.mem_cons.mp hp with rfl | hp
  · exact .tail _ (.tail _ (.head _))
  rcases List.mem_cons.mp hp with rfl | hp
  · exact .tail _ (.tail _ (.tail _ (.head _)))
  · exact .tail _ (.tail _ (.tail _ (.tail _ (.tail _ hp))))
set_option maxRecDepth 100000 in
set_option maxHeartbeats 8000000 in
set_option pp.deepTerms false in
set_option pp.maxSteps 3000 in
theorem law3r (w : World) (p : Program) (loose : List Str) (mean : ExcName → Option Value) (mg mb : Str → Option Value) (dp un : Nat) (gd : Option (List Code)) (A₀ : Around) (base g : Heap) (L' fa : Addr) (cd : Value) (s : Shared) (Q : Flow → Shared → Prop) (E : Value → Shared → Prop) (body : List Stmt) (scope : Scope) (a lc ll D1 D2 c1 c2 : Addr) (T y hh mi sc e r1 r2 : Int) (tT ty thh tmi tsc tz te u1 v1 u2 v2 : Tok) (cnt : Nat) (zone z1 z2 : Str) (o1 o2 o3 o4 o5 oc1 oc2 : Obj) (vs1 vs2 : Array Value) (tq1 tq2 : Tok) (rest : List (Addr × Obj)) :
   (fnParts (K39 w.params) 165).map (fun x => (x.1.drop 6, x.2)) = some (body, scope) → Below A₀ base [] g → Fr g L' s.heap (fun z => if z = Str.ofString "lines" then some (.ref ll) else if z = Str.ofString "total" then some (.int T tT) else List.lookup z [(Str.ofString "script", .ref a)]) → (K39 w.params).In g → News g L' s.heap ((ll, LCg.lst [.ref D1, .ref D2]) :: (D2, W.listOf #[.str z2 u2, .int r2 v2] 0) :: (D1, W.listOf #[.str z1 u1, .int r1 v1] 0) :: (L' + 1 + 1 + 1 + 1, o4) :: (L' + 1 + 1 + 1 + 1 + 1, o5) :: (136, tabObj #[]) :: rest) → Top p loose mean mg mb g → (c1, oc1) ∈ rest → (c2, oc2) ∈ rest → (lc, W.listOf #[.int hh thh, .int mi tmi, .int sc tsc] cnt) ∈ rest → (L' + 1 + 1 + 1, o3) ∈ rest → (L' + 1 + 1, o2) ∈ rest → (L' + 1, o1) ∈ rest → (66, tabObj #[rawInt 104, rawInt 4, .ref c2]) ∈ rest → (59, tabObj #[rawInt 89, rawInt 4, .ref c1]) ∈ rest → (31, tabObj #[]) ∈ rest → (∀ p ∈ rest, Ne (α := Nat) p.1 136) → (∀ p ∈ rest, Ne (α := Nat) p.1 (L' + 1 + 1 + 1 + 1 + 1)) → 3761 ≤ y → y ≤ 8760 → 0 ≤ hh → hh < 100 → 0 ≤ mi → mi < 100 → 0 ≤ sc → sc < 100 → 1 ≤ e → e ≤ 4 → (∀ c ∈ zone.cps.toList, c < 128 ∧ plainC c = true) → 1 ≤ zone.length → zone.length ≤ 10 → z1 = lineS y hh mi sc zone → r1 = lineR y → z2 = lineS (y + 1) hh mi sc zone → r2 = lineR (y + 1) → o1.data = .cell (some (.int y ty)) → o2.data = .cell (some (.ref lc)) → o3.data = .cell (some (.str zone tz)) → o4.data = .cell (some (.int e te)) → o5.data = .cell none → LT.lt (α := Nat) 136 L' → LT.lt (α := Nat) (L' + 5) lc → LT.lt (α := Nat) lc D1 → LT.lt (α := Nat) D1 D2 → LT.lt (α := Nat) (L' + 5) c1 → LT.lt (α := Nat) (L' + 5) c2 → NeH ll (L' + 1 + 1 + 1 + 1 + 1) → NeH ll 31 → NeH ll 136 → CodeHd base 140 136 → CodeHd base 70 66 → CodeHd base 63 59 → CodeHd base 35 31 → oc1.data = .fields vs1 → vs1[1]? = some (.str "_int2digits.<locals>.inner" tq1) → oc2.data = .fields vs2 → vs2[1]? = some (.str "_digits2int.<locals>.inner" tq2) → PassesOwn (model rw9.row.prog w) (({ depth := dp, frames := some [], guards := gd, units := un } : Around).deeper (envOfC (Str.ofString "law") scope L' fa cd)) (envOfC (Str.ofString "law") scope L' fa cd) E → dp + 300 < recursionLimit → un + 900 < cLine →
   (∀ h' tk' dr' m' q1_ q2_ q3_ q4_, Fr g L' h' m' → News g L' h' [(136, tabObj q1_), (66, tabObj q2_), (59, tabObj q3_), (31, tabObj q4_)] → Q (.ret (.bool true)) { s with heap := h', toks := tk', drawn := dr' }) →
   wpAny (model rw9.row.prog w) (({ depth := dp, frames := some [], guards := gd, units := un } : Around).deeper (envOfC (Str.ofString "law") scope L' fa cd)) (execs body (envOfC (Str.ofString "law") scope L' fa cd)) Q E s := by
  k_fill
  w_top off
  k_with_none
  (k_with "my omega" => (first | with_reducible assumption | (law_purse 30000 => lia) | omega +splitDisjunctions))
  (k_with "my mem" => (first | exact m9_0 | exact m9_1 | exact m9_2 | exact m9_3 | exact m9_4 | exact m9_5 | exact m9_6 | exact m9_7 | (refine' m9_s ?_; k_mem)))
  (k_with "my sub" => (first | exact allNil | exact allCons (by k_mem) (by lcg_sub) | (intro q9 hq9; repeat (first | with_reducible exact hq9 | refine List.mem_cons_of_mem _ ?_))))
  (k_with "my room" => ktr_room)
  (k_with "my units" => ktr_units)
  (k_with "my ne" => (refine neN ?_; (try dsimp only); first | exact NeH.out (by assumption) | exact Ne.symm (NeH.out (by assumption)) | omega))
  (k_with "my all" => (first | exact allNil | (refine' allCons ?_ ?_; focus k_ne; k_all)))
  (k_with "my exec Assign" => k_fold)
  (k_with "my exec Expr" => k_fold)
  (k_with "my exec If" => k_fold)
  (k_with "my exec AugAssign" => k_fold)
  (k_with "my eval BinOp" => k_fold)
  (k_with "my eval Compare" => k_fold)
  (k_with "my eval Subscript" => k_fold)
  (k_with "my eval Call" => k_fold)
  (k_with "my eval Call Attribute" => k_fold)
  (k_with "my eval IfExp" => k_fold)
  (k_with "my eval List" => k_fold)
  (k_with "my eval Tuple" => k_fold)
  (k_with "my all" => first | assumption | exact restNe (by assumption) (by omega))
  intro hp B F X N TT hc1 hc2 hlcm h3m h2m h1m h66 h59 h31 hR136 hR5 y0 y1 hh0 hh1 mi0 mi1 sc0 sc1 e0 e1 zok zln0 zln1 hz1 hr1 hz2 hr2 d1 d2 d3 d4 d5 hL6 q1 q2 q3 q4 q5 n1 n2 n3 ch1 ch2 ch3 ch4 hv1 hq1 hv2 hq2 hE hdp hun hret
  cases hp
  have zl1 : z1.length ≤ 60 := hz1 ▸ lineLen y0 (by first | with_reducible assumption | omega) zln1
  have zl2 : z2.length ≤ 60 := hz2 ▸ lineLen (by first | with_reducible assumption | omega) (by first | with_reducible assumption | omega) zln1
  (k_with "my call ref" => (k_here; k_dflt (refine' stream _ _ _ _ _ _ _ _ _ _ _ _ _ _ _ _ _ _ _ _ _ _ _ _ _ _ (by k_asm) (by k_asm) (by k_asm) (newsCons (by k_asm) (by k_mem) (newsCons (by k_asm) (by k_mem) newsNil)) (by k_asm) rfl (by assumption) (by first | with_reducible assumption | omega) (by ktr_room) (by ktr_units) ?_; intro st9 ds9 pa9 f9 c9 cL9 oc9 oL9 pm9 ctv9 params9 body9 scope9 vsc9 tq9 j91 j92 j93 j94 j95 u91 u93 h9 tk9 kb9 g136 lam9 gst gds gf gc dc9 vc9 gcl dcl sz9 lo1 lo2 lo3 lo4 lo5 ne9; (try dsimp only at sz9 kb9); (obtain l9 := newsLt N6 sz9); (obtain o9 : LT.lt (α := Nat) D6 cL9 := l9 _ (.tail _ (.head _))); (obtain N9 := newsAdd F6 (newsAdd F6 (newsAdd F6 (newsAdd F6 (newsAdd F6 (kbUpd1 N6 (by k_upd) kb9 g136) gcl (noneGe sz9)) gst (noneGe (Nat.le_trans sz9 (Nat.le_of_lt lo1)))) gds (noneGe (Nat.le_trans sz9 (Nat.le_of_lt lo2)))) gc (noneGe (Nat.le_trans sz9 (Nat.le_of_lt (Nat.lt_trans lo1 lo3))))) gf (noneGe (Nat.le_trans sz9 (Nat.le_of_lt (Nat.lt_trans lo1 (Nat.lt_trans lo3 lo5)))))); (obtain F9 := kbFr (P := 136) F6 N6 (by k_mem) kb9); (refine hide9 N9 lo5 lo4 lo3 lo1 lo2 (l9 _ (.head _)) (allCons o9 (allCons (l9 (136, tabObj #[]) (.tail _ (.tail _ (.head _)))) (fun q hq => l9 q (.tail _ (.tail _ (.tail _ hq)))))) (by k_all) fun r9 hr9 hR9 hR59 N9b => ?_); (try dsimp only at hR9 hR59); clear N9 N6 F6 kb9 gst gds gf gc gcl g136 l9 sz9; (try dsimp only))))
  (k_with "my execs cons" => ((have hmm : ∃ z : Addr, z = st9 := ⟨_, rfl⟩); (with_reducible show wpAny _ _ (execs _ (envOfC _ _ _ _ _)) _ _ _); refine stopHere ?_))
  (k_with "my eval ListComp" => (k_here; k_dflt (refine pairTwo (ll := ll) (D1 := D1) (D2 := D2) (a1 := .str z1 u1) (b1 := .int r1 v1) (a2 := .str z2 u2) (b2 := .int r2 v2) (fun v => match v with | .str z _ => z ++ sL (List.replicate e.toNat 10) | _ => z1) rfl (by k_asm) (by k_asm) (by k_mem) (by k_mem) (by k_mem) (by rfl) (by decide) (by rfl) (by decide) (by rfl) (by rfl) (by decide) ?ph ?pe ?pd; (case ph => exact ld (name := Str.ofString "law") (a := fa) (cd := cd) (by k_asm) rfl ⟨rfl, rfl⟩); (case pe => (intro a5 C5 oC5 m5 h5 k5 E5 Q5 ha5 hC5 hx5 F5 N5 hq5; rcases ha5 with rfl | rfl <;> exact evLine w _ _ _ _ _ dp un gd g L' fa cd _ _ _ _ _ _ _ _ _ _ _ _ _ _ _ rfl F5 (by k_asm) (newsCons N5 (.head _) (newsCons N5 (by k_mem) newsNil)) (by k_asm) hC5 hx5 d4 e0 e1 (by first | with_reducible assumption | omega) hq5)); intro D5 h5 k5 t51 t52 F5 N5 s5; dsimp only at N5; (try dsimp only))))
  (k_with "my call builtin:str.join" => (k_here; k_dflt (refine joinTwo (newsGet (by k_asm) (by k_mem)) (lenE e0 e1 zl1) (lenE e0 e1 zl2) ?_); intro t6 k6))
  (k_with "my call type:list" => (k_here; k_dflt ((refine listChsD rfl (lenE2 e0 e1 zl1 zl2) ?_); intro D6 h6 k6 vs6 cnt6 kp6 g6 s6 ch6; (obtain l6 := newsLt (by k_asm) s6); (obtain hR6 : ∀ q ∈ rest, LT.lt (α := Nat) q.1 D6 := fun q hq => l6 q (by repeat (first | with_reducible exact hq | refine List.mem_cons_of_mem _ ?_))); (obtain o6 : LT.lt (α := Nat) ll D6 ∧ LT.lt (α := Nat) D2 D6 ∧ LT.lt (α := Nat) D1 D6 ∧ LT.lt (α := Nat) (L' + 1 + 1 + 1 + 1 + 1) D6 ∧ LT.lt (α := Nat) 136 D6 := ⟨l6 (ll, LCg.lst [.ref D1, .ref D2]) (by k_mem), l6 (D2, W.listOf #[.str z2 u2, .int r2 v2] 0) (by k_mem), l6 (D1, W.listOf #[.str z1 u1, .int r1 v1] 0) (by k_mem), l6 (L' + 1 + 1 + 1 + 1 + 1, o5) (by k_mem), l6 (136, tabObj #[]) (by k_mem)⟩); (obtain F6 := kpFr (by k_asm) kp6); (obtain N6a := kpNew (by k_asm) (by k_asm) kp6 g6 s6); (obtain N6 := newsSub (news' := (L' + 1 + 1 + 1 + 1 + 1, o5) :: (D6, W.listOf vs6.toArray cnt6) :: (136, tabObj #[]) :: (ll, LCg.lst [.ref D1, .ref D2]) :: (D2, W.listOf #[.str z2 u2, .int r2 v2] 0) :: (D1, W.listOf #[.str z1 u1, .int r1 v1] 0) :: (L' + 1 + 1 + 1 + 1, o4) :: rest) N6a (by lcg_sub)); clear N6a l6 kp6 g6 s6; (try dsimp only))))
  dsimp only
  k_steps
  unfold Stopped
  subst hr9
  refine viaN (h₀ := g) (L := L') (by assumption) fun Nf => ?_
  have Nr : News g L' _ rest := newsSub Nf (by intro q9 hq9; repeat (first | with_reducible exact hq9 | refine List.mem_cons_of_mem _ ?_))
  exact law8 w p loose mean mg mb dp un gd A₀ base g L' fa cd _ Q E _ _ _ _ st9 ds9 pa9 _ f9 c9 D6 cL9 _ _ _ _ _ j91 j92 j93 j94 j95 u91 u93 tq9 oc9 oL9 _ pm9 ctv9 params9 body9 scope9 vsc9 lc ll D1 D2 c1 c2 y hh mi sc e _ ty tz te thh tmi tsc u2 v2 u1 v1 tq1 tq2 r1 r2 vs6 cnt6 cnt zone z1 z2 o1 o2 o3 o4 _ oc1 oc2 vs1 vs2 _ [(_, _), (st9, _), (ds9, _), (f9, _), (c9, _), (cL9, _), (136, _), (_, _), (L' + 1 + 1 + 1 + 1 + 1, _), (L' + 1 + 1 + 1 + 1, _), (L' + 1 + 1 + 1, _), (L' + 1, _), (ll, _), (D2, _), (D1, _), (66, _), (c2, _), (59, _), (c1, _)] rfl B (frName (by k_asm) (by rfl)) X (newsCons Nf (by k_mem) (newsCons Nf (by k_mem) (newsCons Nr h31 (newsCons Nr h2m (newsCons Nr hlcm (newsCons Nf (by k_mem) (newsCons Nf (by k_mem) (newsCons Nf (by k_mem) (newsCons Nf (by k_mem) (newsCons Nf (by k_mem) (newsCons Nf (by k_mem) (newsCons Nf (by k_mem) (newsCons Nf (by k_mem) (newsCons Nf (by k_mem) (newsCons Nf (by k_mem) (newsCons Nr h3m (newsCons Nr h1m (newsCons Nf (by k_mem) (newsCons Nf (by k_mem) (newsCons Nf (by k_mem) (newsCons Nr h66 (newsCons Nr hc2 (newsCons Nr h59 (newsCons Nr hc1 newsNil)))))))))))))))))))))))) TT m9_0 m9_1 m9_2 m9_3 m9_4 m9_5 m9_6 m9_7 (m9_s m9_0) (m9_s m9_3) (m9_s m9_2) (m9_s m9_4) (m9_s m9_5) (m9_s m9_6) (m9_s m9_7) (m9_s (m9_s m9_0)) (m9_s (m9_s m9_1)) (m9_s (m9_s m9_2)) (m9_s m9_1) y0 y1 hh1 mi1 sc1 e0 zok zln0 zln1 hz1 hr1 hz2 hr2 e1 hh0 mi0 sc0 d2 d4 d1 d3 (by assumption) hv1 hq1 hv2 hq2 lam9 dc9 vc9 dcl o6.2.2.2.2 o9 lo1 lo2 lo3 lo4 lo5 (by first | with_reducible assumption | omega) (by first | with_reducible assumption | omega) (by first | with_reducible assumption | omega) (by first | with_reducible assumption | omega) (fun (q : Eq (α := Nat) st9 ds9) => by omega) ch1 (by exact Nat.ne_of_lt (Nat.lt_trans (show LT.lt (α := Nat) 31 136 by decide) o6.2.2.2.2)) (fun (q : Eq (α := Nat) 31 _) => by omega) (offsL o6.2.2.2.2 o9 lo1 lo2 lo3 lo4 lo5 (by first | with_reducible assumption | omega) (by first | with_reducible assumption | omega) (by first | with_reducible assumption | omega) (by first | with_reducible assumption | omega) (fun (q : Eq (α := Nat) st9 ds9) => by omega) hL6 q4 q5 (by first | with_reducible assumption | omega) (by first | with_reducible assumption | omega) o6.1 o6.2.2.1 o6.2.1 (hR6 _ hc1) (hR6 _ hc2) n2) ch2 ch3 ch4 (by exact ⟨_, rfl⟩) hE ch6 (chs1000 ch6 (lenE2 e0 e1 zl1 zl2)) hdp hun hret
end
section
open PySem PySem.W PyProof.Rows PySem.Calls PySem.NumText
set_option maxRecDepth 100000 in
set_option maxHeartbeats 2000000 in
set_option pp.deepTerms false in
set_option pp.maxSteps 3000 in
theorem law2 (w : World) (p : Program) (loose : List Str) (mean : ExcName → Option Value) (mg mb : Str → Option Value) (dp un : Nat) (gd : Option (List Code)) (A₀ : Around) (base g : Heap) (L' fa : Addr) (cd : Value) (s : Shared) (Q : Flow → Shared → Prop) (E : Value → Shared → Prop) (body : List Stmt) (scope : Scope) (a lc : Addr) (T y hh mi sc e : Int) (tT ty thh tmi tsc tz te : Tok) (cnt : Nat) (zone : Str) (o1 o2 o3 o4 o5 : Obj) :
   (fnParts (K39 w.params) 165).map (fun x => (x.1.drop 5, x.2)) = some (body, scope) → Below A₀ base [] g → Fr g L' s.heap (fun y => if y = Str.ofString "total" then some (.int T tT) else List.lookup y [(Str.ofString "script", .ref a)]) → (K39 w.params).In g → News g L' s.heap [(lc, W.listOf #[.int hh thh, .int mi tmi, .int sc tsc] cnt), (L' + 1 + 1 + 1 + 1 + 1, o5), (L' + 1 + 1 + 1 + 1, o4), (L' + 1 + 1 + 1, o3), (L' + 1 + 1, o2), (L' + 1, o1), (136, tabObj #[]), (66, tabObj #[]), (59, tabObj #[]), (31, tabObj #[])] → Top p loose mean mg mb g →
   3761 ≤ y → y ≤ 8760 → 0 ≤ hh → hh < 100 → 0 ≤ mi → mi < 100 → 0 ≤ sc → sc < 100 → 1 ≤ e → e ≤ 4 → (∀ c ∈ zone.cps.toList, c < 128 ∧ plainC c = true) → 1 ≤ zone.length → zone.length ≤ 10 → o1.data = .cell (some (.int y ty)) → o2.data = .cell (some (.ref lc)) → o3.data = .cell (some (.str zone tz)) → o4.data = .cell (some (.int e te)) → o5.data = .cell none → LT.lt (α := Nat) 136 L' → LT.lt (α := Nat) (L' + 5) lc → CodeHd base 140 136 → CodeHd base 70 66 → CodeHd base 63 59 → CodeHd base 35 31 → PassesOwn (model rw9.row.prog w) (({ depth := dp, frames := some [], guards := gd, units := un } : Around).deeper (envOfC (Str.ofString "law") scope L' fa cd)) (envOfC (Str.ofString "law") scope L' fa cd) E → dp + 300 < recursionLimit → un + 900 < cLine →
   (∀ h' tk' dr' m' q1_ q2_ q3_ q4_, Fr g L' h' m' → News g L' h' [(136, tabObj q1_), (66, tabObj q2_), (59, tabObj q3_), (31, tabObj q4_)] → Q (.ret (.bool true)) { s with heap := h', toks := tk', drawn := dr' }) →
   wpAny (model rw9.row.prog w) (({ depth := dp, frames := some [], guards := gd, units := un } : Around).deeper (envOfC (Str.ofString "law") scope L' fa cd)) (execs body (envOfC (Str.ofString "law") scope L' fa cd)) Q E s := by
  k_fill
  w_top off
  k_with_none
  (k_with "my omega" => (first | with_reducible assumption | (law_purse 30000 => lia) | omega +splitDisjunctions))
  (k_with "my mem" => (first | exact m9_0 | exact m9_1 | exact m9_2 | exact m9_3 | exact m9_4 | exact m9_5 | exact m9_6 | exact m9_7 | (refine' m9_s ?_; k_mem)))
  (k_with "my sub" => (first | exact allNil | exact allCons (by k_mem) (by lcg_sub) | (intro q9 hq9; repeat (first | with_reducible exact hq9 | refine List.mem_cons_of_mem _ ?_))))
  (k_with "my room" => ktr_room)
  (k_with "my units" => ktr_units)
  (k_with "my ne" => (refine neN ?_; (try dsimp only); first | exact NeH.out (by assumption) | exact Ne.symm (NeH.out (by assumption)) | omega))
  (k_with "my all" => (first | exact allNil | (refine' allCons ?_ ?_; focus k_ne; k_all)))
  (k_with "my exec Assign" => k_fold)
  (k_with "my exec Expr" => k_fold)
  (k_with "my exec If" => k_fold)
  (k_with "my exec AugAssign" => k_fold)
  (k_with "my eval BinOp" => k_fold)
  (k_with "my eval Compare" => k_fold)
  (k_with "my eval Subscript" => k_fold)
  (k_with "my eval Call" => k_fold)
  (k_with "my eval Call Attribute" => k_fold)
  (k_with "my eval IfExp" => k_fold)
  (k_with "my eval List" => k_fold)
  (k_with "my eval Tuple" => k_fold)
  intro hp B F X N TT y0 y1 hh0 hh1 mi0 mi1 sc0 sc1 e0 e1 zok zln0 zl d1 d2 d3 d4 d5 hL6 hlc ch1 ch2 ch3 ch4 hE hdp hun hret
  cases hp
  (k_with "my call ref" => first
    | (k_dflt ((k_dflt (refine' line_miss _ _ _ _ _ _ _ _ _ _ _ _ _ _ _ _ _ _ _ _ _ _ _ _ _ _ _ _ _ _ _ _ _ _ _ (by k_asm) (by k_asm) (by k_asm) (newsCons (by k_asm) (by k_mem) (newsCons (by k_asm) (by k_mem) (newsCons (by k_asm) (by k_mem) newsNil))) (by k_asm) rfl (by first | with_reducible assumption | omega) (by first | with_reducible assumption | omega) (by first | with_reducible assumption | omega) (by first | with_reducible assumption | omega) (by first | with_reducible assumption | omega) (by first | with_reducible assumption | omega) (by first | with_reducible assumption | omega) (by first | with_reducible assumption | omega) zl (by first | with_reducible assumption | omega) ch3 ch2 (by ktr_room) (by ktr_units) ?_); intro D9 u19 u29 h9 tk9 c1 c2 oc1 oc2 vs1 vs2 tq1 tq2 kb9 t59 gc1 sz1 hoc1 hvs1 t66 gc2 sz2 hoc2 hvs2 g9 s9; (obtain l9 := allLt_of (newsSz N4 s9)); simp only [AllLt, and_true] at l9; (try dsimp only at s9 sz1 sz2); (obtain o9 : LT.lt (α := Nat) lc D9 ∧ LT.lt (α := Nat) (L' + 5) c1 ∧ LT.lt (α := Nat) (L' + 5) c2 := by omega); clear l9; (refine compMiss (P := 59) (R := 66) (oP := tabObj #[]) (oR := tabObj #[]) F4 N4 off4 (by k_upd) (by k_upd) kb9 t59 t66 g9 s9 gc1 sz1 gc2 sz2 ?_))))
    | (k_dflt ((k_dflt (refine' line_hit _ _ _ _ _ _ _ _ _ _ _ _ _ _ _ _ _ _ _ _ _ _ _ _ _ _ _ _ _ _ _ _ _ _ _ _ _ _ _ _ _ _ _ (by k_asm) (by k_asm) (by k_asm) (newsCons (by k_asm) (by k_mem) (newsCons (by k_asm) (by k_mem) (newsCons (by k_asm) (by k_mem) (newsCons (by k_asm) (by k_mem) (newsCons (by k_asm) (by k_mem) newsNil))))) (by k_asm) rfl (by first | with_reducible assumption | omega) (by first | with_reducible assumption | omega) (by first | with_reducible assumption | omega) (by first | with_reducible assumption | omega) (by first | with_reducible assumption | omega) (by first | with_reducible assumption | omega) (by first | with_reducible assumption | omega) (by first | with_reducible assumption | omega) zl (by first | with_reducible assumption | omega) ch3 ch2 (by assumption) (by assumption) (by assumption) (by assumption) (by ktr_room) (by ktr_units) ?_); intro D7 u17 u27 h7 tk7 k7 g7 s7; (obtain l7 := allLt_of (newsSz N4 s7)); simp only [AllLt, and_true] at l7; (try dsimp only at s7); (obtain o7 : LT.lt (α := Nat) D9 D7 := by omega); clear l7; (refine compHit F4 N4 off4 k7 g7 s7 ?_))))
    | refine stopHere ?_)
  (k_with "my eval ListComp" => (k_here; lcf_look; lcg_calm; k_dflt (refine LCg.ListComp_U (F₀ := by k_asm) (by with_unfolding_all rfl) (by decide) (by rfl) (by decide) (by rfl) ?_); k_dflt lcg_toSrc))
  (k_with "my CompSrc" => (k_here; k_dflt (first
    | (refine LCg.CompSrc.ledger (by rfl) (by k_asm) (by k_asm) (by k_mem) (by first | size_fits | exact Nat.le_of_ble_eq_true rfl) ?_; intro g'; lcg_lit)
    | (refine LCg.CompSrc.range (by rfl) (by k_asm) (by k_asm) (by assumption) (by first | decide | rfl) (by first | rfl | decide) (by first | size_fits | exact Nat.le_of_ble_eq_true rfl) ?_; intro g'; lcg_lit))))
  (k_with "my CompRest" => with_unfolding_all first
    | (refine LCg.CompRest.succ ?_; intro v4 I4 oI4 C4 oC4 D4 m4 h4 tk4 E4 hv4 hC4 hx4 F4 N4 off4 ne4; (first | lcg_open hv4 | (obtain ⟨t94, hv94⟩ := hv4; subst hv94)); clear ne4)
    | refine LCg.CompRest.zero ?_)
  (k_with "my FinA" => ((unfold LCg.FinA); intro D5 h5 tk5 F5 N5 of5; (try dsimp only [List.nil_append, List.cons_append] at N5); k_dflt ((obtain n51 : NeH D5 (L' + 1 + 1 + 1 + 1 + 1) := off1Ne of5 (q := (L' + 1 + 1 + 1 + 1 + 1, o5)) (by k_mem)); (obtain n52 : NeH D5 31 := off1Ne of5 (q := (31, tabObj #[])) (by k_mem)); (obtain n53 : NeH D5 136 := off1Ne of5 (q := (136, tabObj #[])) (by k_mem)); clear of5)))
  (k_with "my execs cons" => ((have hmm : ∃ z : Addr, z = D5 := ⟨_, rfl⟩); refine stopHere ?_))
  dsimp only
  k_steps
  unfold Stopped
  exact law3r w p loose mean mg mb dp un gd A₀ base g L' fa cd _ Q E _ _ a lc D5 D9 D7 c1 c2 T y hh mi sc e _ _ tT ty thh tmi tsc tz te _ _ _ _ cnt zone _ _ o1 o2 o3 o4 o5 oc1 oc2 vs1 vs2 tq1 tq2 [(c1, oc1), (c2, oc2), (lc, _), (L' + 1 + 1 + 1, o3), (L' + 1 + 1, o2), (L' + 1, o1), (66, tabObj #[rawInt 104, rawInt 4, .ref c2]), (59, tabObj #[rawInt 89, rawInt 4, .ref c1]), (31, tabObj #[])] rfl B (by k_asm) X (newsSub (by k_asm) (by lcg_sub)) TT m9_0 m9_1 m9_2 m9_3 m9_4 m9_5 m9_6 m9_7 (m9_s m9_0) (by k_all) (by k_all) y0 y1 hh0 hh1 mi0 mi1 sc0 sc1 e0 e1 zok zln0 zl (by congr 1 <;> omega) (by congr 1 <;> omega) (by congr 1 <;> omega) (by congr 1 <;> omega) d1 d2 d3 d4 d5 hL6 hlc o9.1 o7 o9.2.1 o9.2.2 n51 n52 n53 ch1 ch2 ch3 ch4 hoc1 hvs1 hoc2 hvs2 hE hdp hun hret
end
section
open PySem PySem.W PyProof.Rows PySem.Calls PySem.NumText
theorem fmodB (x : Int) {b : Int} (h : 0 < b) : 0 ≤ x.fmod b ∧ x.fmod b < b := ⟨Int.fmod_nonneg_of_pos _ h, Int.fmod_lt_of_pos _ h⟩
theorem bY {x : Int} (h : 0 ≤ x ∧ x < 5000) : 3761 ≤ 3761 + x ∧ 3761 + x ≤ 8760 := by omega
theorem bE {x : Int} (h : 0 ≤ x ∧ x < 4) : 1 ≤ 1 + x ∧ 1 + x ≤ 4 := by omega
theorem b100 {x k : Int} (h : 0 ≤ x ∧ x < k) (hk : k ≤ 100) : x < 100 := Int.lt_of_lt_of_le h.2 hk
theorem zoneOk {z : Str} (h : z = Str.ofString "+0200" ∨ z = Str.ofString "-0000" ∨ z = Str.ofString "GMT") : (∀ c ∈ z.cps.toList, c < 128 ∧ plainC c = true) ∧ 1 ≤ z.length ∧ z.length ≤ 10 := by
  rcases h with rfl | rfl | rfl <;> decide +kernel
noncomputable def ZoneOk (z : Str) : Prop := (∀ c ∈ z.cps.toList, c < 128 ∧ plainC c = true) ∧ 1 ≤ z.length ∧ z.length ≤ 10
theorem zoneItem {prog : Program} {w : World} {A : Around} {E : Value → Shared → Prop} {s : Shared} {value slice : PySem.Expr} {l : Addr} {k : Int} {u t1 t2 t3 : Tok} {c : Nat} {Q : Value → Shared → Prop}
    (hl : s.heap.get? l = some (W.listOf #[.str (Str.ofString "+0200") t1, .str (Str.ofString "-0000") t2, .str (Str.ofString "GMT") t3] c)) (hk : 0 ≤ k ∧ k < 3) (h : ∀ z t, ZoneOk z → Q (.str z t) s)
    (hs : subscripted slice false (.ref l) (.int k u) = operate [.ref l, .int k u] (getItem (.ref l) (.int k u)) := by with_unfolding_all rfl) :
    wpAny (model prog w) A (subscriptTail value slice (.ref l) (.int k u)) Q E s := by
  have hL : s.heap.IsList l ([Value.str (Str.ofString "+0200") t1, .str (Str.ofString "-0000") t2, .str (Str.ofString "GMT") t3] : List Value).toArray := ⟨_, hl, rfl, _, rfl⟩
  have key : k = 0 ∨ k = 1 ∨ k = 2 := by omega
  rcases key with rfl | rfl | rfl
  · exact my_item hL (by decide) (by decide) rfl (h _ _ (zoneOk (.inl rfl))) hs
  · exact my_item hL (by decide) (by decide) rfl (h _ _ (zoneOk (.inr (.inl rfl)))) hs
  · exact my_item hL (by decide) (by decide) rfl (h _ _ (zoneOk (.inr (.inr rfl)))) hs
set_option maxRecDepth 100000 in
set_option maxHeartbeats 2000000 in
set_option pp.deepTerms false in
set_option pp.maxSteps 3000 in
theorem law1 (w : World) (p : Program) (loose : List Str) (mean : ExcName → Option Value) (mg mb : Str → Option Value) (dp un : Nat) (gd : Option (List Code)) (A₀ : Around) (base g : Heap) (L' fa : Addr) (cd : Value) (s : Shared) (Q : Flow → Shared → Prop) (E : Value → Shared → Prop) (body : List Stmt) (scope : Scope) (a : Addr) (vs : List Value) (ns : List Int) (o1 o2 o3 o4 o5 : Obj) :
   fnParts (K39 w.params) 165 = some (body, scope) → Below A₀ base [] g → Fr g L' s.heap (fun y => List.lookup y [(Str.ofString "script", .ref a)]) → (K39 w.params).In g → News g L' s.heap [(L' + 1 + 1 + 1 + 1 + 1, o5), (L' + 1 + 1 + 1 + 1, o4), (L' + 1 + 1 + 1, o3), (L' + 1 + 1, o2), (L' + 1, o1), (136, tabObj #[]), (66, tabObj #[]), (59, tabObj #[]), (31, tabObj #[])] → Top p loose mean mg mb g →
   g.IsList a vs.toArray → IntsAre vs ns → ns.length ≤ 63 → o1.data = .cell none → o2.data = .cell none → o3.data = .cell none → o4.data = .cell none → o5.data = .cell none → LT.lt (α := Nat) 136 L' → CodeHd base 140 136 → CodeHd base 70 66 → CodeHd base 63 59 → CodeHd base 35 31 → PassesOwn (model rw9.row.prog w) (({ depth := dp, frames := some [], guards := gd, units := un } : Around).deeper (envOfC (Str.ofString "law") scope L' fa cd)) (envOfC (Str.ofString "law") scope L' fa cd) E → dp + 300 < recursionLimit → un + 900 < cLine →
   (∀ h' tk' dr' m' q1_ q2_ q3_ q4_, Fr g L' h' m' → News g L' h' [(136, tabObj q1_), (66, tabObj q2_), (59, tabObj q3_), (31, tabObj q4_)] → Q (.ret (.bool true)) { s with heap := h', toks := tk', drawn := dr' }) →
   wpAny (model rw9.row.prog w) (({ depth := dp, frames := some [], guards := gd, units := un } : Around).deeper (envOfC (Str.ofString "law") scope L' fa cd)) (execs body (envOfC (Str.ofString "law") scope L' fa cd)) Q E s := by
  k_fill
  w_top off
  k_with_none
  (k_with "my omega" => (first | with_reducible assumption | (law_purse 30000 => lia) | omega +splitDisjunctions))
  (k_with "my mem" => (first | exact m9_0 | exact m9_1 | exact m9_2 | exact m9_3 | exact m9_4 | exact m9_5 | exact m9_6 | exact m9_7 | (refine' m9_s ?_; k_mem)))
  (k_with "my sub" => (first | exact allNil | exact allCons (by k_mem) (by lcg_sub) | (intro q9 hq9; repeat (first | with_reducible exact hq9 | refine List.mem_cons_of_mem _ ?_))))
  (k_with "my room" => ktr_room)
  (k_with "my units" => ktr_units)
  (k_with "my ne" => (refine neN ?_; (try dsimp only); first | exact NeH.out (by assumption) | exact Ne.symm (NeH.out (by assumption)) | omega))
  (k_with "my all" => (first | exact allNil | (refine' allCons ?_ ?_; focus k_ne; k_all)))
  (k_with "my exec Assign" => k_fold)
  (k_with "my exec Expr" => k_fold)
  (k_with "my exec If" => k_fold)
  (k_with "my exec AugAssign" => k_fold)
  (k_with "my eval BinOp" => k_fold)
  (k_with "my eval Compare" => k_fold)
  (k_with "my eval Subscript" => k_fold)
  (k_with "my eval Call" => k_fold)
  (k_with "my eval Call Attribute" => k_fold)
  (k_with "my eval IfExp" => k_fold)
  (k_with "my eval List" => k_fold)
  (k_with "my eval Tuple" => k_fold)
  intro hp B F X N TT hl hi hn d1 d2 d3 d4 d5 hL6 ch1 ch2 ch3 ch4 hE hdp hun hret
  cases hp
  have b1 := fmodB (1926 + ns.sum) (b := 5000) (by decide)
  have b2 := fmodB (18 + ns.sum) (b := 24) (by decide)
  have b3 := fmodB ns.sum (b := 60) (by decide)
  have b4 := fmodB (ns.sum.fdiv 60) (b := 60) (by decide)
  have b5 := fmodB ns.sum (b := 4) (by decide)
  have cY := bY b1
  have cE := bE b5
  have c2 := b100 b2 (by decide)
  have c3 := b100 b3 (by decide)
  have c4 := b100 b4 (by decide)
  have b6 := fmodB ns.sum (b := 3) (by decide)
  (k_with "my subscriptTail" => (k_here; k_dflt (refine zoneItem (newsGet (by k_asm) (by k_mem)) b6 (fun z9 t9 hz9 => ?_))))
  (k_with "my execs cons" => ((with_reducible show wpAny _ _ (execs (Stmt.Assign [Expr.Name (Str.ofString "lines") _] _ _ :: _) _) _ _ _); refine stopHere ?_))
  dsimp only
  k_steps
  unfold Stopped
  exact law2 w p loose mean mg mb dp un gd A₀ base g L' fa cd _ Q E _ _ a _ ns.sum (3761 + (1926 + ns.sum).fmod 5000) ((18 + ns.sum).fmod 24) (ns.sum.fmod 60) ((ns.sum.fdiv 60).fmod 60) (1 + ns.sum.fmod 4) _ _ _ _ _ _ _ _ z9 _ _ _ _ o5 rfl B (by k_asm) X (newsSub (by k_asm) (by lcg_sub)) TT cY.1 cY.2 b2.1 c2 b3.1 c3 b4.1 c4 cE.1 cE.2 hz9.1 hz9.2.1 hz9.2.2 (by assumption) (by assumption) (by assumption) (by assumption) d5 hL6 (by first | with_reducible assumption | omega) ch1 ch2 ch3 ch4 hE hdp hun hret
end
section
open PySem PySem.W PyProof.Rows PySem.Calls
theorem bindOne {k : Str → Option NameKind} {x : Str} {v : Value} (h : k x = some .local) : bindL k [(x, v)] (fun _ => none) = fun y => List.lookup y [(x, v)] := by
  funext y
  simp only [bindL, h, if_true]
  by_cases e : y = x
  · subst e; simp
  · have e' : (y == x) = false := by simpa using e
    simp [List.lookup, e, e']
set_option maxRecDepth 100000 in
set_option maxHeartbeats 3000000 in
set_option pp.deepTerms false in
set_option pp.maxSteps 3000 in
theorem top : rw9.Holds := hd (by
  w_top off
  k_with_none
  (k_with "my omega" => (first | with_reducible assumption | (law_purse 30000 => lia) | omega +splitDisjunctions))
  (k_with "my mem" => (first | exact m9_0 | exact m9_1 | exact m9_2 | exact m9_3 | exact m9_4 | exact m9_5 | exact m9_6 | exact m9_7 | (refine' m9_s ?_; k_mem)))
  (k_with "my sub" => (first | exact allNil | exact allCons (by k_mem) (by lcg_sub) | (intro q9 hq9; repeat (first | with_reducible exact hq9 | refine List.mem_cons_of_mem _ ?_))))
  (k_with "my room" => ktr_room)
  (k_with "my units" => ktr_units)
  (k_with "my ne" => (refine neN ?_; (try dsimp only); first | exact NeH.out (by assumption) | exact Ne.symm (NeH.out (by assumption)) | omega))
  (k_with "my all" => (first | exact allNil | (refine' allCons ?_ ?_; focus k_ne; k_all)))
  (k_with "my exec Assign" => k_fold)
  (k_with "my exec Expr" => k_fold)
  (k_with "my exec If" => k_fold)
  (k_with "my exec AugAssign" => k_fold)
  (k_with "my eval BinOp" => k_fold)
  (k_with "my eval Compare" => k_fold)
  (k_with "my eval Subscript" => k_fold)
  (k_with "my eval Call" => k_fold)
  (k_with "my eval Call Attribute" => k_fold)
  (k_with "my eval IfExp" => k_fold)
  (k_with "my eval List" => k_fold)
  (k_with "my eval Tuple" => k_fold)
  k_go0
  refine law1 _ topProg _ _ _ _ _ _ _ callerA _ _ _ _ _ _ _ _ _ _ _ _ _ _ _ _ _ _ (by rfl) (by assumption) (frCongr (by assumption) (bindOne (by rfl))) (by assumption) (by assumption) (by assumption) (by assumption) (by assumption) (by first | with_reducible assumption | omega) (by assumption) (by assumption) (by assumption) (by assumption) (by assumption) (by first | with_reducible assumption | omega) (by assumption) (by assumption) (by assumption) (by assumption) (by passes_own) (by decide) (by decide) ?_
  intro h' tk' dr' m' a b c d F N
  refine ⟨?_, GrownAt.of N (by k_mem), GrownAt.of N (by k_mem), GrownAt.of N (by k_mem), GrownAt.of N (by k_mem), trivial⟩
  dsimp only
  k_steps)
end
end
end Mine
set_option maxRecDepth 100000 in
set_option maxHeartbeats 8000000 in
theorem PySem.Challenge.cw_rl0105_01_holds : PySem.Challenge.rw_rl0105_01.Holds := by
  exact Mine.rw9_eq ▸ Mine.top
