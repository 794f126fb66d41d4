import PyProof.Rows.All
import Wide.All
import OpenK.AllK
import Wide.FinOn
import PySem.Challenge.RW_ik0073_01
open PySem PySem.W PyProof.Rows PySem.Calls
set_option Elab.async false
set_option maxRecDepth 100000
set_option maxHeartbeats 8000000
namespace Mine
section
local macro_rules | `(tactic| o_head $_) => `(tactic| assumption)
/-- lays the heap's written part, hd.heap_1, and no more -/
theorem hd : PySem.Challenge.rw_ik0073_01.row.Holds → PySem.Challenge.rw_ik0073_01.row.Holds := by
  intro h
  k_head
end
local macro_rules | `(tactic| walk_at $s:str) => `(tactic| k_extra $s)
theorem fresh_Qw : True := by
  w_top off
  exact trivial
noncomputable def keepL : List Nat := [0, 1, 3, 4, 5, 6, 8, 10, 12, 13, 15, 17, 19, 20, 21, 22, 23, 25, 26, 27, 28, 29, 30, 31, 32, 33, 34, 35, 36, 37, 38, 39, 40, 41, 42, 43, 44, 45, 46, 47, 49, 50, 51, 52, 53, 54, 55, 56]
noncomputable def vw : Program := view PySem.Challenge.pw_ik0073_01 keepL
noncomputable def looseL : List Str := [Str.ofString "IPV4_RE", Str.ofString "_filemode_table"]
noncomputable def asL : List Addr := [2, 3, 32, 34, 35, 37, 38, 42, 43, 44, 46, 47, 49, 50, 51, 53, 54, 56, 57, 58, 60, 61, 63, 64, 65, 67, 68, 70, 71, 72, 79, 81, 82, 84, 85, 86, 87, 88, 91, 98, 100, 101, 103, 104, 105, 107, 108, 110, 111, 112, 114, 115, 117, 118, 119, 120, 121, 124, 126, 127, 129, 130, 131, 133, 134, 136, 137, 138, 140, 141, 143, 144, 145, 147, 148, 150, 151, 152, 154, 155, 157, 158, 159, 161, 162, 164, 165, 166, 168, 169, 171, 172, 173, 175, 176, 178, 179, 180, 182, 183, 185, 186, 187, 189, 190, 192, 193, 194, 195, 196, 197, 198, 199, 200, 201, 202, 203, 204, 205, 206, 207, 208, 209, 210, 211, 212, 213, 214, 215, 216, 217, 218, 219, 220, 221, 222, 223, 224, 225, 226, 227, 229, 230, 232, 233, 234, 237, 238, 239, 241, 242, 244, 245, 246, 248, 249, 251, 252, 253, 255, 256, 258, 259, 260, 262, 263, 265, 266, 267, 269, 270, 272, 273, 274, 276, 277, 279, 280, 281, 284, 285]
theorem asE : ∀ P, asL = (hd.heap_1 P).map (·.1) := fun _ => by kernel_rfl
noncomputable def HK : Hook := kHook hd.heap_1 asL asE
abbrev rwR : OpenRow := PySem.Challenge.rw_ik0073_01.row
noncomputable def xtL : Shared → Bool := fun s => xlAt vw [] s && recOk (RowW.records rwR.toRowW) s
theorem left0 : LeftO rwR.toRowW.prog vw looseL xtL HK.obs HK.val 3636 := fun w => by
  unfold openEnds fencedOpening topFrom
  rw [PySem.W.Fast.te14082659384304107361, PySem.W.Fast.te10274390034422433532, PySem.W.Fast.te14289696077712309145, PySem.W.Fast.te4187177175401517315, PySem.W.Fast.te14364793385576792824, PySem.W.Fast.te1435165496053646825, PySem.W.Fast.te5923862056798008813, PySem.W.Fast.te8920871248978507458]
  kernel_rfl
theorem said0 : PySem.Challenge.rw_ik0073_01.wellSaid = true := by
  rw [PySem.W.Fast.te9446332074065402090]
  kernel_rfl

theorem fresh_Pa : True := by
  w_top off
  exact trivial
abbrev PP := PySem.Challenge.pw_ik0073_01
abbrev SpecV (w : World) (f : Addr) (D U : Nat) (vs : List Value) (R : Value → Prop) : Prop :=
  ∀ (p : Program) (loose : List Str) (mean : ExcName → Option Value) (mg mb : Str → Option Value) (dp un : Nat) (gd : Option (List Code)) (cn : Str) (cs : Scope) (a : Addr) (ccd : Value) (cl : List (Str × Addr)) (outer : List Env) (A₀ : Around) (base h₀ : Heap) (L : Addr) (m : Str → Option Value) (news : List (Addr × Obj)) (s : Shared)
    (Q E : Value → Shared → Prop),
    Below A₀ base outer h₀ → Fr h₀ L s.heap m → (hd.heap_1 w.params).In h₀ → News h₀ L s.heap news → Top p loose mean mg mb h₀ → cs.kind = .function → dp + D < recursionLimit → un + U < cLine →
    (∀ r h' tk', Fr h₀ L h' m → News h₀ L h' news → R r → Q r { s with heap := h', toks := tk' }) →
    wpAny (model PP w) (ktrTop dp un gd cn cs L a ccd cl outer) (call (.ref f) vs) Q E s
theorem SpecV.use {w : World} {f : Addr} {D U : Nat} {vs : List Value} {R : Value → Prop} (C : SpecV w f D U vs R)
    {p : Program} {loose : List Str} {mean : ExcName → Option Value} {mg mb : Str → Option Value} {dp un : Nat} {gd : Option (List Code)} {cn : Str} {cs : Scope} {a : Addr} {ccd : Value} {cl : List (Str × Addr)} {outer : List Env} {A₀ : Around} {base h₀ : Heap} {L : Addr} {m : Str → Option Value} {news : List (Addr × Obj)} {s : Shared}
    {Q E : Value → Shared → Prop}
    (B : Below A₀ base outer h₀) (F : Fr h₀ L s.heap m) (X : (hd.heap_1 w.params).In h₀) (N : News h₀ L s.heap news) (T : Top p loose mean mg mb h₀) (hk : cs.kind = .function) (hd : dp + D < recursionLimit) (hu : un + U < cLine)
    (ret : ∀ r h' tk', Fr h₀ L h' m → News h₀ L h' news → R r → Q r { s with heap := h', toks := tk' }) :
    wpAny (model PP w) (ktrTop dp un gd cn cs L a ccd cl outer) (call (.ref f) vs) Q E s :=
  C p loose mean mg mb dp un gd cn cs a ccd cl outer A₀ base h₀ L m news s Q E B F X N T hk hd hu ret

section
variable {prog : Program} {w : World} {A₀ A : Around} {E : Value → Shared → Prop} {s : Shared} {K : Frag} {C L : Addr} {h₀ base : Heap} {m mg mb : Str → Option Value} {news : List (Addr × Obj)} {p : Program} {loose : List Str} {mean : ExcName → Option Value} {Q : Value → Shared → Prop}
/-- a def is entered with an empty ledger: what the caller made lies in the callee's ground -/
theorem enterN {env : Env} {outer : List Env} {R : Result → Shared → Prop} {name qual : Str} {params : Arguments} {body : List Stmt} {scope : Scope} {dV kV doc pm cdv ct oc : Value} {an od : Option Addr} {osl : Array (Option Value)} {f : Addr} {args : Args} {binds : List (Str × Value)}
    (B : Below A₀ base outer h₀) (F : Fr h₀ L s.heap m) (X₀ : K.In h₀) (N : News h₀ L s.heap news) (T : Top p loose mean mg mb h₀) (hA : A.frames = some (env :: outer)) (hf : env.frame = some L) (hke : env.scope.kind = .function)
    (ho : K.lookup f = some ⟨oc, od, .func (fnOf name qual params body scope dV kV doc pm an cdv ct), osl⟩) (hcd : codeIn K cdv qual = true) (hroom : A.depth < recursionLimit)
    (hbind : BindsTo s (fnOf name qual params body scope dV kV doc pm an cdv ct) args binds) (hloc : ∀ y ∈ binds, scope.names.lookup y.1 = some .local)
    (h : ∀ g L' h₁, s.heap.StaysIn g → Fr g L' h₁ (fun y => binds.reverse.lookup y) → News g L' h₁ [] → Below A base (env :: outer) g → K.In g → Top p loose mean mg mb g →
      wpAny (model prog w) (A.deeper (envOf qual scope L' f cdv)) (execs body (envOf qual scope L' f cdv))
        (fun fl s' => LeaveK h₀ L m g (fun r s' => News h₀ L s'.heap news → R r s') (match fl with | .ret v => v | _ => .none) s')
        (fun e s' => wpAny (model prog w) (A.deeper (envOf qual scope L' f cdv)) (leaving (envOf qual scope L' f cdv) e) (fun _ s'' => R (.error e) s'') (fun e' s'' => R (.error e') s'') s')
        { s with heap := h₁, toks := s.toks + binds.length })
    (hco : scope.isCoroutine = false) (hgen : scope.isGenerator = false) (hk : scope.kind = .function)
    (hcell : ∀ x ∈ scope.names, x.2 ≠ .cell) : codeAny (model prog w) A (.call (.ref f) args) R s := by
  obtain ⟨FG, BG, st, lv⟩ := groundX (R := fun r s' => News h₀ L s'.heap news → R r s') B F News.nil hA hf hke
  refine codeAny_call_def (fd := fnOf name qual params body scope dV kV doc pm an cdv ct) (body := body) (binds := binds) hroom ((X₀.keeps F.keep) _ _ ho) rfl (T.nolimit.keeps F.keep) (codeRec_of (X₀.keeps F.keep) hcd) rfl hbind hcell hloc (fun h₁ hns hk₁ => ?_) hco hgen hk
  refine wpAny_mono (h s.heap s.heap.objs.size h₁ (fun _ _ e => e) ⟨hns, hk₁, Nat.le_refl _⟩ News.nil BG (X₀.keeps st) (T.keeps st)) (fun fl s' hl => ?_) fun _ _ y => y
  obtain ⟨L'', m'', news'', F'', N'', k⟩ := hl
  exact lv _ _ ⟨L'', m'', news'', F'', N'', k⟩ fun p hp => ⟨F''.keep _ _ (N p hp).1, (N p hp).2⟩
theorem enterR {env : Env} {outer : List Env} {R : Result → Shared → Prop} {name qual : Str} {params : Arguments} {body : List Stmt} {scope : Scope} {dV kV doc pm cdv ct oc : Value} {an od : Option Addr} {osl : Array (Option Value)} {f : Addr} {args : Args} {vs : List Value} {g₁ : Addr → Option (List (Str × Value))} {binds : Addr → List (Str × Value)}
    (B : Below A₀ base outer h₀) (F : Fr h₀ L s.heap m) (X₀ : K.In h₀) (N : News h₀ L s.heap news) (T : Top p loose mean mg mb h₀) (hA : A.frames = some (env :: outer)) (hf : env.frame = some L) (hke : env.scope.kind = .function)
    (ho : K.lookup f = some ⟨oc, od, .func (fnOf name qual params body scope dV kV doc pm an cdv ct), osl⟩) (hcd : codeIn K cdv qual = true) (hroom : A.depth < recursionLimit)
    (hv : args.pos.drop (params.posonlyargs.length + params.args.length) = vs)
    (hp : peek1 K ⟨prog, w.params⟩ (bindArgs (fnOf name qual params body scope dV kV doc pm an cdv ct) args) = some (({ cls := .type "tuple", data := .seq vs.toArray } : Obj), g₁))
    (hg : ∀ D, g₁ D = some (binds D)) (hloc : ∀ D, ∀ y ∈ binds D, scope.names.lookup y.1 = some .local)
    (h : ∀ D g L' h₁, Fr g L' h₁ (fun y => (binds D).reverse.lookup y) → News g L' h₁ [(D, ({ cls := .type "tuple", data := .seq vs.toArray } : Obj))] → Below A base (env :: outer) g → K.In g → Top p loose mean mg mb g →
      wpAny (model prog w) (A.deeper (envOf qual scope L' f cdv)) (execs body (envOf qual scope L' f cdv))
        (fun fl s' => LeaveK h₀ L m g (fun r s' => News h₀ L s'.heap news → R r s') (match fl with | .ret v => v | _ => .none) s')
        (fun e s' => wpAny (model prog w) (A.deeper (envOf qual scope L' f cdv)) (leaving (envOf qual scope L' f cdv) e) (fun _ s'' => R (.error e) s'') (fun e' s'' => R (.error e') s'') s')
        { s with heap := h₁, toks := s.toks + (binds D).length })
    (hco : scope.isCoroutine = false) (hgen : scope.isGenerator = false) (hk : scope.kind = .function)
    (hcell : ∀ x ∈ scope.names, x.2 ≠ .cell) : codeAny (model prog w) A (.call (.ref f) args) R s := by
  have _ := hv
  refine codeAny_call_function (fd := fnOf name qual params body scope dV kV doc pm an cdv ct) (body := body) hroom ((X₀.keeps F.keep) _ _ ho) rfl hco hgen rfl (codeRec_of (X₀.keeps F.keep) hcd) ?_
  refine wp_of_peek1 (o := ({ cls := .type "tuple", data := .seq vs.toArray } : Obj)) F N (X₀.keeps F.keep) rfl (r := binds) (fun D h' F' N' l => ?_) _ g₁ hp hg
  have N1 : News h₀ L h' [(D, ({ cls := .type "tuple", data := .seq vs.toArray } : Obj))] := fun p hp => N' p (by rw [List.mem_singleton.mp hp]; exact .head _)
  obtain ⟨FG, BG, st, lv⟩ := groundX (s := { s with heap := h' }) (R := fun r s' => News h₀ L s'.heap news → R r s') B F' N1 hA hf hke
  refine wpAny_newFunctionEnv hcell (hloc D) (fun h₁ hns hsb => ⟨(T.nolimit.keeps F'.keep).fresh _ hsb, codeAny_func ?_⟩) hk
  have hk₁ : ∀ b o, h'.get? b = some o → h₁.get? b = some o := fun b o e => hsb.extBut b o (Nat.ne_of_lt (Heap.lt_size e)) (Heap.get?_push_of_some _ e)
  refine wpAny_mono (h D _ h'.objs.size h₁ ⟨hns, fun b o e => hk₁ b o (of_hideAll _ e), Nat.le_of_eq (hideAll_size _ _)⟩
    (fun p hp => ⟨hk₁ _ _ (N1 p hp).1, Nat.ne_of_lt (Heap.lt_size (N1 p hp).1), hideAll_none _ (List.mem_map_of_mem hp)⟩) BG (X₀.keeps st) (T.keeps st)) (fun fl s' hl => ?_) fun _ _ y => y
  obtain ⟨L'', m'', news'', F'', N'', k⟩ := hl
  refine lv _ _ ⟨L'', m'', news'', F'', N'', k⟩ fun p hp => ⟨F''.keep _ _ (hideAll_get _ (N' p (.tail _ hp)).1 fun q => ?_), (N p hp).2⟩
  have q' : p.1 = D := by simpa using q
  exact absurd (l p hp) (q' ▸ Nat.lt_irrefl _)
end
theorem tt_then {p q : Prop} (h : p) : if true = true then p else q := h
theorem ff_else {p q : Prop} (h : q) : if false = true then p else q := h
theorem room0 {x c l : Nat} (h : x + c < l) : x < l := Nat.lt_of_le_of_lt (Nat.le_add_right x c) h
theorem room2 {x a c l : Nat} (h : x + c < l) (e : a ≤ c) : x + a < l := Nat.lt_of_le_of_lt (Nat.add_le_add_left e x) h
theorem room3 {x a b c l : Nat} (h : x + c < l) (e : a + b ≤ c) : x + a + b < l := by rw [Nat.add_assoc]; exact room2 h e
theorem room4 {x a b d c l : Nat} (h : x + c < l) (e : a + b + d ≤ c) : x + a + b + d < l := by rw [Nat.add_assoc, Nat.add_assoc]; exact room2 h (by rw [← Nat.add_assoc]; exact e)
theorem room_eq {a b c d : Nat} (h : a = b) (g : b ≤ c) (e : c ≤ d) : a ≤ d := h ▸ Nat.le_trans g e
local macro_rules | `(tactic| omega) => `(tactic| first
  | exact Nat.le_trans (by with_reducible assumption) (by decide)
  | exact room3 (by with_reducible assumption) (by decide)
  | exact room2 (by with_reducible assumption) (by decide)
  | exact room4 (by with_reducible assumption) (by decide)
  | exact room0 (by with_reducible assumption)
  | exact room_eq (by with_reducible assumption) (by with_reducible assumption) (by decide)
  | exact Nat.ne_of_gt (by with_reducible assumption)
  | exact Nat.ne_of_lt (by with_reducible assumption)
  | decide
  | omega +splitDisjunctions)
theorem kw_Pa_1 : True := by
  k_with "ite" => (first | with_reducible refine tt_then ?_ | with_reducible refine ff_else ?_)
  exact trivial


theorem fresh_Pb : True := by
  w_top off
  exact trivial
theorem sp_isfmt (w : World) (i : Int) (t : Tok) : SpecV w 186 2 12 [.int i t] (fun r => ∃ u, r = .int (Builtin.bitAnd i 61440) u) := by
  intro p loose mean mg mb dp un gd cn cs a ccd cl outer A₀ base h₀ L m news s Q E B F X N T hk hd hu hret
  ((have : PySem.Challenge.rw_ik0073_01 = PySem.Challenge.rw_ik0073_01 ∧ Mine.hd.heap_1 = Mine.hd.heap_1 := (by k_fill; exact ⟨rfl, rfl⟩)); clear this; refine wpAny_call ?_; k_dflt (refine' enterN ?k1 ?k2 ?k3 ?k4 ?k5 ?kA ?kF ?kK ?k6 ?k7 ?k8 ?k9 ?kB ?_ ?c2 ?c3 ?c4 ?c5; (case kA => exact rfl); (case kF => exact rfl); (case kK => assumption); (case k1 => k_asm); (case k2 => k_asm); (case k3 => k_asm); (case k4 => k_asm); (case k5 => k_asm); (case k6 => k_is); (case k7 => k_is); (case k8 => ktr_room); (case k9 => exact BindsTo.of_eq rfl); (case c5 => decide); (case kB => exact locs rfl); (case c2 => exact rfl); (case c3 => exact rfl); (case c4 => exact rfl); k_whole; intro _ _ _ _ _ _ _ _ _; (try dsimp only); (try k_fold)))
  k_steps
  all_goals (refine hret _ _ _ (by k_asm) (by k_asm) ⟨_, rfl⟩)
theorem kw_Pb_1 : True := by
  k_with "call ref" => ((k_here; (with_reducible show wpAny _ _ (call (Value.ref 186) [Value.int _ _]) _ _ _); k_dflt (refine' SpecV.use (sp_isfmt _ _ _) (by k_asm) (by k_asm) (by k_asm) (by k_asm) (by k_asm) (by first | exact rfl | assumption) (by ktr_room) (by ktr_units) ?_); intro r9Zk h9Zk tk9Zk F9Zk N9Zk hr9Zk; obtain ⟨u9Zk, hr9Zk⟩ := hr9Zk; subst hr9Zk; (try k_sweep); (try dsimp only); (try k_fold)))
  exact trivial

theorem sp_isdir (w : World) (i : Int) (t : Tok) : SpecV w 193 4 24 [.int i t] (fun r => r = .bool (Builtin.bitAnd i 61440 == 16384)) := by
  intro p loose mean mg mb dp un gd cn cs a ccd cl outer A₀ base h₀ L m news s Q E B F X N T hk hd hu hret
  ((have : PySem.Challenge.rw_ik0073_01 = PySem.Challenge.rw_ik0073_01 ∧ Mine.hd.heap_1 = Mine.hd.heap_1 := (by k_fill; exact ⟨rfl, rfl⟩)); clear this; refine wpAny_call ?_; k_dflt (refine' enterN ?k1 ?k2 ?k3 ?k4 ?k5 ?kA ?kF ?kK ?k6 ?k7 ?k8 ?k9 ?kB ?_ ?c2 ?c3 ?c4 ?c5; (case kA => exact rfl); (case kF => exact rfl); (case kK => assumption); (case k1 => k_asm); (case k2 => k_asm); (case k3 => k_asm); (case k4 => k_asm); (case k5 => k_asm); (case k6 => k_is); (case k7 => k_is); (case k8 => ktr_room); (case k9 => exact BindsTo.of_eq rfl); (case c5 => decide); (case kB => exact locs rfl); (case c2 => exact rfl); (case c3 => exact rfl); (case c4 => exact rfl); k_whole; intro _ _ _ _ _ _ _ _ _; (try dsimp only); (try k_fold)))
  k_steps
  all_goals (refine hret _ _ _ (by k_asm) (by k_asm) ?_; first | rfl | trace_state)

theorem fresh_Pc : True := by
  w_top off
  exact trivial
theorem slot_re_search : Slot "re.Pattern" "search" "re.Pattern.search" :=
  .of (owner := "re.Pattern") (n := "search") (by rw [typeLookup_type, builtinLookup_eq_fast]; kernel_rfl) (by decide +kernel) (by decide +kernel) (by decide +kernel)
    (by first | exact .inl (by decide +kernel) | exact .inr (by decide +kernel)) (by rw [isSubtype_type]; kernel_rfl)
theorem type_re_search : typeOf (.builtin "re.Pattern.search") = pure (.type "method_descriptor") := by show builtinType _ = _; rw [builtinType_eq_fast]; kernel_rfl
theorem entry_re_search : entryFor table "re.Pattern.search" = some Builtin.«re.Pattern.search» := entryFor_of_tree (by kernel_rfl)
theorem args_re_search_2 (a b : Value) : argsOk "re.Pattern.search" ⟨[a, b], []⟩ := by
  unfold argsOk; rw [signature?_of (id := "re.Pattern.search") (n := ['h', 'c', 'r', 'a', 'e', 's']) (o := ['n', 'r', 'e', 't', 't', 'a', 'P', '.', 'e', 'r']) (by kernel_rfl) rfl]; kernel_rfl
theorem plainAttrs_re : PlainAttrs "re.Pattern" :=
  ⟨⟨"object.__getattribute__", by rw [typeLookup_type, builtinLookup_eq_fast]; kernel_rfl, by decide +kernel⟩, by rw [typeLookup_type, builtinLookup_eq_fast]; kernel_rfl⟩
open Builtin.Re in
theorem re_named (v : Value) : reNamed "re.Pattern.search" "search" ["string", "pos", "endpos"] 1 [v] [] = pure [some v, none, none] := rfl
def reCode : Array Nat := #[14, 8, 1, 2, 4294967295, 1, 1, 46, 0, 16, 46, 24, 9, 1, 4294967295, 13, 4, 8, 0, 0, 1, 6, 5, 1]
def drv : Nat → Sre.M → Option Sre.M
  | 0, _ => none
  | k + 1, m => let m := m.runFor Builtin.Re.reTurnSteps; if m.outcome.isSome then some m else drv k m
/-- the search of a text comes to its end within its turns and finds nothing -/
@[irreducible] def reNone (x : Str) : Bool := match drv 200 (Sre.forSearch reCode x.cps 0 0 x.cps.size false) with
  | some m => (match m.outcome with | some .failed => true | _ => false)
  | none => false
section
variable {M : Model} {A : Around} {E : Value → Shared → Prop} {s : Shared}
open Builtin.Re
theorem re_drive {Q : Sre.M → Shared → Prop} {m' : Sre.M} : ∀ (k n : Nat) (m : Sre.M), drv k m = some m' → k ≤ n → Q m' s → wpAny M A (reDrive n m) Q E s
  | 0, _, _, e, _, _ => nomatch e
  | k + 1, 0, _, _, h, _ => absurd h (Nat.not_succ_le_zero _)
  | k + 1, n + 1, m, e, h, q => by
    unfold drv at e
    unfold reDrive
    dsimp only at e ⊢
    split at e
    · rename_i c
      rw [if_pos c]
      cases e
      exact wpAny_pure q
    · rename_i c
      rw [if_neg c]
      exact wpAny_bind (wpAny_rule (re_drive k n _ e (Nat.le_of_succ_le_succ h) q))
theorem re_rules {Q : PUnit → Shared → Prop} (p : Nat → Bool) (f : Nat → String) (q : Q ⟨⟩ s) : ∀ l : List Nat, wpAny M A (forIn l PUnit.unit fun i _ => do
      if p i = true then rule (f i)
      pure (ForInStep.yield PUnit.unit)) Q E s
  | [] => by rw [List.forIn_nil]; exact wpAny_pure q
  | i :: l => by
    rw [List.forIn_cons]
    refine wpAny_bind ?_
    show wpAny M A (if p i = true then (rule (f i) >>= fun _ => pure (ForInStep.yield PUnit.unit)) else pure (ForInStep.yield PUnit.unit)) _ E s
    split
    · exact wpAny_bind (wpAny_rule (wpAny_pure (re_rules p f q l)))
    · exact wpAny_pure (re_rules p f q l)
theorem re_toEnd {Q : Option Sre.M → Shared → Prop} {m : Sre.M} (h : (match drv 200 m with
  | some m => (match m.outcome with | some .failed => true | _ => false)
  | none => false) = true) (q : Q none s) : wpAny M A (reRunToEnd m) Q E s := by
  unfold reRunToEnd
  split at h
  · rename_i m' e
    refine wpAny_bind (re_drive 200 _ _ e (by decide) ?_)
    refine wpAny_bind (re_rules _ _ ?_ _)
    split at h
    · rename_i e'
      rw [e']
      exact wpAny_pure q
    · cases h
  · cases h
end

theorem lk {K : Frag} {h : Heap} {a : Addr} {o : Obj} {P : Obj → Prop} (X : K.In h) (e : K.lookup a = some o) (hp : P o) : ∃ o, h.get? a = some o ∧ P o := ⟨o, X a o e, hp⟩
theorem re_pat (w : World) {h : Heap} (X : (hd.heap_1 w.params).In h) : ∃ o, h.get? 43 = some o ∧ ∃ t₁ t₂ t₃ t₄, o.cls = .type "re.Pattern" ∧ o.dict = none ∧ o.data = .fields #[.str (Str.ofString "\\.\\d+$") t₁, .int 256 t₂, .int 0 t₃, .none, .none, .ref 42, .int 0 t₄] := by
  have : PySem.Challenge.rw_ik0073_01 = PySem.Challenge.rw_ik0073_01 ∧ Mine.hd.heap_1 = Mine.hd.heap_1 := (by k_fill; exact ⟨rfl, rfl⟩)
  refine' lk X ?h ?r
  case h => k_is
  case r => exact ⟨_, _, _, _, rfl, rfl, rfl⟩
theorem re_code (w : World) {h : Heap} (X : (hd.heap_1 w.params).In h) : ∃ o, h.get? 42 = some o ∧ ∃ vs n, o.data = .seq vs n ∧ (vs.map Builtin.Re.reRawOf).map (·.toNat) = reCode := by
  have : PySem.Challenge.rw_ik0073_01 = PySem.Challenge.rw_ik0073_01 ∧ Mine.hd.heap_1 = Mine.hd.heap_1 := (by k_fill; exact ⟨rfl, rfl⟩)
  refine' lk X ?h ?r
  case h => k_is
  case r => exact ⟨_, _, rfl, by kernel_rfl⟩
section
variable {w : World} {A : Around} {E : Value → Shared → Prop} {s : Shared}
theorem re_method {pl : Sem Bool} {Q : Value × List Value → Shared → Prop} (X : (hd.heap_1 w.params).In s.heap) (h : Q (.builtin "re.Pattern.search", [.ref 43]) s) : wpAny (model PP w) A (getMethod (.ref 43) "search" pl) Q E s := by
  obtain ⟨o, ho, _, _, _, _, hc, hd, _⟩ := re_pat w X
  exact getMethod_builtin ⟨o, ho, hc⟩ plainAttrs_re slot_re_search type_re_search (fun a e => by cases e; exact ⟨o, ho, hd⟩) h
open Builtin.Re in
theorem re_search {x : Str} {t : Tok} {Q : Value → Shared → Prop} (X : (hd.heap_1 w.params).In s.heap) (hl : x.length ≤ 100000) (hx : reNone x = true) (h : Q .none s) : wpAny (model PP w) A (call (.builtin "re.Pattern.search") [.ref 43, .str x t]) Q E s := by
  obtain ⟨o, ho, t₁, t₂, t₃, t₄, hc, hd, hdat⟩ := re_pat w X
  obtain ⟨oc, hoc, vs, n, hcd, hcode⟩ := re_code w X
  refine wpAny_call_entry slot_re_search ⟨o, ho, hc⟩ entry_re_search ?_ (args_re_search_2 _ _)
  show wpAny _ _ (reTarget "re.Pattern.search" "search" ⟨[.ref 43, .str x t], []⟩ >>= fun t => reAnswer t (Sre.forSearch t.code t.text t.groups t.pos t.lim false)) _ _ _
  refine wpAny_bind ?_
  unfold reTarget
  dsimp only
  rw [re_named]
  refine wpAny_bind (wpAny_pure ?_)
  dsimp only
  refine wpAny_bind (wpAny_pure ?_)
  refine wpAny_bind (wpAny_pure ?_)
  refine wpAny_bind ?_
  unfold fieldsOf
  refine wpAny_bind (wpAny_load ho ?_)
  rw [hdat]
  refine wpAny_pure ?_
  rw [show reTextOf (.str x t) = pure (x.cps, 0) from rfl]
  refine wpAny_bind (wpAny_pure ?_)
  show wpAny _ _ (if false = true then _ else if false = true then _ else _) _ _ _
  rw [if_neg Bool.false_ne_true, if_neg Bool.false_ne_true]
  rw [show reNoCollectionInside (.str x t) 0 = pure () from rfl]
  refine wpAny_bind (wpAny_pure ?_)
  show wpAny _ _ (reRawItems (.ref 42) >>= _) _ _ _
  refine wpAny_bind ?_
  unfold reRawItems seqItems?
  refine wpAny_bind (wpAny_bind (wpAny_load hoc ?_))
  rw [hcd]
  refine wpAny_pure (wpAny_pure (wpAny_pure ?_))
  have hmin : min (2 ^ 63 - 1 : Int).toNat x.cps.size = x.cps.size := by
    have : x.cps.size ≤ 100000 := hl
    omega
  show wpAny _ _ (reRunToEnd (Sre.forSearch ((vs.map Builtin.Re.reRawOf).map (·.toNat)) x.cps 0 (min 0 x.cps.size) (min (2 ^ 63 - 1 : Int).toNat x.cps.size) false) >>= _) _ _ _
  rw [hcode, hmin, Nat.zero_min]
  refine wpAny_bind (re_toEnd (by unfold reNone at hx; exact hx) ?_)
  exact wpAny_pure ⟨_, rfl, h⟩
end
theorem kw_Pc_1 : True := by
  k_with "getMethod ref" => ((k_here; (with_reducible show wpAny _ _ (getMethod (Value.ref 43) _ _) _ _ _); k_dflt (refine' re_method (by k_in) ?_)))
  k_with "call builtin:re.Pattern.search" => ((k_here; k_dflt (refine' re_search (by k_in) (by first | assumption | omega) (by with_reducible assumption) ?_)))
  exact trivial

def hdnF (x : Str) : Bool := !(x == Str.ofString "") && !(Txt.item x 0 == Str.ofString ".") && !(Txt.item x (-1) == Str.ofString ".")
theorem sp_hdn (w : World) (x : Str) (t : Tok) (hl : x.length ≤ 100000) (hx : reNone x = true) : SpecV w 50 4 24 [.str x t] (fun r => r = .bool (hdnF x)) := by
  intro p loose mean mg mb dp un gd cn cs a ccd cl outer A₀ base h₀ L m news s Q E B F X N T hk hd hu hret
  ((have : PySem.Challenge.rw_ik0073_01 = PySem.Challenge.rw_ik0073_01 ∧ Mine.hd.heap_1 = Mine.hd.heap_1 := (by k_fill; exact ⟨rfl, rfl⟩)); clear this; refine wpAny_call ?_; k_dflt (refine' enterN ?k1 ?k2 ?k3 ?k4 ?k5 ?kA ?kF ?kK ?k6 ?k7 ?k8 ?k9 ?kB ?_ ?c2 ?c3 ?c4 ?c5; (case kA => exact rfl); (case kF => exact rfl); (case kK => assumption); (case k1 => k_asm); (case k2 => k_asm); (case k3 => k_asm); (case k4 => k_asm); (case k5 => k_asm); (case k6 => k_is); (case k7 => k_is); (case k8 => ktr_room); (case k9 => exact BindsTo.of_eq rfl); (case c5 => decide); (case kB => exact locs rfl); (case c2 => exact rfl); (case c3 => exact rfl); (case c4 => exact rfl); k_whole; intro _ _ _ _ _ _ _ _ _; (try dsimp only); (try k_fold)))
  k_steps
  all_goals (refine hret _ _ _ (by k_asm) (by k_asm) ?_; simp [hdnF, *])
theorem kw_Pc_2 : True := by
  k_with "call ref" => ((k_here; (with_reducible show wpAny _ _ (call (Value.ref 50) [Value.str _ _]) _ _ _); k_dflt (refine' SpecV.use (sp_hdn _ _ _ (by first | assumption | omega) (by with_reducible assumption)) (by k_asm) (by k_asm) (by k_asm) (by k_asm) (by k_asm) (by first | exact rfl | assumption) (by ktr_room) (by ktr_units) ?_); intro r9Zk h9Zk tk9Zk F9Zk N9Zk hr9Zk; subst hr9Zk; (try k_sweep); (try dsimp only); (try k_fold)))
  exact trivial

theorem sp_getsep (w : World) (x : Str) (t : Tok) : SpecV w 151 4 24 [.str x t] (fun r => ∃ u, r = .str (Str.ofString "/") u) := by
  intro p loose mean mg mb dp un gd cn cs a ccd cl outer A₀ base h₀ L m news s Q E B F X N T hk hd hu hret
  ((have : PySem.Challenge.rw_ik0073_01 = PySem.Challenge.rw_ik0073_01 ∧ Mine.hd.heap_1 = Mine.hd.heap_1 := (by k_fill; exact ⟨rfl, rfl⟩)); clear this; refine wpAny_call ?_; k_dflt (refine' enterN ?k1 ?k2 ?k3 ?k4 ?k5 ?kA ?kF ?kK ?k6 ?k7 ?k8 ?k9 ?kB ?_ ?c2 ?c3 ?c4 ?c5; (case kA => exact rfl); (case kF => exact rfl); (case kK => assumption); (case k1 => k_asm); (case k2 => k_asm); (case k3 => k_asm); (case k4 => k_asm); (case k5 => k_asm); (case k6 => k_is); (case k7 => k_is); (case k8 => ktr_room); (case k9 => exact BindsTo.of_eq rfl); (case c5 => decide); (case kB => exact locs rfl); (case c2 => exact rfl); (case c3 => exact rfl); (case c4 => exact rfl); k_whole; intro _ _ _ _ _ _ _ _ _; (try dsimp only); (try k_fold)))
  k_steps
  all_goals (refine hret _ _ _ (by k_asm) (by k_asm) ⟨_, rfl⟩)
theorem kw_Pc_3 : True := by
  k_with "call ref" => ((k_here; (with_reducible show wpAny _ _ (call (Value.ref 151) [Value.str _ _]) _ _ _); k_dflt (refine' SpecV.use (sp_getsep _ _ _) (by k_asm) (by k_asm) (by k_asm) (by k_asm) (by k_asm) (by first | exact rfl | assumption) (by ktr_room) (by ktr_units) ?_); intro r9Zk h9Zk tk9Zk F9Zk N9Zk hr9Zk; obtain ⟨u9Zk, hr9Zk⟩ := hr9Zk; subst hr9Zk; (try k_sweep); (try dsimp only); (try k_fold)))
  exact trivial


theorem fresh_Pd : True := by
  w_top off
  exact trivial
def reachF (x : Str) : Str :=
  if 0 ≤ Txt.find x (Str.ofString ".") then
    if hdnF x && (decide (0 ≤ Txt.find (Txt.slice x (some (Txt.find x (Str.ofString ".") + 1)) none) (Str.ofString ".")) || Txt.slice x (some (Txt.find x (Str.ofString ".") + 1)) none == Str.ofString "local") then
      Str.ofString "." ++ Txt.slice x (some (Txt.find x (Str.ofString ".") + 1)) none
    else x
  else x
theorem sp_reach (w : World) (x : Str) (t : Tok) (hl : x.length ≤ 1000) (hx : reNone x = true) : SpecV w 64 8 40 [.str x t] (fun r => ∃ u, r = .str (reachF x) u) := by
  intro p loose mean mg mb dp un gd cn cs a ccd cl outer A₀ base h₀ L m news s Q E B F X N T hk hd hu hret
  ((have : PySem.Challenge.rw_ik0073_01 = PySem.Challenge.rw_ik0073_01 ∧ Mine.hd.heap_1 = Mine.hd.heap_1 := (by k_fill; exact ⟨rfl, rfl⟩)); clear this; refine wpAny_call ?_; k_dflt (refine' enterN ?k1 ?k2 ?k3 ?k4 ?k5 ?kA ?kF ?kK ?k6 ?k7 ?k8 ?k9 ?kB ?_ ?c2 ?c3 ?c4 ?c5; (case kA => exact rfl); (case kF => exact rfl); (case kK => assumption); (case k1 => k_asm); (case k2 => k_asm); (case k3 => k_asm); (case k4 => k_asm); (case k5 => k_asm); (case k6 => k_is); (case k7 => k_is); (case k8 => ktr_room); (case k9 => exact BindsTo.of_eq rfl); (case c5 => decide); (case kB => exact locs rfl); (case c2 => exact rfl); (case c3 => exact rfl); (case c4 => exact rfl); k_whole; intro _ _ _ _ _ _ _ _ _; (try dsimp only); (try k_fold)))
  k_steps
  all_goals (refine hret _ _ _ (by k_asm) (by k_asm) ?_; (try dsimp only); (unfold reachF); simp [*])
def dmF (x y : Str) : Bool :=
  if Txt.lower x == Txt.lower y then true
  else if !hdnF (Txt.lower x) then false
  else if Txt.rfind (Txt.lower x) (Txt.lower y) = -1 then false
  else if Txt.rfind (Txt.lower x) (Txt.lower y) = 0 then false
  else if !Txt.startswith (Txt.lower y) (Str.ofString ".") then false
  else hdnF (Txt.slice (Txt.lower y) (some 1) none)
theorem sp_dm (w : World) (x : Str) (t : Tok) (y : Str) (u : Tok) (hl : x.length ≤ 1000) (hm : y.length ≤ 1000) (hx : reNone (Txt.lower x) = true) (hy : reNone (Txt.slice (Txt.lower y) (some 1) none) = true) : SpecV w 57 8 40 [.str x t, .str y u] (fun r => r = .bool (dmF x y)) := by
  intro p loose mean mg mb dp un gd cn cs a ccd cl outer A₀ base h₀ L m news s Q E B F X N T hk hd hu hret
  ((have : PySem.Challenge.rw_ik0073_01 = PySem.Challenge.rw_ik0073_01 ∧ Mine.hd.heap_1 = Mine.hd.heap_1 := (by k_fill; exact ⟨rfl, rfl⟩)); clear this; refine wpAny_call ?_; k_dflt (refine' enterN ?k1 ?k2 ?k3 ?k4 ?k5 ?kA ?kF ?kK ?k6 ?k7 ?k8 ?k9 ?kB ?_ ?c2 ?c3 ?c4 ?c5; (case kA => exact rfl); (case kF => exact rfl); (case kK => assumption); (case k1 => k_asm); (case k2 => k_asm); (case k3 => k_asm); (case k4 => k_asm); (case k5 => k_asm); (case k6 => k_is); (case k7 => k_is); (case k8 => ktr_room); (case k9 => exact BindsTo.of_eq rfl); (case c5 => decide); (case kB => exact locs rfl); (case c2 => exact rfl); (case c3 => exact rfl); (case c4 => exact rfl); k_whole; intro _ _ _ _ _ _ _ _ _; (try dsimp only); (try k_fold)))
  k_steps
  all_goals (refine hret _ _ _ (by k_asm) (by k_asm) ?_; (try dsimp only); (unfold dmF); simp [*])

theorem fresh_Pe : True := by
  w_top off
  exact trivial
section
variable {prog : Program} {w : World} {A : Around} {E : Value → Shared → Prop} {s : Shared}
theorem str_meta : (Value.type ((Manifest.find? "str").elim "type" (·.metatype)) == Value.type "type") = true := by decide +kernel
theorem str_sub : isSubtype (.type "str") (.type "str") = pure true := by rw [isSubtype_type]; kernel_rfl
theorem nested_str {k : Value} {dep : Int} {tk : Tok} {Q : Fin → Shared → Prop} (hk : k = .int dep tk)
    (hq : Q (.done (.ret (.bool true))) s) :
    wpAny (model prog w) A (Builtin.«issubclass.nested» ⟨[.type "str", .type "str", k], []⟩) Q E s := by
  subst hk
  have hm := str_meta
  repeat (any_goals (first | assumption | (rw [if_pos hm]) | (rw [str_sub]) | wp_step))
theorem nested_tup {T : Addr} {o : Obj} {n : Nat} {Q : Fin → Shared → Prop} (ho : s.heap.get? T = some o) (hc : o.cls = .type "tuple") (hd : o.data = .seq #[.type "str", .type "bytes"] n)
    (hq : Q (.done (.ret (.bool true))) s) :
    wpAny (model prog w) A (Builtin.«issubclass.nested» ⟨[.type "str", .ref T, rawInt 0], []⟩) Q E s := by
  have hT : s.TypeIs (.ref T) "tuple" := ⟨o, ho, hc⟩
  have hself : isSubtype (.type "tuple") (.type "tuple") = pure true := by rw [isSubtype_type]; kernel_rfl
  unfold Builtin.«issubclass.nested»
  refine wpAny_bind (wpAny_typeOf hT ?_)
  rw [if_neg (by decide)]
  refine wpAny_bind ?_
  unfold Builtin.Builtins.unionMembers
  refine wpAny_bind (wpAny_typeOf hT ?_)
  rw [if_neg (by decide)]
  refine wpAny_pure ?_
  refine wpAny_bind (wpAny_isInstance hT hself ?_)
  rw [if_pos rfl]
  rw [if_neg (by decide)]
  refine wpAny_bind ?_
  unfold seqItems?
  refine wpAny_bind (wpAny_load ho ?_)
  rw [hd]
  refine wpAny_pure ?_
  show wpAny _ _ (forIn #[Value.type "str", Value.type "bytes"] (none, ()) _ >>= _) _ _ _
  rw [← Array.forIn_toList, List.forIn_cons]
  refine wpAny_bind (wpAny_bind (wpAny_bind ?_))
  refine Calls.call_function_entry (id := "issubclass.nested") (by decide +kernel) (by decide +kernel) F.entry_issubclass_nested (by unfold argsOk; kernel_rfl) ?_
  refine nested_str (dep := 0 + 1) rfl ?_
  refine ⟨_, rfl, ?_⟩
  refine wpAny_bind (wpAny_of_eq (a := true) rfl ?_)
  rw [if_pos rfl]
  refine wpAny_bind (wpAny_pure (wpAny_pure ?_))
  exact wpAny_pure (wpAny_pure hq)
theorem call_issub {T : Addr} {o : Obj} {n : Nat} {Q : Value → Shared → Prop} (ho : s.heap.get? T = some o) (hc : o.cls = .type "tuple") (hd : o.data = .seq #[.type "str", .type "bytes"] n)
    (hq : Q (.bool true) s) : wpAny (model PP w) A (call (.builtin "issubclass") [.type "str", .ref T]) Q E s :=
  call_issubclass (S := fun _ R s => (∃ o n, s.heap.get? T = some o ∧ o.cls = .type "tuple" ∧ o.data = .seq #[.type "str", .type "bytes"] n) ∧ R (.ok (.ret (.bool true))) s)
    (fun prog w' A R s hs => issubclass_outer (by obtain ⟨⟨o, n, ho, hc, hd⟩, hr⟩ := hs; exact nested_tup ho hc hd hr)) ⟨⟨o, n, ho, hc, hd⟩, hq⟩
end
theorem kw_Pe_1 : True := by
  k_with "call builtin:issubclass" => ((k_here; (with_reducible show wpAny _ _ (call (Value.builtin "issubclass") [Value.type "str", Value.ref _]) _ _ _); k_dflt (refine' call_issub (by exact News.get (by k_asm) (by k_mem)) (by exact rfl) (by exact rfl) ?_)))
  exact trivial

theorem sp_fspath (w : World) (x : Str) (t : Tok) : SpecV w 137 4 24 [.str x t] (fun r => ∃ u, r = .str x u) := by
  intro p loose mean mg mb dp un gd cn cs a ccd cl outer A₀ base h₀ L m news s Q E B F X N T hk hd hu hret
  ((have : PySem.Challenge.rw_ik0073_01 = PySem.Challenge.rw_ik0073_01 ∧ Mine.hd.heap_1 = Mine.hd.heap_1 := (by k_fill; exact ⟨rfl, rfl⟩)); clear this; refine wpAny_call ?_; k_dflt (refine' enterN ?k1 ?k2 ?k3 ?k4 ?k5 ?kA ?kF ?kK ?k6 ?k7 ?k8 ?k9 ?kB ?_ ?c2 ?c3 ?c4 ?c5; (case kA => exact rfl); (case kF => exact rfl); (case kK => assumption); (case k1 => k_asm); (case k2 => k_asm); (case k3 => k_asm); (case k4 => k_asm); (case k5 => k_asm); (case k6 => k_is); (case k7 => k_is); (case k8 => ktr_room); (case k9 => exact BindsTo.of_eq rfl); (case c5 => decide); (case kB => exact locs rfl); (case c2 => exact rfl); (case c3 => exact rfl); (case c4 => exact rfl); k_whole; intro _ _ _ _ _ _ _ _ _; (try dsimp only); (try k_fold)))
  k_steps
  all_goals (refine hret _ _ _ (by k_asm) (by k_asm) ⟨_, rfl⟩)
theorem kw_Pe_2 : True := by
  k_with "call ref" => ((k_here; (with_reducible show wpAny _ _ (call (Value.ref 137) [Value.str _ _]) _ _ _); k_dflt (refine' SpecV.use (sp_fspath _ _ _) (by k_asm) (by k_asm) (by k_asm) (by k_asm) (by k_asm) (by first | exact rfl | assumption) (by ktr_room) (by ktr_units) ?_); intro r9Zk h9Zk tk9Zk F9Zk N9Zk hr9Zk; obtain ⟨u9Zk, hr9Zk⟩ := hr9Zk; subst hr9Zk; (try k_sweep); (try dsimp only); (try k_fold)))
  exact trivial


theorem fresh_Pf : True := by
  w_top off
  exact trivial
def headF (x : Str) : Str := Txt.slice x none (some (Txt.rfind x (Str.ofString "/") + 1))
def dirF (x : Str) : Str :=
  if ((headF x).length : Int) ≠ 0 then
    if headF x != Txt.mul (Str.ofString "/") ((headF x).length : Int) then Txt.rstripChars (headF x) (Str.ofString "/") else headF x
  else headF x
theorem sp_dirname (w : World) (x : Str) (t : Tok) (hl : x.length ≤ 1000) : SpecV w 172 8 40 [.str x t] (fun r => ∃ u, r = .str (dirF x) u) := by
  intro p loose mean mg mb dp un gd cn cs a ccd cl outer A₀ base h₀ L m news s Q E B F X N T hk hd hu hret
  ((have : PySem.Challenge.rw_ik0073_01 = PySem.Challenge.rw_ik0073_01 ∧ Mine.hd.heap_1 = Mine.hd.heap_1 := (by k_fill; exact ⟨rfl, rfl⟩)); clear this; refine wpAny_call ?_; k_dflt (refine' enterN ?k1 ?k2 ?k3 ?k4 ?k5 ?kA ?kF ?kK ?k6 ?k7 ?k8 ?k9 ?kB ?_ ?c2 ?c3 ?c4 ?c5; (case kA => exact rfl); (case kF => exact rfl); (case kK => assumption); (case k1 => k_asm); (case k2 => k_asm); (case k3 => k_asm); (case k4 => k_asm); (case k5 => k_asm); (case k6 => k_is); (case k7 => k_is); (case k8 => ktr_room); (case k9 => exact BindsTo.of_eq rfl); (case c5 => decide); (case kB => exact locs rfl); (case c2 => exact rfl); (case c3 => exact rfl); (case c4 => exact rfl); k_whole; intro _ _ _ _ _ _ _ _ _; (try dsimp only); (try k_fold)))
  k_steps
  all_goals (refine hret _ _ _ (by k_asm) (by k_asm) ?_; (try dsimp only); (unfold dirF headF); refine ⟨_, congrArg (Value.str · _) ?_⟩; (repeat (first | rw [if_pos (by first | assumption | omega)] | rw [if_neg (by first | assumption | omega | (simp only [Bool.not_eq_true]; assumption))])); (try rfl))
theorem kw_Pf_1 : True := by
  k_with "call ref" => ((k_here; (with_reducible show wpAny _ _ (call (Value.ref 172) [Value.str _ _]) _ _ _); k_dflt (refine' SpecV.use (sp_dirname _ _ _ (by first | assumption | omega)) (by k_asm) (by k_asm) (by k_asm) (by k_asm) (by k_asm) (by first | exact rfl | assumption) (by ktr_room) (by ktr_units) ?_); intro r9Zk h9Zk tk9Zk F9Zk N9Zk hr9Zk; obtain ⟨u9Zk, hr9Zk⟩ := hr9Zk; subst hr9Zk; (try k_sweep); (try dsimp only); (try k_fold)))
  exact trivial

def AllNe (d : Addr) : List (Addr × Obj) → Prop
  | [] => True
  | p :: r => @Ne Nat p.1 d ∧ AllNe d r
theorem AllNe.of {d : Addr} : ∀ {l : List (Addr × Obj)}, (∀ p ∈ l, p.1 ≠ d) → AllNe d l
  | [], _ => trivial
  | p :: _, h => ⟨h p (.head _), AllNe.of fun q hq => h q (.tail _ hq)⟩
theorem AllNe.at {d : Addr} {l : List (Addr × Obj)} (h : AllNe d l) : ∀ p ∈ l, p.1 ≠ d := by
  induction l with
  | nil => intro p hp; exact absurd hp List.not_mem_nil
  | cons q r ih =>
    intro p hp
    rcases List.mem_cons.mp hp with e | hp
    · rw [e]; exact h.1
    · exact ih h.2 p hp
theorem newsNe {h₀ h g h' : Heap} {L L' D : Addr} {o : Obj} {news : List (Addr × Obj)} (N : News h₀ L h news) (st : h.StaysIn g) (N' : News g L' h' [(D, o)]) : AllNe D news :=
  .of fun p hp e => by have q := (N' _ (.head _)).2.2; rw [show D = p.1 from e.symm, st _ _ (N p hp).1] at q; cases q
theorem newsOne {h₀ h : Heap} {L D : Addr} {o : Obj} {news : List (Addr × Obj)} (N : News h₀ L h news) (N' : News h₀ L h [(D, o)]) : News h₀ L h ((D, o) :: news) := fun p hp => by
  rcases List.mem_cons.mp hp with rfl | hp
  · exact N' _ (.head _)
  · exact N p hp
abbrev SpecO (w : World) (f : Addr) (D U : Nat) (vs : List Value) (P : Obj → Prop) : Prop :=
  ∀ (p : Program) (loose : List Str) (mean : ExcName → Option Value) (mg mb : Str → Option Value) (dp un : Nat) (gd : Option (List Code)) (cn : Str) (cs : Scope) (a : Addr) (ccd : Value) (cl : List (Str × Addr)) (outer : List Env) (A₀ : Around) (base h₀ : Heap) (L : Addr) (m : Str → Option Value) (news : List (Addr × Obj)) (s : Shared)
    (Q E : Value → Shared → Prop),
    Below A₀ base outer h₀ → Fr h₀ L s.heap m → (hd.heap_1 w.params).In h₀ → News h₀ L s.heap news → Top p loose mean mg mb h₀ → cs.kind = .function → dp + D < recursionLimit → un + U < cLine →
    (∀ b o h' tk', Fr h₀ L h' m → News h₀ L h' ((b, o) :: news) → AllNe b news → P o → Q (.ref b) { s with heap := h', toks := tk' }) →
    wpAny (model PP w) (ktrTop dp un gd cn cs L a ccd cl outer) (call (.ref f) vs) Q E s
theorem SpecO.use {w : World} {f : Addr} {D U : Nat} {vs : List Value} {P : Obj → Prop} (C : SpecO w f D U vs P)
    {p : Program} {loose : List Str} {mean : ExcName → Option Value} {mg mb : Str → Option Value} {dp un : Nat} {gd : Option (List Code)} {cn : Str} {cs : Scope} {a : Addr} {ccd : Value} {cl : List (Str × Addr)} {outer : List Env} {A₀ : Around} {base h₀ : Heap} {L : Addr} {m : Str → Option Value} {news : List (Addr × Obj)} {s : Shared}
    {Q E : Value → Shared → Prop}
    (B : Below A₀ base outer h₀) (F : Fr h₀ L s.heap m) (X : (hd.heap_1 w.params).In h₀) (N : News h₀ L s.heap news) (T : Top p loose mean mg mb h₀) (hk : cs.kind = .function) (hd : dp + D < recursionLimit) (hu : un + U < cLine)
    (ret : ∀ b o h' tk', Fr h₀ L h' m → News h₀ L h' ((b, o) :: news) → AllNe b news → P o → Q (.ref b) { s with heap := h', toks := tk' }) :
    wpAny (model PP w) (ktrTop dp un gd cn cs L a ccd cl outer) (call (.ref f) vs) Q E s :=
  C p loose mean mg mb dp un gd cn cs a ccd cl outer A₀ base h₀ L m news s Q E B F X N T hk hd hu ret
abbrev tupleO (vs : List Value) (n : Nat) : Obj := { cls := .type "tuple", data := .seq vs.toArray n }
theorem sp_splitroot (w : World) (x : Str) (t : Tok) (hl : x.length ≤ 1000) (h1 : (Txt.slice x none (some 1) != Str.ofString "/") = false) (h2 : (Txt.slice x (some 1) (some 2) != Str.ofString "/") = true) :
    SpecO w 165 8 40 [.str x t] (fun o => ∃ t₁ t₂ t₃ n, o = tupleO [.str (Str.ofString "") t₁, .str (Str.ofString "/") t₂, .str (Txt.slice x (some 1) none) t₃] n) := by
  intro p loose mean mg mb dp un gd cn cs a ccd cl outer A₀ base h₀ L m news s Q E B F X N T hk hd hu hret
  ((have : PySem.Challenge.rw_ik0073_01 = PySem.Challenge.rw_ik0073_01 ∧ Mine.hd.heap_1 = Mine.hd.heap_1 := (by k_fill; exact ⟨rfl, rfl⟩)); clear this; refine wpAny_call ?_; k_dflt (refine' enterN ?k1 ?k2 ?k3 ?k4 ?k5 ?kA ?kF ?kK ?k6 ?k7 ?k8 ?k9 ?kB ?_ ?c2 ?c3 ?c4 ?c5; (case kA => exact rfl); (case kF => exact rfl); (case kK => assumption); (case k1 => k_asm); (case k2 => k_asm); (case k3 => k_asm); (case k4 => k_asm); (case k5 => k_asm); (case k6 => k_is); (case k7 => k_is); (case k8 => ktr_room); (case k9 => exact BindsTo.of_eq rfl); (case c5 => decide); (case kB => exact locs rfl); (case c2 => exact rfl); (case c3 => exact rfl); (case c4 => exact rfl); k_whole; intro _ _ _ _ _ _ _ _ _; (try dsimp only); (try k_fold)))
  k_steps
  all_goals (first | (exfalso; simp_all; done) | (refine hret _ _ _ _ (by k_asm) (newsOne (by assumption) (by assumption)) ?_ ⟨_, _, _, _, rfl⟩; exact newsNe N (by assumption) (by assumption)))
theorem kw_Pf_2 : True := by
  k_with "call ref" => ((k_here; (with_reducible show wpAny _ _ (call (Value.ref 165) [Value.str _ _]) _ _ _); k_dflt (refine' SpecO.use (sp_splitroot _ _ _ (by first | assumption | omega) (by assumption) (by assumption)) (by k_asm) (by k_asm) (by k_asm) (by k_asm) (by k_asm) (by first | exact rfl | assumption) (by ktr_room) (by ktr_units) ?_); intro b9Zk o9Zk h9Zk tk9Zk F9Zk N9Zk l9Zk hr9Zk; obtain ⟨t91Zk, t92Zk, t93Zk, n9Zk, hr9Zk⟩ := hr9Zk; subst hr9Zk; (try simp only [AllNe, and_true] at l9Zk); (try k_sweep); (try dsimp only); (try k_fold)))
  exact trivial


theorem fresh_Pg : True := by
  w_top off
  exact trivial
def joinF (x y : Str) : Str :=
  if Txt.startswith y (Str.ofString "/") = true then y
  else if (x.length : Int) = 0 then y
  else if Txt.endswith x (Str.ofString "/") = true then x ++ y
  else x ++ (Str.ofString "/" ++ y)
theorem sp_join (w : World) (x : Str) (t : Tok) (y : Str) (u : Tok) (hl : x.length ≤ 500) (hm : y.length ≤ 500) : SpecV w 158 12 60 [.str x t, .str y u] (fun r => ∃ u, r = .str (joinF x y) u) := by
  intro p loose mean mg mb dp un gd cn cs a ccd cl outer A₀ base h₀ L m news s Q E B F X N T hk hd hu hret
  ((have : PySem.Challenge.rw_ik0073_01 = PySem.Challenge.rw_ik0073_01 ∧ Mine.hd.heap_1 = Mine.hd.heap_1 := (by k_fill; exact ⟨rfl, rfl⟩)); clear this; refine wpAny_call ?_; k_dflt (refine' enterR ?k1 ?k2 ?k3 ?k4 ?k5 ?kA ?kF ?kK ?k6 ?k7 ?k8 ?kV ?kP ?kG ?kB ?_ ?c2 ?c3 ?c4 ?c5; (case kA => exact rfl); (case kF => exact rfl); (case kK => assumption); (case k1 => k_asm); (case k2 => k_asm); (case k3 => k_asm); (case k4 => k_asm); (case k5 => k_asm); (case k6 => k_is); (case k7 => k_is); (case k8 => ktr_room); (case kV => kl_lit); (case kP => exact rfl); (case kG => exact fun _ => rfl); (case kB => exact fun _ => locs rfl); (case c5 => decide); (case c2 => exact rfl); (case c3 => exact rfl); (case c4 => exact rfl); k_whole; intro _ _ _ _ _ _ _ _ _; (try dsimp only); (try k_fold)))
  k_steps
  all_goals (refine hret _ _ _ (by k_asm) (by k_asm) ?_; (try dsimp only); (unfold joinF); refine ⟨_, congrArg (Value.str · _) ?_⟩; (repeat (first | rw [if_pos (by first | assumption | omega)] | rw [if_neg (by first | assumption | omega | (simp only [Bool.not_eq_true]; assumption))])); (try rfl))
theorem kw_Pg_1 : True := by
  k_with "call ref" => ((k_here; (with_reducible show wpAny _ _ (call (Value.ref 158) [Value.str _ _, Value.str _ _]) _ _ _); k_dflt (refine' SpecV.use (sp_join _ _ _ _ _ (by first | assumption | omega) (by first | assumption | omega)) (by k_asm) (by k_asm) (by k_asm) (by k_asm) (by k_asm) (by first | exact rfl | assumption) (by ktr_room) (by ktr_units) ?_); intro r9Zk h9Zk tk9Zk F9Zk N9Zk hr9Zk; obtain ⟨u9Zk, hr9Zk⟩ := hr9Zk; subst hr9Zk; (try k_sweep); (try dsimp only); (try k_fold)))
  exact trivial


theorem fresh_Ph : True := by
  w_top off
  exact trivial
section
open Builtin.SmallTypes
variable {prog : Program} {w : World} {A : Around} {E : Value → Shared → Prop} {s : Shared}
theorem nextOf_tup_item {it l : Addr} {i : Nat} {items} {x : Value} {Q : Value → Shared → Prop} (hit : s.heap.IsTupleIter it l i)
    (hl : s.heap.IsTuple l items) (hx : items[i]? = some x)
    (hQ : ∀ h', h'.IsTupleIter it l (i + 1) → Heap.SameBut it s.heap h' → Q x { s with heap := h' }) :
    wpAny (model prog w) A (nextOf (.ref it)) Q E s := by
  obtain ⟨o, ho, hc, hd⟩ := id hit
  obtain ⟨ol, hol, _, nl, hdl⟩ := hl
  unfold nextOf
  refine wpAny_bind (wpAny_callSpecial?_slot (name := Str.ofString "__next__") hit.typeIs F.slot_tuple_iterator_next
    (wpAny_call_entry F.slot_tuple_iterator_next hit.typeIs F.entry_tuple_iterator_next ?_ (F.args_tuple_iterator_next_1 _)))
  show wpAny _ _ (field (.ref it) 0 >>= _) _ _ s
  refine wpAny_bind (wpAny_field ho hd (x := .ref l) rfl ?_)
  show wpAny _ _ (if (Value.ref l == Value.none) = true then _ else _) _ _ s
  rw [if_neg (show ¬ ((Value.ref l == Value.none) = true) from Bool.false_ne_true)]
  show wpAny _ _ (field (.ref it) 1 >>= _) _ _ s
  refine wpAny_bind (wpAny_field ho hd (x := .int i 0) rfl ?_)
  show wpAny _ _ (seqItems? (.ref l) >>= _) _ _ s
  refine wpAny_bind (wpAny_seqItems hol hdl ?_)
  simp only [Int.toNat_natCast, hx]
  refine wpAny_bind (wpAny_setField ho hd (by simp) (wpAny_pure ⟨x, rfl, wpAny_pure (hQ _ ?_ (Heap.SameBut.update ..))⟩))
  exact ⟨_, Heap.get?_update_self _ ho (Obj.isFreed_of_fields (Obj.data_mapFields hd _)), (Obj.cls_mapFields ..).trans hc, by
    rw [Obj.data_mapFields hd]; simp [rawInt]⟩
theorem nextOf_tup_end {it l : Addr} {i : Nat} {items} {Q : Value → Shared → Prop} (hh : A.handled = none)
    (hit : s.heap.IsTupleIter it l i) (hl : s.heap.IsTuple l items) (hx : items[i]? = none)
    (hE : ∀ h' e, Heap.ExtBut it s.heap h' → (∃ o, h'.get? e = some o ∧ o.cls = .type "StopIteration") → E (.ref e) { s with heap := h' }) :
    wpAny (model prog w) A (nextOf (.ref it)) Q E s := by
  obtain ⟨o, ho, hc, hd⟩ := id hit
  obtain ⟨ol, hol, _, nl, hdl⟩ := hl
  unfold nextOf
  refine wpAny_bind (wpAny_callSpecial?_slot (name := Str.ofString "__next__") hit.typeIs F.slot_tuple_iterator_next
    (wpAny_call_entry F.slot_tuple_iterator_next hit.typeIs F.entry_tuple_iterator_next ?_ (F.args_tuple_iterator_next_1 _)))
  show wpAny _ _ (field (.ref it) 0 >>= _) _ _ s
  refine wpAny_bind (wpAny_field ho hd (x := .ref l) rfl ?_)
  show wpAny _ _ (if (Value.ref l == Value.none) = true then _ else _) _ _ s
  rw [if_neg (show ¬ ((Value.ref l == Value.none) = true) from Bool.false_ne_true)]
  show wpAny _ _ (field (.ref it) 1 >>= _) _ _ s
  refine wpAny_bind (wpAny_field ho hd (x := .int i 0) rfl ?_)
  show wpAny _ _ (seqItems? (.ref l) >>= _) _ _ s
  refine wpAny_bind (wpAny_seqItems hol hdl ?_)
  simp only [Int.toNat_natCast, hx]
  refine wpAny_bind (wpAny_rule (wpAny_bind (wpAny_setField ho hd (by simp) ?_)))
  show wpAny _ _ (newExc (.type "StopIteration") [] >>= _) _ _ _
  refine wpAny_bind ?_
  simp only [newExc, newTuple]
  refine wpAny_bind (wpAny_newObj_type ?_ (by size_fits))
  refine wpAny_bind (m := firstArgMember _ _) (wpAny_of_eq (a := Value.none) (by first | rfl | (simp only [firstArgMember]; rfl)) ?_)
  refine wpAny_newObj_type ?_ (by size_fits)
  simp only [raiseNew]
  refine wpAny_bind (wpAny_handled ?_)
  first | rw [show A.in1.handled = none from hh] | rw [hh]
  refine wpAny_bind (wpAny_pure (wpAny_throw ?_))
  exact hE _ _ (((Heap.SameBut.update ..).extBut.push _).push _) ⟨_, Heap.get?_push_size _ rfl, rfl⟩
theorem drawsTup {prog : Program} {w : World} {A : Around} (hh : A.handled = none) (it l : Addr) (hne : l ≠ it) (items : Array Value) :
    Draws prog w A it [it, l] items.size (fun i v => items[i]? = some v) (fun i h => h.IsTupleIter it l i ∧ h.IsTuple l items) where
  live := fun _ _ st => let ⟨o, ho, _⟩ := st.1; ⟨o, ho⟩
  frame := fun _ _ _ st hk => ⟨let ⟨o, ho, r⟩ := st.1; ⟨o, hk it (by simp) o ho, r⟩, let ⟨o, ho, r⟩ := st.2; ⟨o, hk l (by simp) o ho, r⟩⟩
  item := fun i s Q E hi st hQ => by
    refine nextOf_tup_item st.1 st.2 (x := items[i]) (by simp [hi]) fun h' hit' hs' => ?_
    exact hQ _ h' s.toks (by simp [hi]) ⟨hit', st.2.extBut hs'.extBut hne⟩ hs'
  done := fun s Q E st hE => nextOf_tup_end hh st.1 st.2 (by simp) hE
end
section
open AutoSeq1 (wpAny_loadPart')
theorem meets_enumTup (l : Addr) (items : Array Value) (n : Nat) (dct : Option Addr) (sl : Array (Option Value)) :
    Meets (Builtin.«enumerate.__new__» ⟨[.type "enumerate", .ref l], []⟩) (fun _ R s => s.heap.get? l = some { cls := .type "tuple", dict := dct, data := .seq items n, slots := sl } ∧
      R (.ok (.ret (.ref (s.heap.push { cls := .type "tuple_iterator", data := .fields #[.ref l, .int 0 0] }).objs.size)))
        { s with heap := (s.heap.push { cls := .type "tuple_iterator", data := .fields #[.ref l, .int 0 0] }).push { cls := .type "enumerate", data := .fields #[.none, .bool false, .ref s.heap.objs.size, rawInt 0, .none, .none] } }) :=
  .of_wp fun prog w A R s h => by
    obtain ⟨hp, g, d, tk, os⟩ := s; obtain ⟨hl, h⟩ := h
    have hsub := sub_enumerate
    have hL : Heap.IsTuple (Shared.heap ⟨hp, g, d, tk, os⟩) l items := ⟨_, hl, rfl, n, rfl⟩
    wp_walk using wpAny_loadPart' hl
    refine wpAny_stack_any fun st => wpAny_pure ?_
    split
    · rename_i c _ _ _ _ _
      cases (c == Value.type "enumerate")
      · wp_walk using wpAny_loadPart' hl, wpAny_pyIter_tuple hL
        exact ⟨_, rfl, h⟩
      · wp_walk using wpAny_loadPart' hl, wpAny_pyIter_tuple hL
        exact ⟨_, rfl, h⟩
    · wp_walk using wpAny_loadPart' hl, wpAny_pyIter_tuple hL
      exact ⟨_, rfl, h⟩
theorem call_enumTup {prog : Program} {w : World} {A : Around} {E : Value → Shared → Prop} {s : Shared} {l : Addr} {items : Array Value} {Q : Value → Shared → Prop} (hL : s.heap.IsTuple l items)
    (h : ∀ h', IsEnum h' (s.heap.objs.size + 1) s.heap.objs.size 0 .none → h'.IsTupleIter s.heap.objs.size l 0 → h'.objs.size = s.heap.objs.size + 2 →
      (∀ b o, s.heap.get? b = some o → h'.get? b = some o) → Q (.ref (s.heap.objs.size + 1)) { s with heap := h' }) :
    wpAny (model prog w) A (call (.type "enumerate") [.ref l]) Q E s := by
  obtain ⟨⟨c, dct, dt, sl⟩, hl, hc, n, hd⟩ := hL
  replace hc : c = .type "tuple" := hc
  replace hd : dt = .seq items n := hd
  subst hc hd
  refine callType_new F.called_enumerate (by decide) (F.typeCall_enumerate_1 _) (F.newCall_enumerate_1 _) (fun obj => F.args_object_init_2 obj _) F.entry_enumerate_new
    (meets_enumTup l items n dct sl) ⟨hl, ?_⟩
  have hz : (s.heap.push { cls := .type "tuple_iterator", data := .fields #[.ref l, .int 0 0] }).objs.size = s.heap.objs.size + 1 := Heap.size_push ..
  show _ ∧ _
  rw [hz]
  have he : IsEnum ((s.heap.push { cls := .type "tuple_iterator", data := .fields #[.ref l, .int 0 0] }).push
      { cls := .type "enumerate", data := .fields #[.none, .bool false, .ref s.heap.objs.size, rawInt 0, .none, .none] }) (s.heap.objs.size + 1) s.heap.objs.size 0 .none := by
    have := Heap.get?_push_size (s.heap.push { cls := .type "tuple_iterator", data := .fields #[.ref l, .int 0 0] })
      (o := { cls := .type "enumerate", data := .fields #[.none, .bool false, .ref s.heap.objs.size, rawInt 0, .none, .none] }) rfl
    rw [hz] at this; exact this
  refine ⟨⟨_, he, rfl⟩, h _ he ⟨_, Heap.get?_push_of_some _ (Heap.get?_push_size _ rfl), rfl, rfl⟩ (by rw [Heap.size_push, hz]) fun b o x => Heap.get?_push_of_some _ (Heap.get?_push_of_some _ x)⟩
end
section
variable {prog : Program} {w : World} {A : Around} {E : Value → Shared → Prop} {s : Shared} {env : Env} {h₀ : Heap} {body : List Stmt} {Q : Flow → Shared → Prop} {K : Frag}
theorem enumK {elts : List Expr} {k : Nat} {pos : Pos} {l : Addr} {lo : Obj} {vs : List Value} {xs : List Itm} {n : Nat} {m₀ : Str → Option Value} {news : List (Addr × Obj)}
    (hh : A.handled = none) (F : Fr h₀ env.locals s.heap m₀) (N : News h₀ env.locals s.heap news) (X₀ : K.In h₀) (hk : K.lookup l = some lo) (hc : lo.cls = .type "tuple") (hd : lo.data = .seq vs.toArray n) (hx : enumItems 0 vs = xs)
    (rest₀ : ∀ I : Addr, (∀ p ∈ news, p.1 < I) → ItemsRest prog w A E h₀ env (.Tuple elts k pos) body Q s [(I + 1, "enumerate"), (I, "tuple_iterator")] [] xs m₀ news) :
    wpAny (model prog w) A (call (.type "enumerate") [.ref l]) (fun xv s₁ => wpAny (model prog w) A (pyIter xv) (fun it s₂ => TurnsAt prog w A h₀ env (.Tuple elts k pos) body Q E it s₂) E s₁) E s := by
  subst hx
  have hg : h₀.get? l = some lo := X₀ _ _ hk
  have hax : s.heap.get? l = some lo := F.keep _ _ hg
  have hl : s.heap.IsTuple l vs.toArray := ⟨lo, hax, hc, n, hd⟩
  have hlt : l < s.heap.objs.size := Heap.lt_size hax
  have hLs : env.locals < s.heap.objs.size := F.ns.lt
  refine call_enumTup hl fun h' hE hI hsz hkp => ?_
  refine wpAny_pyIter_enum hE ?_
  have D := drawsTup (prog := prog) (w := w) (A := A.in1) hh s.heap.objs.size l (Nat.ne_of_lt hlt) vs.toArray
  refine ktg_core (tk0 := s.toks) (keep := []) (KTurns.ofWalksU (WalksT.enumerateD D (s.heap.objs.size + 1) (Nat.succ_ne_self _) (by
      intro hm; rcases List.mem_cons.mp hm with e | hm
      · exact Nat.succ_ne_self _ e
      · exact ktu_ne 1 hlt (List.mem_singleton.mp hm).symm) (List.mem_cons_self ..)).toU) (by simp [enumItems_length]) ?_ ?_ ?_ ?_ ?_ ?_ ?_ ?_ (F.keeps hkp) (N.grown hkp) trivial (rest₀ _ fun p hp => Heap.lt_size (N p hp).1)
  · rintro i v h ⟨T, vals, rfl, ⟨t, x, hx, rfl⟩, hT⟩
    refine ⟨_, enumItems_get vs 0 i (v := x) (by simpa using hx), T, t, rfl, ?_⟩
    show IsTup h T #[.int ((0 + i : Nat) : Int) t, x]
    rw [Nat.zero_add]
    exact hT
  · rintro i h ⟨⟨old, he⟩, ⟨oi, hoi, hic, _⟩, _⟩
    have he' : ∃ oe : Obj, h.get? (s.heap.objs.size + 1) = some oe ∧ oe.cls = .type "enumerate" := ⟨_, he, rfl⟩
    obtain ⟨oe, h1, h2⟩ := he'
    refine ⟨[(s.heap.objs.size + 1, oe), (s.heap.objs.size, oi)], ⟨⟨rfl, h2⟩, ⟨rfl, hic⟩, trivial⟩, fun p hp => ?_⟩
    rcases List.mem_cons.mp hp with rfl | hp
    · exact h1
    · rw [List.mem_singleton.mp hp]; exact hoi
  · intro b hb
    have hb' : b = s.heap.objs.size + 1 ∨ b = s.heap.objs.size := by simpa using hb
    rcases hb' with rfl | rfl
    · exact ⟨by simp, ktu_new F (Nat.le_add_right _ _)⟩
    · exact ⟨by simp, ktu_new F (Nat.le_refl _)⟩
  · intro b hb
    simpa using hb
  · intro b hb
    have hb' : b = s.heap.objs.size + 1 ∨ b = s.heap.objs.size ∨ b = l := by simpa using hb
    rcases hb' with rfl | rfl | rfl
    · exact .inl (by simp)
    · exact .inl (by simp)
    · exact .inr (.inr ⟨lo, hg⟩)
  · intro hI'
    have hb' : env.locals = s.heap.objs.size + 1 ∨ env.locals = s.heap.objs.size ∨ env.locals = l := by simpa using hI'
    rcases hb' with e | e | e
    · exact ktu_ne 1 hLs e
    · exact Nat.ne_of_lt hLs e
    · exact absurd (Heap.lt_size hg) (Nat.not_lt.mpr (e ▸ F.above))
  · intro p hp hI'
    have hlp := Heap.lt_size (N p hp).1
    have hb' : p.1 = s.heap.objs.size + 1 ∨ p.1 = s.heap.objs.size := by simpa using hI'
    rcases hb' with e | e
    · exact ktu_ne 1 hlp e
    · exact Nat.ne_of_lt hlp e
  · exact ⟨⟨_, hE⟩, hI, let ⟨o, ho, r⟩ := hl; ⟨o, hkp _ _ ho, r⟩⟩
/-- a for over a tuple of the ground, with an else -/
theorem for_tupE {target : Expr} {t : Addr} {vs : List Value} {m : Str → Option Value} {news : List (Addr × Obj)} {iter : Expr} {orelse : List Stmt} {pos : Pos} (P : Nat → (Str → Option Value) → List (Addr × Obj) → Prop)
    (hh : A.handled = none) (hT : h₀.IsTuple t vs.toArray) (F : Fr h₀ env.locals s.heap m) (N : News h₀ env.locals s.heap news) (h0 : P 0 m news)
    (he : wpAny (model prog w) A (eval iter env) (fun xv s₁ => xv = .ref t ∧ s₁ = s) (fun _ _ => False) s)
    (step : ∀ i v m₁ n₁ I oI h tk, vs[i]? = some v → P i m₁ n₁ → oI.cls = .type "tuple_iterator" → (∀ p ∈ n₁, p.1 ≠ I) → Fr h₀ env.locals h m₁ → News h₀ env.locals h ((I, oI) :: n₁) →
      wpAny (model prog w) A (assign target env v) (fun _ s₂ => wpAny (model prog w) A (execs body env) (UnrPostW h₀ env.locals { s with heap := h, toks := tk } [(I, oI)] (P (i + 1)) Q) (fun _ _ => False) s₂) (fun _ _ => False) { s with heap := h, toks := tk })
    (done : ∀ m₁ n₁ h tk, P vs.length m₁ n₁ → Fr h₀ env.locals h m₁ → News h₀ env.locals h n₁ → wpAny (model prog w) A (execs orelse env) Q (fun _ _ => False) { s with heap := h, toks := tk })
    (hs : ∀ x, foldedSetIterable iter env x = pure x := by intro _; rfl) (hgo : ∀ (i : Nat) (v : Value) (s : Shared) (Q : Unit → Shared → Prop) (I : Addr), s.heap.IsTupleIter I t i → Q () s → wpAny (model prog w) A (letOwnedTupleGo target (.ref I) v) Q (fun _ _ => False) s := by exact fun _ _ _ _ _ st q => letGo_tupleiter st q) :
    wpAny (model prog w) A (exec (.For target iter body orelse pos) env) Q E s := by
  have hTs : ∀ h : Heap, (∀ b o, h₀.get? b = some o → h.get? b = some o) → h.IsTuple t vs.toArray := fun h k => let ⟨o, ho, r⟩ := hT; ⟨o, k _ _ ho, r⟩
  have ht0 : ∃ o, h₀.get? t = some o := let ⟨o, ho, _⟩ := hT; ⟨o, ho⟩
  obtain ⟨ot, hot⟩ := ht0
  refine wpAny_For (wpAny_mono he (fun xv s₁ h₁ => ?_) fun _ _ e => e.elim) hs
  obtain ⟨rfl, rfl⟩ := h₁
  refine wpAny_pyIter_tuple (hTs _ F.keep) ?_
  have hI0 : h₀.get? s₁.heap.objs.size = none := next_is_new F
  have hIL : env.locals ≠ s₁.heap.objs.size := Nat.ne_of_lt F.ns.lt
  refine codeAny_forLoop_any
    (fun k s' => ∃ h' tk m' n' i, s' = { s₁ with heap := h', toks := tk } ∧ h'.IsTupleIter s₁.heap.objs.size t i ∧ Fr h₀ env.locals h' m' ∧ News h₀ env.locals h' n' ∧ (∀ p ∈ n', p.1 ≠ s₁.heap.objs.size) ∧ P i m' n' ∧ i ≤ vs.length ∧ k = vs.length + 1 - i) ?_ (vs.length + 1)
    ⟨_, s₁.toks, m, news, 0, rfl, ⟨_, Heap.get?_push_size _ rfl, rfl, rfl⟩, F.push _, (fun p hp => ⟨Heap.get?_push_of_some _ (N p hp).1, (N p hp).2⟩), (fun p hp => Nat.ne_of_lt (Heap.lt_size (N p hp).1)), h0, Nat.zero_le _, rfl⟩
  rintro k s' ⟨h', tk, m', n', i, rfl, hit, F', N', off, hP, hi, rfl⟩
  have next : ∀ h₁ : Heap, Heap.ExtBut s₁.heap.objs.size h' h₁ → Fr h₀ env.locals h₁ m' ∧ News h₀ env.locals h₁ n' := fun h₁ hx =>
    ⟨⟨F'.ns.at' fun o e => hx _ o hIL e, fun b o e => hx b o (fun q => by rw [q, hI0] at e; cases e) (F'.keep b o e), F'.above⟩, fun p hp => ⟨hx _ _ (off p hp) (N' p hp).1, (N' p hp).2⟩⟩
  by_cases hlt : i < vs.length
  · refine wpAny_pyNext_tuple_item hit (hTs _ F'.keep) (x := vs[i]) (by simp [hlt]) fun h₁ hit₁ hs₁ => ?_
    obtain ⟨F₁, N₁⟩ := next h₁ hs₁.extBut
    obtain ⟨oI, hoI, hIc, hId⟩ := id hit₁
    refine wpAny_mono (hgo (i + 1) vs[i] { s₁ with heap := h₁, toks := tk } _ s₁.heap.objs.size hit₁ ?_) (fun _ _ x => x) (fun _ _ (e : False) => e.elim)
    refine wpAny_mono (step i vs[i] m' n' s₁.heap.objs.size oI h₁ tk (by simp [hlt]) hP hIc off F₁ (fun p hp => ?_)) (fun _ s₂ h₂ => wpAny_mono h₂ (fun f s₃ h₃ => ?_) fun _ _ e => e.elim) fun _ _ e => e.elim
    · rcases List.mem_cons.mp hp with rfl | hp
      · exact ⟨hoI, Ne.symm hIL, hI0⟩
      · exact N₁ p hp
    have fin : ∀ s₃, UnrEndW h₀ env.locals { s₁ with heap := h₁, toks := tk } [(s₁.heap.objs.size, oI)] (P (i + 1)) s₃ → ∃ m, m < vs.length + 1 - i ∧ ∃ h' tk m' n' i, s₃ = { s₁ with heap := h', toks := tk } ∧ h'.IsTupleIter s₁.heap.objs.size t i ∧ Fr h₀ env.locals h' m' ∧ News h₀ env.locals h' n' ∧ (∀ p ∈ n', p.1 ≠ s₁.heap.objs.size) ∧ P i m' n' ∧ i ≤ vs.length ∧ m = vs.length + 1 - i := by
      rintro s₃ ⟨h₂, tk₂, m₂, n₂, rfl, F₂, N₂, o₂, p₂⟩
      exact ⟨vs.length + 1 - (i + 1), by omega, h₂, tk₂, m₂, n₂, i + 1, rfl, ⟨oI, (N₂ _ (List.mem_append_left _ (List.mem_singleton.mpr rfl))).1, hIc, hId⟩, F₂, fun p hp => N₂ p (List.mem_append_right _ hp), fun p hp => o₂ p hp _ (List.mem_singleton.mpr rfl), p₂, hlt, rfl⟩
    cases f with
    | ret v => exact h₃
    | brk => exact h₃
    | next => exact fin _ h₃
    | cont => exact fin _ h₃
  · have hin : i = vs.length := by omega
    subst hin
    refine wpAny_pyNext_tuple_end hh hit (hTs _ F'.keep) (by simp) fun h₁ hx => ?_
    obtain ⟨F₁, N₁⟩ := next h₁ hx
    exact wpAny_mono (done m' n' h₁ tk hP F₁ N₁) (fun _ _ x => x) fun _ _ e => e.elim
theorem allObj_imp : ∀ {ws : List (Addr × String)} {k k' : List (Addr × Obj) → Prop}, (∀ its, k its → k' its) → AllObj ws k → AllObj ws k'
  | [], _, _, h, x => h _ x
  | _ :: _, _, _, h, x => fun o ho => allObj_imp (fun its => h _) (x o ho)
/-- a larger ledger serves -/
theorem ir_mono {target : Expr} {ws : List (Addr × String)} {keep : List (Addr × Obj)} {xs : List Itm} {m : Str → Option Value} {n n' : List (Addr × Obj)} (hs : ∀ p ∈ n, p ∈ n')
    (h : ItemsRest prog w A E h₀ env target body Q s ws keep xs m n) : ItemsRest prog w A E h₀ env target body Q s ws keep xs m n' := by
  cases xs with
  | nil => exact fun h₁ tk F N => h h₁ tk F fun p hp => N p (hs p hp)
  | cons x r => exact fun v h₁ tk hv F => allObj_imp (fun its k N => k fun p hp => N p ((List.mem_append.mp hp).elim (fun h => List.mem_append.mpr (.inl h)) fun h => List.mem_append.mpr (.inr (hs p h)))) (h v h₁ tk hv F)
/-- turns by an induction over the turn's number -/
theorem rest_ind {target : Expr} {ws : List (Addr × String)} {keep : List (Addr × Obj)} {xs : List Itm} {m : Str → Option Value} {news : List (Addr × Obj)} (P : Nat → (Str → Option Value) → List (Addr × Obj) → Prop)
    (h0 : P 0 m news)
    (step : ∀ i x r m n, xs[i]? = some x → P i m n → (∀ m' n', P (i + 1) m' n' → ItemsRest prog w A E h₀ env target body Q s ws keep r m' n') → ItemsRest prog w A E h₀ env target body Q s ws keep (x :: r) m n)
    (fin : ∀ m n, P xs.length m n → ItemsRest prog w A E h₀ env target body Q s ws keep [] m n) : ItemsRest prog w A E h₀ env target body Q s ws keep xs m news := by
  have key : ∀ j i m n, i + j = xs.length → P i m n → ItemsRest prog w A E h₀ env target body Q s ws keep (xs.drop i) m n := by
    intro j
    induction j with
    | zero =>
      intro i m n hi hp
      have e : i = xs.length := by omega
      subst e
      rw [List.drop_length]
      exact fin m n hp
    | succ j ih =>
      intro i m n hi hp
      have hlt : i < xs.length := by omega
      rw [List.drop_eq_getElem_cons hlt]
      exact step i _ _ m n (List.getElem?_eq_getElem hlt) hp fun m' n' hp' => ih (i + 1) m' n' (by omega) hp'
  have := key xs.length 0 m news (by omega) h0
  rwa [List.drop_zero] at this
end
theorem over2 {m : Str → Option Value} {a b : Str} {va vb : Value} (ha : m a = some va) (hb : m b = some vb) : ∃ u : Str → Option Value, m = fun z => if z = a then some va else if z = b then some vb else u z :=
  ⟨m, funext fun z => by
    by_cases h1 : z = a
    · rw [if_pos h1, h1, ha]
    · rw [if_neg h1]
      by_cases h2 : z = b
      · rw [if_pos h2, h2, hb]
      · rw [if_neg h2]⟩

theorem fresh_Pi : True := by
  w_top off
  exact trivial
def hitF (x : Int) (i : Int) (b : Int) : Bool := if i = 0 then Builtin.bitAnd x 61440 == b else Builtin.bitAnd x b == b
def signOf (x : Int) (i : Int) : List (Int × Str) → Str
  | [] => if i = 0 then Str.ofString "?" else Str.ofString "-"
  | (b, c) :: r => if hitF x i b = true then c else signOf x i r
def fmTabs : List (List (Int × Str)) := [
  [(40960, Str.ofString "l"), (49152, Str.ofString "s"), (32768, Str.ofString "-"), (24576, Str.ofString "b"), (16384, Str.ofString "d"), (8192, Str.ofString "c"), (4096, Str.ofString "p")],
  [(256, Str.ofString "r")], [(128, Str.ofString "w")], [(2112, Str.ofString "s"), (2048, Str.ofString "S"), (64, Str.ofString "x")],
  [(32, Str.ofString "r")], [(16, Str.ofString "w")], [(1032, Str.ofString "s"), (1024, Str.ofString "S"), (8, Str.ofString "x")],
  [(4, Str.ofString "r")], [(2, Str.ofString "w")], [(513, Str.ofString "t"), (512, Str.ofString "T"), (1, Str.ofString "x")]]
def signsF (x : Int) : List Str := fmTabs.zipIdx.map fun p => signOf x (p.2 : Int) p.1
inductive Tabs (g : Heap) : List Value → List (Int × Str) → Prop
  | nil : Tabs g [] []
  | cons {a : Addr} {b : Int} {c : Str} {tb tc : Tok} {vs : List Value} {its : List (Int × Str)} : g.IsTuple a #[.int b tb, .str c tc] → Tabs g vs its → Tabs g (.ref a :: vs) ((b, c) :: its)
theorem Tabs.length {g : Heap} {vs : List Value} {its : List (Int × Str)} (h : Tabs g vs its) : vs.length = its.length := by
  induction h with
  | nil => rfl
  | cons _ _ ih => rw [List.length_cons, List.length_cons, ih]
theorem Tabs.get {g : Heap} {vs : List Value} {its : List (Int × Str)} (h : Tabs g vs its) : ∀ {j : Nat} {v : Value}, vs[j]? = some v → ∃ a b c tb tc, v = .ref a ∧ g.IsTuple a #[.int b tb, .str c tc] ∧ its.drop j = (b, c) :: its.drop (j + 1) := by
  induction h with
  | nil => intro j v e; simp at e
  | cons ha r ih =>
    intro j v e
    cases j with
    | zero => exact ⟨_, _, _, _, _, by simpa using e.symm, ha, rfl⟩
    | succ j => obtain ⟨a, b, c, tb, tc, h1, h2, h3⟩ := ih (j := j) (by simpa using e); exact ⟨a, b, c, tb, tc, h1, h2, by simpa using h3⟩
def TabAt (g : Heap) (T : Addr) (its : List (Int × Str)) : Prop := ∃ vs : List Value, g.IsTuple T vs.toArray ∧ Tabs g vs its
theorem tupG {K : Frag} {g : Heap} {a : Addr} {o : Obj} {vs : Array Value} {n : Nat} (X : K.In g) (e : K.lookup a = some o) (hc : o.cls = .type "tuple") (hd : o.data = .seq vs n) : g.IsTuple a vs := ⟨o, X a o e, hc, n, hd⟩
theorem fm_tabs (w : World) {g : Heap} (X : (hd.heap_1 w.params).In g) : ∀ (i : Nat) (x : Itm), (enumItems 0 [Value.ref 201, .ref 203, .ref 205, .ref 209, .ref 211, .ref 213, .ref 217, .ref 219, .ref 221, .ref 225])[i]? = some x →
    ∃ T its, x = .pair (fun t => .int (i : Int) t) (.ref T) ∧ TabAt g T its ∧ fmTabs[i]? = some its := by
  have : PySem.Challenge.rw_ik0073_01 = PySem.Challenge.rw_ik0073_01 ∧ Mine.hd.heap_1 = Mine.hd.heap_1 := (by k_fill; exact ⟨rfl, rfl⟩)
  clear this
  have one : ∀ (T : Addr) (i : Nat) (its : List (Int × Str)) (x : Itm), TabAt g T its → fmTabs[i]? = some its → some (Itm.pair (fun t => .int (i : Int) t) (.ref T)) = some x → ∃ T its, x = .pair (fun t => .int (i : Int) t) (.ref T) ∧ TabAt g T its ∧ fmTabs[i]? = some its :=
    fun T i its x h1 h2 h3 => ⟨T, its, (Option.some.inj h3).symm, h1, h2⟩
  intro i x e
  rcases i with _ | _ | _ | _ | _ | _ | _ | _ | _ | _ | i
  · refine one 201 0 _ x ?_ rfl e
    exact ⟨[.ref 194, .ref 195, .ref 196, .ref 197, .ref 198, .ref 199, .ref 200], tupG (by assumption) (by k_is) (by exact rfl) (by exact rfl), .cons (tupG (by assumption) (by k_is) (by exact rfl) (by exact rfl)) (.cons (tupG (by assumption) (by k_is) (by exact rfl) (by exact rfl)) (.cons (tupG (by assumption) (by k_is) (by exact rfl) (by exact rfl)) (.cons (tupG (by assumption) (by k_is) (by exact rfl) (by exact rfl)) (.cons (tupG (by assumption) (by k_is) (by exact rfl) (by exact rfl)) (.cons (tupG (by assumption) (by k_is) (by exact rfl) (by exact rfl)) (.cons (tupG (by assumption) (by k_is) (by exact rfl) (by exact rfl)) .nil))))))⟩
  · exact one 203 1 _ x ⟨[.ref 202], tupG (by assumption) (by k_is) (by exact rfl) (by exact rfl), .cons (tupG (by assumption) (by k_is) (by exact rfl) (by exact rfl)) .nil⟩ rfl e
  · exact one 205 2 _ x ⟨[.ref 204], tupG (by assumption) (by k_is) (by exact rfl) (by exact rfl), .cons (tupG (by assumption) (by k_is) (by exact rfl) (by exact rfl)) .nil⟩ rfl e
  · exact one 209 3 _ x ⟨[.ref 206, .ref 207, .ref 208], tupG (by assumption) (by k_is) (by exact rfl) (by exact rfl), .cons (tupG (by assumption) (by k_is) (by exact rfl) (by exact rfl)) (.cons (tupG (by assumption) (by k_is) (by exact rfl) (by exact rfl)) (.cons (tupG (by assumption) (by k_is) (by exact rfl) (by exact rfl)) .nil))⟩ rfl e
  · exact one 211 4 _ x ⟨[.ref 210], tupG (by assumption) (by k_is) (by exact rfl) (by exact rfl), .cons (tupG (by assumption) (by k_is) (by exact rfl) (by exact rfl)) .nil⟩ rfl e
  · exact one 213 5 _ x ⟨[.ref 212], tupG (by assumption) (by k_is) (by exact rfl) (by exact rfl), .cons (tupG (by assumption) (by k_is) (by exact rfl) (by exact rfl)) .nil⟩ rfl e
  · exact one 217 6 _ x ⟨[.ref 214, .ref 215, .ref 216], tupG (by assumption) (by k_is) (by exact rfl) (by exact rfl), .cons (tupG (by assumption) (by k_is) (by exact rfl) (by exact rfl)) (.cons (tupG (by assumption) (by k_is) (by exact rfl) (by exact rfl)) (.cons (tupG (by assumption) (by k_is) (by exact rfl) (by exact rfl)) .nil))⟩ rfl e
  · exact one 219 7 _ x ⟨[.ref 218], tupG (by assumption) (by k_is) (by exact rfl) (by exact rfl), .cons (tupG (by assumption) (by k_is) (by exact rfl) (by exact rfl)) .nil⟩ rfl e
  · exact one 221 8 _ x ⟨[.ref 220], tupG (by assumption) (by k_is) (by exact rfl) (by exact rfl), .cons (tupG (by assumption) (by k_is) (by exact rfl) (by exact rfl)) .nil⟩ rfl e
  · exact one 225 9 _ x ⟨[.ref 222, .ref 223, .ref 224], tupG (by assumption) (by k_is) (by exact rfl) (by exact rfl), .cons (tupG (by assumption) (by k_is) (by exact rfl) (by exact rfl)) (.cons (tupG (by assumption) (by k_is) (by exact rfl) (by exact rfl)) (.cons (tupG (by assumption) (by k_is) (by exact rfl) (by exact rfl)) .nil))⟩ rfl e
  · simp [enumItems] at e

theorem fresh_Pj : True := by
  w_top off
  exact trivial
theorem kw_Pj_1 : True := by
  k_with "exec For Tuple Call cons nil" => ((k_here; (rename Fr _ _ _ _ => lFpZk); (with_unfolding_all refine' For_turns lFpZk ?_; k_whole)))
  exact trivial

theorem strs_len {vs : List Value} {ys : List Str} (h : StrsAre vs ys) : vs.length = ys.length := by
  induction h with
  | nil => rfl
  | cons _ _ _ ih => rw [List.length_cons, List.length_cons, ih]
theorem strs_snoc {y : Str} {t : Tok} {vs : List Value} {ys : List Str} (h : StrsAre vs ys) : StrsAre (vs ++ [.str y t]) (ys ++ [y]) := by
  induction h with
  | nil => exact .cons y t .nil
  | cons z u _ ih => exact .cons z u ih
theorem signs_take {x : Int} {i : Nat} {its : List (Int × Str)} (h : fmTabs[i]? = some its) : (signsF x).take (i + 1) = (signsF x).take i ++ [signOf x (i : Int) its] := by
  rw [List.take_add_one]
  congr 1
  unfold signsF
  rw [List.getElem?_map, List.getElem?_zipIdx, h]
  simp
theorem sign_hit {x i b : Int} {c : Str} {r : List (Int × Str)} (e : hitF x i b = true) : signOf x i ((b, c) :: r) = c := by
  show (if hitF x i b = true then c else signOf x i r) = c
  rw [if_pos e]
theorem sign_miss {x i b : Int} {c : Str} {r : List (Int × Str)} (e : hitF x i b = false) : signOf x i ((b, c) :: r) = signOf x i r := by
  show (if hitF x i b = true then c else signOf x i r) = signOf x i r
  rw [if_neg (by rw [e]; exact Bool.false_ne_true)]
theorem sign_h0 {x i b : Int} {c : Str} {r : List (Int × Str)} (h : i = 0) (e : Builtin.bitAnd x 61440 = b) : signOf x i ((b, c) :: r) = c :=
  sign_hit (by unfold hitF; rw [if_pos h, e]; exact beq_self_eq_true b)
theorem sign_h1 {x i b : Int} {c : Str} {r : List (Int × Str)} (h : i ≠ 0) (e : Builtin.bitAnd x b = b) : signOf x i ((b, c) :: r) = c :=
  sign_hit (by unfold hitF; rw [if_neg h, e]; exact beq_self_eq_true b)
theorem sign_m0 {x i b : Int} {c : Str} {r : List (Int × Str)} (h : i = 0) (e : Builtin.bitAnd x 61440 ≠ b) : signOf x i ((b, c) :: r) = signOf x i r :=
  sign_miss (by unfold hitF; rw [if_pos h]; exact beq_false_of_ne e)
theorem sign_m1 {x i b : Int} {c : Str} {r : List (Int × Str)} (h : i ≠ 0) (e : Builtin.bitAnd x b ≠ b) : signOf x i ((b, c) :: r) = signOf x i r :=
  sign_miss (by unfold hitF; rw [if_neg h]; exact beq_false_of_ne e)
theorem strs_next {x : Int} {i : Nat} {its : List (Int × Str)} {vs : List Value} {c : Str} {tc : Tok} (hits : fmTabs[i]? = some its) (hvs : StrsAre vs ((signsF x).take i)) (e : signOf x (i : Int) its = c) : StrsAre (vs ++ [.str c tc]) ((signsF x).take (i + 1)) := by
  rw [signs_take hits, e]; exact strs_snoc hvs
def PO (x : Int) (I : Addr) (i : Nat) (m : Str → Option Value) (n : List (Addr × Obj)) : Prop :=
  ∃ Pa vs k t, @LT.lt Nat _ Pa I ∧ m (Str.ofString "perm") = some (.ref Pa) ∧ m (Str.ofString "mode") = some (.int x t) ∧ n = [(Pa, W.listOf vs.toArray k)] ∧ StrsAre vs ((signsF x).take i)
def PI (x : Int) (i : Int) (its : List (Int × Str)) (Pa : Addr) (j : Nat) (m : Str → Option Value) : Prop :=
  ∃ t ti, m (Str.ofString "perm") = some (.ref Pa) ∧ m (Str.ofString "mode") = some (.int x t) ∧ m (Str.ofString "index") = some (.int i ti) ∧ signOf x i its = signOf x i (its.drop j)
section
variable {prog : Program} {w : World} {A : Around} {E : Value → Shared → Prop} {s : Shared} {env : Env} {h₀ : Heap} {body : List Stmt} {Q : Flow → Shared → Prop}
theorem for_tupF {target : Expr} {t : Addr} {vs : List Value} {m : Str → Option Value} {news : List (Addr × Obj)} {iter : Expr} {orelse : List Stmt} {pos : Pos} (P : Nat → (Str → Option Value) → Prop)
    (hh : A.handled = none) (hT : h₀.IsTuple t vs.toArray) (F : Fr h₀ env.locals s.heap m) (N : News h₀ env.locals s.heap news) (h0 : P 0 m)
    (he : wpAny (model prog w) A (eval iter env) (fun xv s₁ => xv = .ref t ∧ s₁ = s) (fun _ _ => False) s)
    (step : ∀ i v m₁ I oI h tk, vs[i]? = some v → P i m₁ → oI.cls = .type "tuple_iterator" → AllNe I news → Fr h₀ env.locals h m₁ → News h₀ env.locals h ((I, oI) :: news) →
      wpAny (model prog w) A (assign target env v) (fun _ s₂ => wpAny (model prog w) A (execs body env) (UnrPostW h₀ env.locals { s with heap := h, toks := tk } [(I, oI)] (fun m' n' => n' = news ∧ P (i + 1) m') Q) (fun _ _ => False) s₂) (fun _ _ => False) { s with heap := h, toks := tk })
    (done : ∀ m₁ h tk, P vs.length m₁ → Fr h₀ env.locals h m₁ → News h₀ env.locals h news → wpAny (model prog w) A (execs orelse env) Q (fun _ _ => False) { s with heap := h, toks := tk })
    (hs : ∀ x, foldedSetIterable iter env x = pure x := by intro _; rfl) (hgo : ∀ (i : Nat) (v : Value) (s : Shared) (Q : Unit → Shared → Prop) (I : Addr), s.heap.IsTupleIter I t i → Q () s → wpAny (model prog w) A (letOwnedTupleGo target (.ref I) v) Q (fun _ _ => False) s := by exact fun _ _ _ _ _ st q => letGo_tupleiter st q) :
    wpAny (model prog w) A (exec (.For target iter body orelse pos) env) Q E s :=
  for_tupE (fun i m n => n = news ∧ P i m) hh hT F N ⟨rfl, h0⟩ he (fun i v m₁ n₁ I oI h tk hv hp hc off F' N' => by
    obtain ⟨e, hp⟩ := hp
    rw [e] at off N'
    exact step i v m₁ I oI h tk hv hp hc (AllNe.of off) F' N') (fun m₁ n₁ h tk hp F' N' => by
    obtain ⟨e, hp⟩ := hp
    rw [e] at N'
    exact done m₁ h tk hp F' N') hs hgo
theorem turnEnd {L I : Addr} {oI : Obj} {news all : List (Addr × Obj)} {s₁ : Shared} {h' : Heap} {tk : Nat} {m' : Str → Option Value} {P : (Str → Option Value) → Prop}
    (F : Fr h₀ L h' m') (N : News h₀ L h' all) (hs : ∀ p ∈ (I, oI) :: news, p ∈ all) (off : AllNe I news) (hp : P m') :
    UnrEndW h₀ L s₁ [(I, oI)] (fun m' n' => n' = news ∧ P m') { s₁ with heap := h', toks := tk } :=
  ⟨h', tk, m', news, rfl, F, fun p hp => N p (hs p hp), fun p hp q hq => by rw [List.mem_singleton.mp hq]; exact off.at p hp, rfl, hp⟩
end
theorem over3 {m : Str → Option Value} {a b c : Str} {va vb vc : Value} (ha : m a = some va) (hb : m b = some vb) (hc : m c = some vc) : ∃ u : Str → Option Value, m = fun z => if z = a then some va else if z = b then some vb else if z = c then some vc else u z :=
  ⟨m, funext fun z => by
    by_cases h1 : z = a
    · rw [if_pos h1, h1, ha]
    · rw [if_neg h1]
      by_cases h2 : z = b
      · rw [if_pos h2, h2, hb]
      · rw [if_neg h2]
        by_cases h3 : z = c
        · rw [if_pos h3, h3, hc]
        · rw [if_neg h3]⟩
def fmF (x : Int) : Str := Txt.join (Str.ofString "") (signsF x)
theorem sign_len (x i : Int) : ∀ l : List (Int × Str), (∀ p ∈ l, p.2.length = 1) → (signOf x i l).length = 1
  | [], _ => by unfold signOf; split <;> rfl
  | (b, c) :: r, h => by
    show (if hitF x i b = true then c else signOf x i r).length = 1
    split
    · exact h _ (List.mem_cons_self ..)
    · exact sign_len x i r fun p hp => h p (List.mem_cons_of_mem _ hp)
theorem signs_sum (x : Int) : ((signsF x).map (·.length)).sum + (signsF x).length ≤ 1048576 := by
  have h : ∀ p ∈ fmTabs.zipIdx, (signOf x (p.2 : Int) p.1).length = 1 := fun p hp => sign_len x _ p.1 (by
    have : ∀ p ∈ fmTabs.zipIdx, ∀ q ∈ p.1, q.2.length = 1 := by decide
    exact this p hp)
  have e : (signsF x).map (·.length) = fmTabs.zipIdx.map fun _ => 1 := by
    unfold signsF; rw [List.map_map]; exact List.map_congr_left h
  rw [e, show (signsF x).length = 10 from rfl]
  decide
theorem sp_filemode (w : World) (x : Int) (t : Tok) : SpecV w 233 8 40 [.int x t] (fun r => ∃ u, r = .str (fmF x) u) := by
  intro p loose mean mg mb dp un gd cn cs a ccd cl outer A₀ base h₀ L m news s Q E B F X N T hk hd hu hret
  ((have : PySem.Challenge.rw_ik0073_01 = PySem.Challenge.rw_ik0073_01 ∧ Mine.hd.heap_1 = Mine.hd.heap_1 := (by k_fill; exact ⟨rfl, rfl⟩)); clear this; refine wpAny_call ?_; k_dflt (refine' enterN ?k1 ?k2 ?k3 ?k4 ?k5 ?kA ?kF ?kK ?k6 ?k7 ?k8 ?k9 ?kB ?_ ?c2 ?c3 ?c4 ?c5; (case kA => exact rfl); (case kF => exact rfl); (case kK => assumption); (case k1 => k_asm); (case k2 => k_asm); (case k3 => k_asm); (case k4 => k_asm); (case k5 => k_asm); (case k6 => k_is); (case k7 => k_is); (case k8 => ktr_room); (case k9 => exact BindsTo.of_eq rfl); (case c5 => decide); (case kB => exact locs rfl); (case c2 => exact rfl); (case c3 => exact rfl); (case c4 => exact rfl); k_whole; intro _ _ _ _ _ _ _ _ _; (try dsimp only); (try k_fold)))
  rename_i g L₁ h₁ FG F1 N1 B1 X1 T1
  k_steps
  refine' enumK ?h ?F ?N ?X ?k ?c ?d ?x ?_
  case h => rfl
  case F => assumption
  case N => assumption
  case X => assumption
  case k => k_is
  case c => exact rfl
  case d => exact rfl
  case x => rfl
  intro I lI
  refine rest_ind (PO x I) ⟨_, [], _, _, lI _ (List.mem_singleton.mpr rfl), rfl, rfl, rfl, .nil⟩ ?_ ?_
  · intro i e r m₁ n₁ hx hP IH
    obtain ⟨TT, its, rfl, hT, hits⟩ := fm_tabs w X1 i e hx
    obtain ⟨Pa, vs, k, t₁, hPI, hm1, hm2, rfl, hvs⟩ := hP
    have hlen : vs.toArray.size ≤ 10 := by
      have h10 : (signsF x).length = 10 := rfl
      have := strs_len hvs
      rw [List.length_take, h10] at this
      rw [List.size_toArray]
      omega
    obtain ⟨u, hm⟩ := over2 hm1 hm2
    subst hm
    clear hm1 hm2
    k_steps
    obtain ⟨ws, hTT, hws⟩ := hT
    refine' for_tupF (PI x i its Pa) ?hh hTT ?F ?N ?h0 ?he ?step ?done
    case hh => rfl
    case F => assumption
    case N => assumption
    case h0 => exact ⟨_, _, rfl, rfl, rfl, rfl⟩
    case he => k_dflt (exact ld (by assumption) rfl ⟨rfl, rfl⟩)
    case step =>
      intro j v m₂ I₂ oI₂ h₂ tk₂ hv hP2 hc2 off2 F2 N2
      obtain ⟨a₂, b, c, tb, tc, rfl, hTup, hdrop⟩ := hws.get hv
      obtain ⟨t₂, ti, q1, q2, q3, hsg⟩ := hP2
      obtain ⟨u₂, hm₂⟩ := over3 q1 q2 q3
      subst hm₂
      clear q1 q2 q3
      have hT2 : IsTup h₂ a₂ #[.int b tb, .str c tc] := let ⟨o, ho, r⟩ := hTup; ⟨o, F2.keep _ _ ho, r⟩
      (try simp only [AllNe, and_true] at off2)
      k_steps
      all_goals (try (refine ir_mono (n := [(Pa, W.listOf (vs.toArray.push (.str c tc)) (k + 1))]) (fun p hp => ?_) (IH _ _ ⟨Pa, vs ++ [.str c tc], k + 1, t₂, hPI, rfl, rfl, by rw [List.push_toArray], strs_next hits hvs ?_⟩)))
      all_goals (try (refine turnEnd (by assumption) (by assumption) (fun p hp => hp) (by simp only [AllNe, and_true]; assumption) ⟨t₂, ti, rfl, rfl, rfl, ?_⟩))
      all_goals (first
        | (rw [List.mem_singleton.mp hp]; k_mem; done)
        | (rw [hsg, hdrop]; first | exact sign_h0 (by assumption) (by assumption) | exact sign_h1 (by assumption) (by assumption) | exact sign_m0 (by assumption) (by assumption) | exact sign_m1 (by assumption) (by assumption)))
    case done =>
      intro m₂ h₂ tk₂ hP2 F2 N2
      obtain ⟨t₂, ti, q1, q2, q3, hsg⟩ := hP2
      obtain ⟨u₂, hm₂⟩ := over3 q1 q2 q3
      subst hm₂
      clear q1 q2 q3
      have hdone : signOf x i its = signOf x i [] := by rw [hsg, hws.length, List.drop_length]
      k_steps
      all_goals (refine IH _ _ ⟨Pa, vs ++ [.str _ _], k + 1, t₂, hPI, rfl, rfl, by rw [List.push_toArray], ?_⟩; rw [signs_take hits, hdone]; (simp only [signOf]); (first | rw [if_pos (by assumption)] | rw [if_neg (by assumption)]); exact strs_snoc hvs)
  · intro m₁ n₁ hP
    obtain ⟨Pa, vs, k, t₁, hPI, hm1, hm2, rfl, hvs⟩ := hP
    have hlen : vs.toArray.size ≤ 10 := by
      have h10 : (signsF x).length = 10 := rfl
      have := strs_len hvs
      rw [List.length_take, h10] at this
      rw [List.size_toArray]
      omega
    obtain ⟨u, hm⟩ := over2 hm1 hm2
    subst hm
    clear hm1 hm2
    k_steps
    refine' PyProof.Rows.join_listW ?hl ?hi ?hs ?hw ?_
    case hl => is_list
    case hi => exact (show (signsF x).take 10 = signsF x from rfl) ▸ (show StrsAre vs ((signsF x).take 10) from hvs)
    case hs => decide
    case hw => exact signs_sum x
    intro t9 tk9
    k_steps
    all_goals (refine hret _ _ _ (by k_asm) (by k_asm) ⟨_, rfl⟩)
theorem kw_Pj_2 : True := by
  k_with "call ref" => ((k_here; (with_reducible show wpAny _ _ (call (Value.ref 233) [Value.int _ _]) _ _ _); k_dflt (refine' SpecV.use (sp_filemode _ _ _) (by k_asm) (by k_asm) (by k_asm) (by k_asm) (by k_asm) (by first | exact rfl | assumption) (by ktr_room) (by ktr_units) ?_); intro r9Zk h9Zk tk9Zk F9Zk N9Zk hr9Zk; obtain ⟨u9Zk, hr9Zk⟩ := hr9Zk; subst hr9Zk; (try k_sweep); (try dsimp only); (try k_fold)))
  exact trivial


theorem fresh_Pk : True := by
  w_top off
  exact trivial
theorem kw_Pk_1 : True := by
  k_with "call ref" => ((k_here; (with_reducible show wpAny _ _ (call (Value.ref 193) [Value.int _ _]) _ _ _); k_dflt (refine' SpecV.use (sp_isdir _ _ _) (by k_asm) (by k_asm) (by k_asm) (by k_asm) (by k_asm) (by first | exact rfl | assumption) (by ktr_room) (by ktr_units) ?_); intro r9Zk h9Zk tk9Zk F9Zk N9Zk hr9Zk; subst hr9Zk; (try k_sweep); (try dsimp only); (try k_fold)))
  k_with "call ref" => ((k_here; (with_reducible show wpAny _ _ (call (Value.ref 64) [Value.str _ _]) _ _ _); k_dflt (refine' SpecV.use (sp_reach _ _ _ (by first | assumption | omega) (by with_reducible assumption)) (by k_asm) (by k_asm) (by k_asm) (by k_asm) (by k_asm) (by first | exact rfl | assumption) (by ktr_room) (by ktr_units) ?_); intro r9Zk h9Zk tk9Zk F9Zk N9Zk hr9Zk; obtain ⟨u9Zk, hr9Zk⟩ := hr9Zk; subst hr9Zk; (try k_sweep); (try dsimp only); (try k_fold)))
  k_with "call ref" => ((k_here; (with_reducible show wpAny _ _ (call (Value.ref 57) [Value.str _ _, Value.str _ _]) _ _ _); k_dflt (refine' SpecV.use (sp_dm _ _ _ _ _ (by first | assumption | omega) (by first | assumption | omega) (by with_reducible assumption) (by with_reducible assumption)) (by k_asm) (by k_asm) (by k_asm) (by k_asm) (by k_asm) (by first | exact rfl | assumption) (by ktr_room) (by ktr_units) ?_); intro r9Zk h9Zk tk9Zk F9Zk N9Zk hr9Zk; subst hr9Zk; (try k_sweep); (try dsimp only); (try k_fold)))
  exact trivial

section
variable {prog : Program} {w : World} {A : Around} {E : Value → Shared → Prop} {s : Shared} {env : Env} {h₀ : Heap} {body : List Stmt} {Q : Flow → Shared → Prop}
theorem rest_indK {target : Expr} {ws : List (Addr × String)} {keep : List (Addr × Obj)} {xs : List Itm} {m : Str → Option Value} {news : List (Addr × Obj)} (P : List (Addr × Obj) → Nat → (Str → Option Value) → List (Addr × Obj) → Prop)
    (h0 : ∃ n₀, P keep 0 m n₀ ∧ ∀ p ∈ n₀, p ∈ news)
    (step : ∀ i x r m n, xs[i]? = some x → P keep i m n → (∀ m' n', P keep (i + 1) m' n' → ItemsRest prog w A E h₀ env target body Q s ws keep r m' n') → ItemsRest prog w A E h₀ env target body Q s ws keep (x :: r) m n)
    (fin : ∀ m n, P keep xs.length m n → ItemsRest prog w A E h₀ env target body Q s ws keep [] m n) : ItemsRest prog w A E h₀ env target body Q s ws keep xs m news :=
  let ⟨_, a, b⟩ := h0
  ir_mono b (rest_ind (P keep) a step fin)
end
theorem strs_get {vs : List Value} {ys : List Str} (h : StrsAre vs ys) : ∀ {i : Nat} {v : Value}, vs[i]? = some v → ∃ y t, v = .str y t ∧ ys[i]? = some y := by
  induction h with
  | nil => intro i v e; simp at e
  | cons y t _ ih =>
    intro i v e
    cases i with
    | zero => exact ⟨y, t, by simpa using e.symm, rfl⟩
    | succ i => obtain ⟨y', t', h1, h2⟩ := ih (i := i) (by simpa using e); exact ⟨y', t', h1, by simpa using h2⟩
theorem valItem {vs : List Value} {i : Nat} {e : Itm} (hx : (vs.map Itm.val)[i]? = some e) : ∃ v, e = .val v ∧ vs[i]? = some v := by
  rw [List.getElem?_map] at hx
  obtain ⟨v, h1, h2⟩ := Option.map_eq_some_iff.mp hx
  exact ⟨v, h2.symm, h1⟩
def normStep (acc : List Str) (c : Str) : List Str :=
  if (c.length : Int) = 0 then acc else if c == Str.ofString "." then acc
  else if c != Str.ofString ".." then acc ++ [c]
  else acc.dropLast
def compsF (x : Str) : List Str := Txt.split (Txt.slice x (some 1) none) (Str.ofString "/")
def PN (x : Str) (I : Addr) (keep : List (Addr × Obj)) (i : Nat) (m : Str → Option Value) (n : List (Addr × Obj)) : Prop :=
  ∃ Nc vs k t₁ t₂ t₃ t₄, @LT.lt Nat _ Nc I ∧ AllNe Nc keep ∧ (m (Str.ofString "new_comps") = some (.ref Nc) ∧ m (Str.ofString "initial_slashes") = some (.str (Str.ofString "/") t₁) ∧ m (Str.ofString "sep") = some (.str (Str.ofString "/") t₂) ∧ m (Str.ofString "dot") = some (.str (Str.ofString ".") t₃) ∧ m (Str.ofString "dotdot") = some (.str (Str.ofString "..") t₄)) ∧
    n = (Nc, W.listOf vs.toArray k) :: keep ∧ StrsAre vs (((compsF x).take i).foldl normStep []) ∧ Str.ofString ".." ∉ ((compsF x).take i).foldl normStep []
theorem over5 {m : Str → Option Value} {a b c d e : Str} {va vb vc vd ve : Value} (ha : m a = some va) (hb : m b = some vb) (hc : m c = some vc) (hd : m d = some vd) (he : m e = some ve) : ∃ u : Str → Option Value, m = fun z => if z = a then some va else if z = b then some vb else if z = c then some vc else if z = d then some vd else if z = e then some ve else u z :=
  ⟨m, funext fun z => by
    by_cases h1 : z = a
    · rw [if_pos h1, h1, ha]
    rw [if_neg h1]
    by_cases h2 : z = b
    · rw [if_pos h2, h2, hb]
    rw [if_neg h2]
    by_cases h3 : z = c
    · rw [if_pos h3, h3, hc]
    rw [if_neg h3]
    by_cases h4 : z = d
    · rw [if_pos h4, h4, hd]
    rw [if_neg h4]
    by_cases h5 : z = e
    · rw [if_pos h5, h5, he]
    rw [if_neg h5]⟩
theorem strs_lastN {vs : List Value} {ys : List Str} (h : StrsAre vs ys) (hne : vs.toArray.isEmpty = false) : ∃ y t, vs = vs.dropLast ++ [.str y t] ∧ ys = ys.dropLast ++ [y] ∧ StrsAre vs.dropLast ys.dropLast := by
  induction h with
  | nil => simp at hne
  | @cons y t vs ys r ih =>
    cases r with
    | nil => exact ⟨y, t, rfl, rfl, .nil⟩
    | @cons z u vs' ys' r =>
      obtain ⟨y', t', h1, h2, h3⟩ := ih (by simp)
      refine ⟨y', t', ?_, ?_, .cons y t h3⟩
      · rw [List.dropLast_cons_of_ne_nil (List.cons_ne_nil _ _), List.cons_append, ← h1]
      · rw [List.dropLast_cons_of_ne_nil (List.cons_ne_nil _ _), List.cons_append, ← h2]
section
variable {prog : Program} {w : World} {A : Around} {E : Value → Shared → Prop} {s : Shared} {h₀ : Heap} {L D a : Addr} {m : Str → Option Value} {news news' : List (Addr × Obj)} {n : Nat} {vs : List Value} {ys : List Str}
theorem pop_S {Q : Value → Shared → Prop} (F : Fr h₀ L s.heap m) (N : News h₀ L s.heap news) (U : Upd D (W.listOf vs.toArray n) (W.listOf vs.dropLast.toArray (n + 1)) news news') (hi : StrsAre vs ys) (hne : vs.toArray.isEmpty = false)
    (hz : vs.length ≤ 2000) (h : ∀ v h', Fr h₀ L h' m → News h₀ L h' news' → StrsAre vs.dropLast ys.dropLast → Q v { s with heap := h' }) : wpAny (model prog w) A (call (.builtin "list.pop") [.ref D]) Q E s := by
  obtain ⟨y, t, h1, h2, h3⟩ := strs_lastN hi hne
  refine kl_pop F N (p := vs.dropLast) (y := .str y t) ?_ U (by show vs.length ≤ sizeLine; exact Nat.le_trans hz (by decide)) fun h' F' N' => h _ h' F' N' h3
  have e := kpa_last (.str y t) vs.dropLast
  rw [← h1] at e
  simpa using e
theorem item_lastS {value slice : Expr} {u : Tok} {Q : Value → Shared → Prop} (hl : s.heap.IsList a vs.toArray) (hi : StrsAre vs ys) (hne : vs.toArray.isEmpty = false) (hz : vs.length ≤ 2000)
    (h : ∀ y t, y ∈ ys → Q (.str y t) s) (hs : subscripted slice false (.ref a) (.int (-1) u) = operate [.ref a, .int (-1) u] (getItem (.ref a) (.int (-1) u)) := by with_unfolding_all rfl) :
    wpAny (model prog w) A (subscriptTail value slice (.ref a) (.int (-1) u)) Q E s := by
  obtain ⟨y, t, h1, h2, _⟩ := strs_lastN hi hne
  generalize vs.dropLast = ws at h1
  subst h1
  have hsz : (ws ++ [Value.str y t]).toArray.size = ws.length + 1 := by simp
  refine tail_any hl.typeIs slot_list_getitem.lookup (wpAny_getItem_list_neg hl (by decide) (by rw [hsz]; omega) (by decide) (x := .str y t) ?_ (h y t (by rw [h2]; simp))) hs
  have : (-1 + ((ws ++ [Value.str y t]).toArray.size : Int)).toNat = ws.length := by rw [hsz]; omega
  rw [this]
  simp
end
theorem listAt {h₀ h : Heap} {L D : Addr} {its : Array Value} {n : Nat} {news : List (Addr × Obj)} (N : News h₀ L h news) (hm : (D, W.listOf its n) ∈ news) : h.IsList D its := ⟨_, (N _ hm).1, rfl, n, rfl⟩
theorem truthy_L {prog : Program} {w : World} {A : Around} {E : Value → Shared → Prop} {s : Shared} {h₀ : Heap} {L D : Addr} {its : Array Value} {n : Nat} {news : List (Addr × Obj)} {Q : Bool → Shared → Prop} (N : News h₀ L s.heap news) (hm : (D, W.listOf its n) ∈ news) (hz : its.size ≤ 2000)
    (h : Q (!its.isEmpty) { s with toks := s.toks + 1 + 1 }) : wpAny (model prog w) A (truthy (.ref D)) Q E s := wpAny_truthy_list (listAt N hm) (by omega) h
section
variable {x : Str} {i : Nat} {c : Str} {acc : List Str}
theorem norm1 (h : (c.length : Int) = 0) : normStep acc c = acc := by unfold normStep; rw [if_pos h]
theorem norm2 (h : (c.length : Int) ≠ 0) (h2 : (c == Str.ofString ".") = true) : normStep acc c = acc := by unfold normStep; rw [if_neg h, if_pos h2]
theorem norm3 (h : (c.length : Int) ≠ 0) (h2 : (c == Str.ofString ".") = false) (h3 : (c != Str.ofString "..") = true) : normStep acc c = acc ++ [c] := by
  unfold normStep; rw [if_neg h, if_neg (by rw [h2]; exact Bool.false_ne_true), if_pos h3]
theorem norm4 (h : (c.length : Int) ≠ 0) (h2 : (c == Str.ofString ".") = false) (h3 : (c != Str.ofString "..") = false) : normStep acc c = acc.dropLast := by
  unfold normStep; rw [if_neg h, if_neg (by rw [h2]; exact Bool.false_ne_true), if_neg (by rw [h3]; exact Bool.false_ne_true)]
theorem norm5 {vs : List Value} (h : (c.length : Int) ≠ 0) (h2 : (c == Str.ofString ".") = false) (h3 : (c != Str.ofString "..") = false) (hs : StrsAre vs acc) (he : vs.toArray.isEmpty = true) : normStep acc c = acc := by
  rw [norm4 h h2 h3]
  cases hs with
  | nil => rfl
  | cons _ _ _ => simp at he
theorem dd3 (h : Str.ofString ".." ∉ acc) (h3 : (c != Str.ofString "..") = true) : Str.ofString ".." ∉ acc ++ [c] := by
  intro hm
  rcases List.mem_append.mp hm with hm | hm
  · exact h hm
  · have e := List.mem_singleton.mp hm
    rw [← e] at h3
    simp at h3
theorem dd9 {y : Str} (h : Str.ofString ".." ∉ acc) (hm : y ∈ acc) (e : (y == Str.ofString "..") = true) : False := h (by rw [← eq_of_beq e]; exact hm)
theorem dd4 (h : Str.ofString ".." ∉ acc) : Str.ofString ".." ∉ acc.dropLast := fun hm => h (List.dropLast_subset _ hm)
theorem PN_next {I Nc : Addr} {keep : List (Addr × Obj)} {m : Str → Option Value} {vs : List Value} {k : Nat} {t₁ t₂ t₃ t₄ : Tok} {acc' : List Str} (hNI : @LT.lt Nat _ Nc I) (hNk : AllNe Nc keep)
    (hm : m (Str.ofString "new_comps") = some (.ref Nc) ∧ m (Str.ofString "initial_slashes") = some (.str (Str.ofString "/") t₁) ∧ m (Str.ofString "sep") = some (.str (Str.ofString "/") t₂) ∧ m (Str.ofString "dot") = some (.str (Str.ofString ".") t₃) ∧ m (Str.ofString "dotdot") = some (.str (Str.ofString "..") t₄))
    (hc : (compsF x)[i]? = some c) (e : normStep (((compsF x).take i).foldl normStep []) c = acc') (hvs : StrsAre vs acc') (hdd : Str.ofString ".." ∉ acc') : PN x I keep (i + 1) m ((Nc, W.listOf vs.toArray k) :: keep) := by
  have h : ((compsF x).take (i + 1)).foldl normStep [] = acc' := by
    rw [List.take_add_one, hc, List.foldl_append]
    exact e
  exact ⟨Nc, vs, k, t₁, t₂, t₃, t₄, hNI, hNk, hm, rfl, by rw [h]; exact hvs, by rw [h]; exact hdd⟩
theorem foldl_len : ∀ (l : List Str) (acc : List Str), (l.foldl normStep acc).length ≤ acc.length + l.length
  | [], _ => Nat.le_refl _
  | c :: l, acc => by
    have h := foldl_len l (normStep acc c)
    have h2 : (normStep acc c).length ≤ acc.length + 1 := by
      unfold normStep
      repeat' split
      · exact Nat.le_succ _
      · exact Nat.le_succ _
      · simp
      · simp; omega
    rw [List.foldl_cons, List.length_cons]
    omega
end

theorem fresh_Pl : True := by
  w_top off
  exact trivial
section
theorem kw_Pl_1 : True := by
  k_with "truthy ref" => ((k_here; (with_reducible show wpAny _ _ (truthy (Value.ref _)) _ _ _); k_dflt (refine' truthy_L (by k_asm) (by k_mem) (by assumption) ?_)))
  k_with "subscriptTail Name UnaryOp ref int" => ((k_here; k_dflt (refine' item_lastS (by (refine' listAt (by k_asm) (by k_mem))) (by with_reducible assumption) (by assumption) (by assumption) ?_); intro y9Zk t9Zk hy9Zk))
  k_with "call builtin:list.pop" => ((k_here; k_dflt (refine' pop_S (by k_asm) (by k_asm) (by k_upd) (by with_reducible assumption) (by assumption) (by assumption) ?_); intro v9Zk h9Zk F9Zk N9Zk hS9Zk))
  k_with "exec For Name Name cons nil" => ((k_here; (rename Fr _ _ _ _ => lFpZk); (with_unfolding_all refine' For_turns lFpZk ?_; k_whole)))
  exact trivial

def normL (x : Str) : List Str := (compsF x).foldl normStep []
def normF (x : Str) : Str := Str.ofString "/" ++ Txt.join (Str.ofString "/") (normL x)
theorem sp_norm (w : World) (x : Str) (t : Tok) (hl : x.length ≤ 1000) (hcn : (compsF x).length ≤ 1000) (hj : ((normL x).map (·.length)).sum + (normL x).length ≤ 1048576) (hjj : (Txt.join (Str.ofString "/") (normL x)).length ≤ 100000) (h1 : (Txt.slice x none (some 1) != Str.ofString "/") = false) (h2 : (Txt.slice x (some 1) (some 2) != Str.ofString "/") = true) : SpecV w 179 12 60 [.str x t] (fun r => ∃ u, r = .str (normF x) u) := by
  intro p loose mean mg mb dp un gd cn cs a ccd cl outer A₀ base h₀ L m news s Q E B F X N T hk hd hu hret
  ((have : PySem.Challenge.rw_ik0073_01 = PySem.Challenge.rw_ik0073_01 ∧ Mine.hd.heap_1 = Mine.hd.heap_1 := (by k_fill; exact ⟨rfl, rfl⟩)); clear this; refine wpAny_call ?_; k_dflt (refine' enterN ?k1 ?k2 ?k3 ?k4 ?k5 ?kA ?kF ?kK ?k6 ?k7 ?k8 ?k9 ?kB ?_ ?c2 ?c3 ?c4 ?c5; (case kA => exact rfl); (case kF => exact rfl); (case kK => assumption); (case k1 => k_asm); (case k2 => k_asm); (case k3 => k_asm); (case k4 => k_asm); (case k5 => k_asm); (case k6 => k_is); (case k7 => k_is); (case k8 => ktr_room); (case k9 => exact BindsTo.of_eq rfl); (case c5 => decide); (case kB => exact locs rfl); (case c2 => exact rfl); (case c3 => exact rfl); (case c4 => exact rfl); k_whole; intro _ _ _ _ _ _ _ _ _; (try dsimp only); (try k_fold)))
  rename_i g L₁ h₁ FG F1 N1 B1 X1 T1
  k_steps
  · refine' iter_listTurns (vs := strValues _) ?hh ?F ?N ?hm ?hc ?hd ?_
    case hh => rfl
    case F => assumption
    case N => assumption
    case hm => exact List.mem_cons_of_mem _ (List.mem_cons_self ..)
    case hc => exact rfl
    case hd => exact rfl
    intro I lI
    (rename StrsAre _ _ => hS)
    (rename List.map _ _ = Txt.split _ _ => hmap)
    (rename _ ∧ _ => hlt1)
    (rename ∀ a, a ∈ _ → Str.length a ≤ _ => hlens)
    rw [hmap] at hS hlens
    replace hS : StrsAre _ (compsF x) := hS
    have hsl : (Txt.slice x (some 1) none).length ≤ x.length := PyProof.Txt.length_slice_le x _ _
    refine rest_indK (PN x I) ⟨_, ⟨_, [], 0, _, _, _, _, lI _ (List.mem_cons_self ..), ⟨Nat.ne_of_lt hlt1.1, trivial⟩, ⟨rfl, rfl, rfl, rfl, rfl⟩, rfl, .nil, List.not_mem_nil⟩, ?_⟩ ?_ ?_
    · intro p hp
      rcases List.mem_cons.mp hp with e | hp
      · rw [e]; exact List.mem_cons_self ..
      · rw [List.mem_singleton.mp hp]; exact List.mem_cons_of_mem _ (List.mem_cons_self ..)
    · intro i e r m₁ n₁ hx hP IH
      obtain ⟨Nc, vs, k, t₁, t₂, t₃, t₄, hNI, hNk, ⟨q1, q2, q3, q4, q5⟩, rfl, hvs, hdd⟩ := hP
      obtain ⟨u, hm⟩ := over5 q1 q2 q3 q4 q5
      subst hm
      clear q1 q2 q3 q4 q5
      obtain ⟨v, rfl, hv⟩ := valItem hx
      obtain ⟨c, tc, rfl, hc⟩ := strs_get hS hv
      have hcl : c.length ≤ 1000 := Nat.le_trans (Nat.le_trans (hlens c (List.mem_of_getElem? hc)) hsl) hl
      have hlen : vs.length ≤ 2000 := by
        have a1 := strs_len hvs
        have a2 := foldl_len ((compsF x).take i) []
        have a3 : ((compsF x).take i).length ≤ (compsF x).length := List.length_take_le' i _
        rw [List.length_nil] at a2
        omega
      have hNk0 := hNk
      (try simp only [AllNe, and_true] at hNk)
      k_steps
      all_goals (first
        | exact IH _ _ (PN_next hNI hNk0 ⟨rfl, rfl, rfl, rfl, rfl⟩ hc (norm1 (by assumption)) hvs hdd)
        | exact IH _ _ (PN_next hNI hNk0 ⟨rfl, rfl, rfl, rfl, rfl⟩ hc (norm2 (by assumption) (by assumption)) hvs hdd)
        | (refine ir_mono (fun p hp => ?_) (IH _ _ (PN_next (k := k + 1) hNI hNk0 ⟨rfl, rfl, rfl, rfl, rfl⟩ hc (norm3 (by assumption) (by assumption) (by assumption)) (strs_snoc (t := tc) hvs) (dd3 hdd (by assumption))))
           rw [← List.push_toArray] at hp
           exact hp)
        | exact IH _ _ (PN_next hNI hNk0 ⟨rfl, rfl, rfl, rfl, rfl⟩ hc (norm5 (by assumption) (by assumption) (by assumption) hvs (by assumption)) hvs hdd)
        | exact IH _ _ (PN_next hNI hNk0 ⟨rfl, rfl, rfl, rfl, rfl⟩ hc (norm4 (by assumption) (by assumption) (by assumption)) (by assumption) (dd4 hdd))
        | (exfalso; exact dd9 hdd (by assumption) (by assumption))
        | trace_state)
    · intro m₁ n₁ hP
      obtain ⟨Nc, vs, k, t₁, t₂, t₃, t₄, hNI, hNk, ⟨q1, q2, q3, q4, q5⟩, rfl, hvs, hdd⟩ := hP
      obtain ⟨u, hm⟩ := over5 q1 q2 q3 q4 q5
      subst hm
      clear q1 q2 q3 q4 q5
      rw [List.length_map, strs_len hS, List.take_length] at hvs
      have hvs' : StrsAre vs (normL x) := hvs
      k_steps
      refine' PyProof.Rows.join_listW ?hl ?hi ?hs ?hw ?_
      case hl => exact listAt (by assumption) (List.mem_cons_self ..)
      case hi => exact hvs'
      case hs => decide
      case hw => exact hj
      intro t9 tk9
      have hjl : (Txt.join (Str.ofString "/") (normL x)).length ≤ 100000 := hjj
      k_steps
      all_goals (refine hret _ _ _ (by k_asm) (by k_asm) ⟨_, rfl⟩)
  · exfalso
    have e1 : Txt.slice x none (some 1) = Str.ofString "/" := by simpa using h1
    have e2 := PyProof.Txt.length_slice_le x none (some 1)
    rw [e1, show (Str.ofString "/").length = 1 from rfl] at e2
    omega
end
theorem kw_Pl_2 : True := by
  k_with_none
  k_with "ite" => (first | with_reducible refine tt_then ?_ | with_reducible refine ff_else ?_)
  k_with "call ref" => ((k_here; (with_reducible show wpAny _ _ (call (Value.ref 186) [Value.int _ _]) _ _ _); k_dflt (refine' SpecV.use (sp_isfmt _ _ _) (by k_asm) (by k_asm) (by k_asm) (by k_asm) (by k_asm) (by first | exact rfl | assumption) (by ktr_room) (by ktr_units) ?_); intro r9Zk h9Zk tk9Zk F9Zk N9Zk hr9Zk; obtain ⟨u9Zk, hr9Zk⟩ := hr9Zk; subst hr9Zk; (try k_sweep); (try dsimp only); (try k_fold)))
  k_with "getMethod ref" => ((k_here; (with_reducible show wpAny _ _ (getMethod (Value.ref 43) _ _) _ _ _); k_dflt (refine' re_method (by k_in) ?_)))
  k_with "call builtin:re.Pattern.search" => ((k_here; k_dflt (refine' re_search (by k_in) (by first | assumption | omega) (by with_reducible assumption) ?_)))
  k_with "call ref" => ((k_here; (with_reducible show wpAny _ _ (call (Value.ref 50) [Value.str _ _]) _ _ _); k_dflt (refine' SpecV.use (sp_hdn _ _ _ (by first | assumption | omega) (by with_reducible assumption)) (by k_asm) (by k_asm) (by k_asm) (by k_asm) (by k_asm) (by first | exact rfl | assumption) (by ktr_room) (by ktr_units) ?_); intro r9Zk h9Zk tk9Zk F9Zk N9Zk hr9Zk; subst hr9Zk; (try k_sweep); (try dsimp only); (try k_fold)))
  k_with "call ref" => ((k_here; (with_reducible show wpAny _ _ (call (Value.ref 151) [Value.str _ _]) _ _ _); k_dflt (refine' SpecV.use (sp_getsep _ _ _) (by k_asm) (by k_asm) (by k_asm) (by k_asm) (by k_asm) (by first | exact rfl | assumption) (by ktr_room) (by ktr_units) ?_); intro r9Zk h9Zk tk9Zk F9Zk N9Zk hr9Zk; obtain ⟨u9Zk, hr9Zk⟩ := hr9Zk; subst hr9Zk; (try k_sweep); (try dsimp only); (try k_fold)))
  k_with "call builtin:issubclass" => ((k_here; (with_reducible show wpAny _ _ (call (Value.builtin "issubclass") [Value.type "str", Value.ref _]) _ _ _); k_dflt (refine' call_issub (by exact News.get (by k_asm) (by k_mem)) (by exact rfl) (by exact rfl) ?_)))
  k_with "call ref" => ((k_here; (with_reducible show wpAny _ _ (call (Value.ref 137) [Value.str _ _]) _ _ _); k_dflt (refine' SpecV.use (sp_fspath _ _ _) (by k_asm) (by k_asm) (by k_asm) (by k_asm) (by k_asm) (by first | exact rfl | assumption) (by ktr_room) (by ktr_units) ?_); intro r9Zk h9Zk tk9Zk F9Zk N9Zk hr9Zk; obtain ⟨u9Zk, hr9Zk⟩ := hr9Zk; subst hr9Zk; (try k_sweep); (try dsimp only); (try k_fold)))
  k_with "call ref" => ((k_here; (with_reducible show wpAny _ _ (call (Value.ref 172) [Value.str _ _]) _ _ _); k_dflt (refine' SpecV.use (sp_dirname _ _ _ (by first | assumption | omega)) (by k_asm) (by k_asm) (by k_asm) (by k_asm) (by k_asm) (by first | exact rfl | assumption) (by ktr_room) (by ktr_units) ?_); intro r9Zk h9Zk tk9Zk F9Zk N9Zk hr9Zk; obtain ⟨u9Zk, hr9Zk⟩ := hr9Zk; subst hr9Zk; (try k_sweep); (try dsimp only); (try k_fold)))
  k_with "call ref" => ((k_here; (with_reducible show wpAny _ _ (call (Value.ref 165) [Value.str _ _]) _ _ _); k_dflt (refine' SpecO.use (sp_splitroot _ _ _ (by first | assumption | omega) (by assumption) (by assumption)) (by k_asm) (by k_asm) (by k_asm) (by k_asm) (by k_asm) (by first | exact rfl | assumption) (by ktr_room) (by ktr_units) ?_); intro b9Zk o9Zk h9Zk tk9Zk F9Zk N9Zk l9Zk hr9Zk; obtain ⟨t91Zk, t92Zk, t93Zk, n9Zk, hr9Zk⟩ := hr9Zk; subst hr9Zk; (try simp only [AllNe, and_true] at l9Zk); (try k_sweep); (try dsimp only); (try k_fold)))
  k_with "call ref" => ((k_here; (with_reducible show wpAny _ _ (call (Value.ref 158) [Value.str _ _, Value.str _ _]) _ _ _); k_dflt (refine' SpecV.use (sp_join _ _ _ _ _ (by first | assumption | omega) (by first | assumption | omega)) (by k_asm) (by k_asm) (by k_asm) (by k_asm) (by k_asm) (by first | exact rfl | assumption) (by ktr_room) (by ktr_units) ?_); intro r9Zk h9Zk tk9Zk F9Zk N9Zk hr9Zk; obtain ⟨u9Zk, hr9Zk⟩ := hr9Zk; subst hr9Zk; (try k_sweep); (try dsimp only); (try k_fold)))
  k_with "exec For Tuple Call cons nil" => ((k_here; (rename Fr _ _ _ _ => lFpZk); (with_unfolding_all refine' For_turns lFpZk ?_; k_whole)))
  k_with "call ref" => ((k_here; (with_reducible show wpAny _ _ (call (Value.ref 233) [Value.int _ _]) _ _ _); k_dflt (refine' SpecV.use (sp_filemode _ _ _) (by k_asm) (by k_asm) (by k_asm) (by k_asm) (by k_asm) (by first | exact rfl | assumption) (by ktr_room) (by ktr_units) ?_); intro r9Zk h9Zk tk9Zk F9Zk N9Zk hr9Zk; obtain ⟨u9Zk, hr9Zk⟩ := hr9Zk; subst hr9Zk; (try k_sweep); (try dsimp only); (try k_fold)))
  k_with "call ref" => ((k_here; (with_reducible show wpAny _ _ (call (Value.ref 193) [Value.int _ _]) _ _ _); k_dflt (refine' SpecV.use (sp_isdir _ _ _) (by k_asm) (by k_asm) (by k_asm) (by k_asm) (by k_asm) (by first | exact rfl | assumption) (by ktr_room) (by ktr_units) ?_); intro r9Zk h9Zk tk9Zk F9Zk N9Zk hr9Zk; subst hr9Zk; (try k_sweep); (try dsimp only); (try k_fold)))
  k_with "call ref" => ((k_here; (with_reducible show wpAny _ _ (call (Value.ref 64) [Value.str _ _]) _ _ _); k_dflt (refine' SpecV.use (sp_reach _ _ _ (by first | assumption | omega) (by with_reducible assumption)) (by k_asm) (by k_asm) (by k_asm) (by k_asm) (by k_asm) (by first | exact rfl | assumption) (by ktr_room) (by ktr_units) ?_); intro r9Zk h9Zk tk9Zk F9Zk N9Zk hr9Zk; obtain ⟨u9Zk, hr9Zk⟩ := hr9Zk; subst hr9Zk; (try k_sweep); (try dsimp only); (try k_fold)))
  k_with "call ref" => ((k_here; (with_reducible show wpAny _ _ (call (Value.ref 57) [Value.str _ _, Value.str _ _]) _ _ _); k_dflt (refine' SpecV.use (sp_dm _ _ _ _ _ (by first | assumption | omega) (by first | assumption | omega) (by with_reducible assumption) (by with_reducible assumption)) (by k_asm) (by k_asm) (by k_asm) (by k_asm) (by k_asm) (by first | exact rfl | assumption) (by ktr_room) (by ktr_units) ?_); intro r9Zk h9Zk tk9Zk F9Zk N9Zk hr9Zk; subst hr9Zk; (try k_sweep); (try dsimp only); (try k_fold)))
  exact trivial

theorem kw_Pl_3 : True := by
  k_with "call ref" => ((k_here; (with_reducible show wpAny _ _ (call (Value.ref 179) [Value.str _ _]) _ _ _); k_dflt (refine' SpecV.use (sp_norm _ _ _ (by first | assumption | omega) (by assumption) (by assumption) (by assumption) (by assumption) (by assumption)) (by k_asm) (by k_asm) (by k_asm) (by k_asm) (by k_asm) (by first | exact rfl | assumption) (by ktr_room) (by ktr_units) ?_); intro r9Zk h9Zk tk9Zk F9Zk N9Zk hr9Zk; obtain ⟨u9Zk, hr9Zk⟩ := hr9Zk; subst hr9Zk; (try k_sweep); (try dsimp only); (try k_fold)))
  exact trivial


theorem fresh_Pm : True := by
  w_top off
  exact trivial
theorem strs_rev {vs : List Value} {ys : List Str} (h : StrsAre vs ys) : StrsAre vs.reverse ys.reverse := by
  induction h with
  | nil => exact .nil
  | @cons y t vs ys _ ih =>
    rw [List.reverse_cons, List.reverse_cons]
    exact strs_snoc ih
def hostF (x : Str) : Str := Txt.join (Str.ofString ".") (compsF x).reverse
theorem sp_host (w : World) (x : Str) (t : Tok) (hl : x.length ≤ 300) (hcn : (compsF x).length ≤ 1000) (hj : ((compsF x).map (·.length)).sum + (compsF x).length ≤ 1048576) : SpecV w 259 8 40 [.str x t] (fun r => ∃ u, r = .str (hostF x) u) := by
  intro p loose mean mg mb dp un gd cn cs a ccd cl outer A₀ base h₀ L m news s Q E B F X N T hk hd hu hret
  ((have : PySem.Challenge.rw_ik0073_01 = PySem.Challenge.rw_ik0073_01 ∧ Mine.hd.heap_1 = Mine.hd.heap_1 := (by k_fill; exact ⟨rfl, rfl⟩)); clear this; refine wpAny_call ?_; k_dflt (refine' enterN ?k1 ?k2 ?k3 ?k4 ?k5 ?kA ?kF ?kK ?k6 ?k7 ?k8 ?k9 ?kB ?_ ?c2 ?c3 ?c4 ?c5; (case kA => exact rfl); (case kF => exact rfl); (case kK => assumption); (case k1 => k_asm); (case k2 => k_asm); (case k3 => k_asm); (case k4 => k_asm); (case k5 => k_asm); (case k6 => k_is); (case k7 => k_is); (case k8 => ktr_room); (case k9 => exact BindsTo.of_eq rfl); (case c5 => decide); (case kB => exact locs rfl); (case c2 => exact rfl); (case c3 => exact rfl); (case c4 => exact rfl); k_whole; intro _ _ _ _ _ _ _ _ _; (try dsimp only); (try k_fold)))
  k_steps
  (rename StrsAre _ _ => hS)
  (rename List.map _ _ = Txt.split _ _ => hmap)
  rw [hmap] at hS
  replace hS : StrsAre _ (compsF x) := hS
  refine' PyProof.Rows.join_listW ?hl ?hi ?hs ?hw ?_
  case hl => exact listAt (by assumption) (List.mem_cons_self ..)
  case hi => rw [krv_pick]; exact strs_rev hS
  case hs => decide
  case hw => rw [List.map_reverse, List.sum_reverse, List.length_reverse]; exact hj
  intro t9 tk9
  k_steps
  all_goals (refine hret _ _ _ (by k_asm) (by k_asm) ⟨_, rfl⟩)

theorem fresh_Pn : True := by
  w_top off
  exact trivial
def sgF (asker owner : Str) (odd : Int) (name : Str) : Str :=
  if odd = 1 then
    if dmF asker (Txt.upper owner) then Txt.slice name (some 1) (some 4)
    else if dmF asker (Txt.upper (reachF owner)) then Txt.slice name (some 4) (some 7)
    else Txt.slice name (some 7) (some 10)
  else
    if dmF (Txt.upper asker) owner then Txt.slice name (some 1) (some 4)
    else if dmF (Txt.upper asker) (reachF owner) then Txt.slice name (some 4) (some 7)
    else Txt.slice name (some 7) (some 10)
theorem sp_signs (w : World) (x : Str) (t : Tok) (y : Str) (u : Tok) (i : Int) (v : Tok) (z : Str) (q : Tok) (hx : x.length ≤ 100) (hy : y.length ≤ 100) (hz : z.length ≤ 1000) (hr : (reachF y).length ≤ 100)
    (c1 : reNone y = true) (c2 : reNone (Txt.lower x) = true) (c3 : reNone (Txt.lower (Txt.upper x)) = true) (c4 : reNone (Txt.slice (Txt.lower y) (some 1) none) = true) (c5 : reNone (Txt.slice (Txt.lower (Txt.upper y)) (some 1) none) = true)
    (c6 : reNone (Txt.slice (Txt.lower (reachF y)) (some 1) none) = true) (c7 : reNone (Txt.slice (Txt.lower (Txt.upper (reachF y))) (some 1) none) = true) :
    SpecV w 266 16 80 [.str x t, .str y u, .int i v, .str z q] (fun r => ∃ u, r = .str (sgF x y i z) u) := by
  intro p loose mean mg mb dp un gd cn cs a ccd cl outer A₀ base h₀ L m news s Q E B F X N T hk hd hu hret
  ((have : PySem.Challenge.rw_ik0073_01 = PySem.Challenge.rw_ik0073_01 ∧ Mine.hd.heap_1 = Mine.hd.heap_1 := (by k_fill; exact ⟨rfl, rfl⟩)); clear this; refine wpAny_call ?_; k_dflt (refine' enterN ?k1 ?k2 ?k3 ?k4 ?k5 ?kA ?kF ?kK ?k6 ?k7 ?k8 ?k9 ?kB ?_ ?c2 ?c3 ?c4 ?c5; (case kA => exact rfl); (case kF => exact rfl); (case kK => assumption); (case k1 => k_asm); (case k2 => k_asm); (case k3 => k_asm); (case k4 => k_asm); (case k5 => k_asm); (case k6 => k_is); (case k7 => k_is); (case k8 => ktr_room); (case k9 => exact BindsTo.of_eq rfl); (case c5 => decide); (case kB => exact locs rfl); (case c2 => exact rfl); (case c3 => exact rfl); (case c4 => exact rfl); k_whole; intro _ _ _ _ _ _ _ _ _; (try dsimp only); (try k_fold)))
  k_steps
  all_goals (refine hret _ _ _ (by k_asm) (by k_asm) ⟨_, congrArg (Value.str · _) ?_⟩; (unfold sgF); (repeat (first | rw [if_pos (by with_reducible assumption)] | rw [if_neg (by with_reducible assumption)] | rw [if_neg (by simp only [Bool.not_eq_true]; with_reducible assumption)])); (try rfl))
theorem kw_Pn_1 : True := by
  k_with "call ref" => ((k_here; (with_reducible show wpAny _ _ (call (Value.ref 259) [Value.str _ _]) _ _ _); k_dflt (refine' SpecV.use (sp_host _ _ _ (by first | assumption | omega) (by with_reducible assumption) (by with_reducible assumption)) (by k_asm) (by k_asm) (by k_asm) (by k_asm) (by k_asm) (by first | exact rfl | assumption) (by ktr_room) (by ktr_units) ?_); intro r9Zk h9Zk tk9Zk F9Zk N9Zk hr9Zk; obtain ⟨u9Zk, hr9Zk⟩ := hr9Zk; subst hr9Zk; (try k_sweep); (try dsimp only); (try k_fold)))
  k_with "call ref" => ((k_here; (with_reducible show wpAny _ _ (call (Value.ref 266) [Value.str _ _, Value.str _ _, Value.int _ _, Value.str _ _]) _ _ _); k_dflt (refine' SpecV.use (sp_signs _ _ _ _ _ _ _ _ _ (by with_reducible assumption) (by with_reducible assumption) (by with_reducible assumption) (by with_reducible assumption) (by with_reducible assumption) (by with_reducible assumption) (by with_reducible assumption) (by with_reducible assumption) (by with_reducible assumption) (by with_reducible assumption) (by with_reducible assumption)) (by k_asm) (by k_asm) (by k_asm) (by k_asm) (by k_asm) (by first | exact rfl | assumption) (by ktr_room) (by ktr_units) ?_); intro r9Zk h9Zk tk9Zk F9Zk N9Zk hr9Zk; obtain ⟨u9Zk, hr9Zk⟩ := hr9Zk; subst hr9Zk; (try k_sweep); (try dsimp only); (try k_fold)))
  exact trivial


theorem fresh_Po : True := by
  w_top off
  exact trivial
def rangeItems (a : Int) (n : Nat) : List Itm := (List.range n).map fun (i : Nat) => .tok (fun t => .int (a + (i : Int)) t)
section
variable {prog : Program} {w : World} {A : Around} {E : Value → Shared → Prop} {s : Shared} {env : Env} {h₀ : Heap} {body : List Stmt} {Q : Flow → Shared → Prop}
theorem iter_rangeT {x : Str} {px : Pos} {r : Addr} {a b : Int} {t₀ u₀ v₀ : Tok} {n : Nat} {m₀ : Str → Option Value} {news : List (Addr × Obj)}
    (hh : A.handled = none) (hr : IsRange s.heap r a b 1 t₀ u₀ v₀) (hsmall : Builtin.Range.small a b 1 = true) (hsz : Builtin.Range.rangeSize a b 1 = (n : Int)) (F : Fr h₀ env.locals s.heap m₀) (N : News h₀ env.locals s.heap news)
    (rest₀ : ∀ I : Addr, (∀ p ∈ news, p.1 < I) → ItemsRest prog w A E h₀ env (.Name x px) body Q s [(I, "range_iterator")] [] (rangeItems a n) m₀ news) :
    wpAny (model prog w) A (pyIter (.ref r)) (fun it s₂ => TurnsAt prog w A h₀ env (.Name x px) body Q E it s₂) E s := by
  refine wpAny_pyIter_range hr hsmall ?_
  have W : Walks prog w A s.heap.objs.size [s.heap.objs.size] [s.heap.objs.size] n (fun i v => i < n ∧ ∃ t, v = .int (a + i * 1) t)
      (fun i h => IsRangeIter h s.heap.objs.size (a + (i : Nat) * 1) ((n : Int) - (i : Nat)) 1) := (Walks.range hh _ a 1 n).bound
  refine ktg_core (tk0 := s.toks) (keep := []) (KTurns.ofWalks W fun i v s Q E st q => ?_) (by simp [rangeItems]) (fun i v h hp => ?_) (fun i h st => ?_) (fun b hb => ?_) (fun b hb => by simpa using hb) (fun b hb => ?_) ?_ (fun p hp hI => ?_) ?_ (F.push _) (fun p hp => ⟨Heap.get?_push_of_some _ (N p hp).1, (N p hp).2⟩) trivial (rest₀ _ fun p hp => Heap.lt_size (N p hp).1)
  · unfold letOwnedTupleGo
    exact wpAny_pure q
  · obtain ⟨hi, t, rfl⟩ := hp
    refine ⟨.tok (fun t => .int (a + (i : Int)) t), ?_, t, ?_⟩
    · simp [rangeItems, hi]
    · rw [Int.mul_one]
  · have st' : h.get? s.heap.objs.size = some _ := st
    exact ⟨[(s.heap.objs.size, _)], ⟨⟨rfl, rfl⟩, trivial⟩, fun p hp => by rw [List.mem_singleton.mp hp]; exact st'⟩
  · have hb' : b = s.heap.objs.size := by simpa using hb
    rw [hb']
    exact ⟨List.mem_cons_self .., next_is_new F⟩
  · exact .inl (by simpa using hb)
  · intro hI
    exact absurd F.ns.lt ((List.mem_singleton.mp hI) ▸ Nat.lt_irrefl _)
  · exact absurd (Heap.lt_size (N p hp).1) ((List.mem_singleton.mp hI) ▸ Nat.lt_irrefl _)
  · show IsRangeIter _ _ _ _ _
    rw [hsz]
    simpa using Heap.get?_push_size _ rfl
end
@[irreducible] def hidT {α : Type} (t : Sem α) : Sem α := t
theorem hidT_intro {α : Type} {M : Model} {A : Around} {t : Sem α} {Q : α → Shared → Prop} {E : Value → Shared → Prop} {s : Shared} (h : wpAny M A (hidT t) Q E s) : wpAny M A t Q E s := by unfold hidT at h; exact h
theorem hidT_cut {α : Type} {M : Model} {A : Around} {t : Sem α} {Q : α → Shared → Prop} {E : Value → Shared → Prop} {s : Shared} (P : α → Shared → Prop) (h : wpAny M A t P (fun _ _ => False) s) (k : ∀ a s', P a s' → Q a s') : wpAny M A (hidT t) Q E s := by
  unfold hidT
  exact wpAny_mono h k fun _ _ e => e.elim
def wayL : Nat → List Str → List Str
  | 0, l => l
  | n + 1, l => if dirF (l.headD Str.empty) == Str.ofString "/" then l else wayL n (dirF (l.headD Str.empty) :: l)
def wayF (x : Str) : List Str := wayL 5 [x]
theorem over3w {m : Str → Option Value} {a b c : Str} {va vb vc : Value} (ha : m a = some va) (hb : m b = some vb) (hc : m c = some vc) : ∃ u : Str → Option Value, m = fun z => if z = a then some va else if z = b then some vb else if z = c then some vc else u z := over3 ha hb hc
def PW (ta : Addr) (x : Str) (t : Tok) (i : Nat) (m : Str → Option Value) (n : List (Addr × Obj)) : Prop :=
  ∃ Wa v vs k y ys, (m (Str.ofString "way") = some (.ref Wa) ∧ m (Str.ofString "table") = some (.ref ta) ∧ m (Str.ofString "place") = some (.str x t)) ∧ n = [(Wa, W.listOf (v :: vs).toArray k)] ∧ StrsAre (v :: vs) (y :: ys) ∧ y.length ≤ 300 ∧ ys.length ≤ i ∧ wayF x = wayL (5 - i) (y :: ys)
theorem PW_init {ta : Addr} {x : Str} {t : Tok} {m : Str → Option Value} {news : List (Addr × Obj)} {Wa : Addr} {k : Tok} (hl : x.length ≤ 300) (q1 : m (Str.ofString "way") = some (.ref Wa)) (q2 : m (Str.ofString "table") = some (.ref ta)) (q3 : m (Str.ofString "place") = some (.str x t)) (hi : (Wa, W.listOf #[.str x t] k) ∈ news) : ∃ n₀, PW ta x t 0 m n₀ ∧ ∀ p ∈ n₀, p ∈ news :=
  ⟨[(Wa, W.listOf #[.str x t] k)], ⟨Wa, .str x t, [], k, x, [], ⟨q1, q2, q3⟩, rfl, .cons _ _ .nil, hl, Nat.zero_le _, rfl⟩, fun p hp => by rw [List.mem_singleton.mp hp]; exact hi⟩
theorem rangeAt {a : Int} {n i : Nat} {x : Itm} (h : (rangeItems a n)[i]? = some x) : i < n ∧ x = .tok (fun t => .int (a + (i : Int)) t) := by
  unfold rangeItems at h
  rw [List.getElem?_map] at h
  cases hc : (List.range n)[i]? with
  | none => rw [hc] at h; exact absurd h (by simp)
  | some j =>
    rw [hc] at h
    obtain ⟨hj, e⟩ := List.getElem?_eq_some_iff.mp hc
    rw [List.getElem_range] at e
    subst e
    exact ⟨by simpa using hj, (Option.some.inj h).symm⟩
def pickL {α : Type} (l : List α) (lo hi : Option Int) : List α := (l.drop (kms_lo lo l.length)).take (kms_hi hi l.length - kms_lo lo l.length)
theorem strs_drop {vs : List Value} {ys : List Str} (h : StrsAre vs ys) : ∀ n, StrsAre (vs.drop n) (ys.drop n) := by
  induction h with
  | nil => intro n; simpa using StrsAre.nil
  | @cons y t vs ys h ih =>
    intro n
    cases n with
    | zero => exact .cons y t h
    | succ n => exact ih n
theorem strs_take {vs : List Value} {ys : List Str} (h : StrsAre vs ys) : ∀ n, StrsAre (vs.take n) (ys.take n) := by
  induction h with
  | nil => intro n; simpa using StrsAre.nil
  | @cons y t vs ys h ih =>
    intro n
    cases n with
    | zero => exact .nil
    | succ n => exact .cons y t (ih n)
theorem strs_pick {vs : List Value} {ys : List Str} (h : StrsAre vs ys) (lo hi : Option Int) : StrsAre (pickL vs lo hi) (pickL ys lo hi) := by
  unfold pickL
  rw [strs_len h]
  exact strs_take (strs_drop h _) _
section
variable {prog : Program} {w : World} {A : Around} {E : Value → Shared → Prop} {s : Shared} {h₀ : Heap} {L l : Addr} {m : Str → Option Value} {news : List (Addr × Obj)} {value slice : PySem.Expr} {vs : List Value} {ys : List Str} {vl vu : Value} {lo hi : Option Int} {Q : Value → Shared → Prop}
theorem slice_strs (F : Fr h₀ L s.heap m) (N : News h₀ L s.heap news) (hl : s.heap.IsList l vs.toArray) (pl : IsPart vl lo) (pu : IsPart vu hi) (hi' : StrsAre vs ys) (hy : ys.length ≤ 100000)
    (h : ∀ D ws h', Fr h₀ L h' m → News h₀ L h' ((D, W.listOf (List.toArray ws) 0) :: news) → (∀ p ∈ news, p.1 < D) → StrsAre ws (pickL ys lo hi) → ws.length ≤ ys.length → Q (.ref D) { s with heap := h' })
    (hs : subscripted slice false (.ref l) (.ref s.heap.objs.size) = operate [.ref s.heap.objs.size, .ref l] (getItem (.ref l) (.ref s.heap.objs.size))) (ht : ∀ r, letTemporaryGo value (.ref l) r = pure ()) :
    wpAny (model prog w) A (subscriptTail value slice (.ref l) (.ref s.heap.objs.size)) Q E { s with heap := s.heap.push { cls := .type "slice", data := .fields #[vl, vu, .none] } } := by
  refine kms_slice_lit (zs := pickL vs lo hi) F N hl pl pu rfl (fun D h' F' N' l1 => h D _ h' F' N' l1 (strs_pick hi' lo hi) (by rw [← strs_len hi']; unfold pickL; rw [List.length_take, List.length_drop]; omega)) hs ht ?_
  have e := strs_len hi'
  rw [List.size_toArray, e, sizeLine_eq]
  omega
end
def TabOK (w : World) (h : Heap) (ta : Addr) (tab : Str → Option (Bool × Str)) : Prop := ∃ f, h.MapOf (strKind PP w) ta f ∧ ∀ k b y, tab k = some (b, y) → ∃ a ty, f k = some (.ref a) ∧ h.IsTuple a #[.bool b, .str y ty]
theorem TabOK.keep {w : World} {h h' : Heap} {ta : Addr} {tab : Str → Option (Bool × Str)} (T : TabOK w h ta tab) (hk : ∀ b o, h.get? b = some o → h'.get? b = some o) : TabOK w h' ta tab := by
  obtain ⟨f, ⟨o, es, ep, ho, r⟩, hf⟩ := T
  refine ⟨f, ⟨o, es, ep, hk _ _ ho, r⟩, fun k b y e => ?_⟩
  obtain ⟨a, ty, e1, o1, h1, h2⟩ := hf k b y e
  exact ⟨a, ty, e1, o1, hk _ _ h1, h2⟩
theorem told_get {w : World} {A : Around} {E : Value → Shared → Prop} {s : Shared} {g : Heap} {L ta : Addr} {m : Str → Option Value} {tab : Str → Option (Bool × Str)} {k : Str} {u : Tok} {b : Bool} {y : Str} {Q : Value → Shared → Prop} {value slice : PySem.Expr} {ops : List Value}
    (T : TabOK w g ta tab) (F : Fr g L s.heap m) (hv : tab k = some (b, y)) (hs : subscripted slice false (.ref ta) (.str k u) = operate ops (getItem (.ref ta) (.str k u)))
    (h : ∀ a ty, g.IsTuple a #[.bool b, .str y ty] → Q (.ref a) { s with toks := s.toks + 1 }) : wpAny (model PP w) A (subscriptTail value slice (.ref ta) (.str k u)) Q E s := by
  obtain ⟨f, hm, hf⟩ := T
  obtain ⟨a, ty, e1, h1⟩ := hf k b y hv
  have hm' : s.heap.MapOf (strKind PP w) ta f := by
    obtain ⟨o, es, ep, ho, r⟩ := hm
    exact ⟨o, es, ep, F.keep _ _ ho, r⟩
  exact tail_any hm'.typeIs slot_dict_getitem.lookup (wpAny_getItem_of (strKind_is _ _ k u) hm' e1 (h a ty h1)) hs
abbrev SpecG (w : World) (f : Addr) (D U : Nat) (vs : List Value) (H : Heap → Prop) (R : Value → Prop) : Prop :=
  ∀ (p : Program) (loose : List Str) (mean : ExcName → Option Value) (mg mb : Str → Option Value) (dp un : Nat) (gd : Option (List Code)) (cn : Str) (cs : Scope) (a : Addr) (ccd : Value) (cl : List (Str × Addr)) (outer : List Env) (A₀ : Around) (base h₀ : Heap) (L : Addr) (m : Str → Option Value) (news : List (Addr × Obj)) (s : Shared)
    (Q E : Value → Shared → Prop),
    Below A₀ base outer h₀ → Fr h₀ L s.heap m → (hd.heap_1 w.params).In h₀ → News h₀ L s.heap news → Top p loose mean mg mb h₀ → cs.kind = .function → dp + D < recursionLimit → un + U < cLine → H s.heap →
    (∀ r h' tk', Fr h₀ L h' m → News h₀ L h' news → R r → Q r { s with heap := h', toks := tk' }) →
    wpAny (model PP w) (ktrTop dp un gd cn cs L a ccd cl outer) (call (.ref f) vs) Q E s
def toldF (tab : Str → Option (Bool × Str)) (x : Str) : List Str → Str
  | [] => match tab x with | some (_, y) => y | none => Str.empty
  | f :: r => match tab f with
    | some (b, y) => if b = false then f else if (Builtin.Str.occurrences (Str.ofString "xst") (Txt.item y 2) 0 (Str.ofString "xst").length 1).isEmpty = true then f else toldF tab x r
    | none => Str.empty
theorem hidT_open {α : Type} {M : Model} {A : Around} {t : Sem α} {Q : α → Shared → Prop} {E : Value → Shared → Prop} {s : Shared} (h : wpAny M A t Q E s) : wpAny M A (hidT t) Q E s := by unfold hidT; exact h
def ToldMid (g : Heap) (L ta : Addr) (x : Str) (t : Tok) (s : Shared) (f : Flow) (s' : Shared) : Prop :=
  f = .next ∧ ∃ h' tk m' Wa vs k, s' = { s with heap := h', toks := tk } ∧ Fr g L h' m' ∧ News g L h' [(Wa, W.listOf vs.toArray k)] ∧ (m' (Str.ofString "way") = some (.ref Wa) ∧ m' (Str.ofString "table") = some (.ref ta) ∧ m' (Str.ofString "place") = some (.str x t)) ∧ StrsAre vs (wayF x) ∧ (wayF x).length ≤ 6
theorem told_end {g : Heap} {L ta : Addr} {x : Str} {t : Tok} {s : Shared} {h' : Heap} {tk : Nat} {m' : Str → Option Value} {Wa : Addr} {vs : List Value} {ys : List Str} {k : Nat} {news : List (Addr × Obj)} (F : Fr g L h' m') (N : News g L h' news) (hi : (Wa, W.listOf vs.toArray k) ∈ news) (q1 : m' (Str.ofString "way") = some (.ref Wa)) (q2 : m' (Str.ofString "table") = some (.ref ta)) (q3 : m' (Str.ofString "place") = some (.str x t)) (hv : StrsAre vs ys) (hy : ys.length ≤ 6) (e : wayF x = ys) : ToldMid g L ta x t s .next { s with heap := h', toks := tk } :=
  ⟨rfl, h', tk, m', Wa, vs, k, rfl, F, fun p hp => N p (by rw [List.mem_singleton.mp hp]; exact hi), ⟨q1, q2, q3⟩, e ▸ hv, e ▸ hy⟩
theorem wayL_stop {n : Nat} {y : Str} {ys : List Str} (h : (dirF y == Str.ofString "/") = true) : wayL n (y :: ys) = y :: ys := by
  cases n with
  | zero => rfl
  | succ n =>
    unfold wayL
    rw [List.headD_cons, if_pos h]
theorem wayL_go {i : Nat} {y : Str} {ys : List Str} (hi : i < 5) (h : (dirF y == Str.ofString "/") = false) : wayL (5 - i) (y :: ys) = wayL (5 - (i + 1)) (dirF y :: y :: ys) := by
  obtain ⟨n, hn⟩ : ∃ n, 5 - i = n + 1 := ⟨4 - i, by omega⟩
  rw [hn, show 5 - (i + 1) = n by omega, wayL, List.headD_cons, if_neg (by rw [h]; decide)]
theorem drop_at {α : Type} {l : List α} {i : Nat} {c : α} (h : l[i]? = some c) : l.drop i = c :: l.drop (i + 1) := by
  obtain ⟨hi, e⟩ := List.getElem?_eq_some_iff.mp h
  rw [← e]
  exact List.drop_eq_getElem_cons hi
def PT (ta : Addr) (x : Str) (t : Tok) (tab : Str → Option (Bool × Str)) (full : List Str) (keep : List (Addr × Obj)) (i : Nat) (m : Str → Option Value) (n : List (Addr × Obj)) : Prop :=
  (m (Str.ofString "table") = some (.ref ta) ∧ m (Str.ofString "place") = some (.str x t)) ∧ n = keep ∧ toldF tab x full = toldF tab x (full.drop i)
theorem PT_init {ta : Addr} {x : Str} {t : Tok} {tab : Str → Option (Bool × Str)} {full : List Str} {m : Str → Option Value} {news : List (Addr × Obj)} {p : Addr × Obj} (q2 : m (Str.ofString "table") = some (.ref ta)) (q3 : m (Str.ofString "place") = some (.str x t)) (hp : p ∈ news) : ∃ n₀, PT ta x t tab full [p] 0 m n₀ ∧ ∀ p ∈ n₀, p ∈ news :=
  ⟨[p], ⟨⟨q2, q3⟩, rfl, rfl⟩, fun q hq => by rw [List.mem_singleton.mp hq]; exact hp⟩
theorem over2t {m : Str → Option Value} {a b : Str} {va vb : Value} (ha : m a = some va) (hb : m b = some vb) : ∃ u : Str → Option Value, m = fun z => if z = a then some va else if z = b then some vb else u z :=
  ⟨m, funext fun z => by
    by_cases h1 : z = a
    · rw [if_pos h1, h1, ha]
    · rw [if_neg h1]
      by_cases h2 : z = b
      · rw [if_pos h2, h2, hb]
      · rw [if_neg h2]⟩
theorem told_no {tab : Str → Option (Bool × Str)} {x c z : Str} {r : List Str} (h : tab c = some (false, z)) : toldF tab x (c :: r) = c := by rw [toldF, h]; rfl
theorem told_hit {tab : Str → Option (Bool × Str)} {x c z : Str} {r : List Str} (h : tab c = some (true, z)) (o : (Builtin.Str.occurrences (Str.ofString "xst") (Txt.item z 2) 0 (Str.ofString "xst").length 1).isEmpty = true) : toldF tab x (c :: r) = c := by
  rw [toldF, h]
  dsimp only
  rw [if_neg (by decide), if_pos o]
theorem told_on {tab : Str → Option (Bool × Str)} {x c z : Str} {r : List Str} (h : tab c = some (true, z)) (o : (Builtin.Str.occurrences (Str.ofString "xst") (Txt.item z 2) 0 (Str.ofString "xst").length 1).isEmpty = false) : toldF tab x (c :: r) = toldF tab x r := by
  rw [toldF, h]
  dsimp only
  rw [if_neg (by decide), if_neg (by rw [o]; decide)]
theorem told_last {tab : Str → Option (Bool × Str)} {x z : Str} {b : Bool} (h : tab x = some (b, z)) : toldF tab x [] = z := by rw [toldF, h]
theorem ir_next {w : World} {A : Around} {E : Value → Shared → Prop} {s : Shared} {env : Env} {h₀ : Heap} {body : List Stmt} {Q : Flow → Shared → Prop} {target : Expr} {ws : List (Addr × String)} {keep : List (Addr × Obj)} {xs : List Itm} {m : Str → Option Value} {news : List (Addr × Obj)} {P : (Str → Option Value) → List (Addr × Obj) → Prop}
    (IH : ∀ m' n', P m' n' → ItemsRest PP w A E h₀ env target body Q s ws keep xs m' n') (h : ∃ n', P m n' ∧ ∀ p ∈ n', p ∈ news) : ItemsRest PP w A E h₀ env target body Q s ws keep xs m news :=
  let ⟨_, a, b⟩ := h
  ir_mono b (IH _ _ a)
theorem PW_next {ta : Addr} {x : Str} {t : Tok} {m : Str → Option Value} {news : List (Addr × Obj)} {Wa : Addr} {i : Nat} {y : Str} {tu ty : Tok} {vs : List Value} {ys : List Str} (q1 : m (Str.ofString "way") = some (.ref Wa)) (q2 : m (Str.ofString "table") = some (.ref ta)) (q3 : m (Str.ofString "place") = some (.str x t))
    (hi : (Wa, ({ cls := .type "list", data := .seq (#[Value.str (dirF y) tu].toList ++ (Value.str y ty :: vs).toArray.toList).toArray } : Obj)) ∈ news) (hvs : StrsAre vs ys) (hd : (dirF y).length ≤ 300) (hyn : ys.length ≤ i) (hi5 : i < 5) (hw : wayF x = wayL (5 - i) (y :: ys)) (hne : (dirF y == Str.ofString "/") = false) :
    ∃ n₀, PW ta x t (i + 1) m n₀ ∧ ∀ p ∈ n₀, p ∈ news :=
  ⟨[(Wa, W.listOf (Value.str (dirF y) tu :: Value.str y ty :: vs).toArray 0)], ⟨Wa, _, _, 0, dirF y, y :: ys, ⟨q1, q2, q3⟩, rfl, .cons _ _ (.cons _ _ hvs), hd, by rw [List.length_cons]; omega, hw.trans (wayL_go hi5 hne)⟩, fun p hp => by rw [List.mem_singleton.mp hp]; exact hi⟩
theorem pick_to {α : Type} (l : List α) (i : Nat) : pickL l none (some (0 + (i : Int))) = l.take i := by
  unfold pickL kms_lo kms_hi
  rw [Int.zero_add]
  dsimp only
  rw [if_neg (by omega), List.drop_zero, Nat.sub_zero, Int.toNat_natCast]
  exact kmk_take_min l i
theorem pick_to1 {α : Type} (l : List α) (i : Nat) : pickL l none (some (0 + ((i + 1 : Nat) : Int) - 1)) = l.take i := by
  have e : (0 + ((i + 1 : Nat) : Int) - 1) = 0 + (i : Int) := by omega
  rw [e, pick_to]

theorem fresh_Po2 : True := by
  w_top off
  exact trivial
section
variable {prog : Program} {w : World} {A : Around} {E : Value → Shared → Prop} {s : Shared} {h₀ : Heap} {L : Addr} {m : Str → Option Value} {news : List (Addr × Obj)}
theorem add_any {l b : Addr} {vs ws : List Value} {Q : Value → Shared → Prop} (F : Fr h₀ L s.heap m) (N : News h₀ L s.heap news) (hl : s.heap.IsList l vs.toArray) (hb : s.heap.IsList b ws.toArray) (hz : vs.length + ws.length ≤ 100000)
    (h : ∀ D h', Fr h₀ L h' m → News h₀ L h' ((D, W.listOf (List.toArray (vs ++ ws)) 0) :: news) → (∀ p ∈ news, p.1 < D) → Q (.ref D) { s with heap := h' }) : wpAny (model prog w) A (binaryOp .Add (.ref l) (.ref b)) Q E s :=
  add_arrays (hsz := by rw [List.size_toArray, List.size_toArray, sizeLine_eq]; omega) F N hl hb fun h' F' N' => h _ h' F' N' fun p hp => Heap.lt_size (N p hp).1
theorem item_at {value slice : PySem.Expr} {l : Addr} {vs : List Value} {k : Int} {u : Tok} {v : Value} {Q : Value → Shared → Prop} (hl : s.heap.IsList l vs.toArray) (h0 : 0 ≤ k) (hz : vs.length ≤ 100000) (hv : vs[k.toNat]? = some v) (h : Q v s)
    (hs : subscripted slice false (.ref l) (.int k u) = operate [.ref l, .int k u] (getItem (.ref l) (.int k u))) : wpAny (model prog w) A (subscriptTail value slice (.ref l) (.int k u)) Q E s := by
  have hj := (List.getElem?_eq_some_iff.mp hv).1
  exact tail_any hl.typeIs slot_list_getitem.lookup (wpAny_getItem_list hl h0 (by omega) (by simpa using hv) h) hs
theorem pair_item {value slice : PySem.Expr} {l : Addr} {its : Array Value} {k : Int} {u : Tok} {v : Value} {Q : Value → Shared → Prop} (ht : h₀.IsTuple l its) (F : Fr h₀ L s.heap m) (h0 : 0 ≤ k) (hz : its.size ≤ 1000) (hv : its[k.toNat]? = some v) (h : Q v s)
    (hs : subscripted slice false (.ref l) (.int k u) = operate [.ref l, .int k u] (getItem (.ref l) (.int k u))) : wpAny (model prog w) A (subscriptTail value slice (.ref l) (.int k u)) Q E s := by
  have ht' : IsTup s.heap l its := F.tup ht
  have hj := (Array.getElem?_eq_some_iff.mp hv).1
  exact tail_any ht'.typeIs slot_tuple_getitem.lookup (getItem_tuple ht' (by omega) (by omega) (seqIndex_of h0 (by omega)) hv h) hs
theorem pair_item0 {value slice : PySem.Expr} {l : Addr} {x y : Value} {u : Tok} {Q : Value → Shared → Prop} (ht : h₀.IsTuple l #[x, y]) (F : Fr h₀ L s.heap m) (h : Q x s)
    (hs : subscripted slice false (.ref l) (.int 0 u) = operate [.ref l, .int 0 u] (getItem (.ref l) (.int 0 u))) : wpAny (model prog w) A (subscriptTail value slice (.ref l) (.int 0 u)) Q E s :=
  pair_item ht F (by decide) (Nat.le_of_ble_eq_true rfl) rfl h hs
theorem pair_item1 {value slice : PySem.Expr} {l : Addr} {x y : Value} {u : Tok} {Q : Value → Shared → Prop} (ht : h₀.IsTuple l #[x, y]) (F : Fr h₀ L s.heap m) (h : Q y s)
    (hs : subscripted slice false (.ref l) (.int 1 u) = operate [.ref l, .int 1 u] (getItem (.ref l) (.int 1 u))) : wpAny (model prog w) A (subscriptTail value slice (.ref l) (.int 1 u)) Q E s :=
  pair_item ht F (by decide) (Nat.le_of_ble_eq_true rfl) rfl h hs
end

theorem fresh_Pp : True := by
  w_top off
  exact trivial
theorem kw_Pp_1 : True := by
  k_with "exec For Name Call cons nil" => ((k_here; refine hidT_intro ?_))
  k_with "exec For Name Subscript cons nil" => ((k_here; refine hidT_intro ?_))
  k_with "subscriptTail Name Slice ref ref" => ((k_here; (with_reducible show wpAny _ _ (subscriptTail _ (PySem.Expr.Slice _ _ none _) (Value.ref _) (Value.ref _)) _ _ _); k_dflt (refine' slice_strs (by k_asm) (by k_asm) (by kmk_list) (by kmk_part) (by kmk_part) (by assumption) (by first | assumption | omega) ?_ (by with_unfolding_all rfl) (by kmk_pure)); intro DpZk wspZk hpZk FpZk NpZk l1Zk hIpZk hNpZk; (try simp only [pick_to, pick_to1] at hIpZk); (try k_lt l1Zk); (try k_sweep); (try dsimp only)))
  k_with "subscriptTail Name Name ref str" => ((k_here; (with_reducible show wpAny _ _ (subscriptTail _ _ (Value.ref _) (Value.str _ _)) _ _ _); k_dflt (refine' told_get (by assumption) (by assumption) (by assumption) (by with_unfolding_all rfl) ?_); intro apZk typZk hTpZk))
  k_with "subscriptTail Subscript Name Name Constant ref int" => ((k_here; (with_reducible show wpAny _ _ (subscriptTail _ _ (Value.ref _) (Value.int 0 _)) _ _ _); k_dflt (refine' pair_item0 (by with_reducible assumption) (by with_reducible assumption) ?_ (by with_unfolding_all rfl))))
  k_with "subscriptTail Subscript Name Name Constant ref int" => ((k_here; (with_reducible show wpAny _ _ (subscriptTail _ _ (Value.ref _) (Value.int 1 _)) _ _ _); k_dflt (refine' pair_item1 (by with_reducible assumption) (by with_reducible assumption) ?_ (by with_unfolding_all rfl))))
  k_with "subscriptTail Name Constant ref int" => ((k_here; (with_reducible show wpAny _ _ (subscriptTail _ _ (Value.ref _) (Value.int _ _)) _ _ _); k_dflt (refine' item_at (v := Value.str _ _) (by exact News.isList (by with_reducible assumption) (by first | exact .head _ | exact .tail _ (.head _) | exact .tail _ (.tail _ (.head _)))) (by decide) (by first | omega | (simp only [List.length_cons]; omega)) (by rfl) ?_ (by with_unfolding_all rfl))))
  k_with "binaryOp Add ref ref" => ((k_here; (with_reducible show wpAny _ _ (binaryOp _ (Value.ref _) (Value.ref _)) _ _ _); k_dflt (refine' add_any (by with_reducible assumption) (by with_reducible assumption) (by exact News.isList (by with_reducible assumption) (by first | exact .head _ | exact .tail _ (.head _) | exact .tail _ (.tail _ (.head _)))) (by exact News.isList (by with_reducible assumption) (by first | exact .head _ | exact .tail _ (.head _) | exact .tail _ (.tail _ (.head _)))) (by first | omega | (simp only [List.length_cons, List.length_nil]; omega)) ?_); intro DpZk hpZk FpZk NpZk l1Zk; (try k_lt l1Zk); (try k_sweep); (try dsimp only)))
  exact trivial

theorem pick_mem {α : Type} {l : List α} {lo hi : Option Int} {c : α} (h : c ∈ pickL l lo hi) : c ∈ l := List.mem_of_mem_drop (List.mem_of_mem_take h)
theorem sp_told (w : World) (ta : Addr) (x : Str) (t : Tok) (tab : Str → Option (Bool × Str)) (hl : x.length ≤ 300) (hdl : ∀ y : Str, y.length ≤ 300 → (dirF y).length ≤ 300)
    (hx : ∀ y ∈ wayF x, ∃ b z, tab y = some (b, z) ∧ 3 ≤ z.length) (hx0 : ∃ b z, tab x = some (b, z) ∧ 3 ≤ z.length) : SpecG w 273 12 80 [.ref ta, .str x t] (fun h => TabOK w h ta tab) (fun r => ∃ u, r = .str (toldF tab x (pickL (wayF x) none (some (-1)))) u) := by
  intro p loose mean mg mb dp un gd cn cs a ccd cl outer A₀ base h₀ L m news s Q E B F X N T hk hd hu hH hret
  ((have : PySem.Challenge.rw_ik0073_01 = PySem.Challenge.rw_ik0073_01 ∧ Mine.hd.heap_1 = Mine.hd.heap_1 := (by k_fill; exact ⟨rfl, rfl⟩)); clear this; refine wpAny_call ?_; k_dflt (refine' enterN ?k1 ?k2 ?k3 ?k4 ?k5 ?kA ?kF ?kK ?k6 ?k7 ?k8 ?k9 ?kB ?_ ?c2 ?c3 ?c4 ?c5; (case kA => exact rfl); (case kF => exact rfl); (case kK => assumption); (case k1 => k_asm); (case k2 => k_asm); (case k3 => k_asm); (case k4 => k_asm); (case k5 => k_asm); (case k6 => k_is); (case k7 => k_is); (case k8 => ktr_room); (case k9 => exact BindsTo.of_eq rfl); (case c5 => decide); (case kB => exact locs rfl); (case c2 => exact rfl); (case c3 => exact rfl); (case c4 => exact rfl); k_whole; intro _ _ _ _ _ _ _ _ _; (try dsimp only); (try k_fold)))
  rename_i g L₁ h₁ FG F1 N1 B1 X1 T1
  have hT : TabOK w g ta tab := hH.keep FG
  clear hH
  k_steps
  refine hidT_cut (ToldMid g L₁ ta x t s) ?loop ?cont
  case loop =>
    refine For_turns (by assumption) ?_
    k_steps
    refine' iter_rangeT (n := 5) ?hh ?hr ?hs ?hz ?F ?N ?_
    case hh => rfl
    case hr => assumption
    case hs => decide
    case hz => decide
    case F => assumption
    case N => assumption
    intro I lI
    refine rest_indK (fun _ => PW ta x t) ?_ ?_ ?_
    · exact PW_init hl rfl rfl rfl (k := 0) (List.mem_cons_self ..)
    · intro i e r m₁ n₁ hx hP IH
      obtain ⟨Wa, v, vs, k, y, ys, ⟨q1, q2, q3⟩, rfl, hvs, hyl, hyn, hw⟩ := hP
      obtain ⟨u, hm⟩ := over3 q1 q2 q3
      subst hm
      clear q1 q2 q3
      obtain ⟨hi, rfl⟩ := rangeAt hx
      cases hvs with
      | cons _ ty hvs' =>
      have hyk : y.length ≤ 1000 := by omega
      have hsl := strs_len hvs'
      k_steps
      · exact told_end (by assumption) (by assumption) (List.mem_cons_of_mem _ (List.mem_cons_self ..)) rfl rfl rfl (.cons _ _ (by assumption)) (by rw [List.length_cons]; omega) (hw.trans (wayL_stop (by assumption)))
      · exact ir_next IH (PW_next rfl rfl rfl (List.mem_cons_self ..) (by assumption) (hdl y hyl) hyn hi hw (by assumption))
    · intro m₁ n₁ hP
      obtain ⟨Wa, v, vs, k, y, ys, ⟨q1, q2, q3⟩, rfl, hvs, hyl, hyn, hw⟩ := hP
      obtain ⟨u, hm⟩ := over3 q1 q2 q3
      subst hm
      clear q1 q2 q3
      have hyn5 : ys.length ≤ 5 := hyn
      k_steps
      all_goals (exact told_end (by assumption) (by assumption) (List.mem_cons_self ..) rfl rfl rfl hvs (by rw [List.length_cons]; omega) hw)
  case cont =>
    rintro f s' ⟨rfl, h', tk, m', Wa, vs, k, rfl, F', N', ⟨q1, q2, q3⟩, hvs, hwl⟩
    obtain ⟨u, hm⟩ := over3 q1 q2 q3
    subst hm
    clear q1 q2 q3
    k_steps
    refine hidT_open (For_turns (by assumption) ?_)
    k_steps
    (rename StrsAre _ (pickL _ _ _) => hS)
    refine' iter_listTurns ?hh ?F ?N ?hm ?hc ?hd ?_
    case hh => rfl
    case F => assumption
    case N => assumption
    case hm => exact List.mem_cons_self ..
    case hc => exact rfl
    case hd => exact rfl
    intro I lI
    refine rest_indK (PT ta x t tab (pickL (wayF x) none (some (-1)))) ?_ ?_ ?_
    · exact PT_init rfl rfl (List.mem_cons_self ..)
    · intro i e r m₁ n₁ he hP IH
      obtain ⟨⟨q2, q3⟩, rfl, hfull⟩ := hP
      obtain ⟨u, hm⟩ := over2t q2 q3
      subst hm
      clear q2 q3
      obtain ⟨v, rfl, hv⟩ := valItem he
      obtain ⟨c, tc, rfl, hc⟩ := strs_get hS hv
      obtain ⟨b, z, hb, hz⟩ := hx c (pick_mem (List.mem_of_getElem? hc))
      rw [drop_at hc] at hfull
      cases b with
      | false =>
        k_steps
        all_goals (exact hret _ _ _ (by k_asm) (by k_asm) ⟨_, congrArg (Value.str · _) (hfull.trans (told_no hb)).symm⟩)
      | true =>
        k_steps
        · exact hret _ _ _ (by k_asm) (by k_asm) ⟨_, congrArg (Value.str · _) (hfull.trans (told_hit hb (by assumption))).symm⟩
        · exact IH _ _ ⟨⟨rfl, rfl⟩, rfl, hfull.trans (told_on hb (by assumption))⟩
    · intro m₁ n₁ hP
      obtain ⟨⟨q2, q3⟩, rfl, hfull⟩ := hP
      obtain ⟨u, hm⟩ := over2t q2 q3
      subst hm
      clear q2 q3
      rw [List.length_map, strs_len hS, List.drop_length] at hfull
      obtain ⟨b, z, hb, hz⟩ := hx0
      k_steps
      all_goals (exact hret _ _ _ (by k_asm) (by k_asm) ⟨_, congrArg (Value.str · _) (hfull.trans (told_last hb)).symm⟩)

theorem fresh_Pq : True := by
  w_top off
  exact trivial
theorem strs_carried : ∀ {vs : List Value} {ys : List Str}, StrsAre vs ys → CarriedAll vs (ys.map PyData.str)
  | _, _, .nil => .nil
  | _, _, .cons _ t r => .cons (.str _ t) (strs_carried r)
theorem strs_getE {vs : List Value} {ys : List Str} (h : StrsAre vs ys) : ∀ {j : Nat} (hj : j < vs.length), ∃ y t, vs[j] = .str y t ∧ ys[j]? = some y := by
  intro j hj
  exact strs_get h (List.getElem?_eq_getElem hj) |>.imp fun y => fun ⟨t, e, r⟩ => ⟨t, by simpa using e, r⟩
theorem all_eq {ns ms : List Str} (h : ns.length = ms.length) : ((List.range ns.length).all fun j => ns[j]?.getD Str.empty == ms[j]?.getD Str.empty) = decide (ns = ms) := by
  rw [Bool.eq_iff_iff, List.all_eq_true, decide_eq_true_iff]
  constructor
  · intro q
    apply List.ext_getElem h
    intro i h1 h2
    have := q i (List.mem_range.mpr h1)
    simpa [h1, h2] using this
  · rintro rfl j _
    simp
section
variable {A : Around} {s : Shared} {a b : Addr} {xs ys : List Value} {ns ms : List Str}
theorem rc_strs (ha : s.heap.IsList a xs.toArray) (hb : s.heap.IsList b ys.toArray) (hi : StrsAre xs ns) (hj : StrsAre ys ms) (hu : A.units < cLine) : SeqAt.RcAt A s (.ref a) (.ref b) (decide (ns = ms)) := by
  have e1 := strs_len hi
  have e2 := strs_len hj
  by_cases hl : ns.length = ms.length
  · have q := SeqAt.RcAt.lists (A := A) (s := s) (e := fun j => ns[j]?.getD Str.empty == ms[j]?.getD Str.empty) ha hb (by rw [List.size_toArray, List.size_toArray, e1, e2, hl]) hu (fun j h1 h2 => by
      obtain ⟨y, t, p1, p2⟩ := strs_getE hi (j := j) (by simpa using h1)
      obtain ⟨z, u, p3, p4⟩ := strs_getE hj (j := j) (by simpa using h2)
      rw [List.getElem_toArray, List.getElem_toArray, p1, p3, p2, p4]
      exact SeqAt.EqAt.str_str y t z u)
    rw [List.size_toArray, e1, all_eq hl] at q
    exact q
  · have hne : decide (ns = ms) = false := by
      rw [decide_eq_false_iff_not]
      intro e
      exact hl (by rw [e])
    rw [hne]
    exact SeqAt.RcAt.lists_lengths ha hb (by rw [List.size_toArray, List.size_toArray, e1, e2]; simpa using hl) hu
end
inductive RowsAre (h : Heap) : List Value → List (List Str) → Prop
  | nil : RowsAre h [] []
  | cons {a : Addr} {vs : List Value} {ys : List Str} {rest : List Value} {rr : List (List Str)} : h.IsList a vs.toArray → StrsAre vs ys → RowsAre h rest rr → RowsAre h (.ref a :: rest) (ys :: rr)
theorem RowsAre.keep {h h' : Heap} {vs : List Value} {rr : List (List Str)} (R : RowsAre h vs rr) (hk : ∀ b o, h.get? b = some o → h'.get? b = some o) : RowsAre h' vs rr := by
  induction R with
  | nil => exact .nil
  | cons ha hs _ ih =>
    obtain ⟨o, h1, h2⟩ := ha
    exact .cons ⟨o, hk _ _ h1, h2⟩ hs ih
theorem RowsAre.length {h : Heap} {vs : List Value} {rr : List (List Str)} (R : RowsAre h vs rr) : vs.length = rr.length := by
  induction R with
  | nil => rfl
  | cons _ _ _ ih => rw [List.length_cons, List.length_cons, ih]
theorem RowsAre.get {h : Heap} {vs : List Value} {rr : List (List Str)} (R : RowsAre h vs rr) : ∀ {j : Nat} {v : Value}, vs[j]? = some v → ∃ a xs ys, v = .ref a ∧ h.IsList a (List.toArray xs) ∧ StrsAre xs ys ∧ rr[j]? = some ys := by
  induction R with
  | nil => intro j v e; simp at e
  | cons ha hs _ ih =>
    intro j v e
    cases j with
    | zero => exact ⟨_, _, _, by simpa using e.symm, ha, hs, rfl⟩
    | succ j => obtain ⟨a, xs, ys, h1, h2, h3, h4⟩ := ih (j := j) (by simpa using e); exact ⟨a, xs, ys, h1, h2, h3, by simpa using h4⟩
theorem isList_inj {h : Heap} {a : Addr} {xs ys : List Value} (h1 : h.IsList a xs.toArray) (h2 : h.IsList a ys.toArray) : xs = ys := by
  obtain ⟨o, e1, _, n, d1⟩ := h1
  obtain ⟨o', e2, _, n', d2⟩ := h2
  rw [e1] at e2
  cases e2
  rw [d1] at d2
  injection d2 with d3
  exact congrArg Array.toList d3
theorem strs_inj {vs : List Value} {ys zs : List Str} (h1 : StrsAre vs ys) (h2 : StrsAre vs zs) : ys = zs := by
  induction h1 generalizing zs with
  | nil => cases h2; rfl
  | cons y t _ ih => cases h2 with | cons _ _ r => rw [ih r]
open Classical in
noncomputable def rowIs (h : Heap) (ns : List Str) (v : Value) : Bool := decide (∃ a xs, v = .ref a ∧ h.IsList a (List.toArray xs) ∧ StrsAre xs ns)
theorem rowIs_of {h : Heap} {ns ys : List Str} {a : Addr} {xs : List Value} (h1 : h.IsList a xs.toArray) (h2 : StrsAre xs ys) : rowIs h ns (.ref a) = decide (ys = ns) := by
  unfold rowIs
  rw [decide_eq_decide]
  constructor
  · rintro ⟨a', xs', e, q1, q2⟩
    cases e
    have := isList_inj h1 q1
    subst this
    exact strs_inj h2 q2
  · rintro rfl
    exact ⟨a, xs, rfl, h1, h2⟩
theorem rows_index {prog : Program} {w : World} {A : Around} {E : Value → Shared → Prop} {s : Shared} {ra x : Addr} {rv xs : List Value} {rs : List (List Str)} {ns : List Str} {j : Nat} {Q : Value → Shared → Prop}
    (hr : s.heap.IsList ra rv.toArray) (R : RowsAre s.heap rv rs) (hx : s.heap.IsList x xs.toArray) (hX : StrsAre xs ns) (hne : ∀ v ∈ rv, v ≠ .ref x) (hu : A.in1.units < cLine) (hl : rs.length ≤ 1000) (hj : rs[j]? = some ns) (hno : ∀ m ys, m < j → rs[m]? = some ys → ys ≠ ns)
    (h : Q (.int j s.toks) { s with toks := s.toks + 1 }) : wpAny (model prog w) A (call (.builtin "list.index") [.ref ra, .ref x]) Q E s := by
  obtain ⟨o, ho, hc, n, hd⟩ := hr
  have hjl : j < rv.length := by
    rw [R.length]
    exact (List.getElem?_eq_some_iff.mp hj).1
  have hrl := R.length
  have hval : ∀ m (hm : m < rv.length), ∃ ys, rs[m]? = some ys ∧ rowIs s.heap ns rv[m] = decide (ys = ns) := by
    intro m hm
    obtain ⟨a, ws, ys, p1, p2, p3, p4⟩ := R.get (List.getElem?_eq_getElem hm)
    exact ⟨ys, p4, by rw [p1]; exact rowIs_of p2 p3⟩
  obtain ⟨cls, dict, data, slots⟩ := o
  cases hc
  cases hd
  refine call_meets PySem.F.slot_list_index ⟨_, ho, rfl⟩ PySem.F.entry_list_index (PySem.F.args_list_index_2 _ _)
    (SeqAt.list_indexAt ra rv.toArray n dict slots (.ref x) (rowIs s.heap ns) j (by simpa using hjl) (by omega) ?_ ?_) ⟨ho, ?_, h⟩
  · obtain ⟨ys, p1, p2⟩ := hval j hjl
    rw [hj] at p1
    cases p1
    rw [List.getElem_toArray, p2]
    simp
  · intro m hm hlt
    obtain ⟨ys, p1, p2⟩ := hval m (by simpa using hm)
    rw [List.getElem_toArray, p2]
    simpa using hno m ys hlt p1
  · intro y hy
    obtain ⟨m, hm, rfl⟩ := List.getElem_of_mem (List.mem_toArray.mp hy)
    obtain ⟨a, ws, ys, p1, p2, p3, p4⟩ := R.get (List.getElem?_eq_getElem hm)
    have hne' := hne _ (List.getElem_mem hm)
    rw [p1] at hne' ⊢
    rw [rowIs_of p2 p3]
    exact SeqAt.EqAt.of_refs (fun e => hne' (by rw [e])) (rc_strs p2 hx p3 hX hu)

theorem fresh_Pr : True := by
  w_top off
  exact trivial
/-- a mark: a branch is split at once where no fact at hand decides it -/
def QuickIte : Prop := True
theorem RowsAre.ne {h h' : Heap} {L x : Addr} {o : Obj} {vs : List Value} {rr : List (List Str)} {news : List (Addr × Obj)} (R : RowsAre h vs rr) (N : News h L h' news) (hm : (x, o) ∈ news) : ∀ v ∈ vs, v ≠ .ref x := by
  have hx : h.get? x = none := (N _ hm).2.2
  induction R with
  | nil => intro v hv; exact absurd hv List.not_mem_nil
  | cons ha _ _ ih =>
    intro v hv
    rcases List.mem_cons.mp hv with e | hv
    · intro e2
      rw [e] at e2
      cases e2
      obtain ⟨o', h1, _⟩ := ha
      rw [hx] at h1
      cases h1
    · exact ih v hv
theorem due_index {prog : Program} {w : World} {A : Around} {E : Value → Shared → Prop} {s : Shared} {g : Heap} {L ra x : Addr} {m : Str → Option Value} {news : List (Addr × Obj)} {rv xs : List Value} {n : Nat} {rs : List (List Str)} {ns : List Str} {Q : Value → Shared → Prop}
    (F : Fr g L s.heap m) (N : News g L s.heap news) (hr : ∃ k, g.get? ra = some (W.listOf rv.toArray k)) (R : RowsAre g rv rs) (hx : (x, W.listOf xs.toArray n) ∈ news) (hX : StrsAre xs ns) (hu : A.units + 64 < cLine) (hl : rs.length ≤ 1000) (hj : rs.findIdx (fun r => decide (r = ns)) < rs.length)
    (h : Q (.int (rs.findIdx (fun r => decide (r = ns)) : Nat) s.toks) { s with toks := s.toks + 1 }) : wpAny (model prog w) A (call (.builtin "list.index") [.ref ra, .ref x]) Q E s := by
  obtain ⟨k, hr⟩ := hr
  have hr : g.IsList ra rv.toArray := ⟨_, hr, rfl, k, rfl⟩
  refine rows_index (j := rs.findIdx (fun r => decide (r = ns))) (F.lst hr) (R.keep F.keep) (N.isList hx) hX (R.ne N hx) (by rw [Around.in1_units]; omega) hl ?_ ?_ h
  · have e := List.findIdx_getElem (w := hj)
    rw [List.getElem?_eq_getElem hj]
    simpa using e
  · intro m ys hm e
    have q := List.not_of_lt_findIdx hm
    obtain ⟨hm', e'⟩ := List.getElem?_eq_some_iff.mp e
    rw [e'] at q
    simpa using q
theorem due_method {prog : Program} {w : World} {A : Around} {E : Value → Shared → Prop} {s : Shared} {g : Heap} {L ra : Addr} {m : Str → Option Value} {rv : List Value} {name : Str} {id : String} {pl : Sem Bool} {Q : Value × List Value → Shared → Prop} (F : Fr g L s.heap m) (hr : ∃ k, g.get? ra = some (W.listOf rv.toArray k)) (slot : Slot "list" name id) (hty : typeOf (.builtin id) = pure (.type "method_descriptor"))
    (h : Q (.builtin id, [.ref ra]) s) : wpAny (model prog w) A (getMethod (.ref ra) name pl) Q E s :=
  let ⟨_, hg⟩ := hr
  getMethod_builtin ⟨_, F.keep _ _ hg, rfl⟩ PySem.F.plainAttrs_list slot hty (fun a e => by cases e; exact ⟨_, F.keep _ _ hg, rfl⟩) h
theorem due_eq {prog : Program} {w : World} {A : Around} {E : Value → Shared → Prop} {s : Shared} {a b : Addr} {xs ys : List Value} {ns ms : List Str} {Q : Value → Shared → Prop} (ha : s.heap.IsList a xs.toArray) (hb : s.heap.IsList b ys.toArray) (hi : StrsAre xs ns) (hj : StrsAre ys ms) (hu : A.units + 64 < cLine) (h : Q (.bool (decide (ns = ms))) s) :
    wpAny (model prog w) A (compareOp .Eq (.ref a) (.ref b)) Q E s :=
  rc_strs ha hb hi hj (by omega) prog w E Q h
theorem ints_get {vs : List Value} {ns : List Int} (h : IntsAre vs ns) : ∀ {i : Nat} {n : Int}, ns[i]? = some n → ∃ t, vs[i]? = some (.int n t) := by
  induction h with
  | nil => intro i n e; simp at e
  | cons x t _ ih =>
    intro i n e
    cases i with
    | zero => exact ⟨t, by simp at e; simp [e]⟩
    | succ i => obtain ⟨t', h'⟩ := ih (i := i) (by simpa using e); exact ⟨t', by simpa using h'⟩
theorem due_item {prog : Program} {w : World} {A : Around} {E : Value → Shared → Prop} {s : Shared} {g : Heap} {L ma : Addr} {m : Str → Option Value} {mv : List Value} {ms : List Int} {j : Nat} {u : Tok} {y : Int} {Q : Value → Shared → Prop} {value slice : PySem.Expr}
    (F : Fr g L s.heap m) (hl : g.IsList ma mv.toArray) (hi : IntsAre mv ms) (hz : ms.length ≤ 1000) (hj : ms[j]? = some y) (h : ∀ t, Q (.int y t) s)
    (hs : subscripted slice false (.ref ma) (.int (j : Int) u) = operate [.ref ma, .int (j : Int) u] (getItem (.ref ma) (.int (j : Int) u))) : wpAny (model prog w) A (subscriptTail value slice (.ref ma) (.int (j : Int) u)) Q E s := by
  obtain ⟨t, ht⟩ := ints_get hi hj
  have hj' := (List.getElem?_eq_some_iff.mp hj).1
  have hl' := F.lst hl
  exact tail_any hl'.typeIs slot_list_getitem.lookup (wpAny_getItem_list (x := .int y t) hl' (Int.natCast_nonneg j) (by omega) (by simpa using ht) (h t)) hs
def clsF (as_ row : List Str) (k : Nat) : Nat := if as_ = row.take k then 0 else if 0 < k ∧ k ≤ as_.length ∧ as_.take (k - 1) = row.take (k - 1) then 1 else 2
def modeF (ms : List Int) (rs : List (List Str)) (row : List Str) (k : Nat) : Int := ms.getD (rs.findIdx (fun r => decide (r = row.take k))) 0
structure DueIn (h : Heap) (ma aa ra wa : Addr) (ms : List Int) (as_ : List Str) (rs : List (List Str)) (row : List Str) : Prop where
  hm : ∃ vs, h.IsList ma (List.toArray vs) ∧ IntsAre vs ms
  ha : ∃ vs, h.IsList aa (List.toArray vs) ∧ StrsAre vs as_
  hr : ∃ vs n, h.get? ra = some (W.listOf (List.toArray vs) n) ∧ RowsAre h vs rs
  hw : ∃ vs, h.IsList wa (List.toArray vs) ∧ StrsAre vs row
theorem isL_keep {h h' : Heap} {a : Addr} {xs : Array Value} (x : h.IsList a xs) (hk : ∀ b o, h.get? b = some o → h'.get? b = some o) : h'.IsList a xs := let ⟨o, ho, r⟩ := x; ⟨o, hk a o ho, r⟩
theorem over4 {m : Str → Option Value} {a b c d : Str} {va vb vc vd : Value} (ha : m a = some va) (hb : m b = some vb) (hc : m c = some vc) (hd : m d = some vd) : ∃ u : Str → Option Value, m = fun z => if z = a then some va else if z = b then some vb else if z = c then some vc else if z = d then some vd else u z := by
  obtain ⟨u, h⟩ := over3 hb hc hd
  obtain ⟨u2, h2⟩ := over2t ha hb
  refine ⟨u, funext fun z => ?_⟩
  by_cases h1 : z = a
  · rw [if_pos h1, h1, ha]
  · rw [if_neg h1, h]
def unitF (c : Nat) : Int := match c with | 0 => 64 | 1 => 8 | _ => 1
def aboveF (c : Nat) : Int := match c with | 0 => 2048 | 1 => 1024 | _ => 512
def ranF (c : Nat) : Str := match c with | 0 => Str.ofString "Ss" | 1 => Str.ofString "Ss" | _ => Str.ofString "Tt"
theorem unit_in (c : Nat) : 1 ≤ unitF c ∧ unitF c ≤ 64 := by
  unfold unitF
  split <;> decide
theorem above_in (c : Nat) : 512 ≤ aboveF c ∧ aboveF c ≤ 2048 := by
  unfold aboveF
  split <;> decide
theorem ran_len (c : Nat) : (ranF c).length = 2 := by
  unfold ranF
  split <;> decide +kernel
def stopF (ms : List Int) (as_ : List Str) (rs : List (List Str)) (row : List Str) (k : Nat) : Bool :=
  decide (k < row.length) && (decide (((modeF ms rs row k).fdiv 4096).fmod 16 ≠ 4) || decide (((modeF ms rs row k).fdiv (unitF (clsF as_ row k))).fmod 2 = 0))
theorem over8 {m : Str → Option Value} {a b c d e f g h : Str} {va vb vc vd ve vf vg vh : Value} (ha : m a = some va) (hb : m b = some vb) (hc : m c = some vc) (hd : m d = some vd) (he : m e = some ve) (hf : m f = some vf) (hg : m g = some vg) (hh : m h = some vh) :
    ∃ u : Str → Option Value, m = fun z => if z = a then some va else if z = b then some vb else if z = c then some vc else if z = d then some vd else if z = e then some ve else if z = f then some vf else if z = g then some vg else if z = h then some vh else u z :=
  ⟨m, funext fun z => by
    iterate 8 (split; · (subst_vars; assumption))
    rfl⟩
theorem rangeItems_len (a : Int) (n : Nat) : (rangeItems a n).length = n := by simp [rangeItems]
structure DueVar (ms : List Int) (as_ : List Str) (rs : List (List Str)) (row : List Str) (i : Nat) (M U B : Int) (R : Str) : Prop where
  hM : M = modeF ms rs row i
  hU : U = unitF (clsF as_ row i)
  hB : B = aboveF (clsF as_ row i)
  hR : R = ranF (clsF as_ row i)
theorem DueVar.facts {ms : List Int} {as_ : List Str} {rs : List (List Str)} {row : List Str} {i : Nat} {M U B : Int} {R : Str} (h : DueVar ms as_ rs row i M U B R) : (1 ≤ U ∧ U ≤ 64) ∧ (512 ≤ B ∧ B ≤ 2048) ∧ R.length = 2 := by
  obtain ⟨_, h2, h3, h4⟩ := h
  rw [h2, h3, h4]
  exact ⟨unit_in _, above_in _, ran_len _⟩
def PD (ma aa ra wa : Addr) (ms : List Int) (as_ : List Str) (rs : List (List Str)) (row : List Str) (i : Nat) (m : Str → Option Value) (n : List (Addr × Obj)) : Prop :=
  (m (Str.ofString "modes") = some (.ref ma) ∧ m (Str.ofString "asker") = some (.ref aa) ∧ m (Str.ofString "rows") = some (.ref ra) ∧ m (Str.ofString "row") = some (.ref wa)) ∧ n = [] ∧
  (0 < i → ∃ M U B R t1 t2 t3 t4, DueVar ms as_ rs row (i - 1) M U B R ∧ m (Str.ofString "mode") = some (.int M t1) ∧ m (Str.ofString "unit") = some (.int U t2) ∧ m (Str.ofString "above") = some (.int B t3) ∧ m (Str.ofString "ran") = some (.str R t4)) ∧
  (∀ k, k < i → stopF ms as_ rs row k = false)
theorem over9 {m : Str → Option Value} {a b c d e f g h i : Str} {va vb vc vd ve vf vg vh vi : Value} (ha : m a = some va) (hb : m b = some vb) (hc : m c = some vc) (hd : m d = some vd) (he : m e = some ve) (hf : m f = some vf) (hg : m g = some vg) (hh : m h = some vh) (hi : m i = some vi) :
    ∃ u : Str → Option Value, m = fun z => if z = a then some va else if z = b then some vb else if z = c then some vc else if z = d then some vd else if z = e then some ve else if z = f then some vf else if z = g then some vg else if z = h then some vh else if z = i then some vi else u z :=
  ⟨m, funext fun z => by
    iterate 9 (split; · (subst_vars; assumption))
    rfl⟩
def DueMid (g : Heap) (L ma aa ra wa : Addr) (ms : List Int) (as_ : List Str) (rs : List (List Str)) (row : List Str) (i : Nat) (I : Addr) (oI : Obj) (s : Shared) (f : Flow) (s' : Shared) : Prop :=
  f = .next ∧ ∃ h' tk m' M U B R t1 t2 t3 t4 t5, s' = { s with heap := h', toks := tk } ∧ Fr g L h' m' ∧ News g L h' [(I, oI)] ∧ (m' (Str.ofString "modes") = some (.ref ma) ∧ m' (Str.ofString "asker") = some (.ref aa) ∧ m' (Str.ofString "rows") = some (.ref ra) ∧ m' (Str.ofString "row") = some (.ref wa)) ∧
    m' (Str.ofString "size") = some (.int (0 + (i : Int)) t5) ∧ DueVar ms as_ rs row i M U B R ∧ m' (Str.ofString "mode") = some (.int M t1) ∧ m' (Str.ofString "unit") = some (.int U t2) ∧ m' (Str.ofString "above") = some (.int B t3) ∧ m' (Str.ofString "ran") = some (.str R t4)
theorem due_mid {g : Heap} {L ma aa ra wa : Addr} {ms : List Int} {as_ : List Str} {rs : List (List Str)} {row : List Str} {i : Nat} {I : Addr} {oI : Obj} {s : Shared} {h' : Heap} {tk : Nat} {m' : Str → Option Value} {news : List (Addr × Obj)} {t1 t2 t3 t4 t5 : Tok} {c : Nat} {u a : Int} {r : Str} (F : Fr g L h' m') (N : News g L h' news) (hi : (I, oI) ∈ news) (q1 : m' (Str.ofString "modes") = some (.ref ma)) (q2 : m' (Str.ofString "asker") = some (.ref aa)) (q3 : m' (Str.ofString "rows") = some (.ref ra)) (q4 : m' (Str.ofString "row") = some (.ref wa))
    (q5 : m' (Str.ofString "size") = some (.int (0 + (i : Int)) t5)) (q6 : m' (Str.ofString "mode") = some (.int (modeF ms rs row i) t1)) (hc : clsF as_ row i = c) (q7 : m' (Str.ofString "unit") = some (.int u t2)) (q8 : m' (Str.ofString "above") = some (.int a t3)) (q9 : m' (Str.ofString "ran") = some (.str r t4)) (e7 : unitF c = u) (e8 : aboveF c = a) (e9 : ranF c = r) :
    DueMid g L ma aa ra wa ms as_ rs row i I oI s .next { s with heap := h', toks := tk } := by
  subst hc e7 e8 e9
  exact ⟨rfl, h', tk, m', _, _, _, _, t1, t2, t3, t4, t5, rfl, F, fun p hp => N p (by rw [List.mem_singleton.mp hp]; exact hi), ⟨q1, q2, q3, q4⟩, q5, ⟨rfl, rfl, rfl, rfl⟩, q6, q7, q8, q9⟩
theorem cls0 {as_ row : List Str} {k : Nat} (h : as_ = row.take k) : clsF as_ row k = 0 := by unfold clsF; rw [if_pos h]
theorem cls1 {as_ row : List Str} {k : Nat} (h : ¬ as_ = row.take (k + 1)) (h1 : 0 + ((k + 1 : Nat) : Int) ≤ (as_.length : Int)) (h2 : as_.take k = row.take k) : clsF as_ row (k + 1) = 1 := by
  unfold clsF
  rw [if_neg h, if_pos ⟨Nat.succ_pos k, by omega, h2⟩]
theorem cls2 {as_ row : List Str} {k : Nat} (h : ¬ as_ = row.take (k + 1)) (h1 : ¬ 0 + ((k + 1 : Nat) : Int) ≤ (as_.length : Int)) : clsF as_ row (k + 1) = 2 := by
  unfold clsF
  rw [if_neg h, if_neg (fun q => h1 (by have := q.2.1; omega))]
theorem cls2b {as_ row : List Str} {k : Nat} (h : ¬ as_ = row.take (k + 1)) (h2 : ¬ as_.take k = row.take k) : clsF as_ row (k + 1) = 2 := by
  unfold clsF
  rw [if_neg h, if_neg (fun q => h2 q.2.2)]
theorem cls2z {as_ row : List Str} (h : ¬ as_ = row.take 0) : clsF as_ row 0 = 2 := by
  unfold clsF
  rw [if_neg h, if_neg (fun q => absurd q.1 (Nat.lt_irrefl 0))]
theorem stop_no1 {ms : List Int} {as_ : List Str} {rs : List (List Str)} {row : List Str} {i : Nat} (h : ¬ 0 + (i : Int) < (row.length : Int)) : stopF ms as_ rs row i = false := by
  unfold stopF
  rw [decide_eq_false (by omega), Bool.false_and]
theorem stop_no2 {ms : List Int} {as_ : List Str} {rs : List (List Str)} {row : List Str} {i : Nat} {M U B : Int} {R : Str} (V : DueVar ms as_ rs row i M U B R) (h1 : (M.fdiv 4096).fmod 16 = 4) (h2 : ¬ (M.fdiv U).fmod 2 = 0) : stopF ms as_ rs row i = false := by
  obtain ⟨rfl, rfl, _, _⟩ := V
  unfold stopF
  have e1 : decide (((modeF ms rs row i).fdiv 4096).fmod 16 ≠ 4) = false := decide_eq_false (fun q => q h1)
  have e2 : decide (((modeF ms rs row i).fdiv (unitF (clsF as_ row i))).fmod 2 = 0) = false := decide_eq_false h2
  rw [e1, e2, Bool.or_false, Bool.and_false]
theorem stop_yes1 {ms : List Int} {as_ : List Str} {rs : List (List Str)} {row : List Str} {i : Nat} {M U B : Int} {R : Str} (V : DueVar ms as_ rs row i M U B R) (h0 : 0 + (i : Int) < (row.length : Int)) (h1 : (M.fdiv 4096).fmod 16 ≠ 4) : stopF ms as_ rs row i = true := by
  obtain ⟨rfl, rfl, _, _⟩ := V
  unfold stopF
  rw [decide_eq_true (by omega : i < row.length), decide_eq_true h1, Bool.true_or, Bool.and_self]
theorem stop_yes2 {ms : List Int} {as_ : List Str} {rs : List (List Str)} {row : List Str} {i : Nat} {M U B : Int} {R : Str} (V : DueVar ms as_ rs row i M U B R) (h0 : 0 + (i : Int) < (row.length : Int)) (h2 : (M.fdiv U).fmod 2 = 0) : stopF ms as_ rs row i = true := by
  obtain ⟨rfl, rfl, _, _⟩ := V
  unfold stopF
  rw [decide_eq_true (by omega : i < row.length), decide_eq_true h2, Bool.or_true, Bool.and_self]
theorem stops_next {ms : List Int} {as_ : List Str} {rs : List (List Str)} {row : List Str} {i : Nat} (hno : ∀ k, k < i → stopF ms as_ rs row k = false) (h : stopF ms as_ rs row i = false) : ∀ k, k < i + 1 → stopF ms as_ rs row k = false := fun k hk => by
  rcases Nat.lt_or_eq_of_le (Nat.le_of_lt_succ hk) with e | e
  · exact hno k e
  · rw [e]; exact h
theorem kw_Pr_1 : True := by
  k_with "execs nil" => (((with_reducible refine wpAny_execs_nil ?_); try dsimp only))
  k_with "execs cons" => (((with_reducible refine wpAny_execs_cons ?_); try dsimp only))
  k_with "compareOp Eq ref ref" => ((k_here; (with_reducible show wpAny _ _ (compareOp CmpOp.Eq (Value.ref _) (Value.ref _)) _ _ _); k_dflt (refine' due_eq (by kmk_list) (by kmk_list) (by assumption) (by assumption) (by ke_room) ?_)))
  k_with "call builtin:list.index" => ((k_here; (with_reducible show wpAny _ _ (call (Value.builtin _) [Value.ref _, Value.ref _]) _ _ _); k_dflt (refine' due_index (by assumption) (by assumption) (by assumption) (by assumption) (by k_mem) (by assumption) (by ke_room) (by first | assumption | omega) (by assumption) ?_)))
  k_with "getMethod ref" => ((k_here; (with_reducible show wpAny _ _ (getMethod (Value.ref _) (PySem.Str.ofString "index") _) _ _ _); k_dflt (refine' due_method (by assumption) (by assumption) PySem.F.slot_list_index PySem.F.type_list_index ?_)))
  k_with "subscriptTail Name Call ref int" => ((k_here; (with_reducible show wpAny _ _ (subscriptTail _ _ (Value.ref _) (Value.int _ _)) _ _ _); k_dflt (refine' due_item (by assumption) (by assumption) (by assumption) (by omega) (by assumption) ?_ (by with_unfolding_all rfl)); intro tpZk))
  k_with "exec If" => ((k_here; (with_reducible show wpAny _ _ (exec (PySem.Stmt.If (PySem.Expr.Compare _ [PySem.CmpOp.Eq] _ _) _ (_ :: _) _) _) _ _ _); refine hidT_intro ?_))
  k_with "ite" => (((rename QuickIte => hQuick9Zk); k_openite; first | (refine ite_pos (by with_reducible assumption) ?_) | (refine ite_neg (by with_reducible assumption) ?_) | (refine ite_isFalse (by with_reducible assumption) ?_) | with_reducible refine ite_tt ?_ | with_reducible refine ite_ff ?_ | (with_reducible refine split_ine ?_ ?_ <;> intro _) | (with_reducible refine split_ieq ?_ ?_ <;> intro _) | with_reducible refine split_not ?_ | (refine split_dec ?_ ?_ <;> intro _) | (refine split_bool ?_ ?_ <;> intro _)))
  exact trivial

def dueEnd (M U B : Int) (R : Str) : Str :=
  Txt.item (Str.ofString "-r") (((M.fdiv U).fmod 8).fdiv 4) ++ Txt.item (Str.ofString "-w") ((((M.fdiv U).fmod 8).fdiv 2).fmod 2) ++ Txt.item (if (M.fdiv B).fmod 2 = 0 then Str.ofString "-x" else R) (((M.fdiv U).fmod 8).fmod 2)
def dueGo (ms : List Int) (as_ : List Str) (rs : List (List Str)) (row : List Str) : Nat → Nat → Str
  | 0, _ => dueEnd (modeF ms rs row row.length) (unitF (clsF as_ row row.length)) (aboveF (clsF as_ row row.length)) (ranF (clsF as_ row row.length))
  | n + 1, k => if stopF ms as_ rs row k = true then Txt.join (Str.ofString "/") (Str.ofString "/local" :: row.take k) else dueGo ms as_ rs row n (k + 1)
def dueF (ms : List Int) (as_ : List Str) (rs : List (List Str)) (row : List Str) : Str := dueGo ms as_ rs row (row.length + 1) 0
theorem due_at {ms : List Int} {as_ : List Str} {rs : List (List Str)} {row : List Str} : ∀ {i : Nat}, i ≤ row.length + 1 → (∀ k, k < i → stopF ms as_ rs row k = false) → dueF ms as_ rs row = dueGo ms as_ rs row (row.length + 1 - i) i
  | 0, _, _ => rfl
  | i + 1, hi, h => by
    rw [due_at (i := i) (by omega) fun k hk => h k (by omega)]
    obtain ⟨n, hn⟩ : ∃ n, row.length + 1 - i = n + 1 := ⟨row.length - i, by omega⟩
    rw [hn, show row.length + 1 - (i + 1) = n by omega, dueGo, if_neg (by rw [h i (by omega)]; decide)]
theorem due_hit {ms : List Int} {as_ : List Str} {rs : List (List Str)} {row : List Str} {i : Nat} (hi : i < row.length + 1) (h : ∀ k, k < i → stopF ms as_ rs row k = false) (hs : stopF ms as_ rs row i = true) : dueF ms as_ rs row = Txt.join (Str.ofString "/") (Str.ofString "/local" :: row.take i) := by
  rw [due_at (Nat.le_of_lt hi) h]
  obtain ⟨n, hn⟩ : ∃ n, row.length + 1 - i = n + 1 := ⟨row.length - i, by omega⟩
  rw [hn, dueGo, if_pos hs]
theorem due_fin {ms : List Int} {as_ : List Str} {rs : List (List Str)} {row : List Str} {M U B : Int} {R : Str} (V : DueVar ms as_ rs row row.length M U B R) (h : ∀ k, k < row.length + 1 → stopF ms as_ rs row k = false) : dueF ms as_ rs row = dueEnd M U B R := by
  obtain ⟨rfl, rfl, rfl, rfl⟩ := V
  rw [due_at (Nat.le_refl _) h, Nat.sub_self, dueGo]
theorem fig_in (x : Int) : (0 ≤ (x.fmod 8).fdiv 4 ∧ (x.fmod 8).fdiv 4 < 2) ∧ (0 ≤ ((x.fmod 8).fdiv 2).fmod 2 ∧ ((x.fmod 8).fdiv 2).fmod 2 < 2) ∧ (0 ≤ (x.fmod 8).fmod 2 ∧ (x.fmod 8).fmod 2 < 2) := by
  rw [Int.fmod_eq_emod_of_nonneg _ (by decide), Int.fmod_eq_emod_of_nonneg _ (by decide), Int.fmod_eq_emod_of_nonneg _ (by decide), Int.fdiv_eq_ediv_of_nonneg _ (by decide), Int.fdiv_eq_ediv_of_nonneg _ (by decide)]
  omega

theorem fresh_Ps : True := by
  w_top off
  exact trivial
theorem sp_due (w : World) (ma aa ra wa : Addr) (ms : List Int) (as_ : List Str) (rs : List (List Str)) (row : List Str) (hwl : row.length ≤ 10) (hal : as_.length ≤ 10) (hrl : rs.length ≤ 10) (hml : ms.length = rs.length)
    (hix : ∀ k, k ≤ row.length → rs.findIdx (fun r => decide (r = row.take k)) < rs.length) (hjn : ∀ k, (((Str.ofString "/local" :: row.take k).map (·.length)).sum) + (Str.ofString "/local" :: row.take k).length ≤ 1048576) :
    SpecG w 280 12 80 [.ref ma, .ref aa, .ref ra, .ref wa] (fun h => DueIn h ma aa ra wa ms as_ rs row) (fun r => ∃ u, r = .str (dueF ms as_ rs row) u) := by
  intro p loose mean mg mb dp un gd cn cs a ccd cl outer A₀ base h₀ L m news s Q E B F X N T hk hd hu hH hret
  ((have : PySem.Challenge.rw_ik0073_01 = PySem.Challenge.rw_ik0073_01 ∧ Mine.hd.heap_1 = Mine.hd.heap_1 := (by k_fill; exact ⟨rfl, rfl⟩)); clear this; refine wpAny_call ?_; k_dflt (refine' enterN ?k1 ?k2 ?k3 ?k4 ?k5 ?kA ?kF ?kK ?k6 ?k7 ?k8 ?k9 ?kB ?_ ?c2 ?c3 ?c4 ?c5; (case kA => exact rfl); (case kF => exact rfl); (case kK => assumption); (case k1 => k_asm); (case k2 => k_asm); (case k3 => k_asm); (case k4 => k_asm); (case k5 => k_asm); (case k6 => k_is); (case k7 => k_is); (case k8 => ktr_room); (case k9 => exact BindsTo.of_eq rfl); (case c5 => decide); (case kB => exact locs rfl); (case c2 => exact rfl); (case c3 => exact rfl); (case c4 => exact rfl); k_whole; intro _ _ _ _ _ _ _ _ _; (try dsimp only); (try k_fold)))
  rename_i g L₁ h₁ FG F1 N1 B1 X1 T1
  obtain ⟨⟨mv, hm1, hm2⟩, ⟨av, ha1, ha2⟩, ⟨rv, rk, hr1, hr2⟩, ⟨wv, hw1, hw2⟩⟩ := hH
  replace hm1 := isL_keep hm1 FG
  replace ha1 := isL_keep ha1 FG
  replace hr1 : ∃ k, g.get? ra = some (W.listOf rv.toArray k) := ⟨rk, FG _ _ hr1⟩
  replace hr2 := hr2.keep FG
  replace hw1 := isL_keep hw1 FG
  have e1 := strs_len hw2
  have e2 := strs_len ha2
  k_steps
  refine hidT_open (For_turns (by assumption) ?_)
  k_steps
  refine' iter_rangeT (n := row.length + 1) ?hh ?hr ?hs ?hz ?F ?N ?_
  case hh => rfl
  case hr => assumption
  case hs => exact PySem.small_one (by decide) (by decide) (by omega) (by omega)
  case hz => rw [rangeSize_nat]; omega
  case F => assumption
  case N => assumption
  intro I lI
  refine rest_indK (fun _ => PD ma aa ra wa ms as_ rs row) ?_ ?_ ?_
  · exact ⟨[], ⟨⟨rfl, rfl, rfl, rfl⟩, rfl, fun h => absurd h (Nat.lt_irrefl 0), fun k hk => absurd hk (Nat.not_lt_zero k)⟩, fun _ hp => absurd hp List.not_mem_nil⟩
  · intro i e r m₁ n₁ hx hP IH
    obtain ⟨⟨q1, q2, q3, q4⟩, rfl, hvar, hno⟩ := hP
    obtain ⟨u, hm⟩ := over4 q1 q2 q3 q4
    subst hm
    clear q1 q2 q3 q4 hvar
    obtain ⟨hi, rfl⟩ := rangeAt hx
    have hf := hix i (by omega)
    have hm0 : ms[rs.findIdx (fun r => decide (r = row.take i))]? = some (modeF ms rs row i) := by
      rw [← hml] at hf
      unfold modeF
      rw [List.getD_eq_getElem?_getD, List.getElem?_eq_getElem hf]
      rfl
    k_steps
    (rename Obj => oI)
    refine hidT_cut (DueMid g L₁ ma aa ra wa ms as_ rs row i I oI s) ?iff ?after
    case iff =>
      cases i with
      | zero =>
        refine wpAny_If ?_
        k_steps
        all_goals (first
          | exact due_mid (by assumption) (by assumption) (by k_mem) rfl rfl rfl rfl rfl rfl (cls0 (by assumption)) rfl rfl rfl rfl rfl rfl
          | exact due_mid (by assumption) (by assumption) (by k_mem) rfl rfl rfl rfl rfl rfl (cls2z (by assumption)) rfl rfl rfl rfl rfl rfl
          | (exfalso; omega))
      | succ i =>
        refine wpAny_If ?_
        k_steps
        all_goals (first
          | exact due_mid (by assumption) (by assumption) (by k_mem) rfl rfl rfl rfl rfl rfl (cls0 (by assumption)) rfl rfl rfl rfl rfl rfl
          | exact due_mid (by assumption) (by assumption) (by k_mem) rfl rfl rfl rfl rfl rfl (cls1 (by assumption) (by assumption) (by assumption)) rfl rfl rfl rfl rfl rfl
          | exact due_mid (by assumption) (by assumption) (by k_mem) rfl rfl rfl rfl rfl rfl (cls2 (by assumption) (by assumption)) rfl rfl rfl rfl rfl rfl
          | exact due_mid (by assumption) (by assumption) (by k_mem) rfl rfl rfl rfl rfl rfl (cls2b (by assumption) (by assumption)) rfl rfl rfl rfl rfl rfl)
    case after =>
      clear hm0 hf
      rintro f s' ⟨rfl, h', tk, m', M, U, B, R, t1, t2, t3, t4, t5, rfl, F', N', ⟨q1, q2, q3, q4⟩, q5, V, q6, q7, q8, q9⟩
      obtain ⟨u, hm⟩ := over9 q1 q2 q3 q4 q5 q6 q7 q8 q9
      subst hm
      clear q1 q2 q3 q4 q5 q6 q7 q8 q9
      obtain ⟨⟨hU1, hU2⟩, ⟨hB1, hB2⟩, hR2⟩ := V.facts
      dsimp only
      (try k_fold)
      have hquick : QuickIte := True.intro
      k_steps
      · refine' PyProof.Rows.join_listW (listAt (by assumption) (List.mem_cons_self ..)) (.cons _ _ (by assumption)) (by decide) (hjn i) ?_
        intro t9 tk9
        k_steps
        all_goals (refine hret _ _ _ (by k_asm) (by k_asm) ⟨_, congrArg (Value.str · _) (due_hit hi hno (stop_yes1 V (by assumption) (by assumption))).symm⟩)
      · refine' PyProof.Rows.join_listW (listAt (by assumption) (List.mem_cons_self ..)) (.cons _ _ (by assumption)) (by decide) (hjn i) ?_
        intro t9 tk9
        k_steps
        all_goals (refine hret _ _ _ (by k_asm) (by k_asm) ⟨_, congrArg (Value.str · _) (due_hit hi hno (stop_yes2 V (by assumption) (by assumption))).symm⟩)
      · with_reducible refine IH _ _ ?_
        exact ⟨⟨rfl, rfl, rfl, rfl⟩, rfl, fun _ => ⟨_, _, _, _, _, _, _, _, V, rfl, rfl, rfl, rfl⟩, stops_next hno (stop_no2 V (by assumption) (by assumption))⟩
      · with_reducible refine IH _ _ ?_
        exact ⟨⟨rfl, rfl, rfl, rfl⟩, rfl, fun _ => ⟨_, _, _, _, _, _, _, _, V, rfl, rfl, rfl, rfl⟩, stops_next hno (stop_no1 (by assumption))⟩
  · intro m₁ n₁ hP
    obtain ⟨⟨q1, q2, q3, q4⟩, rfl, hvar, hno⟩ := hP
    rw [rangeItems_len] at hvar hno
    obtain ⟨M, U, B, R, t1, t2, t3, t4, V, q5, q6, q7, q8⟩ := hvar (Nat.succ_pos _)
    clear hvar
    obtain ⟨u, hm⟩ := over8 q1 q2 q3 q4 q5 q6 q7 q8
    subst hm
    clear q1 q2 q3 q4 q5 q6 q7 q8
    obtain ⟨⟨hU1, hU2⟩, ⟨hB1, hB2⟩, hR2⟩ := V.facts
    obtain ⟨⟨hg1, hg2⟩, ⟨hg3, hg4⟩, ⟨hg5, hg6⟩⟩ := fig_in (M.fdiv U)
    have hquick : QuickIte := True.intro
    k_steps
    · refine hret _ _ _ (by k_asm) (by k_asm) ⟨_, congrArg (Value.str · _) ?_⟩
      rw [due_fin V hno, dueEnd, if_pos (by assumption)]
    · refine hret _ _ _ (by k_asm) (by k_asm) ⟨_, congrArg (Value.str · _) ?_⟩
      rw [due_fin V hno, dueEnd, if_neg (by assumption)]

theorem fresh_Pt : True := by
  w_top off
  exact trivial
section
open PyProof.Rows.LCg
variable {prog : Program} {w : World} {A : Around} {E : Value → Shared → Prop} {s : Shared} {h₀ : Heap} {L : Addr} {m : Str → Option Value} {env : Env}
/-- what a comprehension's element leaves: the outer frame as it was, the block's own objects, a ledger that holds what it held -/
def CEnd (h₀ : Heap) (L : Addr) (m : Str → Option Value) (s₁ : Shared) (C : Addr) (oC : Obj) (D : Addr) (ys : List Value) (own news : List (Addr × Obj)) (rest : Value → List (Addr × Obj) → Prop) (y : Value) (s₂ : Shared) : Prop :=
  ∃ h' tk news', s₂ = { s₁ with heap := h', toks := tk } ∧ Fr h₀ L h' m ∧ News h₀ L h' ((C, oC) :: (D, lst ys) :: (news' ++ own)) ∧ (∀ p ∈ news', p ∈ news ∨ (p.1 ≠ C ∧ p.1 ≠ D ∧ ∀ q ∈ own, q.1 ≠ p.1)) ∧ rest y news'
theorem CEnd.same {s₁ : Shared} {C D : Addr} {oC : Obj} {ys : List Value} {own news all : List (Addr × Obj)} {rest : Value → List (Addr × Obj) → Prop} {y : Value} {h' : Heap} {tk : Nat} (F : Fr h₀ L h' m) (N : News h₀ L h' all) (sub : ∀ p ∈ (C, oC) :: (D, lst ys) :: (news ++ own), p ∈ all) (r : rest y news) :
    CEnd h₀ L m s₁ C oC D ys own news rest y { s₁ with heap := h', toks := tk } := ⟨h', tk, news, rfl, F, fun p hp => N p (sub p hp), fun _ hp => .inl hp, r⟩
theorem comp_block {elt target iter : PySem.Expr} {scope : Scope} {cl : List (Str × Addr)} {pos : Pos} {s₂ : Shared} {I : Addr} {fp wr : List Addr} {n : Nat} {P Md : Nat → Value → Heap → Prop} {St : Nat → Heap → Prop} {news : List (Addr × Obj)} {RR : Value → Addr → Result → Shared → Prop}
    (Inv : Nat → List Value → List (Addr × Obj) → Prop) (M : Nat → (Str → Option Value) → Prop)
    (W : KTurns prog w A target I fp wr n P Md St) (self : ∀ (s : Shared) (Q : Value → Shared → Prop) (E : Value → Shared → Prop), St 0 s.heap → Q (.ref I) s → wpAny (model prog w) A (pyIter (.ref I)) Q E s) (hsz : n ≤ sizeLine) (hlive : ∀ i h, St i h → ∀ b ∈ wr, ∃ o, h.get? b = some o)
    (hcell : ∀ y ∈ scope.names, y.2 ≠ .cell) (hkind : scope.kind = .function) (hst : St 0 s₂.heap) (hfp : ∀ b ∈ fp, b < s₂.heap.objs.size) (hLf : L ∉ fp) (hwr : ∀ b ∈ wr, h₀.get? b = none)
    (F : Fr h₀ L s₂.heap m) (N : News h₀ L s₂.heap news) (hnw : ∀ p ∈ news, p.1 ∉ wr) (h0 : Inv 0 [] news)
    (asg : ∀ i v ys news' (s : Shared) C m' (Q : Unit → Shared → Prop) (E : Value → Shared → Prop), P i v s.heap → i < n → Inv i ys news' → Fr h₀ L s.heap m → News h₀ L s.heap news' → s.heap.Ns C m' →
      (∀ h' tk m₂, h'.Ns C m₂ → M i m₂ → (∀ c o, c ≠ C → s.heap.get? c = some o → h'.get? c = some o) → Q () { s with heap := h', toks := tk }) → wpAny (model prog w) A (assign target (compEnvC scope cl C env) v) Q E s)
    (step : ∀ i ys news' own C D oC m₂ h tk (E' : Value → Shared → Prop), i < n → ys.length = i → M i m₂ → Inv i ys news' → NsObj oC m₂ → Fr h₀ L h m → News h₀ L h ((C, oC) :: (D, lst ys) :: (news' ++ own)) →
      wpAny (model prog w) A (eval elt (compEnvC scope cl C env)) (CEnd h₀ L m { s₂ with heap := h, toks := tk } C oC D ys own news' (fun y news'' => Inv (i + 1) (ys ++ [y]) news'')) E' { s₂ with heap := h, toks := tk })
    (hRR : ∀ D C h tk m' ys news', Fr h₀ L h m → News h₀ L h ((D, lst ys) :: news') → (∀ p ∈ news', p.1 ≠ D) → h.Ns C m' → h₀.get? C = none → C ≠ L → C ≠ D → (∀ p ∈ news', p.1 ≠ C) → ys.length = n → Inv n ys news' → RR (.ref D) C (.ok .next) { s₂ with heap := h, toks := tk }) :
    wpAny (model prog w) A (newList []) (fun acc s₃ => wpAny (model prog w) A (newFunctionEnv scope env.globals cl [] env.qual none .none (some env)) (fun cenv s₄ =>
      codeAny (model prog w) A (.compStart (.ListComp elt [⟨target, iter, [], 0⟩] scope pos) 0 (.ref I) acc { cenv with scope := relabel scope env }) (RR acc cenv.locals) s₄) E s₃) E s₂ := by
  refine wpAny_newObj_type (wpAny_newFunctionEnv hcell (by intro y hy; simp at hy) (fun h₁ hns₁ hsb₁ => ?_) hkind)
  dsimp only at hns₁ hsb₁ ⊢
  generalize hH2 : s₂.heap.push { cls := .type "list", dict := none, data := .seq ([] : List Value).toArray } = H2 at hns₁ hsb₁ ⊢
  have hC : H2.objs.size = s₂.heap.objs.size + 1 := by rw [← hH2, Heap.size_push]
  have hDC : s₂.heap.objs.size ≠ H2.objs.size := by rw [hC]; exact Nat.ne_of_lt (Nat.lt_succ_self _)
  have below : ∀ b, b < s₂.heap.objs.size → b ≠ H2.objs.size ∧ b ≠ s₂.heap.objs.size := fun b hb => ⟨by rw [hC]; exact Nat.ne_of_lt (Nat.lt_succ_of_lt hb), Nat.ne_of_lt hb⟩
  have hDf : s₂.heap.objs.size ∉ fp := fun hm => Nat.lt_irrefl _ (hfp _ hm)
  have hCf : H2.objs.size ∉ fp := fun hm => by have := hfp _ hm; rw [hC] at this; exact Nat.lt_irrefl _ (Nat.lt_of_succ_lt this)
  have old : ∀ b o, s₂.heap.get? b = some o → h₁.get? b = some o := fun b o e => hsb₁.extBut b o (below b (Heap.lt_size e)).1 (Heap.get?_push_of_some _ (hH2 ▸ Heap.get?_push_of_some _ e))
  have hacc : h₁.get? s₂.heap.objs.size = some (lst []) := hsb₁.extBut _ _ hDC (Heap.get?_push_of_some _ (hH2 ▸ Heap.get?_push_size _ rfl))
  have hst₁ : St 0 h₁ := W.frame _ _ _ hst fun b _ o e => old b o e
  have fresh₀ : ∀ a, s₂.heap.objs.size ≤ a → h₀.get? a = none := fun a ha => by
    cases e : h₀.get? a with
    | none => rfl
    | some o' => exact absurd (Heap.lt_size (F.keep a o' e)) (Nat.not_lt.mpr ha)
  have hD₀ : h₀.get? s₂.heap.objs.size = none := fresh₀ _ (Nat.le_refl _)
  have hC₀ : h₀.get? H2.objs.size = none := fresh₀ _ (by rw [hC]; exact Nat.le_succ _)
  have hLlt : L < s₂.heap.objs.size := F.ns.lt
  have hDL : s₂.heap.objs.size ≠ L := Ne.symm (below L hLlt).2
  have hCL : H2.objs.size ≠ L := Ne.symm (below L hLlt).1
  have hwf : ∀ b, b ∈ wr → b ∈ fp := W.sub
  have hLw : L ∉ wr := fun h => hLf (hwf _ h)
  have hDw : s₂.heap.objs.size ∉ wr := fun h => hDf (hwf _ h)
  have hCw : H2.objs.size ∉ wr := fun h => hCf (hwf _ h)
  have ground : ∀ b o, h₀.get? b = some o → b ∉ wr := fun b o e hb => by rw [hwr b hb] at e; cases e
  have loop : ∀ s₃ : Shared, s₃ = { s₂ with heap := h₁, toks := s₂.toks + ([] : List (Str × Value)).length } →
      codeAny (model prog w) A (.compLoop (.ListComp elt [⟨target, iter, [], 0⟩] scope pos) 0 (.ref I) (.ref s₂.heap.objs.size) (compEnvC scope cl H2.objs.size env))
        (RR (.ref s₂.heap.objs.size) H2.objs.size) s₃ := by
    rintro s₃ rfl
    refine kcp_loop
      (fun k s' => ∃ h' tk i ys m' news', s' = { s₂ with heap := h', toks := tk } ∧ i ≤ n ∧ k = n + 1 - i ∧ ys.length = i ∧ St i h' ∧ Fr h₀ L h' m ∧ h'.Ns H2.objs.size m' ∧ News h₀ L h' ((s₂.heap.objs.size, lst ys) :: news') ∧
        (∀ p ∈ news', p.1 ∉ wr ∧ p.1 ≠ H2.objs.size ∧ p.1 ≠ s₂.heap.objs.size) ∧ Inv i ys news') ?_ (n + 1)
      ⟨h₁, _, 0, [], _, news, rfl, Nat.zero_le _, rfl, rfl, hst₁, F.keeps old, hns₁, fun p hp => ?_, fun p hp => ⟨hnw p hp, below _ (Heap.lt_size (N p hp).1)⟩, h0⟩
    · rintro k s' ⟨h', tk, i, ys, m', news', rfl, hi, rfl, hyl, hst', F', hn', N', off', inv⟩
      have next : ∀ h₂ : Heap, (∀ b o, b ∉ wr → h'.get? b = some o → h₂.get? b = some o) → Fr h₀ L h₂ m ∧ h₂.Ns H2.objs.size m' ∧ News h₀ L h₂ ((s₂.heap.objs.size, lst ys) :: news') := fun h₂ hk =>
        ⟨⟨F'.ns.at' fun o e => hk _ o hLw e, fun b o e => hk b o (ground b o e) (F'.keep b o e), F'.above⟩, hn'.at' fun o e => hk _ o hCw e, fun p hp => ⟨hk _ _ (by
          rcases List.mem_cons.mp hp with rfl | hp
          · exact hDw
          · exact (off' p hp).1) (N' p hp).1, (N' p hp).2⟩⟩
      by_cases hlt : i < n
      · refine W.item i _ _ _ hlt hst' fun v h₂ tk₂ hMd hk₂ => ?_
        refine W.go i v _ _ _ hMd fun h₃ hP hst₃ hk₃ => ?_
        obtain ⟨F₃, hn₃, N₃⟩ := next h₃ fun b o hb x => hk₃ b o hb (hk₂ b o hb x)
        refine asg i v ys news' { s₂ with heap := h₃, toks := tk₂ } H2.objs.size m' _ _ hP hlt inv F₃ (fun p hp => N₃ p (.tail _ hp)) hn₃ fun h₄ tk₄ m₂ hn₄ hM hs₄ => ?_
        obtain ⟨oC, heC, hoC⟩ := ns_obj hn₄
        have F₄ : Fr h₀ L h₄ m := ⟨F₃.ns.at' fun o e => hs₄ _ o (Ne.symm hCL) e, fun c o e => hs₄ c o (fun q => by rw [q, hC₀] at e; cases e) (F₃.keep c o e), F₃.above⟩
        have hst₄ : St (i + 1) h₄ := W.frame _ _ _ hst₃ fun b hb o e => hs₄ b o (fun q => hCf (q ▸ hb)) e
        have Nown : News h₀ L h₄ (PyProof.Rows.ownOf h₀ fp h₄) := news_ownOf hLf
        have N₄ : News h₀ L h₄ ((H2.objs.size, oC) :: (s₂.heap.objs.size, lst ys) :: (news' ++ PyProof.Rows.ownOf h₀ fp h₄)) := fun q hq => by
          rcases List.mem_cons.mp hq with rfl | hq
          · exact ⟨heC, hCL, hC₀⟩
          · rcases List.mem_cons.mp hq with rfl | hq
            · have z := N₃ _ (.head _)
              exact ⟨hs₄ _ _ hDC z.1, z.2⟩
            · rcases List.mem_append.mp hq with hq | hq
              · have z := N₃ _ (.tail _ hq)
                exact ⟨hs₄ _ _ (off' _ hq).2.1 z.1, z.2⟩
              · exact Nown _ hq
        refine wpAny_mono (step i ys news' _ H2.objs.size s₂.heap.objs.size oC m₂ h₄ _ _ hlt hyl hM inv hoC F₄ N₄) (fun y s₅ h₅ => ?_) fun _ _ e => e
        obtain ⟨h₅, tk₅, news₅, rfl, F₅, N₅, new₅, inv₅⟩ := h₅
        have zC := (N₅ _ (.head _)).1
        have zD := (N₅ _ (.tail _ (.head _))).1
        have hst₅ : St (i + 1) h₅ := W.frame _ _ _ hst₄ fun b hb o e => by
          cases hn : h₀.get? b with
          | some o₀ =>
            have : o₀ = o := by have q := F₄.keep b o₀ hn; rw [e] at q; exact (Option.some.inj q).symm
            exact this ▸ F₅.keep b o₀ hn
          | none => exact (N₅ _ (.tail _ (.tail _ (List.mem_append_right _ (mem_ownOf hb hn e))))).1
        have off₅ : ∀ p ∈ news₅, p.1 ∉ wr ∧ p.1 ≠ H2.objs.size ∧ p.1 ≠ s₂.heap.objs.size := fun p hp => by
          rcases new₅ p hp with h | ⟨h1, h2, h3⟩
          · exact off' p h
          · refine ⟨fun hw => ?_, h1, h2⟩
            obtain ⟨o, e⟩ := hlive _ _ hst₄ _ hw
            exact h3 _ (mem_ownOf (hwf _ hw) (hwr _ hw) e) rfl
        refine append_at (hsz := by show ys.toArray.size ≤ sizeLine; rw [List.size_toArray, hyl]; exact Nat.le_trans hi hsz) zD fun h₆ hs₆ hD₆ => ?_
        refine ⟨n + 1 - (i + 1), by omega, h₆, tk₅, i + 1, ys ++ [y], _, news₅, rfl, hlt, rfl, by rw [List.length_append, List.length_singleton, hyl], W.frame _ _ _ hst₅ fun b hb o e => hs₆.extBut b o (fun q => hDf (q ▸ hb)) e, F₅.change hs₆ hDL hD₀,
          (hoC.ns zC).sameBut hs₆ (Ne.symm hDC), fun p hp => ?_, off₅, inv₅⟩
        rcases List.mem_cons.mp hp with rfl | hp
        · exact ⟨hD₆.trans (congrArg some (lst_snoc ys y)), hDL, hD₀⟩
        · exact ⟨hs₆.extBut _ _ (off₅ p hp).2.2 (N₅ p (.tail _ (.tail _ (List.mem_append_left _ hp)))).1, (N₅ p (.tail _ (.tail _ (List.mem_append_left _ hp)))).2⟩
      · obtain rfl : i = n := Nat.le_antisymm hi (Nat.not_lt.mp hlt)
        refine W.done _ _ _ hst' fun h₂ tk₂ hk₂ => ?_
        obtain ⟨F₂, hn₂, N₂⟩ := next h₂ hk₂
        exact hRR _ _ h₂ tk₂ _ ys news' F₂ N₂ (fun p hp => (off' p hp).2.2) hn₂ hC₀ hCL (Ne.symm hDC) (fun p hp => (off' p hp).2.1) hyl inv
    · rcases List.mem_cons.mp hp with rfl | hp
      · exact ⟨hacc, hDL, hD₀⟩
      · exact ⟨old _ _ (N p hp).1, (N p hp).2⟩
  exact codeAny_compStart_list (loop _ rfl) (self _ _ _ hst₁ (loop _ rfl))
/-- at a comprehension's iterator: what the turns want -/
def CompAt (prog : Program) (w : World) (A : Around) (h₀ : Heap) (L : Addr) (m : Str → Option Value) (env : Env) (elt target : PySem.Expr) (scope : Scope) (cl : List (Str × Addr)) (Fin : Shared → Addr → List Value → List (Addr × Obj) → Prop) (it : Value) (s₂ : Shared) : Prop :=
  ∃ (I : Addr) (fp wr : List Addr) (n : Nat) (P Md : Nat → Value → Heap → Prop) (St : Nat → Heap → Prop) (news : List (Addr × Obj)) (Inv : Nat → List Value → List (Addr × Obj) → Prop) (M : Nat → (Str → Option Value) → Prop),
    it = .ref I ∧ KTurns prog w A target I fp wr n P Md St ∧ (∀ (s : Shared) (Q : Value → Shared → Prop) (E : Value → Shared → Prop), St 0 s.heap → Q (.ref I) s → wpAny (model prog w) A (pyIter (.ref I)) Q E s) ∧ n ≤ sizeLine ∧ (∀ i h, St i h → ∀ b ∈ wr, ∃ o, h.get? b = some o) ∧
    St 0 s₂.heap ∧ (∀ b ∈ fp, b < s₂.heap.objs.size) ∧ L ∉ fp ∧ (∀ b ∈ wr, h₀.get? b = none) ∧ Fr h₀ L s₂.heap m ∧ News h₀ L s₂.heap news ∧ (∀ p ∈ news, p.1 ∉ wr) ∧ Inv 0 [] news ∧
    (∀ i v ys news' (s : Shared) C m' (Q : Unit → Shared → Prop) (E : Value → Shared → Prop), P i v s.heap → i < n → Inv i ys news' → Fr h₀ L s.heap m → News h₀ L s.heap news' → s.heap.Ns C m' →
      (∀ h' tk m₂, h'.Ns C m₂ → M i m₂ → (∀ c o, c ≠ C → s.heap.get? c = some o → h'.get? c = some o) → Q () { s with heap := h', toks := tk }) → wpAny (model prog w) A (assign target (compEnvC scope cl C env) v) Q E s) ∧
    (∀ i ys news' own C D oC m₂ h tk (E' : Value → Shared → Prop), i < n → ys.length = i → M i m₂ → Inv i ys news' → NsObj oC m₂ → Fr h₀ L h m → News h₀ L h ((C, oC) :: (D, lst ys) :: (news' ++ own)) →
      wpAny (model prog w) A (eval elt (compEnvC scope cl C env)) (CEnd h₀ L m { s₂ with heap := h, toks := tk } C oC D ys own news' (fun y news'' => Inv (i + 1) (ys ++ [y]) news'')) E' { s₂ with heap := h, toks := tk }) ∧
    ∀ D ys news', ys.length = n → Inv n ys news' → (∀ p ∈ news', p.1 ≠ D) → Fin s₂ D ys news'
def FinQ (h₀ : Heap) (L : Addr) (m : Str → Option Value) (Q : Value → Shared → Prop) (s : Shared) (D : Addr) (ys : List Value) (news : List (Addr × Obj)) : Prop :=
  ∀ h tk, Fr h₀ L h m → News h₀ L h ((D, lst ys) :: news) → Q (.ref D) { s with heap := h, toks := tk }
def FinL (h₀ : Heap) (L : Addr) (m : Str → Option Value) (y : Str) (Q : Flow → Shared → Prop) (s : Shared) (D : Addr) (ys : List Value) (news : List (Addr × Obj)) : Prop :=
  ∀ h tk, Fr h₀ L h (fun z => if z = y then some (.ref D) else m z) → News h₀ L h ((D, lst ys) :: news) → Q .next { s with heap := h, toks := tk }
def FinC (h₀ : Heap) (L : Addr) (m : Str → Option Value) (c : Addr) (Q : Flow → Shared → Prop) (s : Shared) (D : Addr) (ys : List Value) (news : List (Addr × Obj)) : Prop :=
  ∃ o v₀ g, o.data = .cell v₀ ∧ UpdF c o news g ∧ ∀ h tk o', Fr h₀ L h m → News h₀ L h ((D, lst ys) :: g o') → o'.data = .cell (some (.ref D)) → Q .next { s with heap := h, toks := tk }
theorem ListComp_G {elt target iter : PySem.Expr} {scope : Scope} {cl : List (Str × Addr)} {pos : Pos} {Q : Value → Shared → Prop} (F₀ : Fr h₀ L s.heap m)
    (hclos : closureFor scope env = pure cl) (hcell : ∀ y ∈ scope.names, y.2 ≠ .cell) (hkind : scope.kind = .function) (hnames : ∀ y ∈ scope.names, y.2 = .local → scope.names.lookup y.1 = some .local)
    (h : wpAny (model prog w) A (eval iter env) (fun xv s₁ => wpAny (model prog w) A (pyIter xv) (fun it s₂ => CompAt prog w A h₀ L m env elt target scope cl (FinQ h₀ L m Q) it s₂) E s₁) E s)
    (hs : ∀ x, foldedSetIterable iter env x = pure x := by intro _; rfl) :
    wpAny (model prog w) A (eval (.ListComp elt [⟨target, iter, [], 0⟩] scope pos) env) Q E s := by
  have _ := F₀
  rw [eval_ListComp]
  refine wpAny_comprehension_free (use := none) rfl hs hclos hkind hnames (wpAny_mono h (fun xv s₁ h₁ => wpAny_mono h₁ (fun it s₂ h₂ => ?_) fun _ _ e => e) fun _ _ e => e)
  obtain ⟨I, fp, wr, n, P, Md, St, news, Inv, M, rfl, W, self, hsz, live, hst, hfp, hLf, hwr, F, N, hnw, h0, asg, step, fin⟩ := h₂
  refine comp_block Inv M W self hsz live hcell hkind hst hfp hLf hwr F N hnw h0 asg step ?_
  intro D C h tk m' ys news' F' N' offD hn hC₀ hCL hCD offC hyl inv
  refine ⟨m', hn, fun h'' hs'' => fin D ys news' hyl inv offD h'' tk (F'.change hs'' hCL hC₀) (fun p hp => ?_)⟩
  refine ⟨hs''.extBut _ _ ?_ (N' p hp).1, (N' p hp).2⟩
  rcases List.mem_cons.mp hp with rfl | hp
  · exact Ne.symm hCD
  · exact offC p hp
theorem Assign_ListComp_GL {elt target iter : PySem.Expr} {y : Str} {py : Pos} {scope : Scope} {cl : List (Str × Addr)} {pos spos : Pos} {Q : Flow → Shared → Prop} (F₀ : Fr h₀ L s.heap m) (hLe : env.locals = L)
    (hsw : swapsWith (.ListComp elt [⟨target, iter, [], 0⟩] scope pos) (some (.Name y py)) spos.line env = pure true)
    (hclos : closureFor scope env = pure cl) (hcell : ∀ z ∈ scope.names, z.2 ≠ .cell) (hkind : scope.kind = .function) (hnames : ∀ z ∈ scope.names, z.2 = .local → scope.names.lookup z.1 = some .local)
    (hy : env.kindOf y = some .local) (hp : (env.scope.kind == .class || (env.scope.kind == .module && env.locals != env.globals)) = false)
    (h : wpAny (model prog w) A (eval iter env) (fun xv s₁ => wpAny (model prog w) A (pyIter xv) (fun it s₂ => CompAt prog w A h₀ L m env elt target scope cl (FinL h₀ L m y Q) it s₂) E s₁) E s)
    (hs : ∀ x, foldedSetIterable iter env x = pure x := by intro _; rfl) :
    wpAny (model prog w) A (exec (.Assign [.Name y py] (.ListComp elt [⟨target, iter, [], 0⟩] scope pos) spos) env) Q E s := by
  have _ := F₀
  subst hLe
  rw [exec_Assign_Name_used _ _ _ _ hsw]
  refine wpAny_bind (wpAny_standAt (wpAny_bind ?_))
  show wpAny _ A (do let _ ← comprehension (.ListComp elt [⟨target, iter, [], 0⟩] scope pos) scope env _ (newList []) false (eval iter env) (some (assign (.Name y py) env))) _ _ s
  refine wpAny_bind (wpAny_mono (wpAny_comprehension_free (use := some (assign (.Name y py) env)) (Q := fun _ s' => Q .next s') rfl hs hclos hkind hnames
    (wpAny_mono h (fun xv s₁ h₁ => wpAny_mono h₁ (fun it s₂ h₂ => ?_) fun _ _ e => e) fun _ _ e => e)) (fun _ s' hq => wpAny_pure (wpAny_pure hq)) fun _ _ e => e)
  obtain ⟨I, fp, wr, n, P, Md, St, news, Inv, M, rfl, W, self, hsz, live, hst, hfp, hLf, hwr, F, N, hnw, h0, asg, step, fin⟩ := h₂
  refine comp_block Inv M W self hsz live hcell hkind hst hfp hLf hwr F N hnw h0 asg step ?_
  intro D C h' tk m' ys news' F' N' offD hn hC₀ hCL hCD offC hyl inv
  show wpAny _ A (assign (.Name y py) env (.ref D)) _ _ _
  refine wpAny_assign_Name (wpAny_storeName_local hy F'.ns (fun h₂ hn₂ hs₂ => ?_) hp)
  have hL₀ : h₀.get? env.locals = none := Heap.get?_none_of_le F'.above
  have F₂ : Fr h₀ env.locals h₂ (fun z => if z = y then some (.ref D) else m z) := ⟨hn₂, fun b o e => hs₂.extBut b o (fun q => by rw [q, hL₀] at e; cases e) (F'.keep b o e), F'.above⟩
  refine ⟨m', hn.sameBut hs₂ hCL, fun h'' hs'' => fin D ys news' hyl inv offD h'' _ (F₂.change hs'' hCL hC₀) (fun p hp => ?_)⟩
  have z : h₂.get? p.1 = some p.2 := hs₂.extBut _ _ (N' p hp).2.1 (N' p hp).1
  refine ⟨hs''.extBut _ _ ?_ z, (N' p hp).2⟩
  rcases List.mem_cons.mp hp with rfl | hp
  · exact Ne.symm hCD
  · exact offC p hp
theorem Assign_ListComp_GC {elt target iter : PySem.Expr} {y : Str} {py : Pos} {scope : Scope} {cl : List (Str × Addr)} {pos spos : Pos} {c : Addr} {Q : Flow → Shared → Prop} (F₀ : Fr h₀ L s.heap m)
    (hsw : swapsWith (.ListComp elt [⟨target, iter, [], 0⟩] scope pos) (some (.Name y py)) spos.line env = pure true)
    (hclos : closureFor scope env = pure cl) (hcell : ∀ z ∈ scope.names, z.2 ≠ .cell) (hkind : scope.kind = .function) (hnames : ∀ z ∈ scope.names, z.2 = .local → scope.names.lookup z.1 = some .local)
    (hk : env.scope.kind = .function) (hy : env.kindOf y = some .cell) (hc : env.cells.lookup y = some c)
    (h : wpAny (model prog w) A (eval iter env) (fun xv s₁ => wpAny (model prog w) A (pyIter xv) (fun it s₂ => CompAt prog w A h₀ L m env elt target scope cl (FinC h₀ L m c Q) it s₂) E s₁) E s)
    (hs : ∀ x, foldedSetIterable iter env x = pure x := by intro _; rfl) :
    wpAny (model prog w) A (exec (.Assign [.Name y py] (.ListComp elt [⟨target, iter, [], 0⟩] scope pos) spos) env) Q E s := by
  have _ := F₀
  rw [exec_Assign_Name_used _ _ _ _ hsw]
  refine wpAny_bind (wpAny_standAt (wpAny_bind ?_))
  show wpAny _ A (do let _ ← comprehension (.ListComp elt [⟨target, iter, [], 0⟩] scope pos) scope env _ (newList []) false (eval iter env) (some (assign (.Name y py) env))) _ _ s
  refine wpAny_bind (wpAny_mono (wpAny_comprehension_free (use := some (assign (.Name y py) env)) (Q := fun _ s' => Q .next s') rfl hs hclos hkind hnames
    (wpAny_mono h (fun xv s₁ h₁ => wpAny_mono h₁ (fun it s₂ h₂ => ?_) fun _ _ e => e) fun _ _ e => e)) (fun _ s' hq => wpAny_pure (wpAny_pure hq)) fun _ _ e => e)
  obtain ⟨I, fp, wr, n, P, Md, St, news, Inv, M, rfl, W, self, hsz, live, hst, hfp, hLf, hwr, F, N, hnw, h0, asg, step, fin⟩ := h₂
  refine comp_block Inv M W self hsz live hcell hkind hst hfp hLf hwr F N hnw h0 asg step ?_
  intro D C h' tk m' ys news' F' N' offD hn hC₀ hCL hCD offC hyl inv
  show wpAny _ A (assign (.Name y py) env (.ref D)) _ _ _
  obtain ⟨o, v₀, g, hd, U, fin⟩ := fin D ys news' hyl inv offD
  obtain ⟨l1, l2, rfl, hg, u1, u2⟩ := U.split
  have hin : (c, o) ∈ l1 ++ (c, o) :: l2 := List.mem_append_right _ (.head _)
  have hmem := N' _ (.tail _ hin)
  have hcC : c ≠ C := offC _ hin
  have hcD : c ≠ D := offD _ hin
  refine wpAny_assign_Name (wpAny_storeName_cell hk hy hc ⟨o, hmem.1, hd⟩ fun h₂ hv hs₂ => ?_)
  obtain ⟨o', ho', hd'⟩ := hv
  have F₂ : Fr h₀ L h₂ m := ⟨F'.ns.sameBut hs₂ (Ne.symm hmem.2.1), fun b ob e => (hs₂.2 b (fun q => by rw [q, hmem.2.2] at e; cases e)).trans (F'.keep b ob e), F'.above⟩
  have N₂ : News h₀ L h₂ ((D, lst ys) :: g o') := fun p hp => by
    rcases List.mem_cons.mp hp with rfl | hp
    · have z := N' _ (.head _)
      exact ⟨hs₂.extBut _ _ (Ne.symm hcD) z.1, z.2⟩
    · have N₁ : News h₀ L h' (l1 ++ (c, o) :: l2) := fun p hp => N' p (.tail _ hp)
      exact (hg o' ▸ N₁.setAt u1 u2 hs₂ ho' : News h₀ L h₂ (g o')) p hp
  refine ⟨m', hn.sameBut hs₂ (Ne.symm hcC), fun h'' hs'' => fin h'' _ o' (F₂.change hs'' hCL hC₀) (fun p hp => ?_) hd'⟩
  refine ⟨hs''.extBut _ _ ?_ (N₂ p hp).1, (N₂ p hp).2⟩
  rcases List.mem_cons.mp hp with rfl | hp
  · exact Ne.symm hCD
  · rw [hg o'] at hp
    rcases List.mem_append.mp hp with hp | hp
    · exact offC p (List.mem_append_left _ hp)
    · rcases List.mem_cons.mp hp with rfl | hp
      · exact hcC
      · exact offC p (List.mem_append_right _ (.tail _ hp))
end

theorem fresh_Pu : True := by
  w_top off
  exact trivial
section
open PyProof.Rows.LCg
variable {prog : Program} {w : World} {A : Around} {E : Value → Shared → Prop} {s : Shared} {h₀ : Heap} {L : Addr} {m : Str → Option Value} {env : Env}
theorem comp_fresh0 {h : Heap} (F : Fr h₀ L h m) {a : Addr} (ha : h.objs.size ≤ a) : h₀.get? a = none := by
  cases e : h₀.get? a with
  | none => rfl
  | some o' => exact absurd (Heap.lt_size (F.keep a o' e)) (Nat.not_lt.mpr ha)
/-- one name over a list -/
theorem comp_list {elt : PySem.Expr} {x : Str} {px : Pos} {scope : Scope} {cl : List (Str × Addr)} {ax : Addr} {its : Array Value} {news : List (Addr × Obj)} {Fin : Shared → Addr → List Value → List (Addr × Obj) → Prop}
    (Inv : Nat → List Value → List (Addr × Obj) → Prop) (hh : A.handled = none) (hkind : scope.kind = .function) (hx : scope.names.lookup x = some .local) (F : Fr h₀ L s.heap m) (N : News h₀ L s.heap news) (hl : s.heap.IsList ax its) (hne : ax ≠ L) (hsz : its.size ≤ sizeLine) (h0 : Inv 0 [] news)
    (step : ∀ g i v ys news' own C D oC m₂ h tk (E' : Value → Shared → Prop), its[i]? = some v → ys.length = i → m₂ x = some v → Inv i ys news' → NsObj oC m₂ → Fr h₀ L h m → News h₀ L h ((C, oC) :: (D, lst ys) :: (news' ++ own)) →
      wpAny (model prog w) A (eval elt (compEnvC scope cl C env)) (CEnd h₀ L m { s with heap := h, toks := tk } C oC D ys own news' (fun y news'' => Inv (i + 1) (ys ++ [y]) news'')) E' { { s with heap := g } with heap := h, toks := tk })
    (fin : ∀ g D ys news', ys.length = its.size → Inv its.size ys news' → (∀ p ∈ news', p.1 ≠ D) → Fin { s with heap := g } D ys news') :
    wpAny (model prog w) A (pyIter (.ref ax)) (fun it s₂ => CompAt prog w A h₀ L m env elt (.Name x px) scope cl Fin it s₂) E s := by
  have hlt : ax < s.heap.objs.size := by obtain ⟨_, e, _⟩ := hl; exact Heap.lt_size e
  refine wpAny_pyIter_list hl ?_
  have up : ∀ b o, s.heap.get? b = some o → (s.heap.push { cls := .type "list_iterator", data := .fields #[.ref ax, .int 0 0] }).get? b = some o := fun b o e => Heap.get?_push_of_some _ e
  have W := Walks.list (prog := prog) (w := w) hh s.heap.objs.size ax (Nat.ne_of_lt hlt) its
  refine ⟨_, _, _, _, _, _, _, news, Inv, fun i m₂ => ∃ v, its[i]? = some v ∧ m₂ x = some v, rfl, KTurns.ofWalks (target := .Name x px) W (fun i v s Q E st q => by unfold letOwnedTupleGo; exact wpAny_pure q), fun s Q E st q => W.self 0 s Q E st q, hsz, ?_, ⟨⟨_, Heap.get?_push_size _ rfl, rfl, rfl⟩, hl.push _⟩, ?_, ?_, ?_, F.keeps up, N.grown up, ?_, h0, ?_, ?_, ?_⟩
  · intro i h st b hb
    rw [List.mem_singleton.mp hb]
    obtain ⟨o, e, _⟩ := st.1
    exact ⟨o, e⟩
  · intro b hb
    show b < (s.heap.push _).objs.size
    rw [Heap.size_push]
    rcases List.mem_cons.mp hb with rfl | hb
    · exact Nat.lt_succ_self _
    · rw [List.mem_singleton.mp hb]; exact Nat.lt_succ_of_lt hlt
  · intro hb
    rcases List.mem_cons.mp hb with e | hb
    · exact absurd F.ns.lt (e ▸ Nat.lt_irrefl _)
    · exact hne (List.mem_singleton.mp hb).symm
  · intro b hb
    rw [List.mem_singleton.mp hb]
    exact next_is_new F
  · intro p hp hb
    exact absurd (Heap.lt_size (N p hp).1) ((List.mem_singleton.mp hb) ▸ Nat.lt_irrefl _)
  · intro i v ys news' s' C m' Q E' hP hi _ _ _ hn k
    refine wpAny_assign_Name (wpAny_storeName_local (lookup_relabel_local hx) hn (fun h₃ hn₃ hs₃ => ?_) (by simp [compEnvC, relabel, hkind]))
    exact k h₃ _ _ hn₃ ⟨v, hP, by simp⟩ fun c o hc e => hs₃.extBut c o hc e
  · intro i ys news' own C D oC m₂ h tk E' hi hyl hM inv hoC F' N'
    obtain ⟨v, hv, hm⟩ := hM
    exact step _ i v ys news' own C D oC m₂ h tk E' hv hyl hm inv hoC F' N'
  · intro D ys news' hyl inv off
    exact fin _ D ys news' hyl inv off
theorem asg3 {a b c : Str} {pa pb pc tp : Pos} {kk : Nat} {T : Addr} {x y z : Value} {n : Str → Option Value} {Q : Unit → Shared → Prop} (hh : A.handled = none) (ht : s.heap.IsTuple T #[x, y, z])
    (ha : env.kindOf a = some .local) (hb : env.kindOf b = some .local) (hc : env.kindOf c = some .local) (hp : (env.scope.kind == .class || (env.scope.kind == .module && env.locals != env.globals)) = false) (hn : s.heap.Ns env.locals n)
    (h : ∀ (h' : Heap) (tk : Nat), h'.Ns env.locals (fun w => if w = c then some z else if w = b then some y else if w = a then some x else n w) → (∀ d o, d ≠ env.locals → s.heap.get? d = some o → h'.get? d = some o) → Q () { s with heap := h', toks := tk }) :
    wpAny (model prog w) A (assign (.Tuple [.Name a pa, .Name b pb, .Name c pc] kk tp) env (.ref T)) Q E s := by
  refine wpAny_assign_Tuple hh ht rfl rfl fun h₁ he₁ => ?_
  have hL : env.locals ≠ s.heap.objs.size := Nat.ne_of_lt hn.lt
  have hn₁ : h₁.Ns env.locals n := hn.at' fun o e => he₁ _ o hL e
  have up₁ : ∀ d o, s.heap.get? d = some o → h₁.get? d = some o := fun d o e => he₁ d o (Nat.ne_of_lt (Heap.lt_size e)) e
  show wpAny _ _ (assignInOrder [assign (.Name a pa) env, assign (.Name b pb) env, assign (.Name c pc) env] [x, y, z]) _ _ _
  refine assignInOrder_cons (wpAny_assign_Name (wpAny_storeName_local ha hn₁ (fun h₂ hn₂ hs₂ => ?_) hp))
  refine assignInOrder_cons (wpAny_assign_Name (wpAny_storeName_local hb hn₂ (fun h₃ hn₃ hs₃ => ?_) hp))
  refine assignInOrder_cons (wpAny_assign_Name (wpAny_storeName_local hc hn₃ (fun h₄ hn₄ hs₄ => ?_) hp))
  exact assignInOrder_nil (h h₄ _ hn₄ fun d o hd e => hs₄.extBut d o hd (hs₃.extBut d o hd (hs₂.extBut d o hd (up₁ d o e))))
/-- three names over a list of tuples of the ledger -/
theorem comp_list3 {elt : PySem.Expr} {a b c : Str} {pa pb pc tp : Pos} {kk : Nat} {scope : Scope} {cl : List (Str × Addr)} {ax : Addr} {its : Array Value} {news : List (Addr × Obj)} {Fin : Shared → Addr → List Value → List (Addr × Obj) → Prop}
    (J : Nat → List Value → Prop) (hh : A.handled = none) (hkind : scope.kind = .function) (hxa : scope.names.lookup a = some .local) (hxb : scope.names.lookup b = some .local) (hxc : scope.names.lookup c = some .local) (hab : ¬ a = b) (hac : ¬ a = c) (hbc : ¬ b = c)
    (F : Fr h₀ L s.heap m) (N : News h₀ L s.heap news) (hl : s.heap.IsList ax its) (hne : ax ≠ L) (hsz : its.size ≤ sizeLine)
    (hT : ∀ (i : Nat) v, its[i]? = some v → ∃ t ot x y z n, v = .ref t ∧ (t, ot) ∈ news ∧ ot.cls = .type "tuple" ∧ ot.data = .seq #[x, y, z] n) (h0 : J 0 [])
    (step : ∀ g (i : Nat) t ot x y z n ys own C D oC m₂ h tk (E' : Value → Shared → Prop), its[i]? = some (.ref t) → (t, ot) ∈ news → ot.cls = .type "tuple" → ot.data = .seq #[x, y, z] n → ys.length = i → m₂ a = some x → m₂ b = some y → m₂ c = some z → J i ys → NsObj oC m₂ → Fr h₀ L h m → News h₀ L h ((C, oC) :: (D, lst ys) :: (news ++ own)) →
      wpAny (model prog w) A (eval elt (compEnvC scope cl C env)) (CEnd h₀ L m { s with heap := h, toks := tk } C oC D ys own news (fun y news'' => news'' = news ∧ J (i + 1) (ys ++ [y]))) E' { { s with heap := g } with heap := h, toks := tk })
    (fin : ∀ g D ys, ys.length = its.size → J its.size ys → (∀ p ∈ news, p.1 ≠ D) → Fin { s with heap := g } D ys news) :
    wpAny (model prog w) A (pyIter (.ref ax)) (fun it s₂ => CompAt prog w A h₀ L m env elt (.Tuple [.Name a pa, .Name b pb, .Name c pc] kk tp) scope cl Fin it s₂) E s := by
  have hlt : ax < s.heap.objs.size := by obtain ⟨_, e, _⟩ := hl; exact Heap.lt_size e
  refine wpAny_pyIter_list hl ?_
  have up : ∀ b o, s.heap.get? b = some o → (s.heap.push { cls := .type "list_iterator", data := .fields #[.ref ax, .int 0 0] }).get? b = some o := fun b o e => Heap.get?_push_of_some _ e
  have W := Walks.list (prog := prog) (w := w) hh s.heap.objs.size ax (Nat.ne_of_lt hlt) its
  have K : KTurns prog w A (.Tuple [.Name a pa, .Name b pb, .Name c pc] kk tp) s.heap.objs.size [s.heap.objs.size, ax] [s.heap.objs.size] its.size (fun i v _ => its[i]? = some v) (fun i v h => its[i]? = some v ∧ h.IsListIter s.heap.objs.size ax (i + 1) ∧ h.IsList ax its) (fun i h => h.IsListIter s.heap.objs.size ax i ∧ h.IsList ax its) :=
    { sub := W.sub
      frame := W.frame
      item := fun i s Q E hi st hQ => W.item i s Q E hi st fun v h' tk hP st' hk => hQ v h' tk ⟨hP, st'⟩ hk
      go := fun i v s Q E hm hQ => by
        obtain ⟨t, ot, x, y, z, n, rfl, _⟩ := hT i v hm.1
        exact wpAny_letOwnedTupleGo_listiter hm.2.1 (hQ s.heap hm.1 hm.2 fun _ _ _ e => e)
      done := W.done }
  refine ⟨_, _, _, _, _, _, _, news, fun i ys nw => nw = news ∧ J i ys, fun i m₂ => ∃ t ot x y z n, its[i]? = some (.ref t) ∧ (t, ot) ∈ news ∧ ot.cls = .type "tuple" ∧ ot.data = .seq #[x, y, z] n ∧ m₂ a = some x ∧ m₂ b = some y ∧ m₂ c = some z, rfl, K, fun s Q E st q => W.self 0 s Q E st q, hsz, ?_, ⟨⟨_, Heap.get?_push_size _ rfl, rfl, rfl⟩, hl.push _⟩, ?_, ?_, ?_, F.keeps up, N.grown up, ?_, ⟨rfl, h0⟩, ?_, ?_, ?_⟩
  · intro i h st b hb
    rw [List.mem_singleton.mp hb]
    obtain ⟨o, e, _⟩ := st.1
    exact ⟨o, e⟩
  · intro b hb
    show b < (s.heap.push _).objs.size
    rw [Heap.size_push]
    rcases List.mem_cons.mp hb with rfl | hb
    · exact Nat.lt_succ_self _
    · rw [List.mem_singleton.mp hb]; exact Nat.lt_succ_of_lt hlt
  · intro hb
    rcases List.mem_cons.mp hb with e | hb
    · exact absurd F.ns.lt (e ▸ Nat.lt_irrefl _)
    · exact hne (List.mem_singleton.mp hb).symm
  · intro b hb
    rw [List.mem_singleton.mp hb]
    exact next_is_new F
  · intro p hp hb
    exact absurd (Heap.lt_size (N p hp).1) ((List.mem_singleton.mp hb) ▸ Nat.lt_irrefl _)
  · intro i v ys news' s' C m' Q E' hP hi inv _ N' hn k
    obtain ⟨rfl, _⟩ := inv
    obtain ⟨t, ot, x, y, z, n, rfl, h1, h2, h3⟩ := hT i v hP
    refine asg3 (env := compEnvC scope cl C env) hh ⟨ot, (N' _ h1).1, h2, n, h3⟩ (lookup_relabel_local hxa) (lookup_relabel_local hxb) (lookup_relabel_local hxc) (by simp [compEnvC, relabel, hkind]) hn fun h₄ tk₄ hn₄ hs₄ => ?_
    exact k h₄ tk₄ _ hn₄ ⟨t, ot, x, y, z, n, hP, h1, h2, h3, by simp [hab, hac], by simp [hbc], by simp⟩ hs₄
  · intro i ys news' own C D oC m₂ h tk E' hi hyl hM inv hoC F' N'
    obtain ⟨rfl, hJ⟩ := inv
    obtain ⟨t, ot, x, y, z, n, h1, h2, h3, h4, h5, h6, h7⟩ := hM
    exact step _ i t ot x y z n ys own C D oC m₂ h tk E' h1 h2 h3 h4 hyl h5 h6 h7 hJ hoC F' N'
  · intro D ys news' hyl inv off
    obtain ⟨rfl, hJ⟩ := inv
    exact fin _ D ys hyl hJ off
/-- two names over the zip of two lists -/
theorem comp_zip {elt : PySem.Expr} {a b : Str} {pa pb tp : Pos} {kk : Nat} {scope : Scope} {cl : List (Str × Addr)} {l1 l2 : Addr} {xs ys : Array Value} {news : List (Addr × Obj)} {Fin : Shared → Addr → List Value → List (Addr × Obj) → Prop}
    (J : Nat → List Value → Prop) (hh : A.handled = none) (hkind : scope.kind = .function) (hxa : scope.names.lookup a = some .local) (hxb : scope.names.lookup b = some .local) (hab : ¬ a = b)
    (F : Fr h₀ L s.heap m) (N : News h₀ L s.heap news) (hl1 : s.heap.IsList l1 xs) (hl2 : s.heap.IsList l2 ys) (hn1 : l1 ≠ L) (hn2 : l2 ≠ L) (hsz : xs.size ≤ sizeLine) (h0 : J 0 [])
    (step : ∀ g (i : Nat) x y zs own C D oC m₂ h tk (E' : Value → Shared → Prop), xs[i]? = some x → ys[i]? = some y → zs.length = i → m₂ a = some x → m₂ b = some y → J i zs → NsObj oC m₂ → Fr h₀ L h m → News h₀ L h ((C, oC) :: (D, lst zs) :: (news ++ own)) →
      wpAny (model prog w) A (eval elt (compEnvC scope cl C env)) (CEnd h₀ L m { s with heap := h, toks := tk } C oC D zs own news (fun y news'' => news'' = news ∧ J (i + 1) (zs ++ [y]))) E' { { s with heap := g } with heap := h, toks := tk })
    (fin : ∀ g D zs, zs.length = min xs.size ys.size → J (min xs.size ys.size) zs → (∀ p ∈ news, p.1 ≠ D) → Fin { s with heap := g } D zs news) :
    wpAny (model prog w) A (call (.type "zip") [.ref l1, .ref l2]) (fun xv s₁ => wpAny (model prog w) A (pyIter xv) (fun it s₂ => CompAt prog w A h₀ L m env elt (.Tuple [.Name a pa, .Name b pb] kk tp) scope cl Fin it s₂) E s₁) E s := by
  have hlt1 : l1 < s.heap.objs.size := by obtain ⟨_, e, _⟩ := hl1; exact Heap.lt_size e
  have hlt2 : l2 < s.heap.objs.size := by obtain ⟨_, e, _⟩ := hl2; exact Heap.lt_size e
  refine call_zip_2 hl1 hl2 fun h' hz hTI hTO hi1 hi2 hsz' up => ?_
  refine wpAny_pyIter_zip hz ?_
  have D : ZipApart (s.heap.objs.size + 4) (s.heap.objs.size + 2) (s.heap.objs.size + 3) s.heap.objs.size (s.heap.objs.size + 1) l1 l2 := by
    generalize s.heap.objs.size = z at hlt1 hlt2
    constructor <;> (show @Ne Nat _ _) <;> (try have h1 : @LT.lt Nat _ l1 z := hlt1) <;> (try have h2 : @LT.lt Nat _ l2 z := hlt2) <;> omega
  have W := (WalksT.zip2 (prog := prog) (w := w) hh _ _ _ _ _ _ _ D xs ys).toU
  have hLlt := F.ns.lt
  refine ⟨_, _, _, _, _, _, _, news, fun i ys nw => nw = news ∧ J i ys, fun i m₂ => ∃ x y, xs[i]? = some x ∧ ys[i]? = some y ∧ m₂ a = some x ∧ m₂ b = some y, rfl, KTurns.ofWalksU (elts := [.Name a pa, .Name b pb]) (k := kk) (pos := tp) W, fun s Q E st q => wpAny_pyIter_zip st.1 q, ?_, ?_, ⟨hz, hTI, ⟨_, _, hTO⟩, hi1, hi2, let ⟨o, e, r⟩ := hl1; ⟨o, up _ _ e, r⟩, let ⟨o, e, r⟩ := hl2; ⟨o, up _ _ e, r⟩⟩, ?_, ?_, ?_, F.keeps up, N.grown up, ?_, ⟨rfl, h0⟩, ?_, ?_, ?_⟩
  · exact Nat.le_trans (Nat.min_le_left ..) hsz
  · rintro i h ⟨q1, q2, ⟨_, _, q3⟩, ⟨o4, q4, _⟩, ⟨o5, q5, _⟩, _, _⟩ b hb
    have hb' : b = s.heap.objs.size + 4 ∨ b = s.heap.objs.size + 3 ∨ b = s.heap.objs.size ∨ b = s.heap.objs.size + 1 := by simpa using hb
    rcases hb' with rfl | rfl | rfl | rfl
    · exact ⟨_, q1⟩
    · exact ⟨_, q3⟩
    · exact ⟨_, q4⟩
    · exact ⟨_, q5⟩
  · intro b hb
    show b < h'.objs.size
    rw [hsz']
    have hb' : b = s.heap.objs.size + 4 ∨ b = s.heap.objs.size + 2 ∨ b = s.heap.objs.size + 3 ∨ b = s.heap.objs.size ∨ b = s.heap.objs.size + 1 ∨ b = l1 ∨ b = l2 := by simpa using hb
    generalize s.heap.objs.size = z at *
    show @LT.lt Nat _ b _
    replace hlt1 : @LT.lt Nat _ l1 z := hlt1
    replace hlt2 : @LT.lt Nat _ l2 z := hlt2
    rcases hb' with rfl | rfl | rfl | rfl | rfl | rfl | rfl <;> omega
  · intro hb
    have hb' : L = s.heap.objs.size + 4 ∨ L = s.heap.objs.size + 2 ∨ L = s.heap.objs.size + 3 ∨ L = s.heap.objs.size ∨ L = s.heap.objs.size + 1 ∨ L = l1 ∨ L = l2 := by simpa using hb
    generalize s.heap.objs.size = z at *
    replace hLlt : @LT.lt Nat _ L z := hLlt
    rcases hb' with e | e | e | e | e | e | e
    · have e' : @Eq Nat L (z + 4) := e; omega
    · have e' : @Eq Nat L (z + 2) := e; omega
    · have e' : @Eq Nat L (z + 3) := e; omega
    · have e' : @Eq Nat L z := e; omega
    · have e' : @Eq Nat L (z + 1) := e; omega
    · exact hn1 e.symm
    · exact hn2 e.symm
  · intro b hb
    have hb' : b = s.heap.objs.size + 4 ∨ b = s.heap.objs.size + 3 ∨ b = s.heap.objs.size ∨ b = s.heap.objs.size + 1 := by simpa using hb
    refine comp_fresh0 F ?_
    generalize s.heap.objs.size = z at *
    show @LE.le Nat _ z b
    rcases hb' with rfl | rfl | rfl | rfl <;> omega
  · intro p hp hb
    have hlp := Heap.lt_size (N p hp).1
    have hb' : p.1 = s.heap.objs.size + 4 ∨ p.1 = s.heap.objs.size + 3 ∨ p.1 = s.heap.objs.size ∨ p.1 = s.heap.objs.size + 1 := by simpa using hb
    generalize s.heap.objs.size = z at *
    generalize p.1 = q at *
    replace hlp : @LT.lt Nat _ q z := hlp
    rcases hb' with e | e | e | e
    · have e' : @Eq Nat q (z + 4) := e; omega
    · have e' : @Eq Nat q (z + 3) := e; omega
    · have e' : @Eq Nat q z := e; omega
    · have e' : @Eq Nat q (z + 1) := e; omega
  · intro i v zs news' s' C m' Q E' hP hi inv _ N' hn k
    obtain ⟨T, vals, rfl, ⟨x, y, hx, hy, rfl⟩, hT⟩ := hP
    refine kcp_assign (env := compEnvC scope cl C env) hh hT (lookup_relabel_local hxa) (lookup_relabel_local hxb) (by simp [compEnvC, relabel, hkind]) hn fun h₄ tk₄ hn₄ hs₄ => ?_
    exact k h₄ tk₄ _ hn₄ ⟨x, y, hx, hy, by simp [hab], by simp⟩ hs₄
  · intro i zs news' own C D oC m₂ h tk E' hi hyl hM inv hoC F' N'
    obtain ⟨rfl, hJ⟩ := inv
    obtain ⟨x, y, h1, h2, h3, h4⟩ := hM
    exact step _ i x y zs own C D oC m₂ h tk E' h1 h2 hyl h3 h4 hJ hoC F' N'
  · intro D zs news' hyl inv off
    obtain ⟨rfl, hJ⟩ := inv
    exact fin _ D zs hyl hJ off
end

theorem fresh_Pv : True := by
  w_top off
  exact trivial
section
open PyProof.Rows.LCg
variable {prog : Program} {w : World} {A : Around} {E : Value → Shared → Prop} {s : Shared} {h₀ : Heap} {L : Addr} {m : Str → Option Value} {env : Env}
/-- what a dict comprehension's key and value leave -/
def DEnd (prog : Program) (w : World) (h₀ : Heap) (L : Addr) (m : Str → Option Value) (s₁ : Shared) (C : Addr) (oC : Obj) (D : Addr) (od : Obj) (own news : List (Addr × Obj)) (rest : Str → Value → List (Addr × Obj) → Prop) (kv y : Value) (s₂ : Shared) : Prop :=
  ∃ k h' tk news', (strKind prog w).is k kv = true ∧ s₂ = { s₁ with heap := h', toks := tk } ∧ Fr h₀ L h' m ∧ News h₀ L h' ((C, oC) :: (D, od) :: (news' ++ own)) ∧ (∀ p ∈ news', p ∈ news ∨ (p.1 ≠ C ∧ p.1 ≠ D ∧ ∀ q ∈ own, q.1 ≠ p.1)) ∧ rest k y news'
theorem dict_block {kx vx iter : PySem.Expr} {x : Str} {px : Pos} {scope : Scope} {cl : List (Str × Addr)} {pos : Pos} {s₂ : Shared} {I : Addr} {fp wr : List Addr} {n : Nat} {P : Nat → Value → Prop} {St : Nat → Heap → Prop} {news : List (Addr × Obj)} {RR : Value → Addr → Result → Shared → Prop}
    (Inv : Nat → List (Str × Value) → List (Addr × Obj) → Prop) (W : Walks prog w A I fp wr n P St) (hsz : n ≤ sizeLine) (hlive : ∀ i h, St i h → ∀ b ∈ wr, ∃ o, h.get? b = some o)
    (hcell : ∀ y ∈ scope.names, y.2 ≠ .cell) (hkind : scope.kind = .function) (hx : scope.names.lookup x = some .local) (hst : St 0 s₂.heap) (hfp : ∀ b ∈ fp, b < s₂.heap.objs.size) (hLf : L ∉ fp) (hwr : ∀ b ∈ wr, h₀.get? b = none)
    (F : Fr h₀ L s₂.heap m) (N : News h₀ L s₂.heap news) (hnw : ∀ p ∈ news, p.1 ∉ wr) (h0 : Inv 0 [] news) (hlen : ∀ i kvs nw, Inv i kvs nw → kvs.length ≤ i)
    (step : ∀ i v kvs news' own C D od oC m₂ h tk (E' : Value → Shared → Prop), i < n → P i v → m₂ x = some v → Inv i kvs news' → NsObj oC m₂ → Fr h₀ L h m → News h₀ L h ((C, oC) :: (D, od) :: (news' ++ own)) →
      wpAny (model prog w) A (eval kx (compEnvC scope cl C env)) (fun kv s₄ => wpAny (model prog w) A (eval vx (compEnvC scope cl C env)) (DEnd prog w h₀ L m { s₂ with heap := h, toks := tk } C oC D od own news' (fun k y news'' => Inv (i + 1) (stored kvs k y) news'') kv) E' s₄) E' { s₂ with heap := h, toks := tk })
    (hRR : ∀ D od C h tk m' kvs news', Fr h₀ L h m → News h₀ L h ((D, od) :: news') → od.IsDictOf (strKind prog w) kvs → (∀ p ∈ news', p.1 ≠ D) → h.Ns C m' → h₀.get? C = none → C ≠ L → C ≠ D → (∀ p ∈ news', p.1 ≠ C) → Inv n kvs news' → RR (.ref D) C (.ok .next) { s₂ with heap := h, toks := tk }) :
    wpAny (model prog w) A newDict (fun acc s₃ => wpAny (model prog w) A (newFunctionEnv scope env.globals cl [] env.qual none .none (some env)) (fun cenv s₄ =>
      codeAny (model prog w) A (.compStart (.DictComp kx vx [⟨.Name x px, iter, [], 0⟩] scope pos) 0 (.ref I) acc { cenv with scope := relabel scope env }) (RR acc cenv.locals) s₄) E s₃) E s₂ := by
  refine wpAny_newObj_type (wpAny_newFunctionEnv hcell (by intro y hy; simp at hy) (fun h₁ hns₁ hsb₁ => ?_) hkind)
  dsimp only at hns₁ hsb₁ ⊢
  have hnew : (s₂.heap.push { cls := .type "dict", dict := none, data := .dict #[] }).DictOf (strKind prog w) s₂.heap.objs.size [] := Heap.DictOf.new s₂.heap
  generalize hH2 : s₂.heap.push { cls := .type "dict", dict := none, data := .dict #[] } = H2 at hns₁ hsb₁ hnew ⊢
  have hC : H2.objs.size = s₂.heap.objs.size + 1 := by rw [← hH2, Heap.size_push]
  have hDC : s₂.heap.objs.size ≠ H2.objs.size := by rw [hC]; exact Nat.ne_of_lt (Nat.lt_succ_self _)
  have below : ∀ b, b < s₂.heap.objs.size → b ≠ H2.objs.size ∧ b ≠ s₂.heap.objs.size := fun b hb => ⟨by rw [hC]; exact Nat.ne_of_lt (Nat.lt_succ_of_lt hb), Nat.ne_of_lt hb⟩
  have hDf : s₂.heap.objs.size ∉ fp := fun hm => Nat.lt_irrefl _ (hfp _ hm)
  have hCf : H2.objs.size ∉ fp := fun hm => by have := hfp _ hm; rw [hC] at this; exact Nat.lt_irrefl _ (Nat.lt_of_succ_lt this)
  have old : ∀ b o, s₂.heap.get? b = some o → h₁.get? b = some o := fun b o e => hsb₁.extBut b o (below b (Heap.lt_size e)).1 (Heap.get?_push_of_some _ (hH2 ▸ Heap.get?_push_of_some _ e))
  have hacc : h₁.DictOf (strKind prog w) s₂.heap.objs.size [] := hnew.at fun o e => hsb₁.extBut _ _ hDC (Heap.get?_push_of_some _ e)
  have hst₁ : St 0 h₁ := W.frame _ _ _ hst fun b _ o e => old b o e
  have hD₀ : h₀.get? s₂.heap.objs.size = none := comp_fresh0 F (Nat.le_refl _)
  have hC₀ : h₀.get? H2.objs.size = none := comp_fresh0 F (by rw [hC]; exact Nat.le_succ _)
  have hLlt : L < s₂.heap.objs.size := F.ns.lt
  have hDL : s₂.heap.objs.size ≠ L := Ne.symm (below L hLlt).2
  have hCL : H2.objs.size ≠ L := Ne.symm (below L hLlt).1
  have hwf : ∀ b, b ∈ wr → b ∈ fp := W.sub
  have hLw : L ∉ wr := fun h => hLf (hwf _ h)
  have hDw : s₂.heap.objs.size ∉ wr := fun h => hDf (hwf _ h)
  have hCw : H2.objs.size ∉ wr := fun h => hCf (hwf _ h)
  have ground : ∀ b o, h₀.get? b = some o → b ∉ wr := fun b o e hb => by rw [hwr b hb] at e; cases e
  have loop : ∀ s₃ : Shared, s₃ = { s₂ with heap := h₁, toks := s₂.toks + ([] : List (Str × Value)).length } →
      codeAny (model prog w) A (.compLoop (.DictComp kx vx [⟨.Name x px, iter, [], 0⟩] scope pos) 0 (.ref I) (.ref s₂.heap.objs.size) (compEnvC scope cl H2.objs.size env))
        (RR (.ref s₂.heap.objs.size) H2.objs.size) s₃ := by
    rintro s₃ rfl
    refine codeAny_compLoop_testsD
      (fun k s' => ∃ h' tk i kvs m' news', s' = { s₂ with heap := h', toks := tk } ∧ i ≤ n ∧ k = n + 1 - i ∧ St i h' ∧ Fr h₀ L h' m ∧ h'.Ns H2.objs.size m' ∧ h'.DictOf (strKind prog w) s₂.heap.objs.size kvs ∧ News h₀ L h' news' ∧
        (∀ p ∈ news', p.1 ∉ wr ∧ p.1 ≠ H2.objs.size ∧ p.1 ≠ s₂.heap.objs.size) ∧ Inv i kvs news') ?_ (n + 1)
      ⟨h₁, _, 0, [], _, news, rfl, Nat.zero_le _, rfl, hst₁, F.keeps old, hns₁, hacc, N.grown old, fun p hp => ⟨hnw p hp, below _ (Heap.lt_size (N p hp).1)⟩, h0⟩
    rintro k s' ⟨h', tk, i, kvs, m', news', rfl, hi, rfl, hst', F', hn', hd', N', off', inv⟩
    have next : ∀ h₂ : Heap, (∀ b o, b ∉ wr → h'.get? b = some o → h₂.get? b = some o) → Fr h₀ L h₂ m ∧ h₂.Ns H2.objs.size m' ∧ h₂.DictOf (strKind prog w) s₂.heap.objs.size kvs ∧ News h₀ L h₂ news' := fun h₂ hk =>
      ⟨⟨F'.ns.at' fun o e => hk _ o hLw e, fun b o e => hk b o (ground b o e) (F'.keep b o e), F'.above⟩, hn'.at' fun o e => hk _ o hCw e, hd'.at fun o e => hk _ o hDw e, fun p hp => ⟨hk _ _ (off' p hp).1 (N' p hp).1, (N' p hp).2⟩⟩
    by_cases hlt : i < n
    · refine W.item i _ _ _ hlt hst' fun v h₃ tk₂ hP hst₃ hk₃ => ?_
      obtain ⟨F₃, hn₃, hd₃, N₃⟩ := next h₃ hk₃
      refine wpAny_assign_Name (wpAny_storeName_local (lookup_relabel_local hx) hn₃ (fun h₄ hn₄ hs₄ => ?_) (by simp [compEnvC, relabel, hkind]))
      refine wpAny_tests_nil ?_
      simp only [if_true]
      obtain ⟨oC, heC, hoC⟩ := ns_obj hn₄
      have hd₄ : h₄.DictOf (strKind prog w) s₂.heap.objs.size kvs := hd₃.at fun o e => hs₄.extBut _ _ hDC e
      obtain ⟨od, heD, hod⟩ := Heap.dictOf_iff.mp hd₄
      have F₄ : Fr h₀ L h₄ m := F₃.change hs₄ hCL hC₀
      have hst₄ : St (i + 1) h₄ := W.frame _ _ _ hst₃ fun b hb o e => hs₄.extBut b o (fun q => hCf (by have q' : b = H2.objs.size := q; rw [← q']; exact hb)) e
      have Nown : News h₀ L h₄ (PyProof.Rows.ownOf h₀ fp h₄) := news_ownOf hLf
      have N₄ : News h₀ L h₄ ((H2.objs.size, oC) :: (s₂.heap.objs.size, od) :: (news' ++ PyProof.Rows.ownOf h₀ fp h₄)) := fun q hq => by
        rcases List.mem_cons.mp hq with rfl | hq
        · exact ⟨heC, hCL, hC₀⟩
        · rcases List.mem_cons.mp hq with rfl | hq
          · exact ⟨heD, hDL, hD₀⟩
          · rcases List.mem_append.mp hq with hq | hq
            · exact ⟨hs₄.extBut _ _ (off' _ hq).2.1 (N₃ _ hq).1, (N₃ _ hq).2⟩
            · exact Nown _ hq
      refine wpAny_mono (step i v kvs news' _ H2.objs.size s₂.heap.objs.size od oC _ h₄ _ _ hlt hP (by simp) inv hoC F₄ N₄) (fun kv s₅ h₅ => wpAny_mono h₅ (fun y s₆ h₆ => ?_) fun _ _ e => e) fun _ _ e => e
      obtain ⟨kk, h₅, tk₅, news₅, hkk, rfl, F₅, N₅, new₅, inv₅⟩ := h₆
      have zC := (N₅ _ (.head _)).1
      have zD := (N₅ _ (.tail _ (.head _))).1
      have hst₅ : St (i + 1) h₅ := W.frame _ _ _ hst₄ fun b hb o e => by
        cases hn : h₀.get? b with
        | some o₀ =>
          have : o₀ = o := by have q := F₄.keep b o₀ hn; rw [e] at q; exact (Option.some.inj q).symm
          exact this ▸ F₅.keep b o₀ hn
        | none => exact (N₅ _ (.tail _ (.tail _ (List.mem_append_right _ (mem_ownOf hb hn e))))).1
      have off₅ : ∀ p ∈ news₅, p.1 ∉ wr ∧ p.1 ≠ H2.objs.size ∧ p.1 ≠ s₂.heap.objs.size := fun p hp => by
        rcases new₅ p hp with h | ⟨h1, h2, h3⟩
        · exact off' p h
        · refine ⟨fun hw => ?_, h1, h2⟩
          obtain ⟨o, e⟩ := hlive _ _ hst₄ _ hw
          exact h3 _ (mem_ownOf (hwf _ hw) (hwr _ hw) e) rfl
      have hkv : kvs.length ≤ sizeLine := Nat.le_trans (hlen _ _ _ inv) (Nat.le_trans hi hsz)
      refine wpAny_dictSet_pairs (hsz := hkv) hkk (Heap.dictOf_iff.mpr ⟨od, zD, hod⟩) fun h₆ hl₆ hs₆ => ?_
      refine ⟨n + 1 - (i + 1), by omega, h₆, _, i + 1, _, _, news₅, rfl, hlt, rfl, W.frame _ _ _ hst₅ fun b hb o e => hs₆.extBut b o (fun q => hDf (q ▸ hb)) e, F₅.change hs₆ hDL hD₀, (hoC.ns zC).sameBut hs₆ (Ne.symm hDC), hl₆, fun p hp => ?_, off₅, inv₅⟩
      have z := N₅ p (.tail _ (.tail _ (List.mem_append_left _ hp)))
      exact ⟨hs₆.extBut _ _ (off₅ p hp).2.2 z.1, z.2⟩
    · obtain rfl : i = n := Nat.le_antisymm hi (Nat.not_lt.mp hlt)
      refine W.done _ _ _ hst' fun h₂ tk₂ hk₂ => ?_
      obtain ⟨F₂, hn₂, hd₂, N₂⟩ := next h₂ hk₂
      obtain ⟨od, heD, hod⟩ := Heap.dictOf_iff.mp hd₂
      refine hRR _ od _ h₂ tk₂ _ kvs news' F₂ (fun p hp => ?_) hod (fun p hp => (off' p hp).2.2) hn₂ hC₀ hCL (Ne.symm hDC) (fun p hp => (off' p hp).2.1) inv
      rcases List.mem_cons.mp hp with rfl | hp
      · exact ⟨heD, hDL, hD₀⟩
      · exact N₂ p hp
  exact codeAny_compStart_dict (loop _ rfl) (W.self _ _ _ _ hst₁ (loop _ rfl))
/-- at a dict comprehension's range -/
def DictAtR (prog : Program) (w : World) (A : Around) (h₀ : Heap) (L : Addr) (m : Str → Option Value) (env : Env) (kx vx : PySem.Expr) (x : Str) (scope : Scope) (cl : List (Str × Addr)) (Fin : Shared → Addr → Obj → List (Str × Value) → List (Addr × Obj) → Prop) (xv : Value) (s₁ : Shared) : Prop :=
  ∃ (r : Addr) (a b : Int) (t u v : Tok) (n : Nat) (news : List (Addr × Obj)) (Inv : Nat → List (Str × Value) → List (Addr × Obj) → Prop),
    xv = .ref r ∧ A.handled = none ∧ IsRange s₁.heap r a b 1 t u v ∧ Builtin.Range.small a b 1 = true ∧ Builtin.Range.rangeSize a b 1 = (n : Int) ∧ n ≤ sizeLine ∧ Fr h₀ L s₁.heap m ∧ News h₀ L s₁.heap news ∧ Inv 0 [] news ∧ (∀ i kvs nw, Inv i kvs nw → kvs.length ≤ i) ∧
    (∀ g i t kvs news' own C D od oC m₂ h tk (E' : Value → Shared → Prop), i < n → m₂ x = some (.int (a + (i : Int)) t) → Inv i kvs news' → NsObj oC m₂ → Fr h₀ L h m → News h₀ L h ((C, oC) :: (D, od) :: (news' ++ own)) →
      wpAny (model prog w) A (eval kx (compEnvC scope cl C env)) (fun kv s₄ => wpAny (model prog w) A (eval vx (compEnvC scope cl C env)) (DEnd prog w h₀ L m { s₁ with heap := h, toks := tk } C oC D od own news' (fun k y news'' => Inv (i + 1) (stored kvs k y) news'') kv) E' s₄) E' { { s₁ with heap := g } with heap := h, toks := tk }) ∧
    ∀ g D od kvs news', od.IsDictOf (strKind prog w) kvs → Inv n kvs news' → (∀ p ∈ news', p.1 ≠ D) → Fin { s₁ with heap := g } D od kvs news'
def FinD (h₀ : Heap) (L : Addr) (m : Str → Option Value) (y : Str) (Q : Flow → Shared → Prop) (s : Shared) (D : Addr) (od : Obj) (kvs : List (Str × Value)) (news : List (Addr × Obj)) : Prop :=
  ∀ h tk, Fr h₀ L h (fun z => if z = y then some (.ref D) else m z) → News h₀ L h ((D, od) :: news) → Q .next { s with heap := h, toks := tk }
theorem Assign_DictComp_R {kx vx iter : PySem.Expr} {x y : Str} {px py : Pos} {scope : Scope} {cl : List (Str × Addr)} {pos spos : Pos} {Q : Flow → Shared → Prop} (F₀ : Fr h₀ L s.heap m) (hLe : env.locals = L)
    (hsw : swapsWith (.DictComp kx vx [⟨.Name x px, iter, [], 0⟩] scope pos) (some (.Name y py)) spos.line env = pure true)
    (hclos : closureFor scope env = pure cl) (hcell : ∀ z ∈ scope.names, z.2 ≠ .cell) (hkind : scope.kind = .function) (hnames : ∀ z ∈ scope.names, z.2 = .local → scope.names.lookup z.1 = some .local) (hx : scope.names.lookup x = some .local)
    (hy : env.kindOf y = some .local) (hp : (env.scope.kind == .class || (env.scope.kind == .module && env.locals != env.globals)) = false)
    (h : wpAny (model prog w) A (eval iter env) (DictAtR prog w A h₀ L m env kx vx x scope cl (FinD h₀ L m y Q)) E s)
    (hs : ∀ x, foldedSetIterable iter env x = pure x := by intro _; rfl) :
    wpAny (model prog w) A (exec (.Assign [.Name y py] (.DictComp kx vx [⟨.Name x px, iter, [], 0⟩] scope pos) spos) env) Q E s := by
  have _ := F₀
  subst hLe
  rw [exec_Assign_Name_used _ _ _ _ hsw]
  refine wpAny_bind (wpAny_standAt (wpAny_bind ?_))
  show wpAny _ A (do let _ ← comprehension (.DictComp kx vx [⟨.Name x px, iter, [], 0⟩] scope pos) scope env _ newDict false (eval iter env) (some (assign (.Name y py) env))) _ _ s
  refine wpAny_bind (wpAny_mono (wpAny_comprehension_free (use := some (assign (.Name y py) env)) (Q := fun _ s' => Q .next s') rfl hs hclos hkind hnames
    (wpAny_mono h (fun xv s₁ h₁ => ?_) fun _ _ e => e)) (fun _ s' hq => wpAny_pure (wpAny_pure hq)) fun _ _ e => e)
  obtain ⟨r, a, b, t, u, v, n, news, Inv, rfl, hh, hr, hsm, hn, hsz, F, N, h0, hlen, step, fin⟩ := h₁
  refine wpAny_pyIter_range hr hsm ?_
  refine dict_block Inv (range_walks (I := s₁.heap.objs.size) hh a n) hsz (fun i h st b hb => ?_) hcell hkind hx (by show IsRangeIter _ _ _ _ _; rw [hn]; simpa using Heap.get?_push_size _ rfl) (fun b hb => ?_) (fun hb => ?_) (fun b hb => ?_) (F.keeps fun _ _ e => Heap.get?_push_of_some _ e) (N.grown fun _ _ e => Heap.get?_push_of_some _ e) (fun p hp hb => ?_) h0 hlen ?_ ?_
  · rw [List.mem_singleton.mp hb]; exact ⟨_, st⟩
  · rw [List.mem_singleton.mp hb]
    show s₁.heap.objs.size < (s₁.heap.push _).objs.size
    rw [Heap.size_push]; exact Nat.lt_succ_self _
  · exact absurd F.ns.lt ((List.mem_singleton.mp hb) ▸ Nat.lt_irrefl _)
  · rw [List.mem_singleton.mp hb]; exact next_is_new F
  · exact absurd (Heap.lt_size (N p hp).1) ((List.mem_singleton.mp hb) ▸ Nat.lt_irrefl _)
  · intro i v kvs news' own C D od oC m₂ h tk E' hi hP hm inv hoC F' N'
    obtain ⟨t', rfl⟩ := hP
    exact step _ i t' kvs news' own C D od oC m₂ h tk E' hi hm inv hoC F' N'
  · intro D od C h' tk m' kvs news' F' N' hod offD hn hC₀ hCL hCD offC inv
    show wpAny _ A (assign (.Name y py) env (.ref D)) _ _ _
    refine wpAny_assign_Name (wpAny_storeName_local hy F'.ns (fun h₂ hn₂ hs₂ => ?_) hp)
    have hL₀ : h₀.get? env.locals = none := Heap.get?_none_of_le F'.above
    have F₂ : Fr h₀ env.locals h₂ (fun z => if z = y then some (.ref D) else m z) := ⟨hn₂, fun b o e => hs₂.extBut b o (fun q => by rw [q, hL₀] at e; cases e) (F'.keep b o e), F'.above⟩
    refine ⟨m', hn.sameBut hs₂ hCL, fun h'' hs'' => fin s₁.heap D od kvs news' hod inv offD h'' _ (F₂.change hs'' hCL hC₀) (fun p hp => ?_)⟩
    have z : h₂.get? p.1 = some p.2 := hs₂.extBut _ _ (N' p hp).2.1 (N' p hp).1
    refine ⟨hs''.extBut _ _ ?_ z, (N' p hp).2⟩
    rcases List.mem_cons.mp hp with rfl | hp
    · exact Ne.symm hCD
    · exact offC p hp
end

theorem fresh_Pw : True := by
  w_top off
  exact trivial
inductive Two {α β : Type} (R : α → β → Prop) : List α → List β → Prop
  | nil : Two R [] []
  | cons {a : α} {b : β} {l : List α} {m : List β} : R a b → Two R l m → Two R (a :: l) (b :: m)
section
variable {α β : Type} {R S : α → β → Prop} {l l' : List α} {m m' : List β}
theorem Two.length (h : Two R l m) : l.length = m.length := by
  induction h with
  | nil => rfl
  | cons _ _ ih => rw [List.length_cons, List.length_cons, ih]
theorem Two.get (h : Two R l m) : ∀ {i : Nat} {a : α}, l[i]? = some a → ∃ b, m[i]? = some b ∧ R a b := by
  induction h with
  | nil => intro i a e; simp at e
  | cons r _ ih =>
    intro i a e
    cases i with
    | zero => exact ⟨_, rfl, by simp at e; exact e ▸ r⟩
    | succ i => exact ih (i := i) (by simpa using e)
theorem Two.get' (h : Two R l m) : ∀ {i : Nat} {b : β}, m[i]? = some b → ∃ a, l[i]? = some a ∧ R a b := by
  induction h with
  | nil => intro i a e; simp at e
  | cons r _ ih =>
    intro i a e
    cases i with
    | zero => exact ⟨_, rfl, by simp at e; exact e ▸ r⟩
    | succ i => exact ih (i := i) (by simpa using e)
theorem Two.mono (h : Two R l m) (k : ∀ a b, R a b → S a b) : Two S l m := by
  induction h with
  | nil => exact .nil
  | cons r _ ih => exact .cons (k _ _ r) ih
theorem Two.append (h : Two R l m) (h' : Two R l' m') : Two R (l ++ l') (m ++ m') := by
  induction h with
  | nil => exact h'
  | cons r _ ih => exact .cons r ih
theorem Two.snoc (h : Two R l m) {a : α} {b : β} (r : R a b) : Two R (l ++ [a]) (m ++ [b]) := h.append (.cons r .nil)
theorem Two.drop (h : Two R l m) : ∀ n, Two R (l.drop n) (m.drop n) := by
  induction h with
  | nil => intro n; simpa using Two.nil
  | cons r h ih =>
    intro n
    cases n with
    | zero => exact .cons r h
    | succ n => exact ih n
theorem Two.take (h : Two R l m) : ∀ n, Two R (l.take n) (m.take n) := by
  induction h with
  | nil => intro n; simpa using Two.nil
  | cons r _ ih =>
    intro n
    cases n with
    | zero => exact .nil
    | succ n => exact .cons r (ih n)
end
abbrev Home := Int × Str × Int
def HomeIn (nw : List (Addr × Obj)) (v : Value) (x : Home) : Prop := ∃ t ot t1 t2 t3 n, v = .ref t ∧ (t, ot) ∈ nw ∧ ot.cls = .type "tuple" ∧ ot.data = .seq #[.int x.1 t1, .str x.2.1 t2, .int x.2.2 t3] n
def HomeAt (h : Heap) (v : Value) (x : Home) : Prop := ∃ t t1 t2 t3, v = .ref t ∧ h.IsTuple t #[.int x.1 t1, .str x.2.1 t2, .int x.2.2 t3]
def RowIn (nw : List (Addr × Obj)) (v : Value) (r : List Str) : Prop := ∃ a us k, v = .ref a ∧ (a, W.listOf (List.toArray us) k) ∈ nw ∧ StrsAre us r
def HomesAt (h : Heap) (a : Addr) (hs : List Home) : Prop := ∃ vs, h.IsList a (List.toArray vs) ∧ Two (HomeAt h) vs hs
theorem HomeIn.at {h₀ h : Heap} {L : Addr} {nw : List (Addr × Obj)} {v : Value} {x : Home} (N : News h₀ L h nw) (r : HomeIn nw v x) : HomeAt h v x :=
  let ⟨t, ot, t1, t2, t3, n, e, hm, hc, hd⟩ := r; ⟨t, t1, t2, t3, e, ot, (N _ hm).1, hc, n, hd⟩
theorem HomeAt.keep {h h' : Heap} {v : Value} {x : Home} (r : HomeAt h v x) (k : ∀ b o, h.get? b = some o → h'.get? b = some o) : HomeAt h' v x :=
  let ⟨t, t1, t2, t3, e, o, ho, q⟩ := r; ⟨t, t1, t2, t3, e, o, k _ _ ho, q⟩
theorem HomesAt.keep {h h' : Heap} {a : Addr} {hs : List Home} (r : HomesAt h a hs) (k : ∀ b o, h.get? b = some o → h'.get? b = some o) : HomesAt h' a hs :=
  let ⟨vs, hl, ht⟩ := r; ⟨vs, isL_keep hl k, ht.mono fun _ _ q => q.keep k⟩
theorem RowIn.mono {nw nw' : List (Addr × Obj)} {v : Value} {r : List Str} (q : RowIn nw v r) (k : ∀ p ∈ nw, p ∈ nw') : RowIn nw' v r := let ⟨a, us, n, e, hm, hs⟩ := q; ⟨a, us, n, e, k _ hm, hs⟩
theorem HomeIn.mono {nw nw' : List (Addr × Obj)} {v : Value} {x : Home} (q : HomeIn nw v x) (k : ∀ p ∈ nw, p ∈ nw') : HomeIn nw' v x := let ⟨t, ot, t1, t2, t3, n, e, hm, r⟩ := q; ⟨t, ot, t1, t2, t3, n, e, k _ hm, r⟩
abbrev SpecN (w : World) (f : Addr) (D U : Nat) (vs : List Value) (H : Heap → Prop) (P : Value → List (Addr × Obj) → Prop) : Prop :=
  ∀ (p : Program) (loose : List Str) (mean : ExcName → Option Value) (mg mb : Str → Option Value) (dp un : Nat) (gd : Option (List Code)) (cn : Str) (cs : Scope) (a : Addr) (ccd : Value) (cl : List (Str × Addr)) (outer : List Env) (A₀ : Around) (base h₀ : Heap) (L : Addr) (m : Str → Option Value) (news : List (Addr × Obj)) (s : Shared)
    (Q E : Value → Shared → Prop),
    Below A₀ base outer h₀ → Fr h₀ L s.heap m → (hd.heap_1 w.params).In h₀ → News h₀ L s.heap news → Top p loose mean mg mb h₀ → cs.kind = .function → dp + D < recursionLimit → un + U < cLine → H s.heap →
    (∀ r nw h' tk', Fr h₀ L h' m → News h₀ L h' (nw ++ news) → (∀ p ∈ nw, ∀ q ∈ news, p.1 ≠ q.1) → P r nw → Q r { s with heap := h', toks := tk' }) →
    wpAny (model PP w) (ktrTop dp un gd cn cs L a ccd cl outer) (call (.ref f) vs) Q E s
theorem newsMany {h₀ h g h' : Heap} {L L' : Addr} {news nw : List (Addr × Obj)} (N : News h₀ L h news) (st : h.StaysIn g) (N' : News g L' h' nw) : ∀ p ∈ nw, ∀ q ∈ news, p.1 ≠ q.1 :=
  fun p hp q hq e => by have z := (N' _ hp).2.2; rw [e, st _ _ (N q hq).1] at z; cases z
theorem newsBoth {h₀ h : Heap} {L : Addr} {nw news : List (Addr × Obj)} (N : News h₀ L h news) (N' : News h₀ L h nw) : News h₀ L h (nw ++ news) := fun p hp => (List.mem_append.mp hp).elim (N' p) (N p)
section
variable {prog : Program} {w : World} {A : Around} {E : Value → Shared → Prop} {s : Shared} {env : Env} {h₀ : Heap} {L : Addr} {m : Str → Option Value} {news : List (Addr × Obj)}
theorem slice_any {value slice : PySem.Expr} {l : Addr} {vs : List Value} {vl vu : Value} {lo hi : Option Int} {Q : Value → Shared → Prop} (F : Fr h₀ L s.heap m) (N : News h₀ L s.heap news) (hl : s.heap.IsList l vs.toArray) (hy : vs.length ≤ 100000) (pl : IsPart vl lo) (pu : IsPart vu hi)
    (h : ∀ D h', Fr h₀ L h' m → News h₀ L h' ((D, W.listOf (List.toArray (pickL vs lo hi)) 0) :: news) → (∀ p ∈ news, p.1 < D) → Q (.ref D) { s with heap := h' })
    (hs : subscripted slice false (.ref l) (.ref s.heap.objs.size) = operate [.ref s.heap.objs.size, .ref l] (getItem (.ref l) (.ref s.heap.objs.size))) (ht : ∀ r, letTemporaryGo value (.ref l) r = pure ()) :
    wpAny (model prog w) A (subscriptTail value slice (.ref l) (.ref s.heap.objs.size)) Q E { s with heap := s.heap.push { cls := .type "slice", data := .fields #[vl, vu, .none] } } :=
  kms_slice_lit (zs := pickL vs lo hi) F N hl pl pu rfl (fun D h' F' N' l1 => h D h' F' N' l1) hs ht (by rw [List.size_toArray, sizeLine_eq]; omega)
/-- three names from a tuple -/
theorem asgK {a b c : Str} {pa pb pc tp : Pos} {kk : Nat} {T : Addr} {x y z : Value} {Q : Unit → Shared → Prop} (hL : env.locals = L) (hh : A.handled = none) (ht : s.heap.IsTuple T #[x, y, z]) (F : Fr h₀ L s.heap m) (N : News h₀ L s.heap news)
    (ha : env.kindOf a = some .local) (hb : env.kindOf b = some .local) (hc : env.kindOf c = some .local) (hp : (env.scope.kind == .class || (env.scope.kind == .module && env.locals != env.globals)) = false)
    (h : ∀ (h' : Heap) (tk : Nat), Fr h₀ L h' (fun w => if w = c then some z else if w = b then some y else if w = a then some x else m w) → News h₀ L h' news → Q () { s with heap := h', toks := tk }) :
    wpAny (model prog w) A (assign (.Tuple [.Name a pa, .Name b pb, .Name c pc] kk tp) env (.ref T)) Q E s := by
  subst hL
  exact asg3 hh ht ha hb hc hp F.ns fun h' tk hn hs => h h' tk ⟨hn, fun b o e => hs b o (fun q => absurd (Heap.lt_size e) (Nat.not_lt.mpr (q ▸ F.above))) (F.keep b o e), F.above⟩ fun p hp => ⟨hs _ _ (N p hp).2.1 (N p hp).1, (N p hp).2⟩
theorem append_keep {R : Addr} {vs : List Value} {n : Nat} {x : Value} {keep : List (Addr × Obj)} {Q : Value → Shared → Prop} (F : Fr h₀ L s.heap m) (N : News h₀ L s.heap news) (hR : (R, W.listOf (List.toArray vs) n) ∈ news) (hk : ∀ p ∈ keep, p ∈ news ∧ p.1 ≠ R) (hz : vs.length ≤ 100000)
    (h : ∀ h', Fr h₀ L h' m → News h₀ L h' ((R, W.listOf (List.toArray (vs ++ [x])) (n + 1)) :: keep) → Q .none { s with heap := h' }) : wpAny (model prog w) A (call (.builtin "list.append") [.ref R, x]) Q E s := by
  have z := N _ hR
  refine append_at (hsz := by show vs.toArray.size ≤ sizeLine; rw [List.size_toArray, sizeLine_eq]; omega) z.1 fun h' hs hR' => h h' (F.change hs z.2.1 z.2.2) fun p hp => ?_
  rcases List.mem_cons.mp hp with rfl | hp
  · refine ⟨hR'.trans (congrArg some ?_), z.2⟩
    show ({ cls := .type "list", data := .seq (vs.toArray.push x) (n + 1) } : Obj) = { cls := .type "list", data := .seq (vs ++ [x]).toArray (n + 1) }
    rw [List.push_toArray]
  · have q := N p (hk p hp).1
    exact ⟨hs.extBut _ _ (hk p hp).2 q.1, q.2⟩
end
def rowsGo : List (List Str) → List Home → List (List Str)
  | rs, [] => rs
  | rs, x :: r => rowsGo (rs ++ [rs.getD x.1.toNat [] ++ [x.2.1]]) r
def rowsF (hs : List Home) : List (List Str) := rowsGo [[]] (hs.drop 1)
def placesGo : List Str → List Home → List Str
  | ps, [] => ps
  | ps, x :: r => placesGo (ps ++ [joinF (ps.getD x.1.toNat Str.empty) x.2.1]) r
def placesF (hs : List Home) : List Str := placesGo [Str.ofString "/local"] (hs.drop 1)
/-- each home lies in one ahead of it -/
def Above (hs : List Home) : Prop := ∀ (i : Nat) (x : Home), (hs.drop 1)[i]? = some x → 0 ≤ x.1 ∧ x.1 < (i : Int) + 1
theorem pick_from1 {α : Type} (l : List α) : pickL l (some 1) none = l.drop 1 := by
  unfold pickL kms_lo kms_hi
  cases l with
  | nil => rfl
  | cons a r =>
    have e : min (Int.toNat 1) (a :: r).length = 1 := by
      rw [List.length_cons]
      show min 1 (r.length + 1) = 1
      omega
    simp only [e, List.drop_succ_cons, List.drop_zero, List.length_cons, Nat.add_sub_cancel, if_neg (by decide : ¬ (1 : Int) < 0)]
    exact List.take_length
theorem UnrEndW.own {h₀ : Heap} {L : Addr} {its : List (Addr × Obj)} {rest : (Str → Option Value) → List (Addr × Obj) → Prop} {s₁ : Shared} {h' : Heap} {tk : Nat} {m' : Str → Option Value} {all : List (Addr × Obj)} (news' : List (Addr × Obj)) (F : Fr h₀ L h' m') (N : News h₀ L h' all)
    (hI : ∀ p ∈ its, p ∈ all) (sub : ∀ p ∈ news', p ∈ all) (off : ∀ p ∈ news', ∀ q ∈ its, p.1 ≠ q.1) (r : rest m' news') : UnrEndW h₀ L s₁ its rest { s₁ with heap := h', toks := tk } :=
  ⟨h', tk, m', news', rfl, F, fun p hp => N p ((List.mem_append.mp hp).elim (hI p) (sub p)), off, r⟩
theorem over1 {m : Str → Option Value} {a : Str} {va : Value} (ha : m a = some va) : ∃ u : Str → Option Value, m = fun z => if z = a then some va else u z :=
  ⟨m, funext fun z => by
    by_cases h1 : z = a
    · rw [if_pos h1, h1, ha]
    · rw [if_neg h1]⟩
theorem isTup_keep {h h' : Heap} {T : Addr} {vs : Array Value} (x : h.IsTuple T vs) (k : ∀ b o, h.get? b = some o → h'.get? b = some o) : h'.IsTuple T vs := let ⟨o, ho, r⟩ := x; ⟨o, k _ _ ho, r⟩
theorem isTup_news {h₀ h : Heap} {L T : Addr} {ot : Obj} {vs : Array Value} {n : Nat} {news : List (Addr × Obj)} (N : News h₀ L h news) (hm : (T, ot) ∈ news) (hc : ot.cls = .type "tuple") (hd : ot.data = .seq vs n) : h.IsTuple T vs := ⟨ot, (N _ hm).1, hc, n, hd⟩
theorem ne_cls {h₀ h : Heap} {L a b : Addr} {o o' : Obj} {news : List (Addr × Obj)} {x y : String} (N : News h₀ L h news) (ha : (a, o) ∈ news) (hb : (b, o') ∈ news) (hx : o.cls = .type x) (hy : o'.cls = .type y) (hne : x ≠ y) : a ≠ b := fun e => by
  have q := (N _ ha).1
  rw [e, (N _ hb).1] at q
  cases q
  rw [hx] at hy
  exact hne (by injection hy)
theorem kw_Pw_1 : True := by
  k_with "binaryOp Add ref ref" => ((k_here; (with_reducible show wpAny _ _ (binaryOp _ (Value.ref _) (Value.ref _)) _ _ _); k_dflt (refine' add_any (by k_asm) (by k_asm) (by first | exact listAt (by k_asm) (by repeat (first | exact List.mem_cons_self .. | with_reducible assumption | refine List.mem_cons_of_mem _ ?_)) | kmk_list) (by first | exact listAt (by k_asm) (by repeat (first | exact List.mem_cons_self .. | with_reducible assumption | refine List.mem_cons_of_mem _ ?_)) | kmk_list) (by ((try simp only [List.length_append, List.length_cons, List.length_nil]); omega)) ?_); intro DpZk hpZk FpZk NpZk l1Zk; (try k_lt l1Zk); (try k_sweep); (try dsimp only)))
  k_with "subscriptTail Name Name ref int" => ((k_here; (with_reducible show wpAny _ _ (subscriptTail _ _ (Value.ref _) (Value.int _ _)) _ _ _); k_dflt (refine' item_at (by first | exact listAt (by k_asm) (by repeat (first | exact List.mem_cons_self .. | with_reducible assumption | refine List.mem_cons_of_mem _ ?_)) | kmk_list) (by omega) (by omega) (by with_reducible assumption) ?_ (by with_unfolding_all rfl))))
  k_with "exec For Tuple Subscript cons nil" => ((k_here; refine hidT_intro ?_))
  k_with "subscriptTail Name Slice ref ref" => ((k_here; (with_reducible show wpAny _ _ (subscriptTail _ (PySem.Expr.Slice _ _ none _) (Value.ref _) (Value.ref _)) _ _ _); k_dflt (refine' slice_any (by k_asm) (by k_asm) (by first | exact listAt (by k_asm) (by repeat (first | exact List.mem_cons_self .. | with_reducible assumption | refine List.mem_cons_of_mem _ ?_)) | kmk_list) (by first | assumption | omega) (by kmk_part) (by kmk_part) ?_ (by with_unfolding_all rfl) (by kmk_pure)); intro DpZk hpZk FpZk NpZk l1Zk; (try k_lt l1Zk); (try k_sweep); (try dsimp only)))
  k_with "assign Tuple" => ((k_here; (with_reducible show wpAny _ _ (assign (PySem.Expr.Tuple _ _ _) _ (Value.ref _)) _ _ _); k_dflt (refine' asgK (hL := (by rfl)) (by rfl) (by first | exact isTup_keep (by with_reducible assumption) (Fr.keep (by k_asm)) | exact isTup_news (by k_asm) (by repeat (first | exact List.mem_cons_self .. | with_reducible assumption | refine List.mem_cons_of_mem _ ?_)) (by with_reducible assumption) (by with_reducible assumption)) (by k_asm) (by k_asm) (by rfl) (by rfl) (by rfl) (by rfl) ?_); intro hpZk tkpZk FpZk NpZk; (try k_sweep)))
  exact trivial


theorem fresh_Px : True := by
  w_top off
  exact trivial
def PRw (hs : List Home) (keep : List (Addr × Obj)) (i : Nat) (m : Str → Option Value) (n : List (Addr × Obj)) : Prop :=
  ∃ Ra rvs k nw rs, m (Str.ofString "rows") = some (.ref Ra) ∧ n = (Ra, W.listOf (List.toArray rvs) k) :: (keep ++ nw) ∧ (∀ p ∈ keep ++ nw, p.1 ≠ Ra) ∧ (∀ p ∈ nw, p.2.cls = .type "list") ∧ Two (RowIn nw) rvs rs ∧ rowsGo rs (hs.drop (i + 1)) = rowsF hs ∧ rs.length = i + 1 ∧ (∀ r ∈ rs, r.length ≤ i)
theorem allLt_mem {d : Addr} {l : List (Addr × Obj)} (h : AllLt d l) : ∀ p ∈ l, p.1 < d := by
  induction l with
  | nil => intro p hp; exact absurd hp List.not_mem_nil
  | cons q r ih =>
    intro p hp
    rcases List.mem_cons.mp hp with e | hp
    · rw [e]; exact h.1
    · exact ih h.2 p hp
theorem rows_next {hs : List Home} {i : Nat} {x : Home} {rs : List (List Str)} {row : List Str} (hr : rs[x.1.toNat]? = some row) (hx : (hs.drop 1)[i]? = some x) (hgo : rowsGo rs (hs.drop (i + 1)) = rowsF hs) : rowsGo (rs ++ [row ++ [x.2.1]]) (hs.drop (i + 1 + 1)) = rowsF hs := by
  rw [← hgo, show hs.drop (i + 1) = x :: hs.drop (i + 1 + 1) from drop_at (by rw [List.getElem?_drop, Nat.add_comm] at hx; exact hx), rowsGo, List.getD_eq_getElem?_getD, hr]
  rfl
theorem rows_append {prog : Program} {w : World} {A : Around} {E : Value → Shared → Prop} {s : Shared} {h₀ : Heap} {L I Ra S D l : Addr} {oI oD ol : Obj} {m : Str → Option Value} {nw : List (Addr × Obj)} {rvs svs : List Value} {k j : Nat} {Q : Value → Shared → Prop} (F : Fr h₀ L s.heap m)
    (N : News h₀ L s.heap ((D, oD) :: (l, ol) :: (I, oI) :: (Ra, W.listOf (List.toArray rvs) k) :: (S, W.listOf (List.toArray svs) j) :: nw)) (l1 : l < D ∧ I < D ∧ Ra < D ∧ S < D ∧ AllLt D nw) (hI : oI.cls = .type "list_iterator") (hne : ∀ p ∈ [(S, W.listOf (List.toArray svs) j)] ++ nw, p.1 ≠ Ra) (hz : rvs.length ≤ 100000)
    (h : ∀ h', Fr h₀ L h' m → News h₀ L h' ((Ra, W.listOf (List.toArray (rvs ++ [.ref D])) (k + 1)) :: (I, oI) :: (S, W.listOf (List.toArray svs) j) :: (D, oD) :: nw) → Ra ≠ D → S ≠ D → (∀ p ∈ nw, p.1 ≠ D) → Q .none { s with heap := h' }) :
    wpAny (model prog w) A (call (.builtin "list.append") [.ref Ra, .ref D]) Q E s := by
  have hR : (Ra, W.listOf (List.toArray rvs) k) ∈ ((D, oD) :: (l, ol) :: (I, oI) :: (Ra, W.listOf (List.toArray rvs) k) :: (S, W.listOf (List.toArray svs) j) :: nw) := .tail _ (.tail _ (.tail _ (.head _)))
  have hRD : Ra ≠ D := Nat.ne_of_lt l1.2.2.1
  refine append_keep (keep := (I, oI) :: (S, W.listOf (List.toArray svs) j) :: (D, oD) :: nw) F N hR (fun p hp => ?_) hz fun h' F' N' => h h' F' N' hRD (Nat.ne_of_lt l1.2.2.2.1) (fun p hp => Nat.ne_of_lt (allLt_mem l1.2.2.2.2 p hp))
  rcases List.mem_cons.mp hp with rfl | hp
  · exact ⟨.tail _ (.tail _ (.head _)), ne_cls N (.tail _ (.tail _ (.head _))) hR hI rfl (by decide)⟩
  · rcases List.mem_cons.mp hp with rfl | hp
    · exact ⟨.tail _ (.tail _ (.tail _ (.tail _ (.head _)))), hne _ (.head _)⟩
    · rcases List.mem_cons.mp hp with rfl | hp
      · exact ⟨.head _, Ne.symm hRD⟩
      · exact ⟨.tail _ (.tail _ (.tail _ (.tail _ (.tail _ hp)))), hne _ (.tail _ hp)⟩
theorem rows_end {h₀ h8 : Heap} {L I Ra S D : Addr} {oI : Obj} {m : Str → Option Value} {nw : List (Addr × Obj)} {rvs svs us : List Value} {k j d tk : Nat} {hs : List Home} {i : Nat} {x : Home} {t2 : Tok} {rs : List (List Str)} {row : List Str} {s₁ : Shared} {R : (Str → Option Value) → List (Addr × Obj) → Prop}
    (IH : ∀ m' n', PRw hs [(S, W.listOf (List.toArray svs) j)] (i + 1) m' n' → R m' n') (F : Fr h₀ L h8 m) (N : News h₀ L h8 ((Ra, W.listOf (List.toArray (rvs ++ [.ref D])) (k + 1)) :: (I, oI) :: (S, W.listOf (List.toArray svs) j) :: (D, W.listOf (List.toArray (us ++ [.str x.2.1 t2])) d) :: nw))
    (hI : oI.cls = .type "list_iterator") (hne : ∀ p ∈ [(S, W.listOf (List.toArray svs) j)] ++ nw, p.1 ≠ Ra) (hcl : ∀ p ∈ nw, p.2.cls = .type "list") (n1 : Ra ≠ D) (q1 : m (Str.ofString "rows") = some (.ref Ra)) (hR : Two (RowIn nw) rvs rs) (hus : StrsAre us row)
    (hcat : rowsGo (rs ++ [row ++ [x.2.1]]) (hs.drop (i + 1 + 1)) = rowsF hs) (hlen : rs.length = i + 1) (hrr : ∀ r ∈ rs, r.length ≤ i) (hrw : row.length ≤ i) :
    UnrEndW h₀ L s₁ [(I, oI)] (fun m' n' => SubL [(S, W.listOf (List.toArray svs) j)] n' ∧ R m' n') { s₁ with heap := h8, toks := tk } := by
  refine UnrEndW.own ((Ra, W.listOf (List.toArray (rvs ++ [.ref D])) (k + 1)) :: ([(S, W.listOf (List.toArray svs) j)] ++ ((D, W.listOf (List.toArray (us ++ [.str x.2.1 t2])) d) :: nw))) F N (fun p hp => ?_) (fun p hp => ?_) (fun p hp q hq => ?_) ⟨And.intro (.tail _ (.head _)) trivial, IH _ _ ⟨Ra, _, _, _, _, q1, rfl, fun p hp => ?_, fun p hp => ?_, (hR.mono fun _ _ q => RowIn.mono q fun _ h => .tail _ h).snoc ⟨D, _, d, rfl, .head _, strs_snoc hus⟩, hcat, by rw [List.length_append, hlen]; rfl, fun r hr => ?_⟩⟩
  · rw [List.mem_singleton.mp hp]; exact .tail _ (.head _)
  · rcases List.mem_cons.mp hp with rfl | hp
    · exact .head _
    · exact .tail _ (.tail _ hp)
  · rw [List.mem_singleton.mp hq]
    have hmem : p ∈ ((Ra, W.listOf (List.toArray (rvs ++ [.ref D])) (k + 1)) :: (I, oI) :: (S, W.listOf (List.toArray svs) j) :: (D, W.listOf (List.toArray (us ++ [.str x.2.1 t2])) d) :: nw) := by
      rcases List.mem_cons.mp hp with rfl | hp
      · exact .head _
      · exact .tail _ (.tail _ hp)
    refine ne_cls N (o := p.2) hmem (.tail _ (.head _)) ?_ hI (show "list" ≠ "list_iterator" by decide)
    rcases List.mem_cons.mp hp with rfl | hp
    · rfl
    · rcases List.mem_cons.mp hp with rfl | hp
      · rfl
      · rcases List.mem_cons.mp hp with rfl | hp
        · rfl
        · exact hcl p hp
  · rcases List.mem_cons.mp hp with rfl | hp
    · exact hne _ (.head _)
    · rcases List.mem_cons.mp hp with rfl | hp
      · exact Ne.symm n1
      · exact hne _ (.tail _ hp)
  · rcases List.mem_cons.mp hp with rfl | hp
    · rfl
    · exact hcl p hp
  · rcases List.mem_append.mp hr with hr | hr
    · exact Nat.le_succ_of_le (hrr r hr)
    · rw [List.mem_singleton.mp hr, List.length_append]; exact Nat.succ_le_succ hrw
theorem rows_init {h₀ h : Heap} {L S a b : Addr} {m : Str → Option Value} {oS : Obj} {k j : Nat} {hs : List Home} (N : News h₀ L h [(S, oS), (a, W.listOf (List.toArray [.ref b]) k), (b, W.listOf (List.toArray []) j)]) (l1 : a < S ∧ b < S) (q1 : m (Str.ofString "rows") = some (.ref a)) :
    ∃ n₀, PRw hs [(S, oS)] 0 m n₀ ∧ ∀ p ∈ n₀, p ∈ [(S, oS), (a, W.listOf (List.toArray [.ref b]) k), (b, W.listOf (List.toArray []) j)] := by
  refine ⟨_, ⟨a, [.ref b], k, [(b, W.listOf (List.toArray []) j)], [[]], q1, rfl, fun p hp => ?_, fun p hp => ?_, .cons ⟨b, [], j, rfl, .head _, .nil⟩ .nil, rfl, rfl, fun r hr => ?_⟩, fun p hp => ?_⟩
  · rcases List.mem_cons.mp hp with rfl | hp
    · exact Ne.symm (Nat.ne_of_lt l1.1)
    · rw [List.mem_singleton.mp hp]
      intro e
      have q := (N _ (.tail _ (.tail _ (.head _)))).1
      have e' : b = a := e
      rw [e', (N _ (.tail _ (.head _))).1] at q
      injection q with q
      injection q with _ _ q _
      injection q with q _
      simp at q
  · rw [List.mem_singleton.mp hp]
  · rw [List.mem_singleton.mp hr]; exact Nat.le_refl _
  · rcases List.mem_cons.mp hp with rfl | hp
    · exact .tail _ (.head _)
    · rcases List.mem_cons.mp hp with rfl | hp
      · exact .head _
      · exact .tail _ (.tail _ hp)
theorem sp_rows (w : World) (ha : Addr) (hs : List Home) (hl : hs.length ≤ 10) (hab : Above hs) :
    SpecN w 245 12 80 [.ref ha] (fun h => HomesAt h ha hs) (fun r nw => ∃ b vs k, r = .ref b ∧ (b, W.listOf (List.toArray vs) k) ∈ nw ∧ Two (RowIn nw) vs (rowsF hs)) := by
  intro p loose mean mg mb dp un gd cn cs a ccd cl outer A₀ base h₀ L m news s Q E B F X N T hk hd hu hH hret
  ((have : PySem.Challenge.rw_ik0073_01 = PySem.Challenge.rw_ik0073_01 ∧ Mine.hd.heap_1 = Mine.hd.heap_1 := (by k_fill; exact ⟨rfl, rfl⟩)); clear this; refine wpAny_call ?_; k_dflt (refine' enterN ?k1 ?k2 ?k3 ?k4 ?k5 ?kA ?kF ?kK ?k6 ?k7 ?k8 ?k9 ?kB ?_ ?c2 ?c3 ?c4 ?c5; (case kA => exact rfl); (case kF => exact rfl); (case kK => assumption); (case k1 => k_asm); (case k2 => k_asm); (case k3 => k_asm); (case k4 => k_asm); (case k5 => k_asm); (case k6 => k_is); (case k7 => k_is); (case k8 => ktr_room); (case k9 => exact BindsTo.of_eq rfl); (case c5 => decide); (case kB => exact locs rfl); (case c2 => exact rfl); (case c3 => exact rfl); (case c4 => exact rfl); k_whole; intro _ _ _ _ _ _ _ _ _; (try dsimp only); (try k_fold)))
  rename_i g L₁ h₁ FG F1 N1 B1 X1 T1
  obtain ⟨vs, hv, hT⟩ := hH
  replace hv := isL_keep hv FG
  replace hT := hT.mono fun _ _ q => HomeAt.keep q FG
  have e1 := hT.length
  have hvl : vs.length ≤ 100000 := by omega
  k_steps
  refine hidT_open (For_turns (by assumption) ?_)
  k_steps
  refine' iter_listTurns ?hh ?F ?N ?hm ?hc ?hd ?_
  case hh => rfl
  case F => assumption
  case N => assumption
  case hm => exact List.mem_cons_self ..
  case hc => exact rfl
  case hd => exact rfl
  intro I lI
  refine rest_indK (PRw hs) ?_ ?_ ?_
  · exact rows_init (by assumption) (by assumption) rfl
  · intro i e r m₁ n₁ he hP IH
    obtain ⟨Ra, rvs, k, nw, rs, q1, rfl, hne, hcl, hR, hgo, hlen, hrr⟩ := hP
    obtain ⟨u, hm⟩ := over1 q1
    subst hm
    clear q1
    obtain ⟨v, rfl, hv⟩ := valItem he
    rw [pick_from1] at hv
    obtain ⟨x, hx, hA⟩ := (hT.drop 1).get hv
    obtain ⟨t, t1, t2, t3, rfl, ht⟩ := hA
    obtain ⟨hx0, hx1⟩ := hab i x hx
    have hil : i < 10 := by
      have q := (List.getElem?_eq_some_iff.mp hx).1
      rw [List.length_drop] at q
      omega
    have hrl := hR.length
    obtain ⟨row, hrow⟩ : ∃ row, rs[x.1.toNat]? = some row := ⟨_, List.getElem?_eq_getElem (by omega)⟩
    obtain ⟨rv, hrv, ⟨ra, us, ku, rfl, hmem, hus⟩⟩ := hR.get' hrow
    have hul := strs_len hus
    have hrw := hrr _ (List.mem_of_getElem? hrow)
    have hcat := rows_next (hs := hs) hrow hx hgo
    k_steps
    have F9 := FpZk
    have N9 := NpZk
    have l9 := l1Zk
    refine rows_append F9 N9 l9 (by assumption) hne (by omega) ?_
    intro h8 F8 N8 n1 n2 n3
    k_steps
    all_goals (exact rows_end IH (by assumption) N8 (by assumption) hne hcl n1 rfl hR hus hcat hlen hrr hrw)
  · intro m₁ n₁ hP
    obtain ⟨Ra, rvs, k, nw, rs, q1, rfl, hne, hcl, hR, hgo, hlen, hrr⟩ := hP
    obtain ⟨u, hm⟩ := over1 q1
    subst hm
    clear q1
    have hend : rs = rowsF hs := by
      rw [← hgo, List.drop_eq_nil_of_le]
      · rfl
      · rw [List.length_map, pick_from1, List.length_drop]; omega
    subst hend
    k_steps
    all_goals (refine hret _ _ _ _ (by k_asm) (newsBoth (by assumption) (by assumption)) (newsMany N FG (by assumption)) ⟨_, _, _, rfl, List.mem_cons_self .., ?_⟩; exact hR.mono fun _ _ q => RowIn.mono q fun _ h => .tail _ (.tail _ h))

theorem fresh_Py : True := by
  w_top off
  exact trivial
section
theorem kw_Py_1 : True := by
  k_with "call builtin:list.append" => ((k_here; refine hidT_intro ?_))
  exact trivial

def PPl (hs : List Home) (keep : List (Addr × Obj)) (i : Nat) (m : Str → Option Value) (n : List (Addr × Obj)) : Prop :=
  ∃ Pa pvs k ps, m (Str.ofString "places") = some (.ref Pa) ∧ n = (Pa, W.listOf (List.toArray pvs) k) :: keep ∧ (∀ p ∈ keep, p.1 ≠ Pa) ∧ StrsAre pvs ps ∧ placesGo ps (hs.drop (i + 1)) = placesF hs ∧ ps.length = i + 1
theorem places_sub : ∀ (r : List Home) (ps : List Str), ∀ p ∈ ps, p ∈ placesGo ps r := by
  intro r
  induction r with
  | nil => intro ps p hp; exact hp
  | cons x r ih => intro ps p hp; exact ih _ p (List.mem_append_left _ hp)
theorem places_next {hs : List Home} {i : Nat} {x : Home} {ps : List Str} {y : Str} (hr : ps[x.1.toNat]? = some y) (hx : (hs.drop 1)[i]? = some x) (hgo : placesGo ps (hs.drop (i + 1)) = placesF hs) : placesGo (ps ++ [joinF y x.2.1]) (hs.drop (i + 1 + 1)) = placesF hs := by
  rw [← hgo, show hs.drop (i + 1) = x :: hs.drop (i + 1 + 1) from drop_at (by rw [List.getElem?_drop, Nat.add_comm] at hx; exact hx), placesGo, List.getD_eq_getElem?_getD, hr]
  rfl
theorem strs_getR {vs : List Value} {ys : List Str} (h : StrsAre vs ys) : ∀ {i : Nat} {y : Str}, ys[i]? = some y → ∃ t, vs[i]? = some (.str y t) := by
  induction h with
  | nil => intro i v e; simp at e
  | cons y t _ ih =>
    intro i v e
    cases i with
    | zero => exact ⟨t, by simp at e; simp [e]⟩
    | succ i => obtain ⟨t', h'⟩ := ih (i := i) (by simpa using e); exact ⟨t', by simpa using h'⟩
theorem places_append {prog : Program} {w : World} {A : Around} {E : Value → Shared → Prop} {s : Shared} {h₀ : Heap} {L I Pa S : Addr} {oI oS : Obj} {m : Str → Option Value} {pvs : List Value} {k : Nat} {x : Value} {Q : Value → Shared → Prop} (F : Fr h₀ L s.heap m)
    (N : News h₀ L s.heap [(I, oI), (Pa, W.listOf (List.toArray pvs) k), (S, oS)]) (hI : oI.cls = .type "list_iterator") (hne : ∀ p ∈ [(S, oS)], p.1 ≠ Pa) (hz : pvs.length ≤ 100000)
    (h : ∀ h', Fr h₀ L h' m → News h₀ L h' ((Pa, W.listOf (List.toArray (pvs ++ [x])) (k + 1)) :: (I, oI) :: [(S, oS)]) → Q .none { s with heap := h' }) :
    wpAny (model prog w) A (call (.builtin "list.append") [.ref Pa, x]) Q E s := by
  have hR : (Pa, W.listOf (List.toArray pvs) k) ∈ [(I, oI), (Pa, W.listOf (List.toArray pvs) k), (S, oS)] := .tail _ (.head _)
  refine append_keep (keep := (I, oI) :: [(S, oS)]) F N hR (fun p hp => ?_) hz h
  rcases List.mem_cons.mp hp with rfl | hp
  · exact ⟨.head _, ne_cls N (.head _) hR hI rfl (by decide)⟩
  · exact ⟨.tail _ (.tail _ hp), hne _ hp⟩
theorem places_init {h₀ h : Heap} {L S a : Addr} {m : Str → Option Value} {oS : Obj} {k : Nat} {hs : List Home} {t : Tok} (_N : News h₀ L h [(S, oS), (a, W.listOf (List.toArray [.str (Str.ofString "/local") t]) k)]) (l1 : a < S) (q1 : m (Str.ofString "places") = some (.ref a)) :
    ∃ n₀, PPl hs [(S, oS)] 0 m n₀ ∧ ∀ p ∈ n₀, p ∈ [(S, oS), (a, W.listOf (List.toArray [.str (Str.ofString "/local") t]) k)] := by
  refine ⟨_, ⟨a, _, k, [Str.ofString "/local"], q1, rfl, fun p hp => ?_, .cons _ t .nil, rfl, rfl⟩, fun p hp => ?_⟩
  · rw [List.mem_singleton.mp hp]
    exact Ne.symm (Nat.ne_of_lt l1)
  · rcases List.mem_cons.mp hp with rfl | hp
    · exact .tail _ (.head _)
    · rw [List.mem_singleton.mp hp]; exact .head _
theorem sp_places (w : World) (ha : Addr) (hs : List Home) (hl : hs.length ≤ 10) (hab : Above hs) (hpl : ∀ p ∈ placesF hs, p.length ≤ 300) (hnl : ∀ x ∈ hs, x.2.1.length ≤ 100) :
    SpecN w 252 16 160 [.ref ha] (fun h => HomesAt h ha hs) (fun r nw => ∃ b vs k, r = .ref b ∧ (b, W.listOf (List.toArray vs) k) ∈ nw ∧ StrsAre vs (placesF hs)) := by
  intro p loose mean mg mb dp un gd cn cs a ccd cl outer A₀ base h₀ L m news s Q E B F X N T hk hd hu hH hret
  ((have : PySem.Challenge.rw_ik0073_01 = PySem.Challenge.rw_ik0073_01 ∧ Mine.hd.heap_1 = Mine.hd.heap_1 := (by k_fill; exact ⟨rfl, rfl⟩)); clear this; refine wpAny_call ?_; k_dflt (refine' enterN ?k1 ?k2 ?k3 ?k4 ?k5 ?kA ?kF ?kK ?k6 ?k7 ?k8 ?k9 ?kB ?_ ?c2 ?c3 ?c4 ?c5; (case kA => exact rfl); (case kF => exact rfl); (case kK => assumption); (case k1 => k_asm); (case k2 => k_asm); (case k3 => k_asm); (case k4 => k_asm); (case k5 => k_asm); (case k6 => k_is); (case k7 => k_is); (case k8 => ktr_room); (case k9 => exact BindsTo.of_eq rfl); (case c5 => decide); (case kB => exact locs rfl); (case c2 => exact rfl); (case c3 => exact rfl); (case c4 => exact rfl); k_whole; intro _ _ _ _ _ _ _ _ _; (try dsimp only); (try k_fold)))
  rename_i g L₁ h₁ FG F1 N1 B1 X1 T1
  obtain ⟨vs, hv, hT⟩ := hH
  replace hv := isL_keep hv FG
  replace hT := hT.mono fun _ _ q => HomeAt.keep q FG
  have e1 := hT.length
  have hvl : vs.length ≤ 100000 := by omega
  k_steps
  refine hidT_open (For_turns (by assumption) ?_)
  k_steps
  refine' iter_listTurns ?hh ?F ?N ?hm ?hc ?hd ?_
  case hh => rfl
  case F => assumption
  case N => assumption
  case hm => exact List.mem_cons_self ..
  case hc => exact rfl
  case hd => exact rfl
  intro I lI
  refine rest_indK (PPl hs) ?_ ?_ ?_
  · exact places_init (by assumption) (by assumption) rfl
  · intro i e r m₁ n₁ he hP IH
    obtain ⟨Pa, pvs, k, ps, q1, rfl, hne, hS, hgo, hlen⟩ := hP
    obtain ⟨u, hm⟩ := over1 q1
    subst hm
    clear q1
    obtain ⟨v, rfl, hv⟩ := valItem he
    rw [pick_from1] at hv
    obtain ⟨x, hx, hA⟩ := (hT.drop 1).get hv
    obtain ⟨t, t1, t2, t3, rfl, ht⟩ := hA
    obtain ⟨hx0, hx1⟩ := hab i x hx
    have hil : i < 10 := by
      have q := (List.getElem?_eq_some_iff.mp hx).1
      rw [List.length_drop] at q
      omega
    have hpl' := strs_len hS
    obtain ⟨y, hy⟩ : ∃ y, ps[x.1.toNat]? = some y := ⟨_, List.getElem?_eq_getElem (by omega)⟩
    obtain ⟨ty, hvy⟩ := strs_getR hS hy
    have hy3 : y.length ≤ 300 := hpl y (by rw [← hgo]; exact places_sub _ _ _ (List.mem_of_getElem? hy))
    have hx3 : x.2.1.length ≤ 100 := hnl x (List.mem_of_mem_drop (List.mem_of_getElem? hx))
    have hcat := places_next (hs := hs) hy hx hgo
    have hpv : pvs.length ≤ 100000 := by omega
    k_steps
    (rename Fr _ _ _ _ => F9)
    (rename News _ _ _ _ => N9)
    refine hidT_open (places_append F9 N9 (by assumption) hne hpv ?_)
    intro h8 F8 N8
    k_steps
    all_goals (exact IH _ _ ⟨Pa, _, _, _, rfl, rfl, hne, strs_snoc hS, hcat, by rw [List.length_append, hlen]; rfl⟩)
  · intro m₁ n₁ hP
    obtain ⟨Pa, pvs, k, ps, q1, rfl, hne, hS, hgo, hlen⟩ := hP
    obtain ⟨u, hm⟩ := over1 q1
    subst hm
    clear q1
    have hend : ps = placesF hs := by
      rw [← hgo, List.drop_eq_nil_of_le]
      · rfl
      · rw [List.length_map, pick_from1, List.length_drop]; omega
    subst hend
    k_steps
    all_goals (exact hret _ _ _ _ (by k_asm) (newsBoth (by assumption) (by assumption)) (newsMany N FG (by assumption)) ⟨_, _, _, rfl, List.mem_cons_self .., hS⟩)
end
theorem kw_Py_2 : True := by
  k_with_none
  k_with "ite" => (first | with_reducible refine tt_then ?_ | with_reducible refine ff_else ?_)
  k_with "call ref" => ((k_here; (with_reducible show wpAny _ _ (call (Value.ref 186) [Value.int _ _]) _ _ _); k_dflt (refine' SpecV.use (sp_isfmt _ _ _) (by k_asm) (by k_asm) (by k_asm) (by k_asm) (by k_asm) (by first | exact rfl | assumption) (by ktr_room) (by ktr_units) ?_); intro r9Zk h9Zk tk9Zk F9Zk N9Zk hr9Zk; obtain ⟨u9Zk, hr9Zk⟩ := hr9Zk; subst hr9Zk; (try k_sweep); (try dsimp only); (try k_fold)))
  k_with "getMethod ref" => ((k_here; (with_reducible show wpAny _ _ (getMethod (Value.ref 43) _ _) _ _ _); k_dflt (refine' re_method (by k_in) ?_)))
  k_with "call builtin:re.Pattern.search" => ((k_here; k_dflt (refine' re_search (by k_in) (by first | assumption | omega) (by with_reducible assumption) ?_)))
  k_with "call ref" => ((k_here; (with_reducible show wpAny _ _ (call (Value.ref 50) [Value.str _ _]) _ _ _); k_dflt (refine' SpecV.use (sp_hdn _ _ _ (by first | assumption | omega) (by with_reducible assumption)) (by k_asm) (by k_asm) (by k_asm) (by k_asm) (by k_asm) (by first | exact rfl | assumption) (by ktr_room) (by ktr_units) ?_); intro r9Zk h9Zk tk9Zk F9Zk N9Zk hr9Zk; subst hr9Zk; (try k_sweep); (try dsimp only); (try k_fold)))
  k_with "call ref" => ((k_here; (with_reducible show wpAny _ _ (call (Value.ref 151) [Value.str _ _]) _ _ _); k_dflt (refine' SpecV.use (sp_getsep _ _ _) (by k_asm) (by k_asm) (by k_asm) (by k_asm) (by k_asm) (by first | exact rfl | assumption) (by ktr_room) (by ktr_units) ?_); intro r9Zk h9Zk tk9Zk F9Zk N9Zk hr9Zk; obtain ⟨u9Zk, hr9Zk⟩ := hr9Zk; subst hr9Zk; (try k_sweep); (try dsimp only); (try k_fold)))
  k_with "call builtin:issubclass" => ((k_here; (with_reducible show wpAny _ _ (call (Value.builtin "issubclass") [Value.type "str", Value.ref _]) _ _ _); k_dflt (refine' call_issub (by exact News.get (by k_asm) (by k_mem)) (by exact rfl) (by exact rfl) ?_)))
  k_with "call ref" => ((k_here; (with_reducible show wpAny _ _ (call (Value.ref 137) [Value.str _ _]) _ _ _); k_dflt (refine' SpecV.use (sp_fspath _ _ _) (by k_asm) (by k_asm) (by k_asm) (by k_asm) (by k_asm) (by first | exact rfl | assumption) (by ktr_room) (by ktr_units) ?_); intro r9Zk h9Zk tk9Zk F9Zk N9Zk hr9Zk; obtain ⟨u9Zk, hr9Zk⟩ := hr9Zk; subst hr9Zk; (try k_sweep); (try dsimp only); (try k_fold)))
  k_with "call ref" => ((k_here; (with_reducible show wpAny _ _ (call (Value.ref 172) [Value.str _ _]) _ _ _); k_dflt (refine' SpecV.use (sp_dirname _ _ _ (by first | assumption | omega)) (by k_asm) (by k_asm) (by k_asm) (by k_asm) (by k_asm) (by first | exact rfl | assumption) (by ktr_room) (by ktr_units) ?_); intro r9Zk h9Zk tk9Zk F9Zk N9Zk hr9Zk; obtain ⟨u9Zk, hr9Zk⟩ := hr9Zk; subst hr9Zk; (try k_sweep); (try dsimp only); (try k_fold)))
  k_with "call ref" => ((k_here; (with_reducible show wpAny _ _ (call (Value.ref 165) [Value.str _ _]) _ _ _); k_dflt (refine' SpecO.use (sp_splitroot _ _ _ (by first | assumption | omega) (by assumption) (by assumption)) (by k_asm) (by k_asm) (by k_asm) (by k_asm) (by k_asm) (by first | exact rfl | assumption) (by ktr_room) (by ktr_units) ?_); intro b9Zk o9Zk h9Zk tk9Zk F9Zk N9Zk l9Zk hr9Zk; obtain ⟨t91Zk, t92Zk, t93Zk, n9Zk, hr9Zk⟩ := hr9Zk; subst hr9Zk; (try simp only [AllNe, and_true] at l9Zk); (try k_sweep); (try dsimp only); (try k_fold)))
  k_with "call ref" => ((k_here; (with_reducible show wpAny _ _ (call (Value.ref 158) [Value.str _ _, Value.str _ _]) _ _ _); k_dflt (refine' SpecV.use (sp_join _ _ _ _ _ (by first | assumption | omega) (by first | assumption | omega)) (by k_asm) (by k_asm) (by k_asm) (by k_asm) (by k_asm) (by first | exact rfl | assumption) (by ktr_room) (by ktr_units) ?_); intro r9Zk h9Zk tk9Zk F9Zk N9Zk hr9Zk; obtain ⟨u9Zk, hr9Zk⟩ := hr9Zk; subst hr9Zk; (try k_sweep); (try dsimp only); (try k_fold)))
  k_with "exec For Tuple Call cons nil" => ((k_here; (rename Fr _ _ _ _ => lFpZk); (with_unfolding_all refine' For_turns lFpZk ?_; k_whole)))
  k_with "call ref" => ((k_here; (with_reducible show wpAny _ _ (call (Value.ref 233) [Value.int _ _]) _ _ _); k_dflt (refine' SpecV.use (sp_filemode _ _ _) (by k_asm) (by k_asm) (by k_asm) (by k_asm) (by k_asm) (by first | exact rfl | assumption) (by ktr_room) (by ktr_units) ?_); intro r9Zk h9Zk tk9Zk F9Zk N9Zk hr9Zk; obtain ⟨u9Zk, hr9Zk⟩ := hr9Zk; subst hr9Zk; (try k_sweep); (try dsimp only); (try k_fold)))
  k_with "call ref" => ((k_here; (with_reducible show wpAny _ _ (call (Value.ref 193) [Value.int _ _]) _ _ _); k_dflt (refine' SpecV.use (sp_isdir _ _ _) (by k_asm) (by k_asm) (by k_asm) (by k_asm) (by k_asm) (by first | exact rfl | assumption) (by ktr_room) (by ktr_units) ?_); intro r9Zk h9Zk tk9Zk F9Zk N9Zk hr9Zk; subst hr9Zk; (try k_sweep); (try dsimp only); (try k_fold)))
  k_with "call ref" => ((k_here; (with_reducible show wpAny _ _ (call (Value.ref 64) [Value.str _ _]) _ _ _); k_dflt (refine' SpecV.use (sp_reach _ _ _ (by first | assumption | omega) (by with_reducible assumption)) (by k_asm) (by k_asm) (by k_asm) (by k_asm) (by k_asm) (by first | exact rfl | assumption) (by ktr_room) (by ktr_units) ?_); intro r9Zk h9Zk tk9Zk F9Zk N9Zk hr9Zk; obtain ⟨u9Zk, hr9Zk⟩ := hr9Zk; subst hr9Zk; (try k_sweep); (try dsimp only); (try k_fold)))
  k_with "call ref" => ((k_here; (with_reducible show wpAny _ _ (call (Value.ref 57) [Value.str _ _, Value.str _ _]) _ _ _); k_dflt (refine' SpecV.use (sp_dm _ _ _ _ _ (by first | assumption | omega) (by first | assumption | omega) (by with_reducible assumption) (by with_reducible assumption)) (by k_asm) (by k_asm) (by k_asm) (by k_asm) (by k_asm) (by first | exact rfl | assumption) (by ktr_room) (by ktr_units) ?_); intro r9Zk h9Zk tk9Zk F9Zk N9Zk hr9Zk; subst hr9Zk; (try k_sweep); (try dsimp only); (try k_fold)))
  k_with "call ref" => ((k_here; (with_reducible show wpAny _ _ (call (Value.ref 179) [Value.str _ _]) _ _ _); k_dflt (refine' SpecV.use (sp_norm _ _ _ (by first | assumption | omega) (by assumption) (by assumption) (by assumption) (by assumption) (by assumption)) (by k_asm) (by k_asm) (by k_asm) (by k_asm) (by k_asm) (by first | exact rfl | assumption) (by ktr_room) (by ktr_units) ?_); intro r9Zk h9Zk tk9Zk F9Zk N9Zk hr9Zk; obtain ⟨u9Zk, hr9Zk⟩ := hr9Zk; subst hr9Zk; (try k_sweep); (try dsimp only); (try k_fold)))
  k_with "call ref" => ((k_here; (with_reducible show wpAny _ _ (call (Value.ref 259) [Value.str _ _]) _ _ _); k_dflt (refine' SpecV.use (sp_host _ _ _ (by first | assumption | omega) (by with_reducible assumption) (by with_reducible assumption)) (by k_asm) (by k_asm) (by k_asm) (by k_asm) (by k_asm) (by first | exact rfl | assumption) (by ktr_room) (by ktr_units) ?_); intro r9Zk h9Zk tk9Zk F9Zk N9Zk hr9Zk; obtain ⟨u9Zk, hr9Zk⟩ := hr9Zk; subst hr9Zk; (try k_sweep); (try dsimp only); (try k_fold)))
  k_with "call ref" => ((k_here; (with_reducible show wpAny _ _ (call (Value.ref 266) [Value.str _ _, Value.str _ _, Value.int _ _, Value.str _ _]) _ _ _); k_dflt (refine' SpecV.use (sp_signs _ _ _ _ _ _ _ _ _ (by with_reducible assumption) (by with_reducible assumption) (by with_reducible assumption) (by with_reducible assumption) (by with_reducible assumption) (by with_reducible assumption) (by with_reducible assumption) (by with_reducible assumption) (by with_reducible assumption) (by with_reducible assumption) (by with_reducible assumption)) (by k_asm) (by k_asm) (by k_asm) (by k_asm) (by k_asm) (by first | exact rfl | assumption) (by ktr_room) (by ktr_units) ?_); intro r9Zk h9Zk tk9Zk F9Zk N9Zk hr9Zk; obtain ⟨u9Zk, hr9Zk⟩ := hr9Zk; subst hr9Zk; (try k_sweep); (try dsimp only); (try k_fold)))
  k_with "exec For Name Call cons nil" => ((k_here; refine hidT_intro ?_))
  k_with "exec For Name Subscript cons nil" => ((k_here; refine hidT_intro ?_))
  k_with "subscriptTail Name Slice ref ref" => ((k_here; (with_reducible show wpAny _ _ (subscriptTail _ (PySem.Expr.Slice _ _ none _) (Value.ref _) (Value.ref _)) _ _ _); k_dflt (refine' slice_strs (by k_asm) (by k_asm) (by kmk_list) (by kmk_part) (by kmk_part) (by assumption) (by first | assumption | omega) ?_ (by with_unfolding_all rfl) (by kmk_pure)); intro DpZk wspZk hpZk FpZk NpZk l1Zk hIpZk hNpZk; (try simp only [pick_to, pick_to1] at hIpZk); (try k_lt l1Zk); (try k_sweep); (try dsimp only)))
  k_with "subscriptTail Name Name ref str" => ((k_here; (with_reducible show wpAny _ _ (subscriptTail _ _ (Value.ref _) (Value.str _ _)) _ _ _); k_dflt (refine' told_get (by assumption) (by assumption) (by assumption) (by with_unfolding_all rfl) ?_); intro apZk typZk hTpZk))
  k_with "subscriptTail Subscript Name Name Constant ref int" => ((k_here; (with_reducible show wpAny _ _ (subscriptTail _ _ (Value.ref _) (Value.int 0 _)) _ _ _); k_dflt (refine' pair_item0 (by with_reducible assumption) (by with_reducible assumption) ?_ (by with_unfolding_all rfl))))
  k_with "subscriptTail Subscript Name Name Constant ref int" => ((k_here; (with_reducible show wpAny _ _ (subscriptTail _ _ (Value.ref _) (Value.int 1 _)) _ _ _); k_dflt (refine' pair_item1 (by with_reducible assumption) (by with_reducible assumption) ?_ (by with_unfolding_all rfl))))
  k_with "subscriptTail Name Constant ref int" => ((k_here; (with_reducible show wpAny _ _ (subscriptTail _ _ (Value.ref _) (Value.int _ _)) _ _ _); k_dflt (refine' item_at (v := Value.str _ _) (by exact News.isList (by with_reducible assumption) (by first | exact .head _ | exact .tail _ (.head _) | exact .tail _ (.tail _ (.head _)))) (by decide) (by first | omega | (simp only [List.length_cons]; omega)) (by rfl) ?_ (by with_unfolding_all rfl))))
  k_with "binaryOp Add ref ref" => ((k_here; (with_reducible show wpAny _ _ (binaryOp _ (Value.ref _) (Value.ref _)) _ _ _); k_dflt (refine' add_any (by with_reducible assumption) (by with_reducible assumption) (by exact News.isList (by with_reducible assumption) (by first | exact .head _ | exact .tail _ (.head _) | exact .tail _ (.tail _ (.head _)))) (by exact News.isList (by with_reducible assumption) (by first | exact .head _ | exact .tail _ (.head _) | exact .tail _ (.tail _ (.head _)))) (by first | omega | (simp only [List.length_cons, List.length_nil]; omega)) ?_); intro DpZk hpZk FpZk NpZk l1Zk; (try k_lt l1Zk); (try k_sweep); (try dsimp only)))
  k_with "execs nil" => (((with_reducible refine wpAny_execs_nil ?_); try dsimp only))
  k_with "execs cons" => (((with_reducible refine wpAny_execs_cons ?_); try dsimp only))
  k_with "compareOp Eq ref ref" => ((k_here; (with_reducible show wpAny _ _ (compareOp CmpOp.Eq (Value.ref _) (Value.ref _)) _ _ _); k_dflt (refine' due_eq (by kmk_list) (by kmk_list) (by assumption) (by assumption) (by ke_room) ?_)))
  k_with "call builtin:list.index" => ((k_here; (with_reducible show wpAny _ _ (call (Value.builtin _) [Value.ref _, Value.ref _]) _ _ _); k_dflt (refine' due_index (by assumption) (by assumption) (by assumption) (by assumption) (by k_mem) (by assumption) (by ke_room) (by first | assumption | omega) (by assumption) ?_)))
  k_with "getMethod ref" => ((k_here; (with_reducible show wpAny _ _ (getMethod (Value.ref _) (PySem.Str.ofString "index") _) _ _ _); k_dflt (refine' due_method (by assumption) (by assumption) PySem.F.slot_list_index PySem.F.type_list_index ?_)))
  k_with "subscriptTail Name Call ref int" => ((k_here; (with_reducible show wpAny _ _ (subscriptTail _ _ (Value.ref _) (Value.int _ _)) _ _ _); k_dflt (refine' due_item (by assumption) (by assumption) (by assumption) (by omega) (by assumption) ?_ (by with_unfolding_all rfl)); intro tpZk))
  k_with "exec If" => ((k_here; (with_reducible show wpAny _ _ (exec (PySem.Stmt.If (PySem.Expr.Compare _ [PySem.CmpOp.Eq] _ _) _ (_ :: _) _) _) _ _ _); refine hidT_intro ?_))
  k_with "ite" => (((rename QuickIte => hQuick9Zk); k_openite; first | (refine ite_pos (by with_reducible assumption) ?_) | (refine ite_neg (by with_reducible assumption) ?_) | (refine ite_isFalse (by with_reducible assumption) ?_) | with_reducible refine ite_tt ?_ | with_reducible refine ite_ff ?_ | (with_reducible refine split_ine ?_ ?_ <;> intro _) | (with_reducible refine split_ieq ?_ ?_ <;> intro _) | with_reducible refine split_not ?_ | (refine split_dec ?_ ?_ <;> intro _) | (refine split_bool ?_ ?_ <;> intro _)))
  k_with "binaryOp Add ref ref" => ((k_here; (with_reducible show wpAny _ _ (binaryOp _ (Value.ref _) (Value.ref _)) _ _ _); k_dflt (refine' add_any (by k_asm) (by k_asm) (by first | exact listAt (by k_asm) (by repeat (first | exact List.mem_cons_self .. | with_reducible assumption | refine List.mem_cons_of_mem _ ?_)) | kmk_list) (by first | exact listAt (by k_asm) (by repeat (first | exact List.mem_cons_self .. | with_reducible assumption | refine List.mem_cons_of_mem _ ?_)) | kmk_list) (by ((try simp only [List.length_append, List.length_cons, List.length_nil]); omega)) ?_); intro DpZk hpZk FpZk NpZk l1Zk; (try k_lt l1Zk); (try k_sweep); (try dsimp only)))
  k_with "subscriptTail Name Name ref int" => ((k_here; (with_reducible show wpAny _ _ (subscriptTail _ _ (Value.ref _) (Value.int _ _)) _ _ _); k_dflt (refine' item_at (by first | exact listAt (by k_asm) (by repeat (first | exact List.mem_cons_self .. | with_reducible assumption | refine List.mem_cons_of_mem _ ?_)) | kmk_list) (by omega) (by omega) (by with_reducible assumption) ?_ (by with_unfolding_all rfl))))
  k_with "exec For Tuple Subscript cons nil" => ((k_here; refine hidT_intro ?_))
  k_with "subscriptTail Name Slice ref ref" => ((k_here; (with_reducible show wpAny _ _ (subscriptTail _ (PySem.Expr.Slice _ _ none _) (Value.ref _) (Value.ref _)) _ _ _); k_dflt (refine' slice_any (by k_asm) (by k_asm) (by first | exact listAt (by k_asm) (by repeat (first | exact List.mem_cons_self .. | with_reducible assumption | refine List.mem_cons_of_mem _ ?_)) | kmk_list) (by first | assumption | omega) (by kmk_part) (by kmk_part) ?_ (by with_unfolding_all rfl) (by kmk_pure)); intro DpZk hpZk FpZk NpZk l1Zk; (try k_lt l1Zk); (try k_sweep); (try dsimp only)))
  k_with "assign Tuple" => ((k_here; (with_reducible show wpAny _ _ (assign (PySem.Expr.Tuple _ _ _) _ (Value.ref _)) _ _ _); k_dflt (refine' asgK (hL := (by rfl)) (by rfl) (by first | exact isTup_keep (by with_reducible assumption) (Fr.keep (by k_asm)) | exact isTup_news (by k_asm) (by repeat (first | exact List.mem_cons_self .. | with_reducible assumption | refine List.mem_cons_of_mem _ ?_)) (by with_reducible assumption) (by with_reducible assumption)) (by k_asm) (by k_asm) (by rfl) (by rfl) (by rfl) (by rfl) ?_); intro hpZk tkpZk FpZk NpZk; (try k_sweep)))
  exact trivial


theorem fresh_Pz : True := by
  w_top off
  exact trivial
theorem Fr.o1 {h₀ h : Heap} {L : Addr} {m : Str → Option Value} (F : Fr h₀ L h m) {a : Str} {va : Value} (q : m a = some va) : ∃ u : Str → Option Value, Fr h₀ L h (fun z => if z = a then some va else u z) := by
  obtain ⟨u, hu⟩ := over1 q
  exact ⟨u, hu ▸ F⟩
theorem len_any {prog : Program} {w : World} {A : Around} {E : Value → Shared → Prop} {s : Shared} {l : Addr} {vs : List Value} {Q : Value → Shared → Prop} (hl : s.heap.IsList l vs.toArray) (hz : vs.length ≤ 100000) (h : Q (.int (vs.length : Int) (s.toks + 1)) { s with toks := s.toks + 1 + 1 }) :
    wpAny (model prog w) A (call (.builtin "len") [.ref l]) Q E s :=
  PyProof.Rows.len_list hl (by rw [List.size_toArray]; omega) (by rw [List.size_toArray]; exact h)
section
variable {prog : Program} {w : World} {A : Around} {E : Value → Shared → Prop} {s : Shared}
theorem sliceApplied_to2 {sl : Addr} {u : Tok} {Q : Int × Int × Nat → Shared → Prop} (hs : s.heap.IsSliceOf sl .none (.int 2 u) .none) (h : Q (0, 1, 2) s) :
    wpAny (model prog w) A (Builtin.Slice.sliceApplied (.ref sl) (pure (3 : Int))) Q E s := by
  obtain ⟨os, hos, hcs, hds⟩ := id hs
  unfold Builtin.Slice.sliceApplied Builtin.Slice.sliceFields
  refine wpAny_bind (wpAny_bind (wpAny_field hos hds (x := .none) rfl (wpAny_bind (wpAny_field hos hds (x := .int 2 u) rfl (wpAny_bind (wpAny_field hos hds (x := .none) rfl (wpAny_pure ?_)))))))
  refine wpAny_bind (slicePart_none ?_)
  show wpAny _ _ (if ((1 : Int) == 0) = true then _ else _) _ _ s
  rw [if_neg (by decide)]
  refine wpAny_bind (slicePart_none (wpAny_bind (slicePart_int (wpAny_bind (wpAny_pure ?_)))))
  show wpAny _ _ (match Builtin.Slice.sliceAdjust none (some (2 : Int)) 1 (3 : Int) with | (lo, hi) => pure (lo, (1 : Int), Builtin.Slice.slicePlaces lo hi 1)) _ _ s
  exact wpAny_pure h
theorem getItem_tuple_to2 {t sl : Addr} {x y z : Value} {u : Tok} {Q : Value → Shared → Prop} (ht : IsTup s.heap t #[x, y, z]) (hs : s.heap.IsSliceOf sl .none (.int 2 u) .none)
    (h : Q (.ref s.heap.objs.size) { s with heap := s.heap.push { cls := .type "tuple", data := .seq #[x, y] } }) : wpAny (model prog w) A (getItem (.ref t) (.ref sl)) Q E s := by
  have hsz : sizeOk (.seq #[x, y]) := by
    show #[x, y].size ≤ sizeLine
    rw [sizeLine_eq]
    show 2 ≤ _
    omega
  obtain ⟨os, hos, hcs, hds⟩ := id hs
  have hTs : s.TypeIs (.ref sl) "slice" := ⟨os, hos, hcs⟩
  unfold getItem
  try with_reducible refine wpAny_holding ?_
  first | refine wpAny_bind (wpAny_pure ?_) | skip
  refine wpAny_bind (wpAny_sequenceKey ht.typeIs (by decide) ?_)
  refine wpAny_bind (wpAny_callSpecial?_slot (name := Str.ofString "__getitem__") ht.typeIs slot_tuple_getitem
    (wpAny_call_entry slot_tuple_getitem ht.typeIs entry_tuple_getitem ?_ (args_tuple_getitem _ _)))
  show wpAny _ _ (Builtin.Tuple.tupleItemsOf (.ref t) >>= _) _ _ s
  refine wpAny_bind (tupleItemsOf_ ht ?_)
  refine wpAny_bind (wpAny_typeOf hTs ?_)
  rw [if_pos (by decide)]
  refine wpAny_bind (sliceApplied_to2 hs ?_)
  show wpAny _ _ (if ((0 : Int) == 0 && (1 : Int) == 1 && (2 : Nat) == 3) = true then _ else _) _ _ s
  rw [if_neg (by decide)]
  first
    | exact wpAny_bind (m := Builtin.Tuple.tupleExact _) (wpAny_newObj_type (wpAny_pure ⟨_, rfl, wpAny_pure h⟩) hsz)
    | exact wpAny_bind (m := Builtin.Tuple.tupleExact _) (wpAny_newObj_type (wpAny_bind (wpAny_pure (wpAny_pure ⟨_, rfl, wpAny_pure h⟩))) hsz)
    | exact wpAny_bind (wpAny_bind (m := Builtin.Tuple.tupleExact _) (wpAny_newObj_type (wpAny_pure (wpAny_pure ⟨_, rfl, wpAny_pure h⟩)) hsz))
    | exact wpAny_bind (wpAny_bind (m := Builtin.Tuple.tupleExact _) (wpAny_newObj_type (wpAny_pure ⟨_, rfl, wpAny_pure h⟩) hsz))
variable {h₀ : Heap} {L : Addr} {m : Str → Option Value} {news : List (Addr × Obj)}
theorem slice_tuple_to2 {value slice : PySem.Expr} {t : Addr} {x y z : Value} {u : Tok} {Q : Value → Shared → Prop} (F : Fr h₀ L s.heap m) (N : News h₀ L s.heap news) (ht : s.heap.IsTuple t #[x, y, z])
    (h : ∀ D h', Fr h₀ L h' m → News h₀ L h' ((D, { cls := .type "tuple", data := .seq #[x, y] }) :: news) → (∀ p ∈ news, p.1 < D) → Q (.ref D) { s with heap := h' })
    (hs : subscripted slice false (.ref t) (.ref s.heap.objs.size) = operate [.ref s.heap.objs.size, .ref t] (getItem (.ref t) (.ref s.heap.objs.size)))
    (hg : ∀ r, letTemporaryGo value (.ref t) r = pure ()) :
    wpAny (model prog w) A (subscriptTail value slice (.ref t) (.ref s.heap.objs.size)) Q E { s with heap := s.heap.push { cls := .type "slice", data := .fields #[.none, .int 2 u, .none] } } := by
  have ht' : IsTup (s.heap.push { cls := .type "slice", data := .fields #[.none, .int 2 u, .none] }) t #[x, y, z] := isTup_keep ht fun _ _ e => Heap.get?_push_of_some _ e
  refine subscriptTail_ops (s := { s with heap := s.heap.push { cls := .type "slice", data := .fields #[.none, .int 2 u, .none] } }) ht'.typeIs slot_tuple_getitem.lookup
    (getItem_tuple_to2 ht' (Heap.IsSliceOf.new ..) ?_) hs hg
  have N1 := News.push (F.push { cls := .type "slice", data := .fields #[.none, .int 2 u, .none] }) (N.grown fun _ _ e => Heap.get?_push_of_some _ e) { cls := .type "tuple", data := .seq #[x, y] }
  rw [Heap.size_push] at N1
  show Q (.ref (s.heap.push _).objs.size) _
  rw [Heap.size_push]
  exact h _ _ ((F.push _).push _) N1 fun p hp => Nat.lt_succ_of_lt (Heap.lt_size (N p hp).1)
end
theorem fmod3_in (x : Int) : 0 ≤ x.fmod 3 ∧ x.fmod 3 < 3 := by
  rw [Int.fmod_eq_emod_of_nonneg _ (by decide)]
  omega
theorem menu3 {prog : Program} {w : World} {A : Around} {E : Value → Shared → Prop} {s : Shared} {value slice : PySem.Expr} {T : Addr} {a b c : Str} {ta tb tc u : Tok} {x : Int} {Q : Value → Shared → Prop} (ht : IsTup s.heap T #[.str a ta, .str b tb, .str c tc])
    (h : ∀ t, Q (.str (if x.fmod 3 = 0 then a else if x.fmod 3 = 1 then b else c) t) s) (hs : subscripted slice false (.ref T) (.int (x.fmod 3) u) = operate [.ref T, .int (x.fmod 3) u] (getItem (.ref T) (.int (x.fmod 3) u))) :
    wpAny (model prog w) A (subscriptTail value slice (.ref T) (.int (x.fmod 3) u)) Q E s := by
  obtain ⟨h0, h1⟩ := fmod3_in x
  revert h hs
  generalize x.fmod 3 = k at *
  intro h hs
  have hk : k = 0 ∨ k = 1 ∨ k = 2 := by omega
  rcases hk with rfl | rfl | rfl
  · exact item_tupleT (l := [.str a ta, .str b tb, .str c tc]) ht (by decide) (by decide) rfl rfl (h ta) hs
  · exact item_tupleT (l := [.str a ta, .str b tb, .str c tc]) ht (by decide) (by decide) rfl rfl (h tb) hs
  · exact item_tupleT (l := [.str a ta, .str b tb, .str c tc]) ht (by decide) (by decide) rfl rfl (h tc) hs
theorem kw_Pz_1 : True := by
  k_with "subscriptTail Tuple cons BinOp ref int" => ((k_here; k_dflt (refine' menu3 (by exact News.isTup (by k_asm) (List.mem_cons_self ..)) ?_ (by with_unfolding_all rfl)); intro tpZk; (try dsimp only)))
  k_with "call builtin:len" => ((k_here; (with_reducible show wpAny _ _ (call (Value.builtin "len") [Value.ref _]) _ _ _); k_dflt (refine' len_any (by exact listAt (by k_asm) (by repeat (first | exact List.mem_cons_self .. | with_reducible assumption | refine List.mem_cons_of_mem _ ?_))) (by omega) ?_); (try dsimp only)))
  exact trivial

def labelF (x : Int) : Str := if (x.fdiv 8).fmod 3 = 0 then Str.ofString "a" else if (x.fdiv 8).fmod 3 = 1 then Str.ofString "b" else Str.ofString "ab"
inductive Shape : List (Int × Str) → Prop
  | base : Shape [(0, Str.ofString "local"), (0, Str.ofString "a"), (1, Str.ofString "b")]
  | add {l : List (Int × Str)} {k : Int} {nm : Str} : Shape l → l.length < 5 → 0 ≤ k → k < l.length → nm ∈ [Str.ofString "a", Str.ofString "b", Str.ofString "ab"] → (k, nm) ∉ l.drop 1 → Shape (l ++ [(k, nm)])
def GoodH (hs : List Home) : Prop := Shape (hs.map fun h => (h.1, h.2.1)) ∧ ∀ h ∈ hs, 0 ≤ h.2.2 ∧ h.2.2 < 1048576
def PairIn (KL : Addr) (nw : List (Addr × Obj)) (v : Value) (x : Int × Str) : Prop := ∃ t ot t1 t2 n, v = .ref t ∧ t ≠ KL ∧ (t, ot) ∈ nw ∧ ot.cls = .type "tuple" ∧ ot.data = .seq #[.int x.1 t1, .str x.2 t2] n
theorem PairIn.mono {KL : Addr} {nw nw' : List (Addr × Obj)} {v : Value} {x : Int × Str} (q : PairIn KL nw v x) (k : ∀ p ∈ nw, p ∈ nw') : PairIn KL nw' v x := let ⟨t, ot, t1, t2, n, e, hne, hm, r⟩ := q; ⟨t, ot, t1, t2, n, e, hne, k _ hm, r⟩
open Classical in
noncomputable def pairIs (h : Heap) (x : Int × Str) (v : Value) : Bool := decide (∃ t t1 t2, v = .ref t ∧ h.IsTuple t #[.int x.1 t1, .str x.2 t2])
theorem pairIs_of {h : Heap} {x y : Int × Str} {t : Addr} {t1 t2 : Tok} (h1 : h.IsTuple t #[.int y.1 t1, .str y.2 t2]) : pairIs h x (.ref t) = decide (y = x) := by
  unfold pairIs
  rw [decide_eq_decide]
  constructor
  · rintro ⟨t', u1, u2, e, o', e1, _, n', d1⟩
    cases e
    obtain ⟨o, e2, _, n, d2⟩ := h1
    rw [e2] at e1
    cases e1
    rw [d2] at d1
    injection d1 with d3
    have d4 := congrArg Array.toList d3
    simp at d4
    exact Prod.ext d4.1.1 d4.2.1
  · rintro rfl
    exact ⟨t, t1, t2, rfl, h1⟩
theorem notin_pairs {prog : Program} {w : World} {A : Around} {E : Value → Shared → Prop} {s : Shared} {h₀ : Heap} {L KL D : Addr} {news : List (Addr × Obj)} {ys : List Value} {ps : List (Int × Str)} {k : Int} {nm : Str} {tk tn : Tok} {Q : Value → Shared → Prop} (N : News h₀ L s.heap news)
    (hl : s.heap.IsList D ys.toArray) (hT : Two (PairIn KL news) ys ps) (hKL : s.heap.IsTuple KL #[.int k tk, .str nm tn]) (hu : A.units + 64 < cLine) (h : Q (.bool (!decide ((k, nm) ∈ ps))) s) : wpAny (model prog w) A (compareOp .NotIn (.ref KL) (.ref D)) Q E s := by
  refine SeqAt.notIn_listAt (pairIs s.heap (k, nm)) hl (fun y hy => ?_) ?_
  · obtain ⟨j, hj⟩ := List.getElem?_of_mem (List.mem_toArray.mp hy)
    obtain ⟨x, _, t, ot, t1, t2, n, rfl, hne, hm, hc, hd⟩ := hT.get hj
    have ht : s.heap.IsTuple t #[.int x.1 t1, .str x.2 t2] := isTup_news N hm hc hd
    rw [pairIs_of ht]
    refine SeqAt.EqAt.of_refs hne ?_
    have q := SeqAt.RcAt.tuples (A := A.in1) (s := s) (e := fun j => if j = 0 then x.1 == k else x.2 == nm) ht hKL (by rw [Around.in1_units]; omega) (fun j h1 h2 => by
      have h1' : j < 2 := h1
      have hj : j = 0 ∨ j = 1 := by omega
      rcases hj with rfl | rfl
      · exact SeqAt.EqAt.int_int x.1 t1 k tk
      · exact SeqAt.EqAt.str_str x.2 t2 nm tn)
    have e : ((List.range (min #[Value.int x.1 t1, .str x.2 t2].size #[Value.int k tk, .str nm tn].size)).all (fun j => if j = 0 then x.1 == k else x.2 == nm) && #[Value.int x.1 t1, .str x.2 t2].size == #[Value.int k tk, .str nm tn].size) = decide (x = (k, nm)) := by
      show ((List.range 2).all (fun j => if j = 0 then x.1 == k else x.2 == nm) && true) = _
      rw [Bool.and_true, Bool.eq_iff_iff, List.all_eq_true, decide_eq_true_iff]
      constructor
      · intro q
        have q0 := q 0 (by decide)
        have q1 := q 1 (by decide)
        simp at q0 q1
        exact Prod.ext q0 q1
      · rintro rfl j _
        by_cases hj : j = 0 <;> simp [hj]
    rw [e] at q
    exact q
  · have e : ys.toArray.any (pairIs s.heap (k, nm)) = decide ((k, nm) ∈ ps) := by
      rw [Bool.eq_iff_iff, ← Array.any_toList, List.any_eq_true, decide_eq_true_iff]
      constructor
      · rintro ⟨y, hy, hp⟩
        obtain ⟨j, hj⟩ := List.getElem?_of_mem hy
        obtain ⟨x, hx, t, ot, t1, t2, n, rfl, hne, hm, hc, hd⟩ := hT.get hj
        rw [pairIs_of (isTup_news N hm hc hd)] at hp
        rw [← of_decide_eq_true hp]
        exact List.mem_of_getElem? hx
      · intro hm
        obtain ⟨j, hj⟩ := List.getElem?_of_mem hm
        obtain ⟨y, hy, t, ot, t1, t2, n, rfl, hne, hm, hc, hd⟩ := hT.get' hj
        refine ⟨_, List.mem_of_getElem? hy, ?_⟩
        rw [pairIs_of (isTup_news N hm hc hd)]
        exact decide_eq_true rfl
    rw [e]
    exact h
def PH (keep : List (Addr × Obj)) (_i : Nat) (m : Str → Option Value) (n : List (Addr × Obj)) : Prop :=
  ∃ H vs k nw hs, m (Str.ofString "homes") = some (.ref H) ∧ n = (H, W.listOf (List.toArray vs) k) :: (keep ++ nw) ∧ Two (HomeIn nw) vs hs ∧ GoodH hs ∧ (∀ p ∈ nw, p.2.cls = .type "tuple")
theorem ints_mem {vs : List Value} {ns : List Int} (h : IntsAre vs ns) : ∀ v ∈ vs, ∃ n t, v = .int n t := by
  induction h with
  | nil => intro v hv; exact absurd hv List.not_mem_nil
  | cons x t _ ih =>
    intro v hv
    rcases List.mem_cons.mp hv with e | hv
    · exact ⟨x, t, e⟩
    · exact ih v hv
theorem shape_len {l : List (Int × Str)} (h : Shape l) : 3 ≤ l.length ∧ l.length ≤ 5 := by
  induction h with
  | base => decide
  | add _ h5 _ _ _ _ ih => rw [List.length_append, List.length_singleton]; omega
theorem xor_add : ∀ a b : Nat, (a ^^^ b) + 2 * (a &&& b) = a + b := by
  intro a
  induction a using Nat.strongRecOn with
  | _ a ih =>
    intro b
    by_cases ha : a = 0
    · subst ha; simp
    · have h := ih (a / 2) (by omega) (b / 2)
      have e1 : (a ^^^ b) / 2 = a / 2 ^^^ b / 2 := Nat.xor_div_two ..
      have e2 : (a &&& b) / 2 = a / 2 &&& b / 2 := Nat.and_div_two ..
      have e3 : (a ^^^ b) % 2 = (a + b) % 2 := by
        have q := Nat.xor_mod_two_pow (a := a) (b := b) (n := 1)
        rw [Nat.pow_one] at q
        rcases Nat.mod_two_eq_zero_or_one a with h1 | h1 <;> rcases Nat.mod_two_eq_zero_or_one b with h2 | h2 <;> rw [h1, h2] at q <;> rw [q] <;> simp <;> omega
      have e4 : (a &&& b) % 2 = (a % 2) * (b % 2) := by
        rcases Nat.mod_two_eq_zero_or_one a with h1 | h1 <;> rcases Nat.mod_two_eq_zero_or_one b with h2 | h2 <;> simp [Nat.and_mod_two_pow (n := 1), h1, h2, Nat.pow_one]
      rw [← e1, ← e2] at h
      rcases Nat.mod_two_eq_zero_or_one a with h1 | h1 <;> rcases Nat.mod_two_eq_zero_or_one b with h2 | h2 <;> rw [h1, h2] at e4 <;> omega
theorem bitXor_pp {x y : Int} (hx : 0 ≤ x) (hy : 0 ≤ y) : Builtin.bitXor x y = ((x.toNat ^^^ y.toNat : Nat) : Int) := by
  rw [bitXor_and, bitAnd_pp hx hy]
  have := xor_add x.toNat y.toNat
  omega
theorem xor_in {x y : Int} (hx : 0 ≤ x ∧ x < 1048576) (hy : 0 ≤ y ∧ y < 1048576) : 0 ≤ Builtin.bitXor x y ∧ Builtin.bitXor x y < 1048576 := by
  rw [bitXor_pp hx.1 hy.1]
  have := Nat.xor_lt_two_pow (x := x.toNat) (y := y.toNat) (n := 20) (by omega) (by omega)
  omega
theorem turned_in (x : Int) : 0 ≤ x.fmod 1048576 ∧ x.fmod 1048576 < 1048576 := by
  rw [Int.fmod_eq_emod_of_nonneg _ (by decide)]
  omega
theorem label_in (x : Int) : (if (x.fdiv 8).fmod 3 = 0 then Str.ofString "a" else if (x.fdiv 8).fmod 3 = 1 then Str.ofString "b" else Str.ofString "ab") ∈ [Str.ofString "a", Str.ofString "b", Str.ofString "ab"] := by
  split
  · exact .head _
  · split
    · exact .tail _ (.head _)
    · exact .tail _ (.tail _ (.head _))
theorem fmod_in {n m : Int} (h : 0 < m) : 0 ≤ n.fmod m ∧ n.fmod m < m := by
  rw [Int.fmod_eq_emod_of_nonneg _ (Int.le_of_lt h)]
  exact ⟨Int.emod_nonneg _ (by omega), Int.emod_lt_of_pos _ h⟩
theorem good_add {hs : List Home} {k : Int} {nm : Str} {md : Int} (h : GoodH hs) (h5 : hs.length < 5) (h0 : 0 ≤ k) (h1 : k < hs.length) (hn : nm ∈ [Str.ofString "a", Str.ofString "b", Str.ofString "ab"]) (hnot : (k, nm) ∉ (hs.drop 1).map fun h => (h.1, h.2.1)) (hm : 0 ≤ md ∧ md < 1048576) : GoodH (hs ++ [(k, nm, md)]) := by
  refine ⟨?_, fun x hx => ?_⟩
  · rw [List.map_append]
    exact .add h.1 (by rw [List.length_map]; exact h5) h0 (by rw [List.length_map]; exact h1) hn (by rw [← List.map_drop]; exact hnot)
  · rcases List.mem_append.mp hx with hx | hx
    · exact h.2 x hx
    · rw [List.mem_singleton.mp hx]; exact hm
theorem good_set {hs : List Home} {j : Nat} {x : Home} {md : Int} (h : GoodH hs) (hx : hs[j]? = some x) (hm : 0 ≤ md ∧ md < 1048576) : GoodH (hs.take j ++ [(x.1, x.2.1, md)] ++ hs.drop (j + 1)) := by
  have hj := (List.getElem?_eq_some_iff.mp hx).1
  have e : (hs.take j ++ [(x.1, x.2.1, md)] ++ hs.drop (j + 1)).map (fun h => (h.1, h.2.1)) = hs.map fun h => (h.1, h.2.1) := by
    conv => rhs; rw [← List.take_append_drop j hs, drop_at hx]
    simp
  refine ⟨e ▸ h.1, fun y hy => ?_⟩
  rcases List.mem_append.mp hy with hy | hy
  · rcases List.mem_append.mp hy with hy | hy
    · exact h.2 y (List.mem_of_mem_take hy)
    · rw [List.mem_singleton.mp hy]; exact hm
  · exact h.2 y (List.mem_of_mem_drop hy)
theorem pick_take {α : Type} (l : List α) {k : Int} (h0 : 0 ≤ k) : pickL l none (some k) = l.take k.toNat := by
  have := pick_to l k.toNat
  rwa [Int.zero_add, Int.toNat_of_nonneg h0] at this
theorem pick_drop {α : Type} (l : List α) {k : Int} (h0 : 0 ≤ k) (h1 : k < l.length) : pickL l (some (k + 1)) none = l.drop (k.toNat + 1) := by
  unfold pickL kms_lo kms_hi
  have e : min (k + 1).toNat l.length = k.toNat + 1 := by omega
  simp only [if_neg (show ¬ k + 1 < 0 by omega), e]
  exact List.take_of_length_le (by rw [List.length_drop]; omega)
theorem pick_len {α : Type} (l : List α) (lo hi : Option Int) : (pickL l lo hi).length ≤ l.length := by
  unfold pickL
  rw [List.length_take, List.length_drop]
  omega
section
open PyProof.Rows.LCg
variable {prog : Program} {w : World} {A : Around} {E : Value → Shared → Prop} {s : Shared} {h₀ : Heap} {L : Addr} {m : Str → Option Value} {env : Env}
theorem CEnd.mono {s₁ s₂ : Shared} {C D : Addr} {oC : Obj} {ys : List Value} {own news : List (Addr × Obj)} {r r' : Value → List (Addr × Obj) → Prop} {y : Value} (x : CEnd h₀ L m s₁ C oC D ys own news r y s₂) (k : ∀ nw, r y nw → r' y nw) : CEnd h₀ L m s₁ C oC D ys own news r' y s₂ :=
  let ⟨h', tk, news', e, F, N, n, q⟩ := x; ⟨h', tk, news', e, F, N, n, k _ q⟩
theorem CEnd.one {s₁ : Shared} {C D D' : Addr} {oC o' : Obj} {ys : List Value} {own news : List (Addr × Obj)} {r : Value → List (Addr × Obj) → Prop} {y : Value} {h' : Heap} {tk : Nat} (F : Fr h₀ L h' m) (N : News h₀ L h' ((D', o') :: (C, oC) :: (D, lst ys) :: (news ++ own))) (l1 : C < D' ∧ D < D' ∧ AllLt D' (news ++ own))
    (k : r y ((D', o') :: news)) : CEnd h₀ L m s₁ C oC D ys own news r y { s₁ with heap := h', toks := tk } := by
  refine ⟨h', tk, (D', o') :: news, rfl, F, fun p hp => N p ?_, fun p hp => ?_, k⟩
  · rcases List.mem_cons.mp hp with rfl | hp
    · exact .tail _ (.head _)
    · rcases List.mem_cons.mp hp with rfl | hp
      · exact .tail _ (.tail _ (.head _))
      · rcases List.mem_cons.mp hp with rfl | hp
        · exact .head _
        · exact .tail _ (.tail _ (.tail _ hp))
  · rcases List.mem_cons.mp hp with rfl | hp
    · exact .inr ⟨Ne.symm (Nat.ne_of_lt l1.1), Ne.symm (Nat.ne_of_lt l1.2.1), fun q hq => Nat.ne_of_lt (allLt_mem l1.2.2 q (List.mem_append_right _ hq))⟩
    · exact .inl hp
theorem comp_pairs {elt : PySem.Expr} {x : Str} {px : Pos} {scope : Scope} {cl : List (Str × Addr)} {ax KL : Addr} {vs1 : List Value} {hs1 : List Home} {news : List (Addr × Obj)} {Fin : Shared → Addr → List Value → List (Addr × Obj) → Prop}
    (hh : A.handled = none) (hkind : scope.kind = .function) (hx : scope.names.lookup x = some .local) (F : Fr h₀ L s.heap m) (N : News h₀ L s.heap news) (hl : s.heap.IsList ax vs1.toArray) (hne : ax ≠ L) (hz : vs1.length ≤ 100) (hT : Two (HomeIn news) vs1 hs1)
    (step : ∀ g (i : Nat) v y ys news' own C D oC m₂ h tk (E' : Value → Shared → Prop), hs1[i]? = some y → HomeIn news' v y → m₂ x = some v → (∀ p ∈ news, p ∈ news') → NsObj oC m₂ → Fr h₀ L h m → News h₀ L h ((C, oC) :: (D, lst ys) :: (news' ++ own)) →
      wpAny (model prog w) A (eval elt (compEnvC scope cl C env)) (CEnd h₀ L m { s with heap := h, toks := tk } C oC D ys own news' (fun z news'' => (∀ p ∈ news', p ∈ news'') ∧ PairIn KL news'' z (y.1, y.2.1))) E' { { s with heap := g } with heap := h, toks := tk })
    (fin : ∀ g D ys news', (∀ p ∈ news, p ∈ news') → Two (PairIn KL news') ys (hs1.map fun h => (h.1, h.2.1)) → Fin { s with heap := g } D ys news') :
    wpAny (model prog w) A (pyIter (.ref ax)) (fun it s₂ => CompAt prog w A h₀ L m env elt (.Name x px) scope cl Fin it s₂) E s := by
  refine comp_list (fun i ys nw => (∀ p ∈ news, p ∈ nw) ∧ Two (PairIn KL nw) ys ((hs1.take i).map fun h => (h.1, h.2.1))) hh hkind hx F N hl hne (by rw [List.size_toArray, sizeLine_eq]; omega) ⟨fun _ h => h, .nil⟩ ?_ ?_
  · intro g i v ys news' own C D oC m₂ h tk E' hv hyl hm inv hoC F' N'
    obtain ⟨y, hy, hH⟩ := hT.get (i := i) (by simpa using hv)
    refine wpAny_mono (step g i v y ys news' own C D oC m₂ h tk E' hy (hH.mono inv.1) hm inv.1 hoC F' N') (fun z s' q => q.mono fun nw r => ⟨fun p hp => r.1 p (inv.1 p hp), ?_⟩) fun _ _ e => e
    have e : hs1.take (i + 1) = hs1.take i ++ [y] := by rw [List.take_add_one, hy]; rfl
    rw [e, List.map_append]
    exact (inv.2.mono fun _ _ q => q.mono r.1).snoc r.2
  · intro g D ys news' hyl inv off
    refine fin g D ys news' inv.1 ?_
    have e := inv.2
    rwa [List.size_toArray, hT.length, List.take_length] at e
end
theorem good0 : GoodH [(0, Str.ofString "local", 17389), (0, Str.ofString "a", 17896), (1, Str.ofString "b", 16840)] :=
  ⟨.base, fun h hh => by
    rcases List.mem_cons.mp hh with rfl | hh
    · decide
    · rcases List.mem_cons.mp hh with rfl | hh
      · decide
      · rw [List.mem_singleton.mp hh]; decide⟩
theorem homes_init {S l a b c : Addr} {oS oa ob oc : Obj} {m : Str → Option Value} {k n1 n2 n3 : Nat} {a1 a2 a3 b1 b2 b3 c1 c2 c3 : Tok} (q1 : m (Str.ofString "homes") = some (.ref l)) (ca : oa.cls = .type "tuple") (cb : ob.cls = .type "tuple") (cc : oc.cls = .type "tuple")
    (da : oa.data = .seq #[.int 0 a1, .str (Str.ofString "local") a2, .int 17389 a3] n1) (db : ob.data = .seq #[.int 0 b1, .str (Str.ofString "a") b2, .int 17896 b3] n2) (dc : oc.data = .seq #[.int 1 c1, .str (Str.ofString "b") c2, .int 16840 c3] n3) :
    ∃ n₀, PH [(S, oS)] 0 m n₀ ∧ ∀ p ∈ n₀, p ∈ [(S, oS), (l, W.listOf (List.toArray [.ref a, .ref b, .ref c]) k), (c, oc), (b, ob), (a, oa)] := by
  refine ⟨(l, W.listOf (List.toArray [.ref a, .ref b, .ref c]) k) :: ([(S, oS)] ++ [(c, oc), (b, ob), (a, oa)]), ⟨l, _, k, [(c, oc), (b, ob), (a, oa)], _, q1, rfl, .cons ⟨a, oa, a1, a2, a3, n1, rfl, .tail _ (.tail _ (.head _)), ca, da⟩ (.cons ⟨b, ob, b1, b2, b3, n2, rfl, .tail _ (.head _), cb, db⟩ (.cons ⟨c, oc, c1, c2, c3, n3, rfl, .head _, cc, dc⟩ .nil)), good0, fun p hp => ?_⟩, fun p hp => ?_⟩
  · rcases List.mem_cons.mp hp with rfl | hp
    · exact cc
    · rcases List.mem_cons.mp hp with rfl | hp
      · exact cb
      · rw [List.mem_singleton.mp hp]; exact ca
  · rcases List.mem_cons.mp hp with rfl | hp
    · exact .tail _ (.head _)
    · rcases List.mem_cons.mp hp with rfl | hp
      · exact .head _
      · exact .tail _ (.tail _ hp)
theorem homes_else {h₀ h8 : Heap} {L I S D T : Addr} {oI oS oT : Obj} {all nw : List (Addr × Obj)} {hvs : List Value} {d tk n : Nat} {hs : List Home} {x : Home} {kk md : Int} {t1 t2 t3 : Tok} {s₁ : Shared} {R : (Str → Option Value) → List (Addr × Obj) → Prop}
    (_N : News h₀ L h8 all)
    (he : ∀ (nw' : List (Addr × Obj)) (vs' : List Value) (k' : Nat) (hs' : List Home), (∀ p ∈ nw', p ∈ all) → (D, W.listOf (List.toArray vs') k') ∈ all → (∀ p ∈ nw', p.2.cls = .type "tuple") → Two (HomeIn nw') vs' hs' → GoodH hs' → UnrEndW h₀ L s₁ [(I, oI)] (fun m' n' => SubL [(S, oS)] n' ∧ R m' n') { s₁ with heap := h8, toks := tk })
    (hD : (D, W.listOf (List.toArray (pickL hvs none (some kk) ++ [.ref T] ++ pickL hvs (some (kk + 1)) none)) d) ∈ all) (hTm : (T, oT) ∈ all) (hTc : oT.cls = .type "tuple") (hTd : oT.data = .seq #[.int x.1 t1, .str x.2.1 t2, .int md t3] n) (hw : ∀ p ∈ nw, p ∈ all) (cw : ∀ p ∈ nw, p.2.cls = .type "tuple")
    (hT : Two (HomeIn nw) hvs hs) (hG : GoodH hs) (h0 : 0 ≤ kk) (h1 : kk < hvs.length) (hx : hs[kk.toNat]? = some x) (hm : 0 ≤ md ∧ md < 1048576) : UnrEndW h₀ L s₁ [(I, oI)] (fun m' n' => SubL [(S, oS)] n' ∧ R m' n') { s₁ with heap := h8, toks := tk } := by
  have hT' : Two (HomeIn ((T, oT) :: nw)) hvs hs := hT.mono fun _ _ q => HomeIn.mono q fun _ h => .tail _ h
  refine he ((T, oT) :: nw) _ d _ (fun p hp => ?_) hD (fun p hp => ?_) ?_ (good_set hG hx hm)
  · rcases List.mem_cons.mp hp with rfl | hp
    · exact hTm
    · exact hw p hp
  · rcases List.mem_cons.mp hp with rfl | hp
    · exact hTc
    · exact cw p hp
  · rw [pick_take hvs h0, pick_drop hvs h0 h1]
    exact ((hT'.take _).snoc ⟨T, oT, t1, t2, t3, n, rfl, .head _, hTc, hTd⟩).append (hT'.drop _)
theorem homes_then {h₀ h8 : Heap} {L I S D T : Addr} {oI oS oT : Obj} {all nw : List (Addr × Obj)} {hvs : List Value} {d tk n : Nat} {hs : List Home} {kk md : Int} {nm : Str} {t1 t2 t3 : Tok} {s₁ : Shared} {R : (Str → Option Value) → List (Addr × Obj) → Prop}
    (_N : News h₀ L h8 all)
    (he : ∀ (nw' : List (Addr × Obj)) (vs' : List Value) (k' : Nat) (hs' : List Home), (∀ p ∈ nw', p ∈ all) → (D, W.listOf (List.toArray vs') k') ∈ all → (∀ p ∈ nw', p.2.cls = .type "tuple") → Two (HomeIn nw') vs' hs' → GoodH hs' → UnrEndW h₀ L s₁ [(I, oI)] (fun m' n' => SubL [(S, oS)] n' ∧ R m' n') { s₁ with heap := h8, toks := tk })
    (hD : (D, W.listOf (List.toArray (hvs ++ [.ref T])) d) ∈ all) (hTm : (T, oT) ∈ all) (hTc : oT.cls = .type "tuple") (hTd : oT.data = .seq #[.int kk t1, .str nm t2, .int md t3] n) (hw : ∀ p ∈ nw, p ∈ all) (cw : ∀ p ∈ nw, p.2.cls = .type "tuple")
    (hT : Two (HomeIn nw) hvs hs) (hG : GoodH hs) (h5 : (hvs.length : Int) < 5) (h0 : 0 ≤ kk) (h1 : kk < hvs.length) (hn : nm ∈ [Str.ofString "a", Str.ofString "b", Str.ofString "ab"]) (hnot : (kk, nm) ∉ (hs.drop 1).map fun h => (h.1, h.2.1)) (hm : 0 ≤ md ∧ md < 1048576) : UnrEndW h₀ L s₁ [(I, oI)] (fun m' n' => SubL [(S, oS)] n' ∧ R m' n') { s₁ with heap := h8, toks := tk } := by
  have hlen := hT.length
  have hT' : Two (HomeIn ((T, oT) :: nw)) hvs hs := hT.mono fun _ _ q => HomeIn.mono q fun _ h => .tail _ h
  refine he ((T, oT) :: nw) _ d _ (fun p hp => ?_) hD (fun p hp => ?_) (hT'.snoc (b := (kk, nm, md)) ⟨T, oT, t1, t2, t3, n, rfl, .head _, hTc, hTd⟩) (good_add hG (by omega) h0 (by omega) hn hnot hm)
  · rcases List.mem_cons.mp hp with rfl | hp
    · exact hTm
    · exact hw p hp
  · rcases List.mem_cons.mp hp with rfl | hp
    · exact hTc
    · exact cw p hp
theorem homes_end {h₀ h8 : Heap} {L I S H' : Addr} {oI oS : Obj} {m : Str → Option Value} {all nw' : List (Addr × Obj)} {vs' : List Value} {k' tk i : Nat} {hs' : List Home} {s₁ : Shared} {R : (Str → Option Value) → List (Addr × Obj) → Prop}
    (IH : ∀ m' n', PH [(S, oS)] (i + 1) m' n' → R m' n') (F : Fr h₀ L h8 m) (N : News h₀ L h8 all) (hI : (I, oI) ∈ all) (hS : (S, oS) ∈ all) (hH : (H', W.listOf (List.toArray vs') k') ∈ all) (hw : ∀ p ∈ nw', p ∈ all) (cI : oI.cls = .type "list_iterator") (cS : oS.cls = .type "list")
    (cw : ∀ p ∈ nw', p.2.cls = .type "tuple") (q1 : m (Str.ofString "homes") = some (.ref H')) (hT : Two (HomeIn nw') vs' hs') (hG : GoodH hs') :
    UnrEndW h₀ L s₁ [(I, oI)] (fun m' n' => SubL [(S, oS)] n' ∧ R m' n') { s₁ with heap := h8, toks := tk } := by
  refine UnrEndW.own ((H', W.listOf (List.toArray vs') k') :: ([(S, oS)] ++ nw')) F N (fun p hp => ?_) (fun p hp => ?_) (fun p hp q hq => ?_) ⟨And.intro (.tail _ (.head _)) trivial, IH _ _ ⟨H', vs', k', nw', hs', q1, rfl, hT, hG, cw⟩⟩
  · rw [List.mem_singleton.mp hp]; exact hI
  · rcases List.mem_cons.mp hp with rfl | hp
    · exact hH
    · rcases List.mem_cons.mp hp with rfl | hp
      · exact hS
      · exact hw p hp
  · rw [List.mem_singleton.mp hq]
    rcases List.mem_cons.mp hp with rfl | hp
    · exact ne_cls N hH hI (show (W.listOf _ _).cls = .type "list" from rfl) cI (show "list" ≠ "list_iterator" by decide)
    · rcases List.mem_cons.mp hp with rfl | hp
      · exact ne_cls N hS hI cS cI (show "list" ≠ "list_iterator" by decide)
      · exact ne_cls N (o := p.2) (hw p hp) hI (cw p hp) cI (show "tuple" ≠ "list_iterator" by decide)
section
theorem kw_Pz_2 : True := by
  k_with "eval ListComp" => ((k_here; refine hidT_intro ?_))
  k_with "compareOp NotIn ref ref" => ((k_here; refine hidT_intro ?_))
  k_with "subscriptTail Name Slice ref ref" => ((k_here; (with_reducible show wpAny _ _ (subscriptTail _ (PySem.Expr.Slice _ _ none _) (Value.ref _) (Value.ref _)) _ _ _); k_dflt (refine' slice_tuple_to2 (by k_asm) (by k_asm) (by exact isTup_news (by k_asm) (by repeat (first | exact List.mem_cons_self .. | with_reducible assumption | exact List.mem_append_left _ (by with_reducible assumption) | refine List.mem_cons_of_mem _ ?_)) (by with_reducible assumption) (by with_reducible assumption)) ?_ (by with_unfolding_all rfl) (by kmk_pure)); intro DpZk hpZk FpZk NpZk l1Zk; (try k_lt l1Zk); (try k_sweep); (try dsimp only)))
  exact trivial

theorem sp_homes (w : World) (ax : Addr) (ns : List Int) (hl : ns.length ≤ 63) :
    SpecN w 238 12 80 [.ref ax] (fun h => ∃ vs, h.IsList ax (List.toArray vs) ∧ IntsAre vs ns) (fun r nw => ∃ b vs k hs, r = .ref b ∧ (b, W.listOf (List.toArray vs) k) ∈ nw ∧ Two (HomeIn nw) vs hs ∧ GoodH hs) := by
  intro p loose mean mg mb dp un gd cn cs a ccd cl outer A₀ base h₀ L m news s Q E B F X N T hk hd hu hH hret
  ((have : PySem.Challenge.rw_ik0073_01 = PySem.Challenge.rw_ik0073_01 ∧ Mine.hd.heap_1 = Mine.hd.heap_1 := (by k_fill; exact ⟨rfl, rfl⟩)); clear this; refine wpAny_call ?_; k_dflt (refine' enterN ?k1 ?k2 ?k3 ?k4 ?k5 ?kA ?kF ?kK ?k6 ?k7 ?k8 ?k9 ?kB ?_ ?c2 ?c3 ?c4 ?c5; (case kA => exact rfl); (case kF => exact rfl); (case kK => assumption); (case k1 => k_asm); (case k2 => k_asm); (case k3 => k_asm); (case k4 => k_asm); (case k5 => k_asm); (case k6 => k_is); (case k7 => k_is); (case k8 => ktr_room); (case k9 => exact BindsTo.of_eq rfl); (case c5 => decide); (case kB => exact locs rfl); (case c2 => exact rfl); (case c3 => exact rfl); (case c4 => exact rfl); k_whole; intro _ _ _ _ _ _ _ _ _; (try dsimp only); (try k_fold)))
  rename_i g L₁ h₁ FG F1 N1 B1 X1 T1
  obtain ⟨u0, F0⟩ := Fr.o1 F1 (a := Str.ofString "script") rfl
  clear F1
  k_gentoks
  obtain ⟨vs, hv, hI⟩ := hH
  replace hv := isL_keep hv FG
  have e1 := hI.length
  have hvl : vs.length ≤ 100000 := by omega
  k_steps
  refine hidT_open (For_turns (by assumption) ?_)
  k_steps
  refine' iter_listTurns ?hh ?F ?N ?hm ?hc ?hd ?_
  case hh => rfl
  case F => assumption
  case N => assumption
  case hm => exact List.mem_cons_self ..
  case hc => exact rfl
  case hd => exact rfl
  intro I lI
  refine rest_indK PH ?_ ?_ ?_
  · exact homes_init rfl rfl rfl rfl rfl rfl rfl
  · intro i e r m₁ n₁ he hP IH
    obtain ⟨H, hvs, k, nw, hs, q1, rfl, hT, hG, hcl⟩ := hP
    obtain ⟨u, hm⟩ := over1 q1
    subst hm
    clear q1
    obtain ⟨v, rfl, hv9⟩ := valItem he
    obtain ⟨n, t, rfl⟩ := ints_mem hI v (pick_mem (List.mem_of_getElem? hv9))
    have hlen := shape_len hG.1
    rw [List.length_map, ← hT.length] at hlen
    obtain ⟨hl3, hl5⟩ := hlen
    have hkin := fmod_in (n := n) (m := (hvs.length : Int)) (by omega)
    have hlt := hT.length
    obtain ⟨x, hx⟩ : ∃ x, hs[(n.fmod (hvs.length : Int)).toNat]? = some x := ⟨_, List.getElem?_eq_getElem (by omega)⟩
    obtain ⟨xv, hxv, xt, xo, x1, x2, x3, xn, rfl, hxm, hxc, hxd⟩ := hT.get' hx
    have hp1 := pick_len hvs none (some (n.fmod (hvs.length : Int)))
    have hp2 := pick_len hvs (some (n.fmod (hvs.length : Int) + 1)) none
    have hquick : QuickIte := True.intro
    k_steps
    · (rename Addr => KL)
      refine hidT_open (ListComp_G (F₀ := by k_asm) (cl := []) (by rfl) (by decide) (by rfl) (by decide) ?_)
      k_steps
      (rename Fr _ _ _ _ => F9)
      (rename News _ _ _ _ => N9)
      refine comp_pairs (KL := KL) rfl rfl rfl F9 N9 (listAt N9 (List.mem_cons_self ..)) (N9 _ (List.mem_cons_self ..)).2.1 (by rw [pick_from1, List.length_drop]; omega) (by rw [pick_from1]; exact (hT.drop 1).mono fun _ _ q => HomeIn.mono q (fun p hp => by repeat (first | exact hp | refine List.mem_cons_of_mem _ ?_))) ?step ?fin
      case step =>
        intro gh i' v y ys news' own C D oC m₂ h tk E' hy hH hm hsub hoC F' N'
        obtain ⟨yt, yo, y1, y2, y3, yn, rfl, hym, hyc, hyd⟩ := hH
        have hKLm := hsub _ (List.mem_cons_of_mem _ (List.mem_cons_self ..))
        dsimp only
        k_steps
        (rename Addr => D9)
        (rename _ ∧ _ ∧ AllLt _ _ => l9)
        exact CEnd.one (by assumption) (by assumption) l9 ⟨fun p hp => .tail _ hp, D9, _, y1, y2, _, rfl, Ne.symm (Nat.ne_of_lt (allLt_mem l9.2.2 _ (List.mem_append_left _ hKLm))), .head _, rfl, rfl⟩
      case fin =>
        intro gh D ys news' hsub hP
        unfold FinQ
        intro h9 tk9 F8 N8
        have hHm : (H, W.listOf (List.toArray hvs) k) ∈ news' := hsub _ (by repeat (first | exact List.mem_cons_self .. | with_reducible assumption | refine List.mem_cons_of_mem _ ?_))
        have hxm' : (xt, xo) ∈ news' := hsub _ (by repeat (first | exact List.mem_cons_self .. | with_reducible assumption | refine List.mem_cons_of_mem _ ?_))
        have hKLm := hsub _ (List.mem_cons_of_mem _ (List.mem_cons_self ..))
        have hIm := hsub (I, _) (by repeat (first | exact List.mem_cons_self .. | with_reducible assumption | refine List.mem_cons_of_mem _ ?_))
        have hSm := hsub (_, W.listOf (List.toArray (pickL vs none (some 8))) _) (by repeat (first | exact List.mem_cons_self .. | with_reducible assumption | refine List.mem_cons_of_mem _ ?_))
        have hnw : ∀ p ∈ nw, p ∈ news' := fun p hp => hsub p (by repeat (first | exact hp | refine List.mem_cons_of_mem _ ?_))
        k_steps
        refine hidT_open (notin_pairs N8 (listAt N8 (List.mem_cons_self ..)) (hP.mono fun _ _ q => PairIn.mono q fun p hp => List.mem_cons_of_mem _ hp) (isTup_news N8 (List.mem_cons_of_mem _ hKLm) rfl rfl) (by ke_room) ?_)
        k_steps
        · (rename Fr _ _ _ _ => F9)
          (rename News _ _ _ _ => N9)
          refine' homes_else N9 ?he ?hD ?hTm ?c1 ?c2 ?hw hcl hT hG hkin.1 hkin.2 hx ?xm
          case hD => exact List.mem_cons_self ..
          case hTm => exact (by repeat (first | exact List.mem_cons_self .. | with_reducible assumption | refine List.mem_cons_of_mem _ ?_))
          case c1 => rfl
          case c2 => rfl
          case hw => exact fun p hp => by repeat (first | exact hnw p hp | refine List.mem_cons_of_mem _ ?_)
          case xm => exact xor_in (hG.2 _ (List.mem_of_getElem? hx)) (turned_in _)
          case he => exact fun nw' vs' k' hs' a b c d e => homes_end IH F9 N9 (by repeat (first | exact List.mem_cons_self .. | with_reducible assumption | refine List.mem_cons_of_mem _ ?_)) (by repeat (first | exact List.mem_cons_self .. | with_reducible assumption | refine List.mem_cons_of_mem _ ?_)) b a (by assumption) rfl c rfl d e
        · (rename Fr _ _ _ _ => F9)
          (rename News _ _ _ _ => N9)
          (rename ¬ _ ∈ _ => hno)
          refine' homes_then N9 ?he ?hD ?hTm ?c1 ?c2 ?hw hcl hT hG (by assumption) hkin.1 hkin.2 (label_in n) hno ?xm
          case hD => exact List.mem_cons_self ..
          case hTm => exact (by repeat (first | exact List.mem_cons_self .. | with_reducible assumption | refine List.mem_cons_of_mem _ ?_))
          case c1 => rfl
          case c2 => rfl
          case hw => exact fun p hp => by repeat (first | exact hnw p hp | refine List.mem_cons_of_mem _ ?_)
          case xm => exact xor_in (by decide) (turned_in _)
          case he => exact fun nw' vs' k' hs' a b c d e => homes_end IH F9 N9 (by repeat (first | exact List.mem_cons_self .. | with_reducible assumption | refine List.mem_cons_of_mem _ ?_)) (by repeat (first | exact List.mem_cons_self .. | with_reducible assumption | refine List.mem_cons_of_mem _ ?_)) b a (by assumption) rfl c rfl d e
    · (rename Fr _ _ _ _ => F9)
      (rename News _ _ _ _ => N9)
      refine' homes_else N9 ?he ?hD ?hTm ?c1 ?c2 ?hw hcl hT hG hkin.1 hkin.2 hx ?xm
      case hD => exact List.mem_cons_self ..
      case hTm => exact (by repeat (first | exact List.mem_cons_self .. | with_reducible assumption | refine List.mem_cons_of_mem _ ?_))
      case c1 => rfl
      case c2 => rfl
      case hw => exact (fun p hp => by repeat (first | exact hp | refine List.mem_cons_of_mem _ ?_))
      case xm => exact xor_in (hG.2 _ (List.mem_of_getElem? hx)) (turned_in _)
      case he => exact fun nw' vs' k' hs' a b c d e => homes_end IH F9 N9 (by repeat (first | exact List.mem_cons_self .. | with_reducible assumption | refine List.mem_cons_of_mem _ ?_)) (by repeat (first | exact List.mem_cons_self .. | with_reducible assumption | refine List.mem_cons_of_mem _ ?_)) b a (by assumption) rfl c rfl d e
  · intro m₁ n₁ hP
    obtain ⟨H, hvs, k, nw, hs, q1, rfl, hT, hG, hcl⟩ := hP
    obtain ⟨u, hm⟩ := over1 q1
    subst hm
    clear q1
    k_steps
    all_goals (exact hret _ _ _ _ (by k_asm) (newsBoth (by assumption) (by assumption)) (newsMany N FG (by assumption)) ⟨_, _, _, _, rfl, List.mem_cons_self .., hT.mono fun _ _ q => HomeIn.mono q fun _ h => .tail _ (.tail _ h), hG⟩)
end
theorem kw_Pz_3 : True := by
  k_with_none
  k_with "ite" => (first | with_reducible refine tt_then ?_ | with_reducible refine ff_else ?_)
  k_with "call ref" => ((k_here; (with_reducible show wpAny _ _ (call (Value.ref 186) [Value.int _ _]) _ _ _); k_dflt (refine' SpecV.use (sp_isfmt _ _ _) (by k_asm) (by k_asm) (by k_asm) (by k_asm) (by k_asm) (by first | exact rfl | assumption) (by ktr_room) (by ktr_units) ?_); intro r9Zk h9Zk tk9Zk F9Zk N9Zk hr9Zk; obtain ⟨u9Zk, hr9Zk⟩ := hr9Zk; subst hr9Zk; (try k_sweep); (try dsimp only); (try k_fold)))
  k_with "getMethod ref" => ((k_here; (with_reducible show wpAny _ _ (getMethod (Value.ref 43) _ _) _ _ _); k_dflt (refine' re_method (by k_in) ?_)))
  k_with "call builtin:re.Pattern.search" => ((k_here; k_dflt (refine' re_search (by k_in) (by first | assumption | omega) (by with_reducible assumption) ?_)))
  k_with "call ref" => ((k_here; (with_reducible show wpAny _ _ (call (Value.ref 50) [Value.str _ _]) _ _ _); k_dflt (refine' SpecV.use (sp_hdn _ _ _ (by first | assumption | omega) (by with_reducible assumption)) (by k_asm) (by k_asm) (by k_asm) (by k_asm) (by k_asm) (by first | exact rfl | assumption) (by ktr_room) (by ktr_units) ?_); intro r9Zk h9Zk tk9Zk F9Zk N9Zk hr9Zk; subst hr9Zk; (try k_sweep); (try dsimp only); (try k_fold)))
  k_with "call ref" => ((k_here; (with_reducible show wpAny _ _ (call (Value.ref 151) [Value.str _ _]) _ _ _); k_dflt (refine' SpecV.use (sp_getsep _ _ _) (by k_asm) (by k_asm) (by k_asm) (by k_asm) (by k_asm) (by first | exact rfl | assumption) (by ktr_room) (by ktr_units) ?_); intro r9Zk h9Zk tk9Zk F9Zk N9Zk hr9Zk; obtain ⟨u9Zk, hr9Zk⟩ := hr9Zk; subst hr9Zk; (try k_sweep); (try dsimp only); (try k_fold)))
  k_with "call builtin:issubclass" => ((k_here; (with_reducible show wpAny _ _ (call (Value.builtin "issubclass") [Value.type "str", Value.ref _]) _ _ _); k_dflt (refine' call_issub (by exact News.get (by k_asm) (by k_mem)) (by exact rfl) (by exact rfl) ?_)))
  k_with "call ref" => ((k_here; (with_reducible show wpAny _ _ (call (Value.ref 137) [Value.str _ _]) _ _ _); k_dflt (refine' SpecV.use (sp_fspath _ _ _) (by k_asm) (by k_asm) (by k_asm) (by k_asm) (by k_asm) (by first | exact rfl | assumption) (by ktr_room) (by ktr_units) ?_); intro r9Zk h9Zk tk9Zk F9Zk N9Zk hr9Zk; obtain ⟨u9Zk, hr9Zk⟩ := hr9Zk; subst hr9Zk; (try k_sweep); (try dsimp only); (try k_fold)))
  k_with "call ref" => ((k_here; (with_reducible show wpAny _ _ (call (Value.ref 172) [Value.str _ _]) _ _ _); k_dflt (refine' SpecV.use (sp_dirname _ _ _ (by first | assumption | omega)) (by k_asm) (by k_asm) (by k_asm) (by k_asm) (by k_asm) (by first | exact rfl | assumption) (by ktr_room) (by ktr_units) ?_); intro r9Zk h9Zk tk9Zk F9Zk N9Zk hr9Zk; obtain ⟨u9Zk, hr9Zk⟩ := hr9Zk; subst hr9Zk; (try k_sweep); (try dsimp only); (try k_fold)))
  k_with "call ref" => ((k_here; (with_reducible show wpAny _ _ (call (Value.ref 165) [Value.str _ _]) _ _ _); k_dflt (refine' SpecO.use (sp_splitroot _ _ _ (by first | assumption | omega) (by assumption) (by assumption)) (by k_asm) (by k_asm) (by k_asm) (by k_asm) (by k_asm) (by first | exact rfl | assumption) (by ktr_room) (by ktr_units) ?_); intro b9Zk o9Zk h9Zk tk9Zk F9Zk N9Zk l9Zk hr9Zk; obtain ⟨t91Zk, t92Zk, t93Zk, n9Zk, hr9Zk⟩ := hr9Zk; subst hr9Zk; (try simp only [AllNe, and_true] at l9Zk); (try k_sweep); (try dsimp only); (try k_fold)))
  k_with "call ref" => ((k_here; (with_reducible show wpAny _ _ (call (Value.ref 158) [Value.str _ _, Value.str _ _]) _ _ _); k_dflt (refine' SpecV.use (sp_join _ _ _ _ _ (by first | assumption | omega) (by first | assumption | omega)) (by k_asm) (by k_asm) (by k_asm) (by k_asm) (by k_asm) (by first | exact rfl | assumption) (by ktr_room) (by ktr_units) ?_); intro r9Zk h9Zk tk9Zk F9Zk N9Zk hr9Zk; obtain ⟨u9Zk, hr9Zk⟩ := hr9Zk; subst hr9Zk; (try k_sweep); (try dsimp only); (try k_fold)))
  k_with "exec For Tuple Call cons nil" => ((k_here; (rename Fr _ _ _ _ => lFpZk); (with_unfolding_all refine' For_turns lFpZk ?_; k_whole)))
  k_with "call ref" => ((k_here; (with_reducible show wpAny _ _ (call (Value.ref 233) [Value.int _ _]) _ _ _); k_dflt (refine' SpecV.use (sp_filemode _ _ _) (by k_asm) (by k_asm) (by k_asm) (by k_asm) (by k_asm) (by first | exact rfl | assumption) (by ktr_room) (by ktr_units) ?_); intro r9Zk h9Zk tk9Zk F9Zk N9Zk hr9Zk; obtain ⟨u9Zk, hr9Zk⟩ := hr9Zk; subst hr9Zk; (try k_sweep); (try dsimp only); (try k_fold)))
  k_with "call ref" => ((k_here; (with_reducible show wpAny _ _ (call (Value.ref 193) [Value.int _ _]) _ _ _); k_dflt (refine' SpecV.use (sp_isdir _ _ _) (by k_asm) (by k_asm) (by k_asm) (by k_asm) (by k_asm) (by first | exact rfl | assumption) (by ktr_room) (by ktr_units) ?_); intro r9Zk h9Zk tk9Zk F9Zk N9Zk hr9Zk; subst hr9Zk; (try k_sweep); (try dsimp only); (try k_fold)))
  k_with "call ref" => ((k_here; (with_reducible show wpAny _ _ (call (Value.ref 64) [Value.str _ _]) _ _ _); k_dflt (refine' SpecV.use (sp_reach _ _ _ (by first | assumption | omega) (by with_reducible assumption)) (by k_asm) (by k_asm) (by k_asm) (by k_asm) (by k_asm) (by first | exact rfl | assumption) (by ktr_room) (by ktr_units) ?_); intro r9Zk h9Zk tk9Zk F9Zk N9Zk hr9Zk; obtain ⟨u9Zk, hr9Zk⟩ := hr9Zk; subst hr9Zk; (try k_sweep); (try dsimp only); (try k_fold)))
  k_with "call ref" => ((k_here; (with_reducible show wpAny _ _ (call (Value.ref 57) [Value.str _ _, Value.str _ _]) _ _ _); k_dflt (refine' SpecV.use (sp_dm _ _ _ _ _ (by first | assumption | omega) (by first | assumption | omega) (by with_reducible assumption) (by with_reducible assumption)) (by k_asm) (by k_asm) (by k_asm) (by k_asm) (by k_asm) (by first | exact rfl | assumption) (by ktr_room) (by ktr_units) ?_); intro r9Zk h9Zk tk9Zk F9Zk N9Zk hr9Zk; subst hr9Zk; (try k_sweep); (try dsimp only); (try k_fold)))
  k_with "call ref" => ((k_here; (with_reducible show wpAny _ _ (call (Value.ref 179) [Value.str _ _]) _ _ _); k_dflt (refine' SpecV.use (sp_norm _ _ _ (by first | assumption | omega) (by assumption) (by assumption) (by assumption) (by assumption) (by assumption)) (by k_asm) (by k_asm) (by k_asm) (by k_asm) (by k_asm) (by first | exact rfl | assumption) (by ktr_room) (by ktr_units) ?_); intro r9Zk h9Zk tk9Zk F9Zk N9Zk hr9Zk; obtain ⟨u9Zk, hr9Zk⟩ := hr9Zk; subst hr9Zk; (try k_sweep); (try dsimp only); (try k_fold)))
  k_with "call ref" => ((k_here; (with_reducible show wpAny _ _ (call (Value.ref 259) [Value.str _ _]) _ _ _); k_dflt (refine' SpecV.use (sp_host _ _ _ (by first | assumption | omega) (by with_reducible assumption) (by with_reducible assumption)) (by k_asm) (by k_asm) (by k_asm) (by k_asm) (by k_asm) (by first | exact rfl | assumption) (by ktr_room) (by ktr_units) ?_); intro r9Zk h9Zk tk9Zk F9Zk N9Zk hr9Zk; obtain ⟨u9Zk, hr9Zk⟩ := hr9Zk; subst hr9Zk; (try k_sweep); (try dsimp only); (try k_fold)))
  k_with "call ref" => ((k_here; (with_reducible show wpAny _ _ (call (Value.ref 266) [Value.str _ _, Value.str _ _, Value.int _ _, Value.str _ _]) _ _ _); k_dflt (refine' SpecV.use (sp_signs _ _ _ _ _ _ _ _ _ (by with_reducible assumption) (by with_reducible assumption) (by with_reducible assumption) (by with_reducible assumption) (by with_reducible assumption) (by with_reducible assumption) (by with_reducible assumption) (by with_reducible assumption) (by with_reducible assumption) (by with_reducible assumption) (by with_reducible assumption)) (by k_asm) (by k_asm) (by k_asm) (by k_asm) (by k_asm) (by first | exact rfl | assumption) (by ktr_room) (by ktr_units) ?_); intro r9Zk h9Zk tk9Zk F9Zk N9Zk hr9Zk; obtain ⟨u9Zk, hr9Zk⟩ := hr9Zk; subst hr9Zk; (try k_sweep); (try dsimp only); (try k_fold)))
  k_with "exec For Name Call cons nil" => ((k_here; refine hidT_intro ?_))
  k_with "exec For Name Subscript cons nil" => ((k_here; refine hidT_intro ?_))
  k_with "subscriptTail Name Slice ref ref" => ((k_here; (with_reducible show wpAny _ _ (subscriptTail _ (PySem.Expr.Slice _ _ none _) (Value.ref _) (Value.ref _)) _ _ _); k_dflt (refine' slice_strs (by k_asm) (by k_asm) (by kmk_list) (by kmk_part) (by kmk_part) (by assumption) (by first | assumption | omega) ?_ (by with_unfolding_all rfl) (by kmk_pure)); intro DpZk wspZk hpZk FpZk NpZk l1Zk hIpZk hNpZk; (try simp only [pick_to, pick_to1] at hIpZk); (try k_lt l1Zk); (try k_sweep); (try dsimp only)))
  k_with "subscriptTail Name Name ref str" => ((k_here; (with_reducible show wpAny _ _ (subscriptTail _ _ (Value.ref _) (Value.str _ _)) _ _ _); k_dflt (refine' told_get (by assumption) (by assumption) (by assumption) (by with_unfolding_all rfl) ?_); intro apZk typZk hTpZk))
  k_with "subscriptTail Subscript Name Name Constant ref int" => ((k_here; (with_reducible show wpAny _ _ (subscriptTail _ _ (Value.ref _) (Value.int 0 _)) _ _ _); k_dflt (refine' pair_item0 (by with_reducible assumption) (by with_reducible assumption) ?_ (by with_unfolding_all rfl))))
  k_with "subscriptTail Subscript Name Name Constant ref int" => ((k_here; (with_reducible show wpAny _ _ (subscriptTail _ _ (Value.ref _) (Value.int 1 _)) _ _ _); k_dflt (refine' pair_item1 (by with_reducible assumption) (by with_reducible assumption) ?_ (by with_unfolding_all rfl))))
  k_with "subscriptTail Name Constant ref int" => ((k_here; (with_reducible show wpAny _ _ (subscriptTail _ _ (Value.ref _) (Value.int _ _)) _ _ _); k_dflt (refine' item_at (v := Value.str _ _) (by exact News.isList (by with_reducible assumption) (by first | exact .head _ | exact .tail _ (.head _) | exact .tail _ (.tail _ (.head _)))) (by decide) (by first | omega | (simp only [List.length_cons]; omega)) (by rfl) ?_ (by with_unfolding_all rfl))))
  k_with "binaryOp Add ref ref" => ((k_here; (with_reducible show wpAny _ _ (binaryOp _ (Value.ref _) (Value.ref _)) _ _ _); k_dflt (refine' add_any (by with_reducible assumption) (by with_reducible assumption) (by exact News.isList (by with_reducible assumption) (by first | exact .head _ | exact .tail _ (.head _) | exact .tail _ (.tail _ (.head _)))) (by exact News.isList (by with_reducible assumption) (by first | exact .head _ | exact .tail _ (.head _) | exact .tail _ (.tail _ (.head _)))) (by first | omega | (simp only [List.length_cons, List.length_nil]; omega)) ?_); intro DpZk hpZk FpZk NpZk l1Zk; (try k_lt l1Zk); (try k_sweep); (try dsimp only)))
  k_with "execs nil" => (((with_reducible refine wpAny_execs_nil ?_); try dsimp only))
  k_with "execs cons" => (((with_reducible refine wpAny_execs_cons ?_); try dsimp only))
  k_with "compareOp Eq ref ref" => ((k_here; (with_reducible show wpAny _ _ (compareOp CmpOp.Eq (Value.ref _) (Value.ref _)) _ _ _); k_dflt (refine' due_eq (by kmk_list) (by kmk_list) (by assumption) (by assumption) (by ke_room) ?_)))
  k_with "call builtin:list.index" => ((k_here; (with_reducible show wpAny _ _ (call (Value.builtin _) [Value.ref _, Value.ref _]) _ _ _); k_dflt (refine' due_index (by assumption) (by assumption) (by assumption) (by assumption) (by k_mem) (by assumption) (by ke_room) (by first | assumption | omega) (by assumption) ?_)))
  k_with "getMethod ref" => ((k_here; (with_reducible show wpAny _ _ (getMethod (Value.ref _) (PySem.Str.ofString "index") _) _ _ _); k_dflt (refine' due_method (by assumption) (by assumption) PySem.F.slot_list_index PySem.F.type_list_index ?_)))
  k_with "subscriptTail Name Call ref int" => ((k_here; (with_reducible show wpAny _ _ (subscriptTail _ _ (Value.ref _) (Value.int _ _)) _ _ _); k_dflt (refine' due_item (by assumption) (by assumption) (by assumption) (by omega) (by assumption) ?_ (by with_unfolding_all rfl)); intro tpZk))
  k_with "exec If" => ((k_here; (with_reducible show wpAny _ _ (exec (PySem.Stmt.If (PySem.Expr.Compare _ [PySem.CmpOp.Eq] _ _) _ (_ :: _) _) _) _ _ _); refine hidT_intro ?_))
  k_with "ite" => (((rename QuickIte => hQuick9Zk); k_openite; first | (refine ite_pos (by with_reducible assumption) ?_) | (refine ite_neg (by with_reducible assumption) ?_) | (refine ite_isFalse (by with_reducible assumption) ?_) | with_reducible refine ite_tt ?_ | with_reducible refine ite_ff ?_ | (with_reducible refine split_ine ?_ ?_ <;> intro _) | (with_reducible refine split_ieq ?_ ?_ <;> intro _) | with_reducible refine split_not ?_ | (refine split_dec ?_ ?_ <;> intro _) | (refine split_bool ?_ ?_ <;> intro _)))
  k_with "binaryOp Add ref ref" => ((k_here; (with_reducible show wpAny _ _ (binaryOp _ (Value.ref _) (Value.ref _)) _ _ _); k_dflt (refine' add_any (by k_asm) (by k_asm) (by first | exact listAt (by k_asm) (by repeat (first | exact List.mem_cons_self .. | with_reducible assumption | refine List.mem_cons_of_mem _ ?_)) | kmk_list) (by first | exact listAt (by k_asm) (by repeat (first | exact List.mem_cons_self .. | with_reducible assumption | refine List.mem_cons_of_mem _ ?_)) | kmk_list) (by ((try simp only [List.length_append, List.length_cons, List.length_nil]); omega)) ?_); intro DpZk hpZk FpZk NpZk l1Zk; (try k_lt l1Zk); (try k_sweep); (try dsimp only)))
  k_with "subscriptTail Name Name ref int" => ((k_here; (with_reducible show wpAny _ _ (subscriptTail _ _ (Value.ref _) (Value.int _ _)) _ _ _); k_dflt (refine' item_at (by first | exact listAt (by k_asm) (by repeat (first | exact List.mem_cons_self .. | with_reducible assumption | refine List.mem_cons_of_mem _ ?_)) | kmk_list) (by omega) (by omega) (by with_reducible assumption) ?_ (by with_unfolding_all rfl))))
  k_with "exec For Tuple Subscript cons nil" => ((k_here; refine hidT_intro ?_))
  k_with "subscriptTail Name Slice ref ref" => ((k_here; (with_reducible show wpAny _ _ (subscriptTail _ (PySem.Expr.Slice _ _ none _) (Value.ref _) (Value.ref _)) _ _ _); k_dflt (refine' slice_any (by k_asm) (by k_asm) (by first | exact listAt (by k_asm) (by repeat (first | exact List.mem_cons_self .. | with_reducible assumption | refine List.mem_cons_of_mem _ ?_)) | kmk_list) (by first | assumption | omega) (by kmk_part) (by kmk_part) ?_ (by with_unfolding_all rfl) (by kmk_pure)); intro DpZk hpZk FpZk NpZk l1Zk; (try k_lt l1Zk); (try k_sweep); (try dsimp only)))
  k_with "assign Tuple" => ((k_here; (with_reducible show wpAny _ _ (assign (PySem.Expr.Tuple _ _ _) _ (Value.ref _)) _ _ _); k_dflt (refine' asgK (hL := (by rfl)) (by rfl) (by first | exact isTup_keep (by with_reducible assumption) (Fr.keep (by k_asm)) | exact isTup_news (by k_asm) (by repeat (first | exact List.mem_cons_self .. | with_reducible assumption | refine List.mem_cons_of_mem _ ?_)) (by with_reducible assumption) (by with_reducible assumption)) (by k_asm) (by k_asm) (by rfl) (by rfl) (by rfl) (by rfl) ?_); intro hpZk tkpZk FpZk NpZk; (try k_sweep)))
  k_with "subscriptTail Tuple cons BinOp ref int" => ((k_here; k_dflt (refine' menu3 (by exact News.isTup (by k_asm) (List.mem_cons_self ..)) ?_ (by with_unfolding_all rfl)); intro tpZk; (try dsimp only)))
  k_with "call builtin:len" => ((k_here; (with_reducible show wpAny _ _ (call (Value.builtin "len") [Value.ref _]) _ _ _); k_dflt (refine' len_any (by exact listAt (by k_asm) (by repeat (first | exact List.mem_cons_self .. | with_reducible assumption | refine List.mem_cons_of_mem _ ?_))) (by omega) ?_); (try dsimp only)))
  exact trivial


theorem fresh_Qa : True := by
  w_top off
  exact trivial
def SV (v : Value) (x : Str) : Prop := ∃ t, v = .str x t
def IV (v : Value) (x : Int) : Prop := ∃ t, v = .int x t
def BV (v : Value) (x : Bool) : Prop := v = .bool x
theorem two_strs {vs : List Value} {ys : List Str} (h : StrsAre vs ys) : Two SV vs ys := by
  induction h with
  | nil => exact .nil
  | cons y t _ ih => exact .cons ⟨t, rfl⟩ ih
theorem strs_two {vs : List Value} {ys : List Str} (h : Two SV vs ys) : StrsAre vs ys := by
  induction h with
  | nil => exact .nil
  | cons r _ ih => obtain ⟨t, rfl⟩ := r; exact .cons _ t ih
theorem ints_two {vs : List Value} {ys : List Int} (h : Two IV vs ys) : IntsAre vs ys := by
  induction h with
  | nil => exact .nil
  | cons r _ ih => obtain ⟨t, rfl⟩ := r; exact .cons _ t ih
section
open PyProof.Rows.LCg
variable {prog : Program} {w : World} {A : Around} {E : Value → Shared → Prop} {s : Shared} {h₀ : Heap} {L : Addr} {m : Str → Option Value} {env : Env}
theorem ne_same {a b : Addr} {xs ys : List Value} {Q : Value → Shared → Prop} (ha : s.heap.IsList a xs.toArray) (hb : s.heap.IsList b ys.toArray) (hl : xs.length = ys.length) (hu : A.units + 64 < cLine)
    (he : ∀ (j : Nat) v v', xs[j]? = some v → ys[j]? = some v' → SeqAt.EqAt A.in1 s v v' true) (h : Q (.bool false) s) : wpAny (model prog w) A (compareOp .NotEq (.ref a) (.ref b)) Q E s := by
  have q := SeqAt.RcNeAt.lists (A := A) (s := s) (e := fun _ => true) ha hb (by rw [List.size_toArray, List.size_toArray, hl]) (by omega) (fun j h1 h2 => he j _ _ (by simp) (by simp)) prog w E Q
  have e : (List.range xs.toArray.size).all (fun _ => true) = true := by simp
  simp only [e, Bool.not_true] at q
  exact q h
theorem ne_strs {a b : Addr} {xs ys : List Value} {ns : List Str} {Q : Value → Shared → Prop} (ha : s.heap.IsList a xs.toArray) (hb : s.heap.IsList b ys.toArray) (hi : Two SV xs ns) (hj : Two SV ys ns) (hu : A.units + 64 < cLine) (h : Q (.bool false) s) :
    wpAny (model prog w) A (compareOp .NotEq (.ref a) (.ref b)) Q E s :=
  ne_same ha hb (hi.length.trans hj.length.symm) hu (fun j v v' e1 e2 => by
    obtain ⟨x, hx, t, rfl⟩ := hi.get e1
    obtain ⟨y, hy, u, rfl⟩ := hj.get e2
    rw [hx] at hy
    cases hy
    have q := SeqAt.EqAt.str_str (A := A.in1) (s := s) x t x u
    rwa [beq_self_eq_true] at q) h
theorem ne_bools {a b : Addr} {xs ys : List Value} {ns : List Bool} {Q : Value → Shared → Prop} (ha : s.heap.IsList a xs.toArray) (hb : s.heap.IsList b ys.toArray) (hi : Two BV xs ns) (hj : Two BV ys ns) (hu : A.units + 64 < cLine) (h : Q (.bool false) s) :
    wpAny (model prog w) A (compareOp .NotEq (.ref a) (.ref b)) Q E s :=
  ne_same ha hb (hi.length.trans hj.length.symm) hu (fun j v v' e1 e2 => by
    obtain ⟨x, hx, rfl⟩ := hi.get e1
    obtain ⟨y, hy, rfl⟩ := hj.get e2
    rw [hx] at hy
    cases hy
    have q := SeqAt.EqAt.bool_bool (A := A.in1) (s := s) x x
    rwa [beq_self_eq_true] at q) h
theorem take_map_snoc {α β : Type} {src : List α} {f : α → β} {i : Nat} {y : α} (hy : src[i]? = some y) : (src.take (i + 1)).map f = (src.take i).map f ++ [f y] := by
  rw [List.take_add_one, hy, List.map_append]
  rfl
theorem comp_map {α β : Type} {elt : PySem.Expr} {x : Str} {px : Pos} {scope : Scope} {cl : List (Str × Addr)} {ax : Addr} {vs1 : List Value} {src : List α} {news : List (Addr × Obj)} {Fin : Shared → Addr → List Value → List (Addr × Obj) → Prop} (f : α → β) (R : Value → α → Prop) (S : Value → β → Prop)
    (hh : A.handled = none) (hkind : scope.kind = .function) (hx : scope.names.lookup x = some .local) (F : Fr h₀ L s.heap m) (N : News h₀ L s.heap news) (hl : s.heap.IsList ax vs1.toArray) (hne : ax ≠ L) (hz : vs1.length ≤ 100) (hT : Two R vs1 src)
    (step : ∀ g (i : Nat) v y ys own C D oC m₂ h tk (E' : Value → Shared → Prop), src[i]? = some y → R v y → m₂ x = some v → NsObj oC m₂ → Fr h₀ L h m → News h₀ L h ((C, oC) :: (D, lst ys) :: (news ++ own)) →
      wpAny (model prog w) A (eval elt (compEnvC scope cl C env)) (CEnd h₀ L m { s with heap := h, toks := tk } C oC D ys own news (fun z news'' => news'' = news ∧ S z (f y))) E' { { s with heap := g } with heap := h, toks := tk })
    (fin : ∀ g D ys, Two S ys (src.map f) → (∀ p ∈ news, p.1 ≠ D) → Fin { s with heap := g } D ys news) :
    wpAny (model prog w) A (pyIter (.ref ax)) (fun it s₂ => CompAt prog w A h₀ L m env elt (.Name x px) scope cl Fin it s₂) E s := by
  refine comp_list (fun i ys nw => nw = news ∧ Two S ys ((src.take i).map f)) hh hkind hx F N hl hne (by rw [List.size_toArray, sizeLine_eq]; omega) ⟨rfl, .nil⟩ ?_ ?_
  · intro g i v ys news' own C D oC m₂ h tk E' hv hyl hm inv hoC F' N'
    obtain ⟨rfl, hJ⟩ := inv
    obtain ⟨y, hy, hR⟩ := hT.get (i := i) (by simpa using hv)
    refine wpAny_mono (step g i v y ys own C D oC m₂ h tk E' hy hR hm hoC F' N') (fun z s' q => q.mono fun nw r => ⟨r.1, ?_⟩) fun _ _ e => e
    rw [take_map_snoc hy]
    exact hJ.snoc r.2
  · intro g D ys news' hyl inv off
    obtain ⟨rfl, hJ⟩ := inv
    refine fin g D ys ?_ off
    rwa [List.size_toArray, hT.length, List.take_length] at hJ
theorem comp_map3 {β : Type} {elt : PySem.Expr} {a b c : Str} {pa pb pc tp : Pos} {kk : Nat} {scope : Scope} {cl : List (Str × Addr)} {ax : Addr} {vs1 : List Value} {src : List Home} {news : List (Addr × Obj)} {Fin : Shared → Addr → List Value → List (Addr × Obj) → Prop} (f : Home → β) (S : Value → β → Prop)
    (hh : A.handled = none) (hkind : scope.kind = .function) (hxa : scope.names.lookup a = some .local) (hxb : scope.names.lookup b = some .local) (hxc : scope.names.lookup c = some .local) (hab : ¬ a = b) (hac : ¬ a = c) (hbc : ¬ b = c)
    (F : Fr h₀ L s.heap m) (N : News h₀ L s.heap news) (hl : s.heap.IsList ax vs1.toArray) (hne : ax ≠ L) (hz : vs1.length ≤ 100) (hT : Two (HomeIn news) vs1 src)
    (step : ∀ g (i : Nat) y t1 t2 t3 ys own C D oC m₂ h tk (E' : Value → Shared → Prop), src[i]? = some y → m₂ a = some (.int y.1 t1) → m₂ b = some (.str y.2.1 t2) → m₂ c = some (.int y.2.2 t3) → NsObj oC m₂ → Fr h₀ L h m → News h₀ L h ((C, oC) :: (D, lst ys) :: (news ++ own)) →
      wpAny (model prog w) A (eval elt (compEnvC scope cl C env)) (CEnd h₀ L m { s with heap := h, toks := tk } C oC D ys own news (fun z news'' => news'' = news ∧ S z (f y))) E' { { s with heap := g } with heap := h, toks := tk })
    (fin : ∀ g D ys, Two S ys (src.map f) → (∀ p ∈ news, p.1 ≠ D) → Fin { s with heap := g } D ys news) :
    wpAny (model prog w) A (pyIter (.ref ax)) (fun it s₂ => CompAt prog w A h₀ L m env elt (.Tuple [.Name a pa, .Name b pb, .Name c pc] kk tp) scope cl Fin it s₂) E s := by
  refine comp_list3 (fun i ys => Two S ys ((src.take i).map f)) hh hkind hxa hxb hxc hab hac hbc F N hl hne (by rw [List.size_toArray, sizeLine_eq]; omega) (fun i v hv => ?_) .nil ?_ ?_
  · obtain ⟨y, hy, t, ot, t1, t2, t3, n, rfl, h1, h2, h3⟩ := hT.get (i := i) (by simpa using hv)
    exact ⟨t, ot, _, _, _, n, rfl, h1, h2, h3⟩
  · intro g i t ot x y z n ys own C D oC m₂ h tk E' hv h1 h2 h3 hyl hma hmb hmc hJ hoC F' N'
    obtain ⟨q, hq, t', ot', t1, t2, t3, n', e, h1', h2', h3'⟩ := hT.get (i := i) (a := .ref t) (by simpa using hv)
    cases e
    have e1 := (N _ h1).1
    rw [(N _ h1').1] at e1
    cases e1
    rw [h3'] at h3
    injection h3 with h3 _
    have h4 := congrArg Array.toList h3
    simp only [List.cons.injEq, and_true] at h4
    obtain ⟨rfl, rfl, rfl⟩ := h4
    refine wpAny_mono (step g i q t1 t2 t3 ys own C D oC m₂ h tk E' hq hma hmb hmc hoC F' N') (fun z s' r => r.mono fun nw r => ⟨r.1, ?_⟩) fun _ _ e => e
    rw [take_map_snoc hq]
    exact hJ.snoc r.2
  · intro g D ys hyl hJ off
    refine fin g D ys ?_ off
    rwa [List.size_toArray, hT.length, List.take_length] at hJ
theorem comp_mapZ {α γ β : Type} {elt : PySem.Expr} {a b : Str} {pa pb tp : Pos} {kk : Nat} {scope : Scope} {cl : List (Str × Addr)} {l1 l2 : Addr} {xs ys : List Value} {s1 : List α} {s2 : List γ} {news : List (Addr × Obj)} {Fin : Shared → Addr → List Value → List (Addr × Obj) → Prop} (f : α → γ → β) (R1 : Value → α → Prop) (R2 : Value → γ → Prop) (S : Value → β → Prop)
    (hh : A.handled = none) (hkind : scope.kind = .function) (hxa : scope.names.lookup a = some .local) (hxb : scope.names.lookup b = some .local) (hab : ¬ a = b)
    (F : Fr h₀ L s.heap m) (N : News h₀ L s.heap news) (hl1 : s.heap.IsList l1 xs.toArray) (hl2 : s.heap.IsList l2 ys.toArray) (hn1 : l1 ≠ L) (hn2 : l2 ≠ L) (hz : xs.length ≤ 100) (hT1 : Two R1 xs s1) (hT2 : Two R2 ys s2) (hlen : s1.length = s2.length)
    (step : ∀ g (i : Nat) x y v1 v2 zs own C D oC m₂ h tk (E' : Value → Shared → Prop), s1[i]? = some x → s2[i]? = some y → R1 v1 x → R2 v2 y → m₂ a = some v1 → m₂ b = some v2 → NsObj oC m₂ → Fr h₀ L h m → News h₀ L h ((C, oC) :: (D, lst zs) :: (news ++ own)) →
      wpAny (model prog w) A (eval elt (compEnvC scope cl C env)) (CEnd h₀ L m { s with heap := h, toks := tk } C oC D zs own news (fun z news'' => news'' = news ∧ S z (f x y))) E' { { s with heap := g } with heap := h, toks := tk })
    (fin : ∀ g D zs, Two S zs (List.zipWith f s1 s2) → (∀ p ∈ news, p.1 ≠ D) → Fin { s with heap := g } D zs news) :
    wpAny (model prog w) A (call (.type "zip") [.ref l1, .ref l2]) (fun xv s₁ => wpAny (model prog w) A (pyIter xv) (fun it s₂ => CompAt prog w A h₀ L m env elt (.Tuple [.Name a pa, .Name b pb] kk tp) scope cl Fin it s₂) E s₁) E s := by
  have e1 := hT1.length
  have e2 := hT2.length
  refine comp_zip (fun i zs => Two S zs ((List.zipWith f s1 s2).take i)) hh hkind hxa hxb hab F N hl1 hl2 hn1 hn2 (by rw [List.size_toArray, sizeLine_eq]; omega) (by rw [List.take_zero]; exact .nil) ?_ ?_
  · intro g i x y zs own C D oC m₂ h tk E' hx hy hzl hma hmb hJ hoC F' N'
    obtain ⟨p, hp, hR1⟩ := hT1.get (i := i) (by simpa using hx)
    obtain ⟨q, hq, hR2⟩ := hT2.get (i := i) (by simpa using hy)
    refine wpAny_mono (step g i p q x y zs own C D oC m₂ h tk E' hp hq hR1 hR2 hma hmb hoC F' N') (fun z s' r => r.mono fun nw r => ⟨r.1, ?_⟩) fun _ _ e => e
    have e : (List.zipWith f s1 s2)[i]? = some (f p q) := by rw [List.getElem?_zipWith, hp, hq]
    rw [List.take_add_one, e]
    exact hJ.snoc r.2
  · intro g D zs hzl hJ off
    refine fin g D zs ?_ off
    have e : min xs.toArray.size ys.toArray.size = (List.zipWith f s1 s2).length := by rw [List.size_toArray, List.size_toArray, List.length_zipWith, e1, e2]
    rwa [e, List.take_length] at hJ
end

theorem fresh_Qb : True := by
  w_top off
  exact trivial
noncomputable def lawBody (w : World) : List Stmt := match (hd.heap_1 w.params).lookup 285 with
  | some ⟨_, _, .func fd, _⟩ => (match fd.body with | .stmts b => b | _ => [])
  | _ => []
noncomputable def lawScope (w : World) : Scope := match (hd.heap_1 w.params).lookup 285 with
  | some ⟨_, _, .func fd, _⟩ => fd.scope
  | _ => default
theorem law_lit {w : World} {name qual : Str} {params : Arguments} {body : List Stmt} {scope : Scope} {dV kV doc pm cdv ct oc : Value} {an od : Option Addr} {osl : Array (Option Value)} (ho : (hd.heap_1 w.params).lookup 285 = some ⟨oc, od, .func (fnOf name qual params body scope dV kV doc pm an cdv ct), osl⟩) :
    lawBody w = body ∧ lawScope w = scope := by
  unfold lawBody lawScope
  rw [ho]
  exact ⟨rfl, rfl⟩
theorem SpecN.use {w : World} {f : Addr} {D U : Nat} {vs : List Value} {H : Heap → Prop} {P : Value → List (Addr × Obj) → Prop} (C : SpecN w f D U vs H P)
    {p : Program} {loose : List Str} {mean : ExcName → Option Value} {mg mb : Str → Option Value} {dp un : Nat} {gd : Option (List Code)} {cn : Str} {cs : Scope} {a : Addr} {ccd : Value} {cl : List (Str × Addr)} {outer : List Env} {A₀ : Around} {base h₀ : Heap} {L : Addr} {m : Str → Option Value} {news : List (Addr × Obj)} {s : Shared}
    {Q E : Value → Shared → Prop}
    (B : Below A₀ base outer h₀) (F : Fr h₀ L s.heap m) (X : (hd.heap_1 w.params).In h₀) (N : News h₀ L s.heap news) (T : Top p loose mean mg mb h₀) (hk : cs.kind = .function) (hd : dp + D < recursionLimit) (hu : un + U < cLine) (hH : H s.heap)
    (ret : ∀ r nw h' tk', Fr h₀ L h' m → News h₀ L h' (nw ++ news) → (∀ p ∈ nw, ∀ q ∈ news, p.1 ≠ q.1) → P r nw → Q r { s with heap := h', toks := tk' }) :
    wpAny (model PP w) (ktrTop dp un gd cn cs L a ccd cl outer) (call (.ref f) vs) Q E s :=
  C p loose mean mg mb dp un gd cn cs a ccd cl outer A₀ base h₀ L m news s Q E B F X N T hk hd hu hH ret
theorem SpecG.use {w : World} {f : Addr} {D U : Nat} {vs : List Value} {H : Heap → Prop} {R : Value → Prop} (C : SpecG w f D U vs H R)
    {p : Program} {loose : List Str} {mean : ExcName → Option Value} {mg mb : Str → Option Value} {dp un : Nat} {gd : Option (List Code)} {cn : Str} {cs : Scope} {a : Addr} {ccd : Value} {cl : List (Str × Addr)} {outer : List Env} {A₀ : Around} {base h₀ : Heap} {L : Addr} {m : Str → Option Value} {news : List (Addr × Obj)} {s : Shared}
    {Q E : Value → Shared → Prop}
    (B : Below A₀ base outer h₀) (F : Fr h₀ L s.heap m) (X : (hd.heap_1 w.params).In h₀) (N : News h₀ L s.heap news) (T : Top p loose mean mg mb h₀) (hk : cs.kind = .function) (hd : dp + D < recursionLimit) (hu : un + U < cLine) (hH : H s.heap)
    (ret : ∀ r h' tk', Fr h₀ L h' m → News h₀ L h' news → R r → Q r { s with heap := h', toks := tk' }) :
    wpAny (model PP w) (ktrTop dp un gd cn cs L a ccd cl outer) (call (.ref f) vs) Q E s :=
  C p loose mean mg mb dp un gd cn cs a ccd cl outer A₀ base h₀ L m news s Q E B F X N T hk hd hu hH ret
structure LawFacts (hs : List Home) : Prop where
  above : Above hs
  len : hs.length ≤ 5
  plen : ∀ p ∈ placesF hs, p.length ≤ 300
  nlen : ∀ x ∈ hs, x.2.1.length ≤ 100
  rlen : (rowsF hs).length = hs.length
  rl : ∀ r ∈ rowsF hs, r.length ≤ 4
  pj : placesF hs = (rowsF hs).map fun r => Txt.join (Str.ofString "/") (Str.ofString "/local" :: r)
  jn : ∀ r ∈ rowsF hs, ∀ k, (((Str.ofString "/local" :: r.take k).map (·.length)).sum) + (Str.ofString "/local" :: r.take k).length ≤ 1000
/-- the law's objects in a ledger whose parts nobody changes -/
structure LawNw (L : Addr) (nw : List (Addr × Obj)) (hs : List Home) (Ha Ra Pa : Addr) : Prop where
  sep : ∀ p ∈ nw, p.1 ≠ L + 1 ∧ p.1 ≠ L + 1 + 1 ∧ p.1 ≠ L + 1 + 1 + 1 ∧ p.1 ≠ L + 1 + 1 + 1 + 1 ∧ p.1 ≠ L + 1 + 1 + 1 + 1 + 1
  homes : ∃ vs k, (Ha, W.listOf (List.toArray vs) k) ∈ nw ∧ Two (HomeIn nw) vs hs
  rows : ∃ vs k, (Ra, W.listOf (List.toArray vs) k) ∈ nw ∧ Two (RowIn nw) vs (rowsF hs)
  places : ∃ vs k, (Pa, W.listOf (List.toArray vs) k) ∈ nw ∧ Two SV vs (placesF hs)
abbrev lawLed (L : Addr) (o5 o4 o3 o2 o1 : Obj) (nw : List (Addr × Obj)) : List (Addr × Obj) := (L + 1 + 1 + 1 + 1 + 1, o5) :: (L + 1 + 1 + 1 + 1, o4) :: (L + 1 + 1 + 1, o3) :: (L + 1 + 1, o2) :: (L + 1, o1) :: nw
abbrev lawCells (L : Addr) : List (Str × Addr) := [(Str.ofString "signs", L + 1 + 1 + 1 + 1 + 1), (Str.ofString "asker", L + 1 + 1 + 1 + 1), (Str.ofString "k", L + 1 + 1 + 1), (Str.ofString "modes", L + 1 + 1), (Str.ofString "places", L + 1)]
theorem law_sub {h₀ h : Heap} {L : Addr} {o5 o4 o3 o2 o1 : Obj} {nw : List (Addr × Obj)} (_N : News h₀ L h (lawLed L o5 o4 o3 o2 o1 nw)) : ∀ p ∈ nw, p ∈ lawLed L o5 o4 o3 o2 o1 nw := fun _ hp => .tail _ (.tail _ (.tail _ (.tail _ (.tail _ hp))))
theorem law_join {h₀ h : Heap} {L : Addr} {o5 o4 o3 o2 o1 : Obj} {nw nw2 : List (Addr × Obj)} (N : News h₀ L h (nw2 ++ lawLed L o5 o4 o3 o2 o1 nw)) (sep2 : ∀ p ∈ nw2, ∀ q ∈ lawLed L o5 o4 o3 o2 o1 nw, p.1 ≠ q.1)
    (sep : ∀ p ∈ nw, p.1 ≠ L + 1 ∧ p.1 ≠ L + 1 + 1 ∧ p.1 ≠ L + 1 + 1 + 1 ∧ p.1 ≠ L + 1 + 1 + 1 + 1 ∧ p.1 ≠ L + 1 + 1 + 1 + 1 + 1) :
    ∃ NW, News h₀ L h (lawLed L o5 o4 o3 o2 o1 NW) ∧ (∀ p ∈ nw2, p ∈ NW) ∧ (∀ p ∈ nw, p ∈ NW) ∧ (∀ p ∈ NW, p.1 ≠ L + 1 ∧ p.1 ≠ L + 1 + 1 ∧ p.1 ≠ L + 1 + 1 + 1 ∧ p.1 ≠ L + 1 + 1 + 1 + 1 ∧ p.1 ≠ L + 1 + 1 + 1 + 1 + 1) := by
  refine ⟨nw2 ++ nw, fun p hp => N p ?_, fun p hp => List.mem_append_left _ hp, fun p hp => List.mem_append_right _ hp, fun p hp => ?_⟩
  · rcases List.mem_cons.mp hp with rfl | hp
    · exact List.mem_append_right _ (.head _)
    rcases List.mem_cons.mp hp with rfl | hp
    · exact List.mem_append_right _ (.tail _ (.head _))
    rcases List.mem_cons.mp hp with rfl | hp
    · exact List.mem_append_right _ (.tail _ (.tail _ (.head _)))
    rcases List.mem_cons.mp hp with rfl | hp
    · exact List.mem_append_right _ (.tail _ (.tail _ (.tail _ (.head _))))
    rcases List.mem_cons.mp hp with rfl | hp
    · exact List.mem_append_right _ (.tail _ (.tail _ (.tail _ (.tail _ (.head _)))))
    rcases List.mem_append.mp hp with hp | hp
    · exact List.mem_append_left _ hp
    · exact List.mem_append_right _ (.tail _ (.tail _ (.tail _ (.tail _ (.tail _ hp)))))
  · rcases List.mem_append.mp hp with hp | hp
    · exact ⟨sep2 p hp _ (.tail _ (.tail _ (.tail _ (.tail _ (.head _))))), sep2 p hp _ (.tail _ (.tail _ (.tail _ (.head _)))), sep2 p hp _ (.tail _ (.tail _ (.head _))), sep2 p hp _ (.tail _ (.head _)), sep2 p hp _ (.head _)⟩
    · exact sep p hp
section
theorem kw_Qb_1 : True := by
  k_with "execs cons Assign cons" => ((k_here; (with_reducible show wpAny _ _ (execs (PySem.Stmt.Assign _ (PySem.Expr.ListComp _ _ _ _) _ :: _) _) _ _ _); refine hidT_intro ?_))
  k_with "call ref" => ((k_here; (with_reducible show wpAny _ _ (call (Value.ref 238) _) _ _ _); refine hidT_intro ?_))
  k_with "call ref" => ((k_here; (with_reducible show wpAny _ _ (call (Value.ref 245) _) _ _ _); refine hidT_intro ?_))
  k_with "call ref" => ((k_here; (with_reducible show wpAny _ _ (call (Value.ref 252) _) _ _ _); refine hidT_intro ?_))
  k_with "eval ListComp" => ((k_here; refine hidT_intro ?_))
  k_with "compareOp NotEq ref ref" => ((k_here; refine hidT_intro ?_))
  exact trivial

local macro_rules | `(tactic| k_all) => `(tactic| with_reducible assumption)
theorem law_p1 (w : World) (pure' : ∀ hs, GoodH hs → LawFacts hs) {p : Program} {loose : List Str} {mean : ExcName → Option Value} {mg mb : Str → Option Value} {dp un : Nat} {gd : Option (List Code)} {cn : Str} {a : Addr} {ccd : Value} {outer : List Env} {A₀ : Around} {base h₀ : Heap} {L ax : Addr} {m : Str → Option Value} {s : Shared} {o5 o4 o3 o2 o1 : Obj} {v5 v4 v3 v2 v1 : Option Value} {vs : List Value} {ns : List Int}
    {Q : Flow → Shared → Prop} {E : Value → Shared → Prop}
    (B : Below A₀ base outer h₀) (F : Fr h₀ L s.heap m) (X : (hd.heap_1 w.params).In h₀) (T : Top p loose mean mg mb h₀) (hkf : (lawScope w).kind = .function) (hd9 : dp + 100 < recursionLimit) (hu9 : un + 1000 < cLine)
    (N : News h₀ L s.heap (lawLed L o5 o4 o3 o2 o1 [])) (d5 : o5.data = .cell v5) (d4 : o4.data = .cell v4) (d3 : o3.data = .cell v3) (d2 : o2.data = .cell v2) (d1 : o1.data = .cell v1)
    (hs : m (Str.ofString "script") = some (.ref ax)) (hax : h₀.IsList ax vs.toArray) (hI : IntsAre vs ns) (hn : ns.length ≤ 63)
    (next : ∀ h' tk m' o1 nw hs Ha Ra Pa, GoodH hs → Fr h₀ L h' m' → m' (Str.ofString "homes") = some (.ref Ha) → m' (Str.ofString "rows") = some (.ref Ra) → News h₀ L h' (lawLed L o5 o4 o3 o2 o1 nw) → o1.data = .cell (some (.ref Pa)) → LawNw L nw hs Ha Ra Pa →
      wpAny (model PP w) (ktrTop dp un gd cn (lawScope w) L a ccd (lawCells L) outer) (execs ((lawBody w).drop 4) (envX cn (lawScope w) L a ccd (lawCells L))) Q E { s with heap := h', toks := tk }) :
    wpAny (model PP w) (ktrTop dp un gd cn (lawScope w) L a ccd (lawCells L) outer) (execs (lawBody w) (envX cn (lawScope w) L a ccd (lawCells L))) Q E s := by
  (have : PySem.Challenge.rw_ik0073_01 = PySem.Challenge.rw_ik0073_01 ∧ Mine.hd.heap_1 = Mine.hd.heap_1 := (by k_fill; exact ⟨rfl, rfl⟩))
  clear this
  obtain ⟨key1, key2⟩ := law_lit (w := w) (by k_is)
  rw [key1, key2] at next
  rw [key1, key2]
  rw [key2] at hkf
  clear key1 key2
  simp only [List.drop] at next
  obtain ⟨u0, hm⟩ := over1 hs
  subst hm
  clear hs
  try k_fold
  k_steps
  refine hidT_open (SpecN.use (sp_homes w ax ns hn) B (by k_asm) X (by k_asm) T rfl (by omega) (by omega) ⟨vs, Fr.lst (by k_asm) hax, hI⟩ ?_)
  rintro r nw h9 tk9 F9 N9 sep9 ⟨Ha, hv, hk, hs, rfl, hHa, hT, hG⟩
  have LF := pure' hs hG
  have hvl := hT.length
  have hlen := LF.len
  obtain ⟨NW, N8, sub2, _, sep8⟩ := law_join N9 sep9 (fun p hp => absurd hp List.not_mem_nil)
  replace hHa := sub2 _ hHa
  replace hT := hT.mono fun _ _ q => HomeIn.mono q sub2
  clear N9 sep9 sub2 F
  try dsimp only
  k_steps
  refine hidT_open (SpecN.use (sp_rows w Ha hs (by omega) LF.above) B (by k_asm) X (by k_asm) T rfl (by omega) (by omega) ⟨hv, listAt (by k_asm) (by repeat (first | exact List.mem_cons_self .. | with_reducible assumption | refine List.mem_cons_of_mem _ ?_)), hT.mono fun _ _ q => HomeIn.at (by assumption) (HomeIn.mono q fun p hp => by repeat (first | exact hp | refine List.mem_cons_of_mem _ ?_))⟩ ?_)
  rintro r nw h9 tk9 F9 N9 sep9 ⟨Ra, rv, rk, rfl, hRa, hR⟩
  obtain ⟨NW2, N8, sub2, sub1, sep7⟩ := law_join N9 sep9 sep8
  replace hRa := sub2 _ hRa
  replace hR := hR.mono fun _ _ q => RowIn.mono q sub2
  replace hHa := sub1 _ hHa
  replace hT := hT.mono fun _ _ q => HomeIn.mono q sub1
  clear N9 sep9 sep8 sub2 sub1
  try dsimp only
  k_steps
  refine hidT_open (SpecN.use (sp_places w Ha hs (by omega) LF.above LF.plen LF.nlen) B (by k_asm) X (by k_asm) T rfl (by omega) (by omega) ⟨hv, listAt (by k_asm) (by repeat (first | exact List.mem_cons_self .. | with_reducible assumption | refine List.mem_cons_of_mem _ ?_)), hT.mono fun _ _ q => HomeIn.at (by assumption) (HomeIn.mono q (fun p hp => by repeat (first | exact hp | refine List.mem_cons_of_mem _ ?_)))⟩ ?_)
  rintro r nw h9 tk9 F9 N9 sep9 ⟨Pa, pv, pk, rfl, hPa, hP⟩
  replace hP := two_strs hP
  obtain ⟨NW3, N8, sub2, sub1, sep⟩ := law_join N9 sep9 sep7
  replace hPa := sub2 _ hPa
  replace hRa := sub1 _ hRa
  replace hR := hR.mono fun _ _ q => RowIn.mono q sub1
  replace hHa := sub1 _ hHa
  replace hT := hT.mono fun _ _ q => HomeIn.mono q sub1
  clear N9 sep9 sep7 sub2 sub1
  have sepP : ∀ p ∈ NW3, p.1 ≠ L + 1 := fun p hp => (sep p hp).1
  have hrlen := hR.length
  have hrl := LF.rlen
  try dsimp only
  k_steps
  refine hidT_open (ListComp_G (F₀ := by k_asm) (cl := []) (by rfl) (by decide) (by rfl) (by decide) ?_)
  k_steps
  (rename Fr _ _ _ _ => F8)
  (rename News _ _ _ _ => N8)
  have sub8 := law_sub N8
  refine comp_map (fun r => Txt.join (Str.ofString "/") (Str.ofString "/local" :: r)) (RowIn _) SV rfl rfl rfl F8 N8 (listAt N8 (by repeat (first | exact List.mem_cons_self .. | with_reducible assumption | refine List.mem_cons_of_mem _ ?_))) (N8 (Ra, _) (by repeat (first | exact List.mem_cons_self .. | with_reducible assumption | refine List.mem_cons_of_mem _ ?_))).2.1 (by omega) (hR.mono fun _ _ q => RowIn.mono q sub8) ?step ?fin
  case step =>
    intro gh i v y ys own C D oC m₂ h tk E' hy hRy hm hoC F' N'
    obtain ⟨ra, us, ku, rfl, hmem, hus⟩ := hRy
    have hmem' := List.mem_cons_of_mem (C, oC) (List.mem_cons_of_mem (D, LCg.lst ys) (List.mem_append_left own hmem))
    have hul := strs_len hus
    have hyl := LF.rl y (List.mem_of_getElem? hy)
    have hjn := LF.jn y (List.mem_of_getElem? hy) 5
    rw [List.take_of_length_le (by omega)] at hjn
    try dsimp only
    k_steps
    refine' PyProof.Rows.join_listW (listAt (by assumption) (List.mem_cons_self ..)) (.cons _ _ hus) (by decide) (Nat.le_trans hjn (by decide)) ?_
    intro t9 tk9
    k_steps
    all_goals (exact CEnd.same (by assumption) (by assumption) (fun p hp => .tail _ (.tail _ hp)) ⟨rfl, _, rfl⟩)
  case fin =>
    intro gh D ys hys off
    unfold FinQ
    intro h8 tk8 F8 N8
    k_steps
    refine hidT_open (ne_strs (listAt N8 (by repeat (first | exact List.mem_cons_self .. | with_reducible assumption | refine List.mem_cons_of_mem _ ?_))) (listAt N8 (List.mem_cons_self ..)) hP (by rw [LF.pj]; exact hys) (by ke_room) ?_)
    k_steps
    (rename Fr _ _ _ _ => F9)
    (rename News _ _ _ _ => N9)
    exact hidT_open (next _ _ _ _ NW3 hs Ha Ra Pa hG F9 rfl rfl (fun p hp => N9 p (.tail _ hp)) (by assumption) ⟨sep, ⟨hv, hk, hHa, hT⟩, ⟨rv, rk, hRa, hR⟩, ⟨pv, pk, hPa, hP⟩⟩)
end
theorem kw_Qb_2 : True := by
  k_with_none
  k_with "ite" => (first | with_reducible refine tt_then ?_ | with_reducible refine ff_else ?_)
  k_with "call ref" => ((k_here; (with_reducible show wpAny _ _ (call (Value.ref 186) [Value.int _ _]) _ _ _); k_dflt (refine' SpecV.use (sp_isfmt _ _ _) (by k_asm) (by k_asm) (by k_asm) (by k_asm) (by k_asm) (by first | exact rfl | assumption) (by ktr_room) (by ktr_units) ?_); intro r9Zk h9Zk tk9Zk F9Zk N9Zk hr9Zk; obtain ⟨u9Zk, hr9Zk⟩ := hr9Zk; subst hr9Zk; (try k_sweep); (try dsimp only); (try k_fold)))
  k_with "getMethod ref" => ((k_here; (with_reducible show wpAny _ _ (getMethod (Value.ref 43) _ _) _ _ _); k_dflt (refine' re_method (by k_in) ?_)))
  k_with "call builtin:re.Pattern.search" => ((k_here; k_dflt (refine' re_search (by k_in) (by first | assumption | omega) (by with_reducible assumption) ?_)))
  k_with "call ref" => ((k_here; (with_reducible show wpAny _ _ (call (Value.ref 50) [Value.str _ _]) _ _ _); k_dflt (refine' SpecV.use (sp_hdn _ _ _ (by first | assumption | omega) (by with_reducible assumption)) (by k_asm) (by k_asm) (by k_asm) (by k_asm) (by k_asm) (by first | exact rfl | assumption) (by ktr_room) (by ktr_units) ?_); intro r9Zk h9Zk tk9Zk F9Zk N9Zk hr9Zk; subst hr9Zk; (try k_sweep); (try dsimp only); (try k_fold)))
  k_with "call ref" => ((k_here; (with_reducible show wpAny _ _ (call (Value.ref 151) [Value.str _ _]) _ _ _); k_dflt (refine' SpecV.use (sp_getsep _ _ _) (by k_asm) (by k_asm) (by k_asm) (by k_asm) (by k_asm) (by first | exact rfl | assumption) (by ktr_room) (by ktr_units) ?_); intro r9Zk h9Zk tk9Zk F9Zk N9Zk hr9Zk; obtain ⟨u9Zk, hr9Zk⟩ := hr9Zk; subst hr9Zk; (try k_sweep); (try dsimp only); (try k_fold)))
  k_with "call builtin:issubclass" => ((k_here; (with_reducible show wpAny _ _ (call (Value.builtin "issubclass") [Value.type "str", Value.ref _]) _ _ _); k_dflt (refine' call_issub (by exact News.get (by k_asm) (by k_mem)) (by exact rfl) (by exact rfl) ?_)))
  k_with "call ref" => ((k_here; (with_reducible show wpAny _ _ (call (Value.ref 137) [Value.str _ _]) _ _ _); k_dflt (refine' SpecV.use (sp_fspath _ _ _) (by k_asm) (by k_asm) (by k_asm) (by k_asm) (by k_asm) (by first | exact rfl | assumption) (by ktr_room) (by ktr_units) ?_); intro r9Zk h9Zk tk9Zk F9Zk N9Zk hr9Zk; obtain ⟨u9Zk, hr9Zk⟩ := hr9Zk; subst hr9Zk; (try k_sweep); (try dsimp only); (try k_fold)))
  k_with "call ref" => ((k_here; (with_reducible show wpAny _ _ (call (Value.ref 172) [Value.str _ _]) _ _ _); k_dflt (refine' SpecV.use (sp_dirname _ _ _ (by first | assumption | omega)) (by k_asm) (by k_asm) (by k_asm) (by k_asm) (by k_asm) (by first | exact rfl | assumption) (by ktr_room) (by ktr_units) ?_); intro r9Zk h9Zk tk9Zk F9Zk N9Zk hr9Zk; obtain ⟨u9Zk, hr9Zk⟩ := hr9Zk; subst hr9Zk; (try k_sweep); (try dsimp only); (try k_fold)))
  k_with "call ref" => ((k_here; (with_reducible show wpAny _ _ (call (Value.ref 165) [Value.str _ _]) _ _ _); k_dflt (refine' SpecO.use (sp_splitroot _ _ _ (by first | assumption | omega) (by assumption) (by assumption)) (by k_asm) (by k_asm) (by k_asm) (by k_asm) (by k_asm) (by first | exact rfl | assumption) (by ktr_room) (by ktr_units) ?_); intro b9Zk o9Zk h9Zk tk9Zk F9Zk N9Zk l9Zk hr9Zk; obtain ⟨t91Zk, t92Zk, t93Zk, n9Zk, hr9Zk⟩ := hr9Zk; subst hr9Zk; (try simp only [AllNe, and_true] at l9Zk); (try k_sweep); (try dsimp only); (try k_fold)))
  k_with "call ref" => ((k_here; (with_reducible show wpAny _ _ (call (Value.ref 158) [Value.str _ _, Value.str _ _]) _ _ _); k_dflt (refine' SpecV.use (sp_join _ _ _ _ _ (by first | assumption | omega) (by first | assumption | omega)) (by k_asm) (by k_asm) (by k_asm) (by k_asm) (by k_asm) (by first | exact rfl | assumption) (by ktr_room) (by ktr_units) ?_); intro r9Zk h9Zk tk9Zk F9Zk N9Zk hr9Zk; obtain ⟨u9Zk, hr9Zk⟩ := hr9Zk; subst hr9Zk; (try k_sweep); (try dsimp only); (try k_fold)))
  k_with "exec For Tuple Call cons nil" => ((k_here; (rename Fr _ _ _ _ => lFpZk); (with_unfolding_all refine' For_turns lFpZk ?_; k_whole)))
  k_with "call ref" => ((k_here; (with_reducible show wpAny _ _ (call (Value.ref 233) [Value.int _ _]) _ _ _); k_dflt (refine' SpecV.use (sp_filemode _ _ _) (by k_asm) (by k_asm) (by k_asm) (by k_asm) (by k_asm) (by first | exact rfl | assumption) (by ktr_room) (by ktr_units) ?_); intro r9Zk h9Zk tk9Zk F9Zk N9Zk hr9Zk; obtain ⟨u9Zk, hr9Zk⟩ := hr9Zk; subst hr9Zk; (try k_sweep); (try dsimp only); (try k_fold)))
  k_with "call ref" => ((k_here; (with_reducible show wpAny _ _ (call (Value.ref 193) [Value.int _ _]) _ _ _); k_dflt (refine' SpecV.use (sp_isdir _ _ _) (by k_asm) (by k_asm) (by k_asm) (by k_asm) (by k_asm) (by first | exact rfl | assumption) (by ktr_room) (by ktr_units) ?_); intro r9Zk h9Zk tk9Zk F9Zk N9Zk hr9Zk; subst hr9Zk; (try k_sweep); (try dsimp only); (try k_fold)))
  k_with "call ref" => ((k_here; (with_reducible show wpAny _ _ (call (Value.ref 64) [Value.str _ _]) _ _ _); k_dflt (refine' SpecV.use (sp_reach _ _ _ (by first | assumption | omega) (by with_reducible assumption)) (by k_asm) (by k_asm) (by k_asm) (by k_asm) (by k_asm) (by first | exact rfl | assumption) (by ktr_room) (by ktr_units) ?_); intro r9Zk h9Zk tk9Zk F9Zk N9Zk hr9Zk; obtain ⟨u9Zk, hr9Zk⟩ := hr9Zk; subst hr9Zk; (try k_sweep); (try dsimp only); (try k_fold)))
  k_with "call ref" => ((k_here; (with_reducible show wpAny _ _ (call (Value.ref 57) [Value.str _ _, Value.str _ _]) _ _ _); k_dflt (refine' SpecV.use (sp_dm _ _ _ _ _ (by first | assumption | omega) (by first | assumption | omega) (by with_reducible assumption) (by with_reducible assumption)) (by k_asm) (by k_asm) (by k_asm) (by k_asm) (by k_asm) (by first | exact rfl | assumption) (by ktr_room) (by ktr_units) ?_); intro r9Zk h9Zk tk9Zk F9Zk N9Zk hr9Zk; subst hr9Zk; (try k_sweep); (try dsimp only); (try k_fold)))
  k_with "call ref" => ((k_here; (with_reducible show wpAny _ _ (call (Value.ref 179) [Value.str _ _]) _ _ _); k_dflt (refine' SpecV.use (sp_norm _ _ _ (by first | assumption | omega) (by assumption) (by assumption) (by assumption) (by assumption) (by assumption)) (by k_asm) (by k_asm) (by k_asm) (by k_asm) (by k_asm) (by first | exact rfl | assumption) (by ktr_room) (by ktr_units) ?_); intro r9Zk h9Zk tk9Zk F9Zk N9Zk hr9Zk; obtain ⟨u9Zk, hr9Zk⟩ := hr9Zk; subst hr9Zk; (try k_sweep); (try dsimp only); (try k_fold)))
  k_with "call ref" => ((k_here; (with_reducible show wpAny _ _ (call (Value.ref 259) [Value.str _ _]) _ _ _); k_dflt (refine' SpecV.use (sp_host _ _ _ (by first | assumption | omega) (by with_reducible assumption) (by with_reducible assumption)) (by k_asm) (by k_asm) (by k_asm) (by k_asm) (by k_asm) (by first | exact rfl | assumption) (by ktr_room) (by ktr_units) ?_); intro r9Zk h9Zk tk9Zk F9Zk N9Zk hr9Zk; obtain ⟨u9Zk, hr9Zk⟩ := hr9Zk; subst hr9Zk; (try k_sweep); (try dsimp only); (try k_fold)))
  k_with "call ref" => ((k_here; (with_reducible show wpAny _ _ (call (Value.ref 266) [Value.str _ _, Value.str _ _, Value.int _ _, Value.str _ _]) _ _ _); k_dflt (refine' SpecV.use (sp_signs _ _ _ _ _ _ _ _ _ (by with_reducible assumption) (by with_reducible assumption) (by with_reducible assumption) (by with_reducible assumption) (by with_reducible assumption) (by with_reducible assumption) (by with_reducible assumption) (by with_reducible assumption) (by with_reducible assumption) (by with_reducible assumption) (by with_reducible assumption)) (by k_asm) (by k_asm) (by k_asm) (by k_asm) (by k_asm) (by first | exact rfl | assumption) (by ktr_room) (by ktr_units) ?_); intro r9Zk h9Zk tk9Zk F9Zk N9Zk hr9Zk; obtain ⟨u9Zk, hr9Zk⟩ := hr9Zk; subst hr9Zk; (try k_sweep); (try dsimp only); (try k_fold)))
  k_with "exec For Name Call cons nil" => ((k_here; refine hidT_intro ?_))
  k_with "exec For Name Subscript cons nil" => ((k_here; refine hidT_intro ?_))
  k_with "subscriptTail Name Slice ref ref" => ((k_here; (with_reducible show wpAny _ _ (subscriptTail _ (PySem.Expr.Slice _ _ none _) (Value.ref _) (Value.ref _)) _ _ _); k_dflt (refine' slice_strs (by k_asm) (by k_asm) (by kmk_list) (by kmk_part) (by kmk_part) (by assumption) (by first | assumption | omega) ?_ (by with_unfolding_all rfl) (by kmk_pure)); intro DpZk wspZk hpZk FpZk NpZk l1Zk hIpZk hNpZk; (try simp only [pick_to, pick_to1] at hIpZk); (try k_lt l1Zk); (try k_sweep); (try dsimp only)))
  k_with "subscriptTail Name Name ref str" => ((k_here; (with_reducible show wpAny _ _ (subscriptTail _ _ (Value.ref _) (Value.str _ _)) _ _ _); k_dflt (refine' told_get (by assumption) (by assumption) (by assumption) (by with_unfolding_all rfl) ?_); intro apZk typZk hTpZk))
  k_with "subscriptTail Subscript Name Name Constant ref int" => ((k_here; (with_reducible show wpAny _ _ (subscriptTail _ _ (Value.ref _) (Value.int 0 _)) _ _ _); k_dflt (refine' pair_item0 (by with_reducible assumption) (by with_reducible assumption) ?_ (by with_unfolding_all rfl))))
  k_with "subscriptTail Subscript Name Name Constant ref int" => ((k_here; (with_reducible show wpAny _ _ (subscriptTail _ _ (Value.ref _) (Value.int 1 _)) _ _ _); k_dflt (refine' pair_item1 (by with_reducible assumption) (by with_reducible assumption) ?_ (by with_unfolding_all rfl))))
  k_with "subscriptTail Name Constant ref int" => ((k_here; (with_reducible show wpAny _ _ (subscriptTail _ _ (Value.ref _) (Value.int _ _)) _ _ _); k_dflt (refine' item_at (v := Value.str _ _) (by exact News.isList (by with_reducible assumption) (by first | exact .head _ | exact .tail _ (.head _) | exact .tail _ (.tail _ (.head _)))) (by decide) (by first | omega | (simp only [List.length_cons]; omega)) (by rfl) ?_ (by with_unfolding_all rfl))))
  k_with "binaryOp Add ref ref" => ((k_here; (with_reducible show wpAny _ _ (binaryOp _ (Value.ref _) (Value.ref _)) _ _ _); k_dflt (refine' add_any (by with_reducible assumption) (by with_reducible assumption) (by exact News.isList (by with_reducible assumption) (by first | exact .head _ | exact .tail _ (.head _) | exact .tail _ (.tail _ (.head _)))) (by exact News.isList (by with_reducible assumption) (by first | exact .head _ | exact .tail _ (.head _) | exact .tail _ (.tail _ (.head _)))) (by first | omega | (simp only [List.length_cons, List.length_nil]; omega)) ?_); intro DpZk hpZk FpZk NpZk l1Zk; (try k_lt l1Zk); (try k_sweep); (try dsimp only)))
  k_with "execs nil" => (((with_reducible refine wpAny_execs_nil ?_); try dsimp only))
  k_with "execs cons" => (((with_reducible refine wpAny_execs_cons ?_); try dsimp only))
  k_with "compareOp Eq ref ref" => ((k_here; (with_reducible show wpAny _ _ (compareOp CmpOp.Eq (Value.ref _) (Value.ref _)) _ _ _); k_dflt (refine' due_eq (by kmk_list) (by kmk_list) (by assumption) (by assumption) (by ke_room) ?_)))
  k_with "call builtin:list.index" => ((k_here; (with_reducible show wpAny _ _ (call (Value.builtin _) [Value.ref _, Value.ref _]) _ _ _); k_dflt (refine' due_index (by assumption) (by assumption) (by assumption) (by assumption) (by k_mem) (by assumption) (by ke_room) (by first | assumption | omega) (by assumption) ?_)))
  k_with "getMethod ref" => ((k_here; (with_reducible show wpAny _ _ (getMethod (Value.ref _) (PySem.Str.ofString "index") _) _ _ _); k_dflt (refine' due_method (by assumption) (by assumption) PySem.F.slot_list_index PySem.F.type_list_index ?_)))
  k_with "subscriptTail Name Call ref int" => ((k_here; (with_reducible show wpAny _ _ (subscriptTail _ _ (Value.ref _) (Value.int _ _)) _ _ _); k_dflt (refine' due_item (by assumption) (by assumption) (by assumption) (by omega) (by assumption) ?_ (by with_unfolding_all rfl)); intro tpZk))
  k_with "exec If" => ((k_here; (with_reducible show wpAny _ _ (exec (PySem.Stmt.If (PySem.Expr.Compare _ [PySem.CmpOp.Eq] _ _) _ (_ :: _) _) _) _ _ _); refine hidT_intro ?_))
  k_with "ite" => (((rename QuickIte => hQuick9Zk); k_openite; first | (refine ite_pos (by with_reducible assumption) ?_) | (refine ite_neg (by with_reducible assumption) ?_) | (refine ite_isFalse (by with_reducible assumption) ?_) | with_reducible refine ite_tt ?_ | with_reducible refine ite_ff ?_ | (with_reducible refine split_ine ?_ ?_ <;> intro _) | (with_reducible refine split_ieq ?_ ?_ <;> intro _) | with_reducible refine split_not ?_ | (refine split_dec ?_ ?_ <;> intro _) | (refine split_bool ?_ ?_ <;> intro _)))
  k_with "binaryOp Add ref ref" => ((k_here; (with_reducible show wpAny _ _ (binaryOp _ (Value.ref _) (Value.ref _)) _ _ _); k_dflt (refine' add_any (by k_asm) (by k_asm) (by first | exact listAt (by k_asm) (by repeat (first | exact List.mem_cons_self .. | with_reducible assumption | refine List.mem_cons_of_mem _ ?_)) | kmk_list) (by first | exact listAt (by k_asm) (by repeat (first | exact List.mem_cons_self .. | with_reducible assumption | refine List.mem_cons_of_mem _ ?_)) | kmk_list) (by ((try simp only [List.length_append, List.length_cons, List.length_nil]); omega)) ?_); intro DpZk hpZk FpZk NpZk l1Zk; (try k_lt l1Zk); (try k_sweep); (try dsimp only)))
  k_with "subscriptTail Name Name ref int" => ((k_here; (with_reducible show wpAny _ _ (subscriptTail _ _ (Value.ref _) (Value.int _ _)) _ _ _); k_dflt (refine' item_at (by first | exact listAt (by k_asm) (by repeat (first | exact List.mem_cons_self .. | with_reducible assumption | refine List.mem_cons_of_mem _ ?_)) | kmk_list) (by omega) (by omega) (by with_reducible assumption) ?_ (by with_unfolding_all rfl))))
  k_with "exec For Tuple Subscript cons nil" => ((k_here; refine hidT_intro ?_))
  k_with "subscriptTail Name Slice ref ref" => ((k_here; (with_reducible show wpAny _ _ (subscriptTail _ (PySem.Expr.Slice _ _ none _) (Value.ref _) (Value.ref _)) _ _ _); k_dflt (refine' slice_any (by k_asm) (by k_asm) (by first | exact listAt (by k_asm) (by repeat (first | exact List.mem_cons_self .. | with_reducible assumption | refine List.mem_cons_of_mem _ ?_)) | kmk_list) (by first | assumption | omega) (by kmk_part) (by kmk_part) ?_ (by with_unfolding_all rfl) (by kmk_pure)); intro DpZk hpZk FpZk NpZk l1Zk; (try k_lt l1Zk); (try k_sweep); (try dsimp only)))
  k_with "assign Tuple" => ((k_here; (with_reducible show wpAny _ _ (assign (PySem.Expr.Tuple _ _ _) _ (Value.ref _)) _ _ _); k_dflt (refine' asgK (hL := (by rfl)) (by rfl) (by first | exact isTup_keep (by with_reducible assumption) (Fr.keep (by k_asm)) | exact isTup_news (by k_asm) (by repeat (first | exact List.mem_cons_self .. | with_reducible assumption | refine List.mem_cons_of_mem _ ?_)) (by with_reducible assumption) (by with_reducible assumption)) (by k_asm) (by k_asm) (by rfl) (by rfl) (by rfl) (by rfl) ?_); intro hpZk tkpZk FpZk NpZk; (try k_sweep)))
  k_with "subscriptTail Tuple cons BinOp ref int" => ((k_here; k_dflt (refine' menu3 (by exact News.isTup (by k_asm) (List.mem_cons_self ..)) ?_ (by with_unfolding_all rfl)); intro tpZk; (try dsimp only)))
  k_with "call builtin:len" => ((k_here; (with_reducible show wpAny _ _ (call (Value.builtin "len") [Value.ref _]) _ _ _); k_dflt (refine' len_any (by exact listAt (by k_asm) (by repeat (first | exact List.mem_cons_self .. | with_reducible assumption | refine List.mem_cons_of_mem _ ?_))) (by omega) ?_); (try dsimp only)))
  exact trivial


theorem fresh_Qc : True := by
  w_top off
  exact trivial
structure LawFacts2 (hs : List Home) : Prop where
  kind : ∀ x ∈ hs, (fmF x.2.2).length = 10 ∧ Txt.item (fmF x.2.2) 0 = Txt.item (Str.ofString "?pc?d?b?-?l?s???") ((x.2.2.fdiv 4096).fmod 16)
  isd : ∀ x ∈ hs, (Builtin.bitAnd (Builtin.bitXor x.2.2 8192) 61440 == 16384) = ((x.2.2.fdiv 4096).fmod 16 == 6)
  rx : ∀ x ∈ hs, reachF (x.2.1 ++ Str.ofString ".x") = x.2.1 ++ Str.ofString ".x" ∧ reNone (x.2.1 ++ Str.ofString ".x") = true
def modesF (hs : List Home) : List Int := hs.map fun x => x.2.2
def namesF (hs : List Home) : List Str := hs.map fun x => fmF x.2.2
structure LawMn (nw : List (Addr × Obj)) (hs : List Home) (Ma Na : Addr) : Prop where
  modes : ∃ vs k, (Ma, W.listOf (List.toArray vs) k) ∈ nw ∧ Two IV vs (modesF hs)
  names : ∃ vs k, (Na, W.listOf (List.toArray vs) k) ∈ nw ∧ Two SV vs (namesF hs)
theorem law_push {h₀ h : Heap} {L D : Addr} {oD o5 o4 o3 o2 o1 : Obj} {nw : List (Addr × Obj)} (N : News h₀ L h ((D, oD) :: lawLed L o5 o4 o3 o2 o1 nw)) {p5 p4 p3 p2 p1 : Obj} (off : ∀ q ∈ lawLed L p5 p4 p3 p2 p1 nw, q.1 ≠ D)
    (sep : ∀ p ∈ nw, p.1 ≠ L + 1 ∧ p.1 ≠ L + 1 + 1 ∧ p.1 ≠ L + 1 + 1 + 1 ∧ p.1 ≠ L + 1 + 1 + 1 + 1 ∧ p.1 ≠ L + 1 + 1 + 1 + 1 + 1) :
    ∃ NW, News h₀ L h (lawLed L o5 o4 o3 o2 o1 NW) ∧ (D, oD) ∈ NW ∧ (∀ p ∈ nw, p ∈ NW) ∧ (∀ p ∈ NW, p.1 ≠ L + 1 ∧ p.1 ≠ L + 1 + 1 ∧ p.1 ≠ L + 1 + 1 + 1 ∧ p.1 ≠ L + 1 + 1 + 1 + 1 ∧ p.1 ≠ L + 1 + 1 + 1 + 1 + 1) := by
  obtain ⟨NW, a, b, c, d⟩ := law_join (nw2 := [(D, oD)]) (nw := nw) N (fun p hp q hq => by
    rw [List.mem_singleton.mp hp]
    have key : ∀ q ∈ lawLed L o5 o4 o3 o2 o1 nw, ∃ q' ∈ lawLed L p5 p4 p3 p2 p1 nw, q'.1 = q.1 := by
      intro q hq
      rcases List.mem_cons.mp hq with rfl | hq
      · exact ⟨_, .head _, rfl⟩
      rcases List.mem_cons.mp hq with rfl | hq
      · exact ⟨_, .tail _ (.head _), rfl⟩
      rcases List.mem_cons.mp hq with rfl | hq
      · exact ⟨_, .tail _ (.tail _ (.head _)), rfl⟩
      rcases List.mem_cons.mp hq with rfl | hq
      · exact ⟨_, .tail _ (.tail _ (.tail _ (.head _))), rfl⟩
      rcases List.mem_cons.mp hq with rfl | hq
      · exact ⟨_, .tail _ (.tail _ (.tail _ (.tail _ (.head _)))), rfl⟩
      · exact ⟨q, .tail _ (.tail _ (.tail _ (.tail _ (.tail _ hq)))), rfl⟩
    obtain ⟨q', hq', e⟩ := key q hq
    rw [← e]
    exact Ne.symm (off q' hq')) sep
  exact ⟨NW, a, b _ (.head _), c, d⟩
theorem upd1 {L : Addr} {o5 o4 o3 o2 o1 : Obj} {nw : List (Addr × Obj)} (sep : ∀ p ∈ nw, p.1 ≠ L + 1 ∧ p.1 ≠ L + 1 + 1 ∧ p.1 ≠ L + 1 + 1 + 1 ∧ p.1 ≠ L + 1 + 1 + 1 + 1 ∧ p.1 ≠ L + 1 + 1 + 1 + 1 + 1) : UpdF (L + 1) o1 (lawLed L o5 o4 o3 o2 o1 nw) (fun o => lawLed L o5 o4 o3 o2 o nw) := by
  have key : ∀ p ∈ (nw : List (Addr × Obj)), p.1 ≠ L + 1 := fun p hp => by
    exact (sep p hp).1
  exact UpdF.tail (by show @Ne Nat _ _; (try dsimp only); omega) (UpdF.tail (by show @Ne Nat _ _; (try dsimp only); omega) (UpdF.tail (by show @Ne Nat _ _; (try dsimp only); omega) (UpdF.tail (by show @Ne Nat _ _; (try dsimp only); omega) (UpdF.head key))))
theorem upd2 {L : Addr} {o5 o4 o3 o2 o1 : Obj} {nw : List (Addr × Obj)} (sep : ∀ p ∈ nw, p.1 ≠ L + 1 ∧ p.1 ≠ L + 1 + 1 ∧ p.1 ≠ L + 1 + 1 + 1 ∧ p.1 ≠ L + 1 + 1 + 1 + 1 ∧ p.1 ≠ L + 1 + 1 + 1 + 1 + 1) : UpdF (L + 1 + 1) o2 (lawLed L o5 o4 o3 o2 o1 nw) (fun o => lawLed L o5 o4 o3 o o1 nw) := by
  have key : ∀ p ∈ ((L + 1, o1) :: nw : List (Addr × Obj)), p.1 ≠ L + 1 + 1 := fun p hp => by
    rcases List.mem_cons.mp hp with rfl | hp
    · show @Ne Nat _ _
      (try dsimp only)
      omega
    exact (sep p hp).2.1
  exact UpdF.tail (by show @Ne Nat _ _; (try dsimp only); omega) (UpdF.tail (by show @Ne Nat _ _; (try dsimp only); omega) (UpdF.tail (by show @Ne Nat _ _; (try dsimp only); omega) (UpdF.head key)))
theorem upd3 {L : Addr} {o5 o4 o3 o2 o1 : Obj} {nw : List (Addr × Obj)} (sep : ∀ p ∈ nw, p.1 ≠ L + 1 ∧ p.1 ≠ L + 1 + 1 ∧ p.1 ≠ L + 1 + 1 + 1 ∧ p.1 ≠ L + 1 + 1 + 1 + 1 ∧ p.1 ≠ L + 1 + 1 + 1 + 1 + 1) : UpdF (L + 1 + 1 + 1) o3 (lawLed L o5 o4 o3 o2 o1 nw) (fun o => lawLed L o5 o4 o o2 o1 nw) := by
  have key : ∀ p ∈ ((L + 1 + 1, o2) :: (L + 1, o1) :: nw : List (Addr × Obj)), p.1 ≠ L + 1 + 1 + 1 := fun p hp => by
    rcases List.mem_cons.mp hp with rfl | hp
    · show @Ne Nat _ _
      (try dsimp only)
      omega
    rcases List.mem_cons.mp hp with rfl | hp
    · show @Ne Nat _ _
      (try dsimp only)
      omega
    exact (sep p hp).2.2.1
  exact UpdF.tail (by show @Ne Nat _ _; (try dsimp only); omega) (UpdF.tail (by show @Ne Nat _ _; (try dsimp only); omega) (UpdF.head key))
theorem upd4 {L : Addr} {o5 o4 o3 o2 o1 : Obj} {nw : List (Addr × Obj)} (sep : ∀ p ∈ nw, p.1 ≠ L + 1 ∧ p.1 ≠ L + 1 + 1 ∧ p.1 ≠ L + 1 + 1 + 1 ∧ p.1 ≠ L + 1 + 1 + 1 + 1 ∧ p.1 ≠ L + 1 + 1 + 1 + 1 + 1) : UpdF (L + 1 + 1 + 1 + 1) o4 (lawLed L o5 o4 o3 o2 o1 nw) (fun o => lawLed L o5 o o3 o2 o1 nw) := by
  have key : ∀ p ∈ ((L + 1 + 1 + 1, o3) :: (L + 1 + 1, o2) :: (L + 1, o1) :: nw : List (Addr × Obj)), p.1 ≠ L + 1 + 1 + 1 + 1 := fun p hp => by
    rcases List.mem_cons.mp hp with rfl | hp
    · show @Ne Nat _ _
      (try dsimp only)
      omega
    rcases List.mem_cons.mp hp with rfl | hp
    · show @Ne Nat _ _
      (try dsimp only)
      omega
    rcases List.mem_cons.mp hp with rfl | hp
    · show @Ne Nat _ _
      (try dsimp only)
      omega
    exact (sep p hp).2.2.2.1
  exact UpdF.tail (by show @Ne Nat _ _; (try dsimp only); omega) (UpdF.head key)
theorem upd5 {L : Addr} {o5 o4 o3 o2 o1 : Obj} {nw : List (Addr × Obj)} (sep : ∀ p ∈ nw, p.1 ≠ L + 1 ∧ p.1 ≠ L + 1 + 1 ∧ p.1 ≠ L + 1 + 1 + 1 ∧ p.1 ≠ L + 1 + 1 + 1 + 1 ∧ p.1 ≠ L + 1 + 1 + 1 + 1 + 1) : UpdF (L + 1 + 1 + 1 + 1 + 1) o5 (lawLed L o5 o4 o3 o2 o1 nw) (fun o => lawLed L o o4 o3 o2 o1 nw) := by
  have key : ∀ p ∈ ((L + 1 + 1 + 1 + 1, o4) :: (L + 1 + 1 + 1, o3) :: (L + 1 + 1, o2) :: (L + 1, o1) :: nw : List (Addr × Obj)), p.1 ≠ L + 1 + 1 + 1 + 1 + 1 := fun p hp => by
    rcases List.mem_cons.mp hp with rfl | hp
    · show @Ne Nat _ _
      (try dsimp only)
      omega
    rcases List.mem_cons.mp hp with rfl | hp
    · show @Ne Nat _ _
      (try dsimp only)
      omega
    rcases List.mem_cons.mp hp with rfl | hp
    · show @Ne Nat _ _
      (try dsimp only)
      omega
    rcases List.mem_cons.mp hp with rfl | hp
    · show @Ne Nat _ _
      (try dsimp only)
      omega
    exact (sep p hp).2.2.2.2
  exact UpdF.head key
theorem LawNw.mono {L : Addr} {nw nw' : List (Addr × Obj)} {hs : List Home} {Ha Ra Pa : Addr} (x : LawNw L nw hs Ha Ra Pa) (k : ∀ p ∈ nw, p ∈ nw') (sep : ∀ p ∈ nw', p.1 ≠ L + 1 ∧ p.1 ≠ L + 1 + 1 ∧ p.1 ≠ L + 1 + 1 + 1 ∧ p.1 ≠ L + 1 + 1 + 1 + 1 ∧ p.1 ≠ L + 1 + 1 + 1 + 1 + 1) : LawNw L nw' hs Ha Ra Pa := by
  obtain ⟨_, ⟨v1, k1, m1, t1⟩, ⟨v2, k2, m2, t2⟩, ⟨v3, k3, m3, t3⟩⟩ := x
  exact ⟨sep, ⟨v1, k1, k _ m1, t1.mono fun _ _ q => HomeIn.mono q k⟩, ⟨v2, k2, k _ m2, t2.mono fun _ _ q => RowIn.mono q k⟩, ⟨v3, k3, k _ m3, t3⟩⟩
section
theorem kw_Qc_1 : True := by
  k_with "storeName" => ((k_here; (with_reducible show wpAny _ _ (storeName _ (PySem.Str.ofString "modes") _) _ _ _); k_dflt (refine' storeX_C (by k_asm) (by k_asm) (by rfl) (upd2 (by with_reducible assumption)) (by k_asm) ?_ (by rfl) (by rfl)); intro hpZk opZk FpZk NpZk dpZk; (try dsimp only at NpZk); (try k_sweep)))
  k_with "exec Assign cons ListComp" => ((k_here; (with_reducible show wpAny _ _ (exec (PySem.Stmt.Assign [PySem.Expr.Name (PySem.Str.ofString "names") _] _ _) _) _ _ _); refine hidT_intro ?_))
  k_with "exec Assign cons ListComp" => ((k_here; (with_reducible show wpAny _ _ (exec (PySem.Stmt.Assign [PySem.Expr.Name (PySem.Str.ofString "modes") _] _ _) _) _ _ _); refine wpAny_Assign_Name ?_ (by with_unfolding_all rfl)))
  k_with "eval ListComp" => ((k_here; refine hidT_intro ?_))
  k_with "execs cons If cons" => ((k_here; refine hidT_intro ?_))
  exact trivial

local macro_rules | `(tactic| k_all) => `(tactic| with_reducible assumption)
theorem law_p2 (w : World) {p : Program} {loose : List Str} {mean : ExcName → Option Value} {mg mb : Str → Option Value} {dp un : Nat} {gd : Option (List Code)} {cn : Str} {a : Addr} {ccd : Value} {outer : List Env} {A₀ : Around} {base h₀ : Heap} {L Ha Ra Pa : Addr} {m : Str → Option Value} {s : Shared} {o5 o4 o3 o2 o1 : Obj} {v5 v4 v3 v2 : Option Value} {nw : List (Addr × Obj)} {hs : List Home}
    {Q : Flow → Shared → Prop} {E : Value → Shared → Prop} (LF : LawFacts hs)
    (B : Below A₀ base outer h₀) (F : Fr h₀ L s.heap m) (X : (hd.heap_1 w.params).In h₀) (T : Top p loose mean mg mb h₀) (hkf : (lawScope w).kind = .function) (hd9 : dp + 100 < recursionLimit) (hu9 : un + 1000 < cLine)
    (N : News h₀ L s.heap (lawLed L o5 o4 o3 o2 o1 nw)) (d5 : o5.data = .cell v5) (d4 : o4.data = .cell v4) (d3 : o3.data = .cell v3) (d2 : o2.data = .cell v2) (d1 : o1.data = .cell (some (.ref Pa)))
    (q1 : m (Str.ofString "homes") = some (.ref Ha)) (q2 : m (Str.ofString "rows") = some (.ref Ra)) (LN : LawNw L nw hs Ha Ra Pa)
    (next : ∀ h' tk m' o2 nw Ma Na, Fr h₀ L h' m' → m' (Str.ofString "homes") = some (.ref Ha) → m' (Str.ofString "rows") = some (.ref Ra) → m' (Str.ofString "names") = some (.ref Na) → News h₀ L h' (lawLed L o5 o4 o3 o2 o1 nw) → o2.data = .cell (some (.ref Ma)) → LawNw L nw hs Ha Ra Pa → LawMn nw hs Ma Na →
      wpAny (model PP w) (ktrTop dp un gd cn (lawScope w) L a ccd (lawCells L) outer) (execs ((lawBody w).drop 6) (envX cn (lawScope w) L a ccd (lawCells L))) Q E { s with heap := h', toks := tk }) :
    wpAny (model PP w) (ktrTop dp un gd cn (lawScope w) L a ccd (lawCells L) outer) (execs ((lawBody w).drop 4) (envX cn (lawScope w) L a ccd (lawCells L))) Q E s := by
  (have : PySem.Challenge.rw_ik0073_01 = PySem.Challenge.rw_ik0073_01 ∧ Mine.hd.heap_1 = Mine.hd.heap_1 := (by k_fill; exact ⟨rfl, rfl⟩))
  clear this
  obtain ⟨key1, key2⟩ := law_lit (w := w) (by k_is)
  rw [key1, key2] at next
  rw [key1, key2]
  rw [key2] at hkf
  clear key1 key2
  simp only [List.drop] at next ⊢
  obtain ⟨u0, hm⟩ := over2t q1 q2
  subst hm
  clear q1 q2
  have LN' := LN
  obtain ⟨sep, ⟨hv, hk, hHa, hT⟩, ⟨rv, rk, hRa, hR⟩, ⟨pv, pk, hPa, hP⟩⟩ := LN'
  have hvl := hT.length
  have hlen := LF.len
  have sep2 : ∀ p ∈ nw, p.1 ≠ L + 1 + 1 := fun p hp => (sep p hp).2.1
  try k_fold
  k_steps
  refine hidT_open (ListComp_G (F₀ := by k_asm) (cl := []) (by rfl) (by decide) (by rfl) (by decide) ?_)
  k_steps
  have sub8 := law_sub N
  refine comp_map3 (fun x => x.2.2) IV rfl rfl rfl rfl rfl (by decide) (by decide) (by decide) (by k_asm) N (listAt N (sub8 _ hHa)) (N (Ha, _) (sub8 _ hHa)).2.1 (by omega) (hT.mono fun _ _ q => HomeIn.mono q sub8) ?step ?fin
  case step =>
    intro gh i y t1 t2 t3 ys own C D oC m₂ h tk E' hy ma mb' mc hoC F' N'
    try dsimp only
    k_steps
    all_goals (exact CEnd.same (by assumption) (by assumption) (fun p hp => hp) ⟨rfl, _, rfl⟩)
  case fin =>
    intro gh D ys hys off
    unfold FinQ
    intro h8 tk8 F8 N8
    obtain ⟨NW, N7, hD, sub1, sep7⟩ := law_push N8 off sep
    replace LN := LN.mono sub1 sep7
    replace hHa := sub1 _ hHa
    clear N8 off sep sub8 sub1 N sep2
    k_steps
    refine hidT_open (Assign_ListComp_GL (F₀ := by k_asm) (cl := []) (by rfl) (by with_unfolding_all rfl) (by rfl) (by decide) (by rfl) (by decide) (by rfl) (by rfl) ?_)
    k_steps
    (rename News _ _ _ _ => N9)
    have sub9 := law_sub N9
    have hyl := hys.length
    rw [List.length_map] at hyl
    refine comp_map fmF IV SV rfl rfl rfl (by k_asm) N9 (listAt N9 (sub9 _ hD)) (N9 (D, _) (sub9 _ hD)).2.1 (by omega) hys ?step ?fin
    case step =>
      intro gh i v y ys' own C D' oC m₂ h tk E' hy hv hm hoC F' N'
      obtain ⟨t, rfl⟩ := hv
      try dsimp only
      k_steps
      all_goals (exact CEnd.same (by assumption) (by assumption) (fun p hp => hp) ⟨rfl, _, rfl⟩)
    case fin =>
      intro gh D2 ys2 hys2 off2
      unfold FinL
      intro h8 tk8 F8 N8
      obtain ⟨NW2, N6, hD2, sub2, sep6⟩ := law_push N8 off2 sep7
      replace LN := LN.mono sub2 sep6
      replace hD := sub2 _ hD
      k_steps
      (rename Fr _ _ _ _ => F9)
      exact hidT_open (next _ _ _ _ NW2 D D2 F9 rfl rfl rfl (by assumption) (by assumption) LN ⟨⟨ys, _, hD, hys⟩, ⟨ys2, _, hD2, by rw [List.map_map] at hys2; exact hys2⟩⟩)
end
theorem kw_Qc_2 : True := by
  k_with_none
  k_with "ite" => (first | with_reducible refine tt_then ?_ | with_reducible refine ff_else ?_)
  k_with "call ref" => ((k_here; (with_reducible show wpAny _ _ (call (Value.ref 186) [Value.int _ _]) _ _ _); k_dflt (refine' SpecV.use (sp_isfmt _ _ _) (by k_asm) (by k_asm) (by k_asm) (by k_asm) (by k_asm) (by first | exact rfl | assumption) (by ktr_room) (by ktr_units) ?_); intro r9Zk h9Zk tk9Zk F9Zk N9Zk hr9Zk; obtain ⟨u9Zk, hr9Zk⟩ := hr9Zk; subst hr9Zk; (try k_sweep); (try dsimp only); (try k_fold)))
  k_with "getMethod ref" => ((k_here; (with_reducible show wpAny _ _ (getMethod (Value.ref 43) _ _) _ _ _); k_dflt (refine' re_method (by k_in) ?_)))
  k_with "call builtin:re.Pattern.search" => ((k_here; k_dflt (refine' re_search (by k_in) (by first | assumption | omega) (by with_reducible assumption) ?_)))
  k_with "call ref" => ((k_here; (with_reducible show wpAny _ _ (call (Value.ref 50) [Value.str _ _]) _ _ _); k_dflt (refine' SpecV.use (sp_hdn _ _ _ (by first | assumption | omega) (by with_reducible assumption)) (by k_asm) (by k_asm) (by k_asm) (by k_asm) (by k_asm) (by first | exact rfl | assumption) (by ktr_room) (by ktr_units) ?_); intro r9Zk h9Zk tk9Zk F9Zk N9Zk hr9Zk; subst hr9Zk; (try k_sweep); (try dsimp only); (try k_fold)))
  k_with "call ref" => ((k_here; (with_reducible show wpAny _ _ (call (Value.ref 151) [Value.str _ _]) _ _ _); k_dflt (refine' SpecV.use (sp_getsep _ _ _) (by k_asm) (by k_asm) (by k_asm) (by k_asm) (by k_asm) (by first | exact rfl | assumption) (by ktr_room) (by ktr_units) ?_); intro r9Zk h9Zk tk9Zk F9Zk N9Zk hr9Zk; obtain ⟨u9Zk, hr9Zk⟩ := hr9Zk; subst hr9Zk; (try k_sweep); (try dsimp only); (try k_fold)))
  k_with "call builtin:issubclass" => ((k_here; (with_reducible show wpAny _ _ (call (Value.builtin "issubclass") [Value.type "str", Value.ref _]) _ _ _); k_dflt (refine' call_issub (by exact News.get (by k_asm) (by k_mem)) (by exact rfl) (by exact rfl) ?_)))
  k_with "call ref" => ((k_here; (with_reducible show wpAny _ _ (call (Value.ref 137) [Value.str _ _]) _ _ _); k_dflt (refine' SpecV.use (sp_fspath _ _ _) (by k_asm) (by k_asm) (by k_asm) (by k_asm) (by k_asm) (by first | exact rfl | assumption) (by ktr_room) (by ktr_units) ?_); intro r9Zk h9Zk tk9Zk F9Zk N9Zk hr9Zk; obtain ⟨u9Zk, hr9Zk⟩ := hr9Zk; subst hr9Zk; (try k_sweep); (try dsimp only); (try k_fold)))
  k_with "call ref" => ((k_here; (with_reducible show wpAny _ _ (call (Value.ref 172) [Value.str _ _]) _ _ _); k_dflt (refine' SpecV.use (sp_dirname _ _ _ (by first | assumption | omega)) (by k_asm) (by k_asm) (by k_asm) (by k_asm) (by k_asm) (by first | exact rfl | assumption) (by ktr_room) (by ktr_units) ?_); intro r9Zk h9Zk tk9Zk F9Zk N9Zk hr9Zk; obtain ⟨u9Zk, hr9Zk⟩ := hr9Zk; subst hr9Zk; (try k_sweep); (try dsimp only); (try k_fold)))
  k_with "call ref" => ((k_here; (with_reducible show wpAny _ _ (call (Value.ref 165) [Value.str _ _]) _ _ _); k_dflt (refine' SpecO.use (sp_splitroot _ _ _ (by first | assumption | omega) (by assumption) (by assumption)) (by k_asm) (by k_asm) (by k_asm) (by k_asm) (by k_asm) (by first | exact rfl | assumption) (by ktr_room) (by ktr_units) ?_); intro b9Zk o9Zk h9Zk tk9Zk F9Zk N9Zk l9Zk hr9Zk; obtain ⟨t91Zk, t92Zk, t93Zk, n9Zk, hr9Zk⟩ := hr9Zk; subst hr9Zk; (try simp only [AllNe, and_true] at l9Zk); (try k_sweep); (try dsimp only); (try k_fold)))
  k_with "call ref" => ((k_here; (with_reducible show wpAny _ _ (call (Value.ref 158) [Value.str _ _, Value.str _ _]) _ _ _); k_dflt (refine' SpecV.use (sp_join _ _ _ _ _ (by first | assumption | omega) (by first | assumption | omega)) (by k_asm) (by k_asm) (by k_asm) (by k_asm) (by k_asm) (by first | exact rfl | assumption) (by ktr_room) (by ktr_units) ?_); intro r9Zk h9Zk tk9Zk F9Zk N9Zk hr9Zk; obtain ⟨u9Zk, hr9Zk⟩ := hr9Zk; subst hr9Zk; (try k_sweep); (try dsimp only); (try k_fold)))
  k_with "exec For Tuple Call cons nil" => ((k_here; (rename Fr _ _ _ _ => lFpZk); (with_unfolding_all refine' For_turns lFpZk ?_; k_whole)))
  k_with "call ref" => ((k_here; (with_reducible show wpAny _ _ (call (Value.ref 233) [Value.int _ _]) _ _ _); k_dflt (refine' SpecV.use (sp_filemode _ _ _) (by k_asm) (by k_asm) (by k_asm) (by k_asm) (by k_asm) (by first | exact rfl | assumption) (by ktr_room) (by ktr_units) ?_); intro r9Zk h9Zk tk9Zk F9Zk N9Zk hr9Zk; obtain ⟨u9Zk, hr9Zk⟩ := hr9Zk; subst hr9Zk; (try k_sweep); (try dsimp only); (try k_fold)))
  k_with "call ref" => ((k_here; (with_reducible show wpAny _ _ (call (Value.ref 193) [Value.int _ _]) _ _ _); k_dflt (refine' SpecV.use (sp_isdir _ _ _) (by k_asm) (by k_asm) (by k_asm) (by k_asm) (by k_asm) (by first | exact rfl | assumption) (by ktr_room) (by ktr_units) ?_); intro r9Zk h9Zk tk9Zk F9Zk N9Zk hr9Zk; subst hr9Zk; (try k_sweep); (try dsimp only); (try k_fold)))
  k_with "call ref" => ((k_here; (with_reducible show wpAny _ _ (call (Value.ref 64) [Value.str _ _]) _ _ _); k_dflt (refine' SpecV.use (sp_reach _ _ _ (by first | assumption | omega) (by with_reducible assumption)) (by k_asm) (by k_asm) (by k_asm) (by k_asm) (by k_asm) (by first | exact rfl | assumption) (by ktr_room) (by ktr_units) ?_); intro r9Zk h9Zk tk9Zk F9Zk N9Zk hr9Zk; obtain ⟨u9Zk, hr9Zk⟩ := hr9Zk; subst hr9Zk; (try k_sweep); (try dsimp only); (try k_fold)))
  k_with "call ref" => ((k_here; (with_reducible show wpAny _ _ (call (Value.ref 57) [Value.str _ _, Value.str _ _]) _ _ _); k_dflt (refine' SpecV.use (sp_dm _ _ _ _ _ (by first | assumption | omega) (by first | assumption | omega) (by with_reducible assumption) (by with_reducible assumption)) (by k_asm) (by k_asm) (by k_asm) (by k_asm) (by k_asm) (by first | exact rfl | assumption) (by ktr_room) (by ktr_units) ?_); intro r9Zk h9Zk tk9Zk F9Zk N9Zk hr9Zk; subst hr9Zk; (try k_sweep); (try dsimp only); (try k_fold)))
  k_with "call ref" => ((k_here; (with_reducible show wpAny _ _ (call (Value.ref 179) [Value.str _ _]) _ _ _); k_dflt (refine' SpecV.use (sp_norm _ _ _ (by first | assumption | omega) (by assumption) (by assumption) (by assumption) (by assumption) (by assumption)) (by k_asm) (by k_asm) (by k_asm) (by k_asm) (by k_asm) (by first | exact rfl | assumption) (by ktr_room) (by ktr_units) ?_); intro r9Zk h9Zk tk9Zk F9Zk N9Zk hr9Zk; obtain ⟨u9Zk, hr9Zk⟩ := hr9Zk; subst hr9Zk; (try k_sweep); (try dsimp only); (try k_fold)))
  k_with "call ref" => ((k_here; (with_reducible show wpAny _ _ (call (Value.ref 259) [Value.str _ _]) _ _ _); k_dflt (refine' SpecV.use (sp_host _ _ _ (by first | assumption | omega) (by with_reducible assumption) (by with_reducible assumption)) (by k_asm) (by k_asm) (by k_asm) (by k_asm) (by k_asm) (by first | exact rfl | assumption) (by ktr_room) (by ktr_units) ?_); intro r9Zk h9Zk tk9Zk F9Zk N9Zk hr9Zk; obtain ⟨u9Zk, hr9Zk⟩ := hr9Zk; subst hr9Zk; (try k_sweep); (try dsimp only); (try k_fold)))
  k_with "call ref" => ((k_here; (with_reducible show wpAny _ _ (call (Value.ref 266) [Value.str _ _, Value.str _ _, Value.int _ _, Value.str _ _]) _ _ _); k_dflt (refine' SpecV.use (sp_signs _ _ _ _ _ _ _ _ _ (by with_reducible assumption) (by with_reducible assumption) (by with_reducible assumption) (by with_reducible assumption) (by with_reducible assumption) (by with_reducible assumption) (by with_reducible assumption) (by with_reducible assumption) (by with_reducible assumption) (by with_reducible assumption) (by with_reducible assumption)) (by k_asm) (by k_asm) (by k_asm) (by k_asm) (by k_asm) (by first | exact rfl | assumption) (by ktr_room) (by ktr_units) ?_); intro r9Zk h9Zk tk9Zk F9Zk N9Zk hr9Zk; obtain ⟨u9Zk, hr9Zk⟩ := hr9Zk; subst hr9Zk; (try k_sweep); (try dsimp only); (try k_fold)))
  k_with "exec For Name Call cons nil" => ((k_here; refine hidT_intro ?_))
  k_with "exec For Name Subscript cons nil" => ((k_here; refine hidT_intro ?_))
  k_with "subscriptTail Name Slice ref ref" => ((k_here; (with_reducible show wpAny _ _ (subscriptTail _ (PySem.Expr.Slice _ _ none _) (Value.ref _) (Value.ref _)) _ _ _); k_dflt (refine' slice_strs (by k_asm) (by k_asm) (by kmk_list) (by kmk_part) (by kmk_part) (by assumption) (by first | assumption | omega) ?_ (by with_unfolding_all rfl) (by kmk_pure)); intro DpZk wspZk hpZk FpZk NpZk l1Zk hIpZk hNpZk; (try simp only [pick_to, pick_to1] at hIpZk); (try k_lt l1Zk); (try k_sweep); (try dsimp only)))
  k_with "subscriptTail Name Name ref str" => ((k_here; (with_reducible show wpAny _ _ (subscriptTail _ _ (Value.ref _) (Value.str _ _)) _ _ _); k_dflt (refine' told_get (by assumption) (by assumption) (by assumption) (by with_unfolding_all rfl) ?_); intro apZk typZk hTpZk))
  k_with "subscriptTail Subscript Name Name Constant ref int" => ((k_here; (with_reducible show wpAny _ _ (subscriptTail _ _ (Value.ref _) (Value.int 0 _)) _ _ _); k_dflt (refine' pair_item0 (by with_reducible assumption) (by with_reducible assumption) ?_ (by with_unfolding_all rfl))))
  k_with "subscriptTail Subscript Name Name Constant ref int" => ((k_here; (with_reducible show wpAny _ _ (subscriptTail _ _ (Value.ref _) (Value.int 1 _)) _ _ _); k_dflt (refine' pair_item1 (by with_reducible assumption) (by with_reducible assumption) ?_ (by with_unfolding_all rfl))))
  k_with "subscriptTail Name Constant ref int" => ((k_here; (with_reducible show wpAny _ _ (subscriptTail _ _ (Value.ref _) (Value.int _ _)) _ _ _); k_dflt (refine' item_at (v := Value.str _ _) (by exact News.isList (by with_reducible assumption) (by first | exact .head _ | exact .tail _ (.head _) | exact .tail _ (.tail _ (.head _)))) (by decide) (by first | omega | (simp only [List.length_cons]; omega)) (by rfl) ?_ (by with_unfolding_all rfl))))
  k_with "binaryOp Add ref ref" => ((k_here; (with_reducible show wpAny _ _ (binaryOp _ (Value.ref _) (Value.ref _)) _ _ _); k_dflt (refine' add_any (by with_reducible assumption) (by with_reducible assumption) (by exact News.isList (by with_reducible assumption) (by first | exact .head _ | exact .tail _ (.head _) | exact .tail _ (.tail _ (.head _)))) (by exact News.isList (by with_reducible assumption) (by first | exact .head _ | exact .tail _ (.head _) | exact .tail _ (.tail _ (.head _)))) (by first | omega | (simp only [List.length_cons, List.length_nil]; omega)) ?_); intro DpZk hpZk FpZk NpZk l1Zk; (try k_lt l1Zk); (try k_sweep); (try dsimp only)))
  k_with "execs nil" => (((with_reducible refine wpAny_execs_nil ?_); try dsimp only))
  k_with "execs cons" => (((with_reducible refine wpAny_execs_cons ?_); try dsimp only))
  k_with "compareOp Eq ref ref" => ((k_here; (with_reducible show wpAny _ _ (compareOp CmpOp.Eq (Value.ref _) (Value.ref _)) _ _ _); k_dflt (refine' due_eq (by kmk_list) (by kmk_list) (by assumption) (by assumption) (by ke_room) ?_)))
  k_with "call builtin:list.index" => ((k_here; (with_reducible show wpAny _ _ (call (Value.builtin _) [Value.ref _, Value.ref _]) _ _ _); k_dflt (refine' due_index (by assumption) (by assumption) (by assumption) (by assumption) (by k_mem) (by assumption) (by ke_room) (by first | assumption | omega) (by assumption) ?_)))
  k_with "getMethod ref" => ((k_here; (with_reducible show wpAny _ _ (getMethod (Value.ref _) (PySem.Str.ofString "index") _) _ _ _); k_dflt (refine' due_method (by assumption) (by assumption) PySem.F.slot_list_index PySem.F.type_list_index ?_)))
  k_with "subscriptTail Name Call ref int" => ((k_here; (with_reducible show wpAny _ _ (subscriptTail _ _ (Value.ref _) (Value.int _ _)) _ _ _); k_dflt (refine' due_item (by assumption) (by assumption) (by assumption) (by omega) (by assumption) ?_ (by with_unfolding_all rfl)); intro tpZk))
  k_with "exec If" => ((k_here; (with_reducible show wpAny _ _ (exec (PySem.Stmt.If (PySem.Expr.Compare _ [PySem.CmpOp.Eq] _ _) _ (_ :: _) _) _) _ _ _); refine hidT_intro ?_))
  k_with "ite" => (((rename QuickIte => hQuick9Zk); k_openite; first | (refine ite_pos (by with_reducible assumption) ?_) | (refine ite_neg (by with_reducible assumption) ?_) | (refine ite_isFalse (by with_reducible assumption) ?_) | with_reducible refine ite_tt ?_ | with_reducible refine ite_ff ?_ | (with_reducible refine split_ine ?_ ?_ <;> intro _) | (with_reducible refine split_ieq ?_ ?_ <;> intro _) | with_reducible refine split_not ?_ | (refine split_dec ?_ ?_ <;> intro _) | (refine split_bool ?_ ?_ <;> intro _)))
  k_with "binaryOp Add ref ref" => ((k_here; (with_reducible show wpAny _ _ (binaryOp _ (Value.ref _) (Value.ref _)) _ _ _); k_dflt (refine' add_any (by k_asm) (by k_asm) (by first | exact listAt (by k_asm) (by repeat (first | exact List.mem_cons_self .. | with_reducible assumption | refine List.mem_cons_of_mem _ ?_)) | kmk_list) (by first | exact listAt (by k_asm) (by repeat (first | exact List.mem_cons_self .. | with_reducible assumption | refine List.mem_cons_of_mem _ ?_)) | kmk_list) (by ((try simp only [List.length_append, List.length_cons, List.length_nil]); omega)) ?_); intro DpZk hpZk FpZk NpZk l1Zk; (try k_lt l1Zk); (try k_sweep); (try dsimp only)))
  k_with "subscriptTail Name Name ref int" => ((k_here; (with_reducible show wpAny _ _ (subscriptTail _ _ (Value.ref _) (Value.int _ _)) _ _ _); k_dflt (refine' item_at (by first | exact listAt (by k_asm) (by repeat (first | exact List.mem_cons_self .. | with_reducible assumption | refine List.mem_cons_of_mem _ ?_)) | kmk_list) (by omega) (by omega) (by with_reducible assumption) ?_ (by with_unfolding_all rfl))))
  k_with "exec For Tuple Subscript cons nil" => ((k_here; refine hidT_intro ?_))
  k_with "subscriptTail Name Slice ref ref" => ((k_here; (with_reducible show wpAny _ _ (subscriptTail _ (PySem.Expr.Slice _ _ none _) (Value.ref _) (Value.ref _)) _ _ _); k_dflt (refine' slice_any (by k_asm) (by k_asm) (by first | exact listAt (by k_asm) (by repeat (first | exact List.mem_cons_self .. | with_reducible assumption | refine List.mem_cons_of_mem _ ?_)) | kmk_list) (by first | assumption | omega) (by kmk_part) (by kmk_part) ?_ (by with_unfolding_all rfl) (by kmk_pure)); intro DpZk hpZk FpZk NpZk l1Zk; (try k_lt l1Zk); (try k_sweep); (try dsimp only)))
  k_with "assign Tuple" => ((k_here; (with_reducible show wpAny _ _ (assign (PySem.Expr.Tuple _ _ _) _ (Value.ref _)) _ _ _); k_dflt (refine' asgK (hL := (by rfl)) (by rfl) (by first | exact isTup_keep (by with_reducible assumption) (Fr.keep (by k_asm)) | exact isTup_news (by k_asm) (by repeat (first | exact List.mem_cons_self .. | with_reducible assumption | refine List.mem_cons_of_mem _ ?_)) (by with_reducible assumption) (by with_reducible assumption)) (by k_asm) (by k_asm) (by rfl) (by rfl) (by rfl) (by rfl) ?_); intro hpZk tkpZk FpZk NpZk; (try k_sweep)))
  k_with "subscriptTail Tuple cons BinOp ref int" => ((k_here; k_dflt (refine' menu3 (by exact News.isTup (by k_asm) (List.mem_cons_self ..)) ?_ (by with_unfolding_all rfl)); intro tpZk; (try dsimp only)))
  k_with "call builtin:len" => ((k_here; (with_reducible show wpAny _ _ (call (Value.builtin "len") [Value.ref _]) _ _ _); k_dflt (refine' len_any (by exact listAt (by k_asm) (by repeat (first | exact List.mem_cons_self .. | with_reducible assumption | refine List.mem_cons_of_mem _ ?_))) (by omega) ?_); (try dsimp only)))
  exact trivial


theorem fresh_Qd : True := by
  w_top off
  exact trivial
theorem fmod16_in (x : Int) : 0 ≤ x.fmod 16 ∧ x.fmod 16 < 16 := by
  rw [Int.fmod_eq_emod_of_nonneg _ (by decide)]
  omega
section
theorem kw_Qd_1 : True := by
  k_with "eval ListComp" => ((k_here; refine hidT_intro ?_))
  k_with "compareOp NotEq ref ref" => ((k_here; refine hidT_intro ?_))
  k_with "execs cons If cons" => ((k_here; refine hidT_intro ?_))
  k_with "execs cons For cons" => ((k_here; refine hidT_intro ?_))
  exact trivial

theorem law_p3 (w : World) {p : Program} {loose : List Str} {mean : ExcName → Option Value} {mg mb : Str → Option Value} {dp un : Nat} {gd : Option (List Code)} {cn : Str} {a : Addr} {ccd : Value} {outer : List Env} {A₀ : Around} {base h₀ : Heap} {L Ha Ra Pa Ma Na : Addr} {m : Str → Option Value} {s : Shared} {o5 o4 o3 o2 o1 : Obj} {nw : List (Addr × Obj)} {hs : List Home}
    {Q : Flow → Shared → Prop} {E : Value → Shared → Prop} (LF : LawFacts hs) (LF2 : LawFacts2 hs)
    (B : Below A₀ base outer h₀) (F : Fr h₀ L s.heap m) (X : (hd.heap_1 w.params).In h₀) (T : Top p loose mean mg mb h₀) (hkf : (lawScope w).kind = .function) (hd9 : dp + 100 < recursionLimit) (hu9 : un + 1000 < cLine)
    (N : News h₀ L s.heap (lawLed L o5 o4 o3 o2 o1 nw)) (d2 : o2.data = .cell (some (.ref Ma)))
    (q1 : m (Str.ofString "homes") = some (.ref Ha)) (q2 : m (Str.ofString "rows") = some (.ref Ra)) (q3 : m (Str.ofString "names") = some (.ref Na)) (LN : LawNw L nw hs Ha Ra Pa) (LM : LawMn nw hs Ma Na)
    (next : ∀ h' tk m', Fr h₀ L h' m' → m' (Str.ofString "homes") = some (.ref Ha) → m' (Str.ofString "rows") = some (.ref Ra) → m' (Str.ofString "names") = some (.ref Na) → News h₀ L h' (lawLed L o5 o4 o3 o2 o1 nw) →
      wpAny (model PP w) (ktrTop dp un gd cn (lawScope w) L a ccd (lawCells L) outer) (execs ((lawBody w).drop 9) (envX cn (lawScope w) L a ccd (lawCells L))) Q E { s with heap := h', toks := tk }) :
    wpAny (model PP w) (ktrTop dp un gd cn (lawScope w) L a ccd (lawCells L) outer) (execs ((lawBody w).drop 6) (envX cn (lawScope w) L a ccd (lawCells L))) Q E s := by
  (have : PySem.Challenge.rw_ik0073_01 = PySem.Challenge.rw_ik0073_01 ∧ Mine.hd.heap_1 = Mine.hd.heap_1 := (by k_fill; exact ⟨rfl, rfl⟩))
  clear this
  obtain ⟨key1, key2⟩ := law_lit (w := w) (by k_is)
  rw [key1, key2] at next
  rw [key1, key2]
  rw [key2] at hkf
  clear key1 key2
  simp only [List.drop] at next ⊢
  obtain ⟨u0, hm⟩ := over3 q1 q2 q3
  subst hm
  clear q1 q2 q3
  obtain ⟨sep, ⟨hv, hk, hHa, hT⟩, _, _⟩ := LN
  obtain ⟨⟨mv, mk, hMa, hM⟩, ⟨nv, nk, hNa, hN⟩⟩ := LM
  have hvl := hT.length
  have hlen := LF.len
  have hml := hM.length
  have hnl := hN.length
  rw [modesF, List.length_map] at hml
  rw [namesF, List.length_map] at hnl
  try k_fold
  refine wpAny_execs_cons ?_
  k_steps
  refine hidT_open (ListComp_G (F₀ := by k_asm) (cl := []) (by rfl) (by decide) (by rfl) (by decide) ?_)
  k_steps
  have sub8 := law_sub N
  refine comp_map (fun n => Txt.item n 0) SV SV rfl rfl rfl (by k_asm) N (listAt N (sub8 _ hNa)) (N (Na, _) (sub8 _ hNa)).2.1 (by omega) hN ?s1 ?f1
  case s1 =>
    intro gh i v y ys own C D oC m₂ h tk E' hy hv hm hoC F' N'
    obtain ⟨t, rfl⟩ := hv
    have hyl : y.length = 10 := by
      obtain ⟨x, hx, rfl⟩ := List.mem_map.mp (List.mem_of_getElem? hy)
      exact (LF2.kind x hx).1
    try dsimp only
    k_steps
    all_goals (exact CEnd.same (by assumption) (by assumption) (fun p hp => hp) ⟨rfl, _, rfl⟩)
  case f1 =>
    intro gh D ys hys off
    unfold FinQ
    intro h8 tk8 F8 N8
    k_steps
    refine hidT_open (ListComp_G (F₀ := by k_asm) (cl := []) (by rfl) (by decide) (by rfl) (by decide) ?_)
    k_steps
    have hMa8 := List.mem_cons_of_mem (D, LCg.lst ys) (sub8 _ hMa)
    refine comp_map (fun m => Txt.item (Str.ofString "?pc?d?b?-?l?s???") ((m.fdiv 4096).fmod 16)) IV SV rfl rfl rfl (by k_asm) N8 (listAt N8 (List.mem_cons_of_mem _ (sub8 _ hMa))) (N8 (Ma, _) (List.mem_cons_of_mem _ (sub8 _ hMa))).2.1 (by omega) hM ?s2 ?f2
    case s2 =>
      intro gh i v y ys own C D oC m₂ h tk E' hy hv hm hoC F' N'
      obtain ⟨t, rfl⟩ := hv
      obtain ⟨hb1, hb2⟩ := fmod16_in (y.fdiv 4096)
      try dsimp only
      k_steps
      all_goals (exact CEnd.same (by assumption) (by assumption) (fun p hp => hp) ⟨rfl, _, rfl⟩)
    case f2 =>
      intro gh D2 ys2 hys2 off2
      unfold FinQ
      intro h8 tk8 F8 N8
      k_steps
      refine hidT_open (ne_strs (listAt N8 (List.mem_cons_of_mem _ (List.mem_cons_self ..))) (listAt N8 (List.mem_cons_self ..)) hys ?eq (by ke_room) ?_)
      case eq =>
        rw [show (namesF hs).map (fun n => Txt.item n 0) = (modesF hs).map (fun m => Txt.item (Str.ofString "?pc?d?b?-?l?s???") ((m.fdiv 4096).fmod 16)) by
          rw [namesF, modesF, List.map_map, List.map_map]
          exact List.map_congr_left fun x hx => (LF2.kind x hx).2]
        exact hys2
      k_steps
      (rename News _ _ _ _ => N9)
      have N7 : News h₀ L _ (lawLed L o5 o4 o3 o2 o1 nw) := fun p hp => N9 p (.tail _ (.tail _ hp))
      clear N9 hys hys2 off off2 hMa8
      refine hidT_open (wpAny_execs_cons ?_)
      k_steps
      refine hidT_open (ListComp_G (F₀ := by k_asm) (cl := []) (by rfl) (by decide) (by rfl) (by decide) ?_)
      k_steps
      refine comp_map (fun m => Builtin.bitAnd (Builtin.bitXor m 8192) 61440 == 16384) IV BV rfl rfl rfl (by k_asm) N7 (listAt N7 (sub8 _ hMa)) (N7 (Ma, _) (sub8 _ hMa)).2.1 (by omega) hM ?s1 ?f1
      case s1 =>
        intro gh i v y ys own C D oC m₂ h tk E' hy hv hm hoC F' N'
        obtain ⟨t, rfl⟩ := hv
        try dsimp only
        k_steps
        all_goals (exact CEnd.same (by assumption) (by assumption) (fun p hp => hp) ⟨rfl, rfl⟩)
      case f1 =>
        intro gh D ys hys off
        unfold FinQ
        intro h8 tk8 F8 N8
        k_steps
        refine hidT_open (ListComp_G (F₀ := by k_asm) (cl := []) (by rfl) (by decide) (by rfl) (by decide) ?_)
        k_steps
        refine comp_map (fun m => (m.fdiv 4096).fmod 16 == 6) IV BV rfl rfl rfl (by k_asm) N8 (listAt N8 (List.mem_cons_of_mem _ (sub8 _ hMa))) (N8 (Ma, _) (List.mem_cons_of_mem _ (sub8 _ hMa))).2.1 (by omega) hM ?s2 ?f2
        case s2 =>
          intro gh i v y ys own C D oC m₂ h tk E' hy hv hm hoC F' N'
          obtain ⟨t, rfl⟩ := hv
          try dsimp only
          k_steps
          all_goals (exact CEnd.same (by assumption) (by assumption) (fun p hp => hp) ⟨rfl, rfl⟩)
        case f2 =>
          intro gh D2 ys2 hys2 off2
          unfold FinQ
          intro h8 tk8 F8 N8
          k_steps
          refine hidT_open (ne_bools (listAt N8 (List.mem_cons_of_mem _ (List.mem_cons_self ..))) (listAt N8 (List.mem_cons_self ..)) hys ?eq (by ke_room) ?_)
          case eq =>
            rw [show (modesF hs).map (fun m => Builtin.bitAnd (Builtin.bitXor m 8192) 61440 == 16384) = (modesF hs).map (fun m => (m.fdiv 4096).fmod 16 == 6) by
              rw [modesF, List.map_map, List.map_map]
              exact List.map_congr_left fun x hx => LF2.isd x hx]
            exact hys2
          k_steps
          (rename News _ _ _ _ => N9)
          have N7 : News h₀ L _ (lawLed L o5 o4 o3 o2 o1 nw) := fun p hp => N9 p (.tail _ (.tail _ hp))
          clear N9 hys hys2 off off2
          refine hidT_open (wpAny_execs_cons ?_)
          k_steps
          refine hidT_open (ListComp_G (F₀ := by k_asm) (cl := []) (by rfl) (by decide) (by rfl) (by decide) ?_)
          k_steps
          refine comp_map3 (fun x => x.2.1 ++ Str.ofString ".x") SV rfl rfl rfl rfl rfl (by decide) (by decide) (by decide) (by k_asm) N7 (listAt N7 (sub8 _ hHa)) (N7 (Ha, _) (sub8 _ hHa)).2.1 (by omega) (hT.mono fun _ _ q => HomeIn.mono q sub8) ?s1 ?f1
          case s1 =>
            intro gh i y t1 t2 t3 ys own C D oC m₂ h tk E' hy ma mb' mc hoC F' N'
            have hym := List.mem_of_getElem? hy
            have hyl := LF.nlen y hym
            obtain ⟨hr1, hr2⟩ := LF2.rx y hym
            have hcat : (y.2.1 ++ Str.ofString ".x").length ≤ 1000 := by
              rw [Str.length_append]
              have : (Str.ofString ".x").length = 2 := by decide +kernel
              omega
            try dsimp only
            k_steps
            all_goals (exact CEnd.same (by assumption) (by assumption) (fun p hp => hp) ⟨rfl, _, congrArg (Value.str · _) hr1⟩)
          case f1 =>
            intro gh D ys hys off
            unfold FinQ
            intro h8 tk8 F8 N8
            k_steps
            refine hidT_open (ListComp_G (F₀ := by k_asm) (cl := []) (by rfl) (by decide) (by rfl) (by decide) ?_)
            k_steps
            have sub7 : ∀ p ∈ nw, p ∈ (D, LCg.lst ys) :: lawLed L o5 o4 o3 o2 o1 nw := fun p hp => .tail _ (sub8 p hp)
            refine comp_map3 (fun x => x.2.1 ++ Str.ofString ".x") SV rfl rfl rfl rfl rfl (by decide) (by decide) (by decide) (by k_asm) N8 (listAt N8 (sub7 _ hHa)) (N8 (Ha, _) (sub7 _ hHa)).2.1 (by omega) (hT.mono fun _ _ q => HomeIn.mono q sub7) ?s2 ?f2
            case s2 =>
              intro gh i y t1 t2 t3 ys own C D oC m₂ h tk E' hy ma mb' mc hoC F' N'
              have hyl := LF.nlen y (List.mem_of_getElem? hy)
              try dsimp only
              k_steps
              all_goals (exact CEnd.same (by assumption) (by assumption) (fun p hp => hp) ⟨rfl, _, rfl⟩)
            case f2 =>
              intro gh D2 ys2 hys2 off2
              unfold FinQ
              intro h8 tk8 F8 N8
              k_steps
              refine hidT_open (ne_strs (listAt N8 (List.mem_cons_of_mem _ (List.mem_cons_self ..))) (listAt N8 (List.mem_cons_self ..)) hys hys2 (by ke_room) ?_)
              k_steps
              (rename News _ _ _ _ => N9)
              (rename Fr _ _ _ _ => F9)
              exact hidT_open (next _ _ _ F9 rfl rfl rfl fun p hp => N9 p (.tail _ (.tail _ hp)))
end
theorem kw_Qd_2 : True := by
  k_with_none
  k_with "ite" => (first | with_reducible refine tt_then ?_ | with_reducible refine ff_else ?_)
  k_with "call ref" => ((k_here; (with_reducible show wpAny _ _ (call (Value.ref 186) [Value.int _ _]) _ _ _); k_dflt (refine' SpecV.use (sp_isfmt _ _ _) (by k_asm) (by k_asm) (by k_asm) (by k_asm) (by k_asm) (by first | exact rfl | assumption) (by ktr_room) (by ktr_units) ?_); intro r9Zk h9Zk tk9Zk F9Zk N9Zk hr9Zk; obtain ⟨u9Zk, hr9Zk⟩ := hr9Zk; subst hr9Zk; (try k_sweep); (try dsimp only); (try k_fold)))
  k_with "getMethod ref" => ((k_here; (with_reducible show wpAny _ _ (getMethod (Value.ref 43) _ _) _ _ _); k_dflt (refine' re_method (by k_in) ?_)))
  k_with "call builtin:re.Pattern.search" => ((k_here; k_dflt (refine' re_search (by k_in) (by first | assumption | omega) (by with_reducible assumption) ?_)))
  k_with "call ref" => ((k_here; (with_reducible show wpAny _ _ (call (Value.ref 50) [Value.str _ _]) _ _ _); k_dflt (refine' SpecV.use (sp_hdn _ _ _ (by first | assumption | omega) (by with_reducible assumption)) (by k_asm) (by k_asm) (by k_asm) (by k_asm) (by k_asm) (by first | exact rfl | assumption) (by ktr_room) (by ktr_units) ?_); intro r9Zk h9Zk tk9Zk F9Zk N9Zk hr9Zk; subst hr9Zk; (try k_sweep); (try dsimp only); (try k_fold)))
  k_with "call ref" => ((k_here; (with_reducible show wpAny _ _ (call (Value.ref 151) [Value.str _ _]) _ _ _); k_dflt (refine' SpecV.use (sp_getsep _ _ _) (by k_asm) (by k_asm) (by k_asm) (by k_asm) (by k_asm) (by first | exact rfl | assumption) (by ktr_room) (by ktr_units) ?_); intro r9Zk h9Zk tk9Zk F9Zk N9Zk hr9Zk; obtain ⟨u9Zk, hr9Zk⟩ := hr9Zk; subst hr9Zk; (try k_sweep); (try dsimp only); (try k_fold)))
  k_with "call builtin:issubclass" => ((k_here; (with_reducible show wpAny _ _ (call (Value.builtin "issubclass") [Value.type "str", Value.ref _]) _ _ _); k_dflt (refine' call_issub (by exact News.get (by k_asm) (by k_mem)) (by exact rfl) (by exact rfl) ?_)))
  k_with "call ref" => ((k_here; (with_reducible show wpAny _ _ (call (Value.ref 137) [Value.str _ _]) _ _ _); k_dflt (refine' SpecV.use (sp_fspath _ _ _) (by k_asm) (by k_asm) (by k_asm) (by k_asm) (by k_asm) (by first | exact rfl | assumption) (by ktr_room) (by ktr_units) ?_); intro r9Zk h9Zk tk9Zk F9Zk N9Zk hr9Zk; obtain ⟨u9Zk, hr9Zk⟩ := hr9Zk; subst hr9Zk; (try k_sweep); (try dsimp only); (try k_fold)))
  k_with "call ref" => ((k_here; (with_reducible show wpAny _ _ (call (Value.ref 172) [Value.str _ _]) _ _ _); k_dflt (refine' SpecV.use (sp_dirname _ _ _ (by first | assumption | omega)) (by k_asm) (by k_asm) (by k_asm) (by k_asm) (by k_asm) (by first | exact rfl | assumption) (by ktr_room) (by ktr_units) ?_); intro r9Zk h9Zk tk9Zk F9Zk N9Zk hr9Zk; obtain ⟨u9Zk, hr9Zk⟩ := hr9Zk; subst hr9Zk; (try k_sweep); (try dsimp only); (try k_fold)))
  k_with "call ref" => ((k_here; (with_reducible show wpAny _ _ (call (Value.ref 165) [Value.str _ _]) _ _ _); k_dflt (refine' SpecO.use (sp_splitroot _ _ _ (by first | assumption | omega) (by assumption) (by assumption)) (by k_asm) (by k_asm) (by k_asm) (by k_asm) (by k_asm) (by first | exact rfl | assumption) (by ktr_room) (by ktr_units) ?_); intro b9Zk o9Zk h9Zk tk9Zk F9Zk N9Zk l9Zk hr9Zk; obtain ⟨t91Zk, t92Zk, t93Zk, n9Zk, hr9Zk⟩ := hr9Zk; subst hr9Zk; (try simp only [AllNe, and_true] at l9Zk); (try k_sweep); (try dsimp only); (try k_fold)))
  k_with "call ref" => ((k_here; (with_reducible show wpAny _ _ (call (Value.ref 158) [Value.str _ _, Value.str _ _]) _ _ _); k_dflt (refine' SpecV.use (sp_join _ _ _ _ _ (by first | assumption | omega) (by first | assumption | omega)) (by k_asm) (by k_asm) (by k_asm) (by k_asm) (by k_asm) (by first | exact rfl | assumption) (by ktr_room) (by ktr_units) ?_); intro r9Zk h9Zk tk9Zk F9Zk N9Zk hr9Zk; obtain ⟨u9Zk, hr9Zk⟩ := hr9Zk; subst hr9Zk; (try k_sweep); (try dsimp only); (try k_fold)))
  k_with "exec For Tuple Call cons nil" => ((k_here; (rename Fr _ _ _ _ => lFpZk); (with_unfolding_all refine' For_turns lFpZk ?_; k_whole)))
  k_with "call ref" => ((k_here; (with_reducible show wpAny _ _ (call (Value.ref 233) [Value.int _ _]) _ _ _); k_dflt (refine' SpecV.use (sp_filemode _ _ _) (by k_asm) (by k_asm) (by k_asm) (by k_asm) (by k_asm) (by first | exact rfl | assumption) (by ktr_room) (by ktr_units) ?_); intro r9Zk h9Zk tk9Zk F9Zk N9Zk hr9Zk; obtain ⟨u9Zk, hr9Zk⟩ := hr9Zk; subst hr9Zk; (try k_sweep); (try dsimp only); (try k_fold)))
  k_with "call ref" => ((k_here; (with_reducible show wpAny _ _ (call (Value.ref 193) [Value.int _ _]) _ _ _); k_dflt (refine' SpecV.use (sp_isdir _ _ _) (by k_asm) (by k_asm) (by k_asm) (by k_asm) (by k_asm) (by first | exact rfl | assumption) (by ktr_room) (by ktr_units) ?_); intro r9Zk h9Zk tk9Zk F9Zk N9Zk hr9Zk; subst hr9Zk; (try k_sweep); (try dsimp only); (try k_fold)))
  k_with "call ref" => ((k_here; (with_reducible show wpAny _ _ (call (Value.ref 64) [Value.str _ _]) _ _ _); k_dflt (refine' SpecV.use (sp_reach _ _ _ (by first | assumption | omega) (by with_reducible assumption)) (by k_asm) (by k_asm) (by k_asm) (by k_asm) (by k_asm) (by first | exact rfl | assumption) (by ktr_room) (by ktr_units) ?_); intro r9Zk h9Zk tk9Zk F9Zk N9Zk hr9Zk; obtain ⟨u9Zk, hr9Zk⟩ := hr9Zk; subst hr9Zk; (try k_sweep); (try dsimp only); (try k_fold)))
  k_with "call ref" => ((k_here; (with_reducible show wpAny _ _ (call (Value.ref 57) [Value.str _ _, Value.str _ _]) _ _ _); k_dflt (refine' SpecV.use (sp_dm _ _ _ _ _ (by first | assumption | omega) (by first | assumption | omega) (by with_reducible assumption) (by with_reducible assumption)) (by k_asm) (by k_asm) (by k_asm) (by k_asm) (by k_asm) (by first | exact rfl | assumption) (by ktr_room) (by ktr_units) ?_); intro r9Zk h9Zk tk9Zk F9Zk N9Zk hr9Zk; subst hr9Zk; (try k_sweep); (try dsimp only); (try k_fold)))
  k_with "call ref" => ((k_here; (with_reducible show wpAny _ _ (call (Value.ref 179) [Value.str _ _]) _ _ _); k_dflt (refine' SpecV.use (sp_norm _ _ _ (by first | assumption | omega) (by assumption) (by assumption) (by assumption) (by assumption) (by assumption)) (by k_asm) (by k_asm) (by k_asm) (by k_asm) (by k_asm) (by first | exact rfl | assumption) (by ktr_room) (by ktr_units) ?_); intro r9Zk h9Zk tk9Zk F9Zk N9Zk hr9Zk; obtain ⟨u9Zk, hr9Zk⟩ := hr9Zk; subst hr9Zk; (try k_sweep); (try dsimp only); (try k_fold)))
  k_with "call ref" => ((k_here; (with_reducible show wpAny _ _ (call (Value.ref 259) [Value.str _ _]) _ _ _); k_dflt (refine' SpecV.use (sp_host _ _ _ (by first | assumption | omega) (by with_reducible assumption) (by with_reducible assumption)) (by k_asm) (by k_asm) (by k_asm) (by k_asm) (by k_asm) (by first | exact rfl | assumption) (by ktr_room) (by ktr_units) ?_); intro r9Zk h9Zk tk9Zk F9Zk N9Zk hr9Zk; obtain ⟨u9Zk, hr9Zk⟩ := hr9Zk; subst hr9Zk; (try k_sweep); (try dsimp only); (try k_fold)))
  k_with "call ref" => ((k_here; (with_reducible show wpAny _ _ (call (Value.ref 266) [Value.str _ _, Value.str _ _, Value.int _ _, Value.str _ _]) _ _ _); k_dflt (refine' SpecV.use (sp_signs _ _ _ _ _ _ _ _ _ (by with_reducible assumption) (by with_reducible assumption) (by with_reducible assumption) (by with_reducible assumption) (by with_reducible assumption) (by with_reducible assumption) (by with_reducible assumption) (by with_reducible assumption) (by with_reducible assumption) (by with_reducible assumption) (by with_reducible assumption)) (by k_asm) (by k_asm) (by k_asm) (by k_asm) (by k_asm) (by first | exact rfl | assumption) (by ktr_room) (by ktr_units) ?_); intro r9Zk h9Zk tk9Zk F9Zk N9Zk hr9Zk; obtain ⟨u9Zk, hr9Zk⟩ := hr9Zk; subst hr9Zk; (try k_sweep); (try dsimp only); (try k_fold)))
  k_with "exec For Name Call cons nil" => ((k_here; refine hidT_intro ?_))
  k_with "exec For Name Subscript cons nil" => ((k_here; refine hidT_intro ?_))
  k_with "subscriptTail Name Slice ref ref" => ((k_here; (with_reducible show wpAny _ _ (subscriptTail _ (PySem.Expr.Slice _ _ none _) (Value.ref _) (Value.ref _)) _ _ _); k_dflt (refine' slice_strs (by k_asm) (by k_asm) (by kmk_list) (by kmk_part) (by kmk_part) (by assumption) (by first | assumption | omega) ?_ (by with_unfolding_all rfl) (by kmk_pure)); intro DpZk wspZk hpZk FpZk NpZk l1Zk hIpZk hNpZk; (try simp only [pick_to, pick_to1] at hIpZk); (try k_lt l1Zk); (try k_sweep); (try dsimp only)))
  k_with "subscriptTail Name Name ref str" => ((k_here; (with_reducible show wpAny _ _ (subscriptTail _ _ (Value.ref _) (Value.str _ _)) _ _ _); k_dflt (refine' told_get (by assumption) (by assumption) (by assumption) (by with_unfolding_all rfl) ?_); intro apZk typZk hTpZk))
  k_with "subscriptTail Subscript Name Name Constant ref int" => ((k_here; (with_reducible show wpAny _ _ (subscriptTail _ _ (Value.ref _) (Value.int 0 _)) _ _ _); k_dflt (refine' pair_item0 (by with_reducible assumption) (by with_reducible assumption) ?_ (by with_unfolding_all rfl))))
  k_with "subscriptTail Subscript Name Name Constant ref int" => ((k_here; (with_reducible show wpAny _ _ (subscriptTail _ _ (Value.ref _) (Value.int 1 _)) _ _ _); k_dflt (refine' pair_item1 (by with_reducible assumption) (by with_reducible assumption) ?_ (by with_unfolding_all rfl))))
  k_with "subscriptTail Name Constant ref int" => ((k_here; (with_reducible show wpAny _ _ (subscriptTail _ _ (Value.ref _) (Value.int _ _)) _ _ _); k_dflt (refine' item_at (v := Value.str _ _) (by exact News.isList (by with_reducible assumption) (by first | exact .head _ | exact .tail _ (.head _) | exact .tail _ (.tail _ (.head _)))) (by decide) (by first | omega | (simp only [List.length_cons]; omega)) (by rfl) ?_ (by with_unfolding_all rfl))))
  k_with "binaryOp Add ref ref" => ((k_here; (with_reducible show wpAny _ _ (binaryOp _ (Value.ref _) (Value.ref _)) _ _ _); k_dflt (refine' add_any (by with_reducible assumption) (by with_reducible assumption) (by exact News.isList (by with_reducible assumption) (by first | exact .head _ | exact .tail _ (.head _) | exact .tail _ (.tail _ (.head _)))) (by exact News.isList (by with_reducible assumption) (by first | exact .head _ | exact .tail _ (.head _) | exact .tail _ (.tail _ (.head _)))) (by first | omega | (simp only [List.length_cons, List.length_nil]; omega)) ?_); intro DpZk hpZk FpZk NpZk l1Zk; (try k_lt l1Zk); (try k_sweep); (try dsimp only)))
  k_with "execs nil" => (((with_reducible refine wpAny_execs_nil ?_); try dsimp only))
  k_with "execs cons" => (((with_reducible refine wpAny_execs_cons ?_); try dsimp only))
  k_with "compareOp Eq ref ref" => ((k_here; (with_reducible show wpAny _ _ (compareOp CmpOp.Eq (Value.ref _) (Value.ref _)) _ _ _); k_dflt (refine' due_eq (by kmk_list) (by kmk_list) (by assumption) (by assumption) (by ke_room) ?_)))
  k_with "call builtin:list.index" => ((k_here; (with_reducible show wpAny _ _ (call (Value.builtin _) [Value.ref _, Value.ref _]) _ _ _); k_dflt (refine' due_index (by assumption) (by assumption) (by assumption) (by assumption) (by k_mem) (by assumption) (by ke_room) (by first | assumption | omega) (by assumption) ?_)))
  k_with "getMethod ref" => ((k_here; (with_reducible show wpAny _ _ (getMethod (Value.ref _) (PySem.Str.ofString "index") _) _ _ _); k_dflt (refine' due_method (by assumption) (by assumption) PySem.F.slot_list_index PySem.F.type_list_index ?_)))
  k_with "subscriptTail Name Call ref int" => ((k_here; (with_reducible show wpAny _ _ (subscriptTail _ _ (Value.ref _) (Value.int _ _)) _ _ _); k_dflt (refine' due_item (by assumption) (by assumption) (by assumption) (by omega) (by assumption) ?_ (by with_unfolding_all rfl)); intro tpZk))
  k_with "exec If" => ((k_here; (with_reducible show wpAny _ _ (exec (PySem.Stmt.If (PySem.Expr.Compare _ [PySem.CmpOp.Eq] _ _) _ (_ :: _) _) _) _ _ _); refine hidT_intro ?_))
  k_with "ite" => (((rename QuickIte => hQuick9Zk); k_openite; first | (refine ite_pos (by with_reducible assumption) ?_) | (refine ite_neg (by with_reducible assumption) ?_) | (refine ite_isFalse (by with_reducible assumption) ?_) | with_reducible refine ite_tt ?_ | with_reducible refine ite_ff ?_ | (with_reducible refine split_ine ?_ ?_ <;> intro _) | (with_reducible refine split_ieq ?_ ?_ <;> intro _) | with_reducible refine split_not ?_ | (refine split_dec ?_ ?_ <;> intro _) | (refine split_bool ?_ ?_ <;> intro _)))
  k_with "binaryOp Add ref ref" => ((k_here; (with_reducible show wpAny _ _ (binaryOp _ (Value.ref _) (Value.ref _)) _ _ _); k_dflt (refine' add_any (by k_asm) (by k_asm) (by first | exact listAt (by k_asm) (by repeat (first | exact List.mem_cons_self .. | with_reducible assumption | refine List.mem_cons_of_mem _ ?_)) | kmk_list) (by first | exact listAt (by k_asm) (by repeat (first | exact List.mem_cons_self .. | with_reducible assumption | refine List.mem_cons_of_mem _ ?_)) | kmk_list) (by ((try simp only [List.length_append, List.length_cons, List.length_nil]); omega)) ?_); intro DpZk hpZk FpZk NpZk l1Zk; (try k_lt l1Zk); (try k_sweep); (try dsimp only)))
  k_with "subscriptTail Name Name ref int" => ((k_here; (with_reducible show wpAny _ _ (subscriptTail _ _ (Value.ref _) (Value.int _ _)) _ _ _); k_dflt (refine' item_at (by first | exact listAt (by k_asm) (by repeat (first | exact List.mem_cons_self .. | with_reducible assumption | refine List.mem_cons_of_mem _ ?_)) | kmk_list) (by omega) (by omega) (by with_reducible assumption) ?_ (by with_unfolding_all rfl))))
  k_with "exec For Tuple Subscript cons nil" => ((k_here; refine hidT_intro ?_))
  k_with "subscriptTail Name Slice ref ref" => ((k_here; (with_reducible show wpAny _ _ (subscriptTail _ (PySem.Expr.Slice _ _ none _) (Value.ref _) (Value.ref _)) _ _ _); k_dflt (refine' slice_any (by k_asm) (by k_asm) (by first | exact listAt (by k_asm) (by repeat (first | exact List.mem_cons_self .. | with_reducible assumption | refine List.mem_cons_of_mem _ ?_)) | kmk_list) (by first | assumption | omega) (by kmk_part) (by kmk_part) ?_ (by with_unfolding_all rfl) (by kmk_pure)); intro DpZk hpZk FpZk NpZk l1Zk; (try k_lt l1Zk); (try k_sweep); (try dsimp only)))
  k_with "assign Tuple" => ((k_here; (with_reducible show wpAny _ _ (assign (PySem.Expr.Tuple _ _ _) _ (Value.ref _)) _ _ _); k_dflt (refine' asgK (hL := (by rfl)) (by rfl) (by first | exact isTup_keep (by with_reducible assumption) (Fr.keep (by k_asm)) | exact isTup_news (by k_asm) (by repeat (first | exact List.mem_cons_self .. | with_reducible assumption | refine List.mem_cons_of_mem _ ?_)) (by with_reducible assumption) (by with_reducible assumption)) (by k_asm) (by k_asm) (by rfl) (by rfl) (by rfl) (by rfl) ?_); intro hpZk tkpZk FpZk NpZk; (try k_sweep)))
  k_with "subscriptTail Tuple cons BinOp ref int" => ((k_here; k_dflt (refine' menu3 (by exact News.isTup (by k_asm) (List.mem_cons_self ..)) ?_ (by with_unfolding_all rfl)); intro tpZk; (try dsimp only)))
  k_with "call builtin:len" => ((k_here; (with_reducible show wpAny _ _ (call (Value.builtin "len") [Value.ref _]) _ _ _); k_dflt (refine' len_any (by exact listAt (by k_asm) (by repeat (first | exact List.mem_cons_self .. | with_reducible assumption | refine List.mem_cons_of_mem _ ?_))) (by omega) ?_); (try dsimp only)))
  exact trivial


theorem fresh_Qe : True := by
  w_top off
  exact trivial
def HostOK (p : Str) : Prop := p.length ≤ 300 ∧ (compsF p).length ≤ 1000 ∧ ((compsF p).map (·.length)).sum + (compsF p).length ≤ 1048576
structure SignOK (x y z : Str) : Prop where
  h1 : x.length ≤ 100
  h2 : y.length ≤ 100
  h3 : z.length ≤ 1000
  h4 : (reachF y).length ≤ 100
  c1 : reNone y = true
  c2 : reNone (Txt.lower x) = true
  c3 : reNone (Txt.lower (Txt.upper x)) = true
  c4 : reNone (Txt.slice (Txt.lower y) (some 1) none) = true
  c5 : reNone (Txt.slice (Txt.lower (Txt.upper y)) (some 1) none) = true
  c6 : reNone (Txt.slice (Txt.lower (reachF y)) (some 1) none) = true
  c7 : reNone (Txt.slice (Txt.lower (Txt.upper (reachF y))) (some 1) none) = true
structure LawFacts3 (hs : List Home) : Prop where
  host : ∀ p ∈ placesF hs, HostOK p
  sign : ∀ p ∈ placesF hs, ∀ q ∈ placesF hs, ∀ z ∈ namesF hs, SignOK (hostF p) (hostF q) z
  nodup : (placesF hs).Nodup
theorem valueAt_stored (kvs : List (Str × Value)) (k k' : Str) (v : Value) : valueAt (stored kvs k v) k' = if k' = k then some v else valueAt kvs k' := by
  unfold stored valueAt
  split
  · rename_i h
    induction kvs with
    | nil => simp at h
    | cons p r ih =>
      by_cases hp : p.1 = k
      · by_cases hk : k' = k
        · subst hk
          simp [hp]
        · have e1 : ¬ p.1 = k' := fun e => hk (e.symm.trans hp)
          rw [List.map_cons, List.find?_cons, List.find?_cons, if_pos hp, if_neg hk]
          have d1 : decide (p.1 = k') = false := decide_eq_false e1
          simp only [d1]
          by_cases hr : r.any (fun kv => decide (kv.1 = k)) = true
          · have q := ih hr
            rwa [if_neg hk] at q
          · have e2 : r.map (fun kv => if kv.1 = k then (kv.1, v) else kv) = r := by
              have q : r.map (fun kv => if kv.1 = k then (kv.1, v) else kv) = r.map id := List.map_congr_left fun x hx => by
                have : ¬ x.1 = k := fun e => hr (List.any_eq_true.mpr ⟨x, hx, decide_eq_true e⟩)
                rw [if_neg this]
                rfl
              rw [q]
              exact List.map_id r
            rw [e2]
      · have h' : r.any (fun kv => decide (kv.1 = k)) = true := by
          rw [List.any_cons, decide_eq_false hp, Bool.false_or] at h
          exact h
        have q := ih h'
        rw [List.map_cons, List.find?_cons, List.find?_cons, if_neg hp]
        by_cases hk' : p.1 = k'
        · have d1 : decide (p.1 = k') = true := decide_eq_true hk'
          simp only [d1]
          rw [if_neg (fun e => hp (hk'.trans e))]
        · have d1 : decide (p.1 = k') = false := decide_eq_false hk'
          simp only [d1]
          exact q
  · rename_i h
    rw [List.find?_append]
    by_cases hk : k' = k
    · subst hk
      have e : kvs.find? (fun kv => decide (kv.1 = k')) = none := by
        rw [List.find?_eq_none]
        intro x hx e
        exact h (List.any_eq_true.mpr ⟨x, hx, e⟩)
      rw [e, if_pos rfl]
      simp
    · rw [if_neg hk]
      have e : [(k, v)].find? (fun kv => decide (kv.1 = k')) = none := by
        simp only [List.find?_cons, List.find?_nil, decide_eq_false (fun e : k = k' => hk e.symm)]
      rw [e, Option.or_none]
def TabInv (led : List (Addr × Obj)) (P : List Str) (isd : List Bool) (sg : List Str) (j : Nat) (kvs : List (Str × Value)) (nw : List (Addr × Obj)) : Prop :=
  (∀ p ∈ led, p ∈ nw) ∧ kvs.length ≤ j ∧ ∀ (i : Nat) y b z, i < j → P[i]? = some y → isd[i]? = some b → sg[i]? = some z → ∃ a ot tz n, valueAt kvs y = some (.ref a) ∧ (a, ot) ∈ nw ∧ ot.cls = .type "tuple" ∧ ot.data = .seq #[.bool b, .str z tz] n
theorem TabInv.next {led : List (Addr × Obj)} {P : List Str} {isd : List Bool} {sg : List Str} {j : Nat} {kvs : List (Str × Value)} {nw : List (Addr × Obj)} (h : TabInv led P isd sg j kvs nw) (hn : P.Nodup) {y : Str} {b : Bool} {z : Str} {a : Addr} {ot : Obj} {tz : Tok} {n : Nat} (hy : P[j]? = some y) (hb : isd[j]? = some b) (hz : sg[j]? = some z)
    (hc : ot.cls = .type "tuple") (hd : ot.data = .seq #[.bool b, .str z tz] n) : TabInv led P isd sg (j + 1) (stored kvs y (.ref a)) ((a, ot) :: nw) := by
  obtain ⟨h1, h2, h3⟩ := h
  refine ⟨fun p hp => .tail _ (h1 p hp), Nat.le_trans (stored_length_le kvs y (.ref a)) (Nat.succ_le_succ h2), fun i y' b' z' hi hy' hb' hz' => ?_⟩
  rw [valueAt_stored]
  rcases Nat.lt_or_eq_of_le (Nat.le_of_lt_succ hi) with hlt | rfl
  · have hne : ¬ y' = y := by
      rintro rfl
      obtain ⟨l1, e1⟩ := List.getElem?_eq_some_iff.mp hy
      obtain ⟨l2, e2⟩ := List.getElem?_eq_some_iff.mp hy'
      exact List.pairwise_iff_getElem.mp hn _ _ l2 l1 hlt (e2.trans e1.symm)
    rw [if_neg hne]
    obtain ⟨a', ot', tz', n', q1, q2, q3⟩ := h3 i y' b' z' hlt hy' hb' hz'
    exact ⟨a', ot', tz', n', q1, .tail _ q2, q3⟩
  · rw [hy] at hy'
    rw [hb] at hb'
    rw [hz] at hz'
    cases hy'
    cases hb'
    cases hz'
    rw [if_pos rfl]
    exact ⟨a, ot, tz, n, rfl, .head _, hc, hd⟩
theorem DEnd.one {prog : Program} {w : World} {h₀ h' : Heap} {L C D T : Addr} {m : Str → Option Value} {s₁ : Shared} {oC od oT : Obj} {own news : List (Addr × Obj)} {r : Str → Value → List (Addr × Obj) → Prop} {k : Str} {kv y : Value} {tk : Nat} (hk : (strKind prog w).is k kv = true) (F : Fr h₀ L h' m) (N : News h₀ L h' ((T, oT) :: (C, oC) :: (D, od) :: (news ++ own))) (l1 : C < T ∧ D < T ∧ AllLt T (news ++ own))
    (q : r k y ((T, oT) :: news)) : DEnd prog w h₀ L m s₁ C oC D od own news r kv y { s₁ with heap := h', toks := tk } := by
  refine ⟨k, h', tk, (T, oT) :: news, hk, rfl, F, fun p hp => N p ?_, fun p hp => ?_, q⟩
  · rcases List.mem_cons.mp hp with rfl | hp
    · exact .tail _ (.head _)
    · rcases List.mem_cons.mp hp with rfl | hp
      · exact .tail _ (.tail _ (.head _))
      · rcases List.mem_cons.mp hp with rfl | hp
        · exact .head _
        · exact .tail _ (.tail _ (.tail _ hp))
  · rcases List.mem_cons.mp hp with rfl | hp
    · exact .inr ⟨Ne.symm (Nat.ne_of_lt l1.1), Ne.symm (Nat.ne_of_lt l1.2.1), fun q hq => Nat.ne_of_lt (allLt_mem l1.2.2 q (List.mem_append_right _ hq))⟩
    · exact .inl hp
theorem rep_flat {α : Type} (n : Nat) (v : α) : (List.replicate n [v]).flatten = List.replicate n v := by
  induction n with
  | zero => rfl
  | succ n ih => rw [List.replicate_succ, List.flatten_cons, ih, List.replicate_succ]; rfl
theorem mul_any {prog : Program} {w : World} {A : Around} {E : Value → Shared → Prop} {s : Shared} {h₀ : Heap} {L l : Addr} {m : Str → Option Value} {news : List (Addr × Obj)} {v : Value} {k : Nat} {x : Int} {u : Tok} {Q : Value → Shared → Prop} (F : Fr h₀ L s.heap m) (N : News h₀ L s.heap news) (hl : (l, W.listOf (List.toArray [v]) k) ∈ news) (h0 : 0 ≤ x) (h1 : x ≤ 1000)
    (h : ∀ D h', Fr h₀ L h' m → News h₀ L h' ((D, W.listOf (List.toArray (List.replicate x.toNat v)) 0) :: news) → (∀ p ∈ news, p.1 < D) → Q (.ref D) { s with heap := h' }) : wpAny (model prog w) A (binaryOp .Mult (.ref l) (.int x u)) Q E s := by
  refine PyProof.Rows.mul_list (items := (List.toArray [v])) (k := k) F N (N _ hl).1 (by omega) (by omega) (by show 1 * x.toNat ≤ _; omega) fun h' F' N' => h _ h' F' ?_ fun p hp => Heap.lt_size (N p hp).1
  have e : List.foldl (fun x1 x2 => x1 ++ x2) #[] (List.replicate (if (List.toArray [v]).isEmpty = true then 0 else x.toNat) (List.toArray [v])) = List.toArray (List.replicate x.toNat v) := by
    rw [listMul_foldl_if, rep_flat]
  rw [e] at N'
  exact N'
theorem fmod2_in (x : Int) : 0 ≤ x.fmod 2 ∧ x.fmod 2 < 2 := by
  rw [Int.fmod_eq_emod_of_nonneg _ (by decide)]
  omega
def isdL (hs : List Home) : List Bool := (modesF hs).map fun m => Builtin.bitAnd m 61440 == 16384
def signsL (hs : List Home) (yk : Str) (i : Nat) : List Str := List.zipWith (fun p nm => sgF (hostF yk) (hostF p) ((0 + (i : Int)).fmod 2) nm) (placesF hs) (namesF hs)
def tabF (hs : List Home) (yk : Str) (i : Nat) (key : Str) : Option (Bool × Str) := ((placesF hs).zip ((isdL hs).zip (signsL hs yk i))).lookup key
def crookL (n : Nat) (row : List Str) : List Str := List.replicate n (Str.ofString "..") ++ [Str.ofString ".", Str.ofString "", Str.ofString "local"] ++ row
def crookN (rk : List Str) (i : Nat) : Nat := ((rk.length : Int) + 1 + (0 + (i : Int)).fmod 2).toNat
def crookF (rk : List Str) (i : Nat) (row : List Str) : Str := Txt.join (Str.ofString "/") (crookL (crookN rk i) row)
theorem strs_crook {us : List Value} {row : List Str} (h : StrsAre us row) (n : Nat) {t a b c : Tok} : StrsAre (List.replicate n (.str (Str.ofString "..") t) ++ [.str (Str.ofString ".") a, .str (Str.ofString "") b, .str (Str.ofString "local") c] ++ us) (crookL n row) := by
  refine strs_two (Two.append (Two.append ?_ (.cons ⟨a, rfl⟩ (.cons ⟨b, rfl⟩ (.cons ⟨c, rfl⟩ .nil)))) (two_strs h))
  induction n with
  | zero => exact .nil
  | succ n ih => exact .cons ⟨t, rfl⟩ ih
theorem lookup_get {β : Type} {k : Str} {v : β} : ∀ {l : List (Str × β)}, l.lookup k = some v → ∃ j : Nat, l[j]? = some (k, v) := by
  intro l
  induction l with
  | nil => intro h; cases h
  | cons p r ih =>
    intro h
    obtain ⟨a, b⟩ := p
    rw [List.lookup_cons] at h
    cases hk : k == a with
    | true =>
      rw [hk] at h
      have e := eq_of_beq hk
      exact ⟨0, by simp at h; simp [e, h]⟩
    | false =>
      rw [hk] at h
      obtain ⟨j, hj⟩ := ih h
      exact ⟨j + 1, by simpa using hj⟩
theorem tab_ok {w : World} {h₀ h : Heap} {L D : Addr} {od : Obj} {led nw all : List (Addr × Obj)} {hs : List Home} {yk : Str} {i n : Nat} {kvs : List (Str × Value)} (N : News h₀ L h all) (hD : (D, od) ∈ all) (sub : ∀ p ∈ nw, p ∈ all) (hod : od.IsDictOf (strKind PP w) kvs) (inv : TabInv led (placesF hs) (isdL hs) (signsL hs yk i) n kvs nw) (hn : (placesF hs).length ≤ n) : TabOK w h D (tabF hs yk i) := by
  refine ⟨valueAt kvs, Heap.DictOf.mapOf (Heap.dictOf_iff.mpr ⟨od, (N _ hD).1, hod⟩), fun k b y e => ?_⟩
  obtain ⟨j, hj⟩ := lookup_get e
  rw [List.getElem?_zip_eq_some] at hj
  obtain ⟨h1, h2⟩ := hj
  rw [List.getElem?_zip_eq_some] at h2
  obtain ⟨h2, h3⟩ := h2
  obtain ⟨a, ot, tz, m, q1, q2, q3, q4⟩ := inv.2.2 j k b y (Nat.lt_of_lt_of_le (List.getElem?_eq_some_iff.mp h1).1 hn) h1 h2 h3
  exact ⟨a, tz, q1, isTup_news N (sub _ q2) q3 q4⟩
structure TellOK (hs : List Home) (i : Nat) (yk : Str) (rk row : List Str) : Prop where
  cw : ((crookL (crookN rk i) row).map (·.length)).sum + (crookL (crookN rk i) row).length ≤ 1048576
  cl : (crookF rk i row).length ≤ 500
  nl : (joinF yk (crookF rk i row)).length ≤ 1000
  n2 : (compsF (joinF yk (crookF rk i row))).length ≤ 1000
  n3 : ((normL (joinF yk (crookF rk i row))).map (·.length)).sum + (normL (joinF yk (crookF rk i row))).length ≤ 1048576
  n4 : (Txt.join (Str.ofString "/") (normL (joinF yk (crookF rk i row)))).length ≤ 100000
  n5 : (Txt.slice (joinF yk (crookF rk i row)) none (some 1) != Str.ofString "/") = false
  n6 : (Txt.slice (joinF yk (crookF rk i row)) (some 1) (some 2) != Str.ofString "/") = true
  xl : (normF (joinF yk (crookF rk i row))).length ≤ 300
  way : ∀ y ∈ wayF (normF (joinF yk (crookF rk i row))), ∃ b z, tabF hs yk i y = some (b, z) ∧ 3 ≤ z.length
  way0 : ∃ b z, tabF hs yk i (normF (joinF yk (crookF rk i row))) = some (b, z) ∧ 3 ≤ z.length
  hix : ∀ k, k ≤ row.length → (rowsF hs).findIdx (fun r => decide (r = row.take k)) < (rowsF hs).length
  eq : toldF (tabF hs yk i) (normF (joinF yk (crookF rk i row))) (pickL (wayF (normF (joinF yk (crookF rk i row)))) none (some (-1))) = dueF (modesF hs) rk (rowsF hs) row
theorem rows_are {h₀ h : Heap} {L : Addr} {all nw : List (Addr × Obj)} (N : News h₀ L h all) (sub : ∀ p ∈ nw, p ∈ all) {vs : List Value} {rs : List (List Str)} (R : Two (RowIn nw) vs rs) : RowsAre h vs rs := by
  induction R with
  | nil => exact .nil
  | cons r _ ih =>
    obtain ⟨a, us, k, rfl, hm, hs⟩ := r
    exact .cons (listAt N (sub _ hm)) hs ih
def PL (L Ha Ra Na : Addr) (o2 o1 : Obj) (nw : List (Addr × Obj)) (_i : Nat) (m : Str → Option Value) (n : List (Addr × Obj)) : Prop :=
  ∃ o5 o4 o3 v5 v4 v3, (m (Str.ofString "homes") = some (.ref Ha) ∧ m (Str.ofString "rows") = some (.ref Ra) ∧ m (Str.ofString "names") = some (.ref Na)) ∧ n = lawLed L o5 o4 o3 o2 o1 nw ∧ o5.data = .cell v5 ∧ o4.data = .cell v4 ∧ o3.data = .cell v3
theorem law_turn {h₀ h8 : Heap} {L Ha Ra Na I : Addr} {oI o5 o4 o3 o2 o1 p5 p4 p3 : Obj} {v5 v4 v3 : Option Value} {m : Str → Option Value} {all nw : List (Addr × Obj)} {i tk : Nat} {s₁ : Shared} {R : (Str → Option Value) → List (Addr × Obj) → Prop}
    (IH : ∀ m' n', PL L Ha Ra Na o2 o1 nw (i + 1) m' n' → R m' n') (F : Fr h₀ L h8 m) (N : News h₀ L h8 all) (hI : (I, oI) ∈ all) (lI : ∀ p ∈ lawLed L p5 p4 p3 o2 o1 nw, p.1 < I)
    (c5 : (L + 1 + 1 + 1 + 1 + 1, o5) ∈ all) (c4 : (L + 1 + 1 + 1 + 1, o4) ∈ all) (c3 : (L + 1 + 1 + 1, o3) ∈ all) (c2 : (L + 1 + 1, o2) ∈ all) (c1 : (L + 1, o1) ∈ all) (hnw : ∀ p ∈ nw, p ∈ all) (e5 : o5.data = .cell v5) (e4 : o4.data = .cell v4) (e3 : o3.data = .cell v3)
    (q1 : m (Str.ofString "homes") = some (.ref Ha)) (q2 : m (Str.ofString "rows") = some (.ref Ra)) (q3 : m (Str.ofString "names") = some (.ref Na)) :
    UnrEndW h₀ L s₁ [(I, oI)] (fun m' n' => SubL [] n' ∧ R m' n') { s₁ with heap := h8, toks := tk } := by
  refine UnrEndW.own (lawLed L o5 o4 o3 o2 o1 nw) F N (fun p hp => ?_) (fun p hp => ?_) (fun p hp q hq => ?_) ⟨trivial, IH _ _ ⟨o5, o4, o3, v5, v4, v3, ⟨q1, q2, q3⟩, rfl, e5, e4, e3⟩⟩
  · rw [List.mem_singleton.mp hp]; exact hI
  · rcases List.mem_cons.mp hp with rfl | hp
    · exact c5
    rcases List.mem_cons.mp hp with rfl | hp
    · exact c4
    rcases List.mem_cons.mp hp with rfl | hp
    · exact c3
    rcases List.mem_cons.mp hp with rfl | hp
    · exact c2
    rcases List.mem_cons.mp hp with rfl | hp
    · exact c1
    · exact hnw p hp
  · rw [List.mem_singleton.mp hq]
    rcases List.mem_cons.mp hp with rfl | hp
    · exact Nat.ne_of_lt (lI (L + 1 + 1 + 1 + 1 + 1, p5) (.head _))
    rcases List.mem_cons.mp hp with rfl | hp
    · exact Nat.ne_of_lt (lI (L + 1 + 1 + 1 + 1, p4) (.tail _ (.head _)))
    rcases List.mem_cons.mp hp with rfl | hp
    · exact Nat.ne_of_lt (lI (L + 1 + 1 + 1, p3) (.tail _ (.tail _ (.head _))))
    rcases List.mem_cons.mp hp with rfl | hp
    · exact Nat.ne_of_lt (lI (L + 1 + 1, o2) (.tail _ (.tail _ (.tail _ (.head _)))))
    rcases List.mem_cons.mp hp with rfl | hp
    · exact Nat.ne_of_lt (lI (L + 1, o1) (.tail _ (.tail _ (.tail _ (.tail _ (.head _))))))
    · exact Nat.ne_of_lt (lI p (.tail _ (.tail _ (.tail _ (.tail _ (.tail _ hp))))))
section
theorem kw_Qe_1 : True := by
  k_with "storeName" => ((k_here; (with_reducible show wpAny _ _ (storeName _ (PySem.Str.ofString "k") _) _ _ _); k_dflt (refine' storeX_C (by k_asm) (by k_asm) (by rfl) (upd3 (by with_reducible assumption)) (by k_asm) ?_ (by rfl) (by rfl)); intro hpZk opZk FpZk NpZk dpZk; (try dsimp only at NpZk); (try k_sweep)))
  k_with "storeName" => ((k_here; (with_reducible show wpAny _ _ (storeName _ (PySem.Str.ofString "asker") _) _ _ _); k_dflt (refine' storeX_C (by k_asm) (by k_asm) (by rfl) (upd4 (by with_reducible assumption)) (by k_asm) ?_ (by rfl) (by rfl)); intro hpZk opZk FpZk NpZk dpZk; (try dsimp only at NpZk); (try k_sweep)))
  k_with "storeName" => ((k_here; (with_reducible show wpAny _ _ (storeName _ (PySem.Str.ofString "signs") _) _ _ _); k_dflt (refine' storeX_C (by k_asm) (by k_asm) (by rfl) (upd5 (by with_reducible assumption)) (by k_asm) ?_ (by rfl) (by rfl)); intro hpZk opZk FpZk NpZk dpZk; (try dsimp only at NpZk); (try k_sweep)))
  k_with "exec Assign cons ListComp" => ((k_here; (with_reducible show wpAny _ _ (exec (PySem.Stmt.Assign [PySem.Expr.Name (PySem.Str.ofString "signs") _] _ _) _) _ _ _); refine wpAny_Assign_Name ?_ (by with_unfolding_all rfl)))
  k_with "eval Name" => ((k_here; (with_reducible show wpAny _ _ (eval (PySem.Expr.Name _ _) (compEnvC _ _ _ _)) _ _ _); k_dflt (refine' lcf_cell (by k_asm) (by rfl) (by with_reducible assumption) (by with_reducible assumption) ?_ (by rfl) (by rfl))))
  k_with "eval Name" => ((k_here; (with_reducible show wpAny _ _ (eval (PySem.Expr.Name _ _) _) _ _ _); k_dflt (refine' nameX_C (by k_asm) (by rfl) (by repeat (first | exact List.mem_cons_self .. | with_reducible assumption | refine List.mem_cons_of_mem _ ?_)) (by with_reducible assumption) ?_ (by rfl) (by rfl))))
  k_with "binaryOp Mult ref int" => ((k_here; k_dflt (refine' mul_any (by k_asm) (by k_asm) (by exact List.mem_cons_self ..) (by omega) (by omega) ?_); intro DpZk hpZk FpZk NpZk l1Zk; (try k_lt l1Zk); (try k_sweep); (try dsimp only)))
  k_with "binaryOp Add ref ref" => ((k_here; (with_reducible show wpAny _ _ (binaryOp _ (Value.ref _) (Value.ref _)) _ _ _); k_dflt (refine' add_any (by k_asm) (by k_asm) (by first | exact listAt (by k_asm) (by repeat (first | exact List.mem_cons_self .. | with_reducible assumption | refine List.mem_cons_of_mem _ ?_)) | kmk_list) (by first | exact listAt (by k_asm) (by repeat (first | exact List.mem_cons_self .. | with_reducible assumption | refine List.mem_cons_of_mem _ ?_)) | kmk_list) (by ((try simp only [List.length_append, List.length_cons, List.length_nil, List.length_replicate]); omega)) ?_); intro DpZk hpZk FpZk NpZk l1Zk; (try k_lt l1Zk); (try k_sweep); (try dsimp only)))
  k_with "exec For Name Name cons nil" => ((k_here; refine hidT_intro ?_))
  k_with "call ref" => ((k_here; (with_reducible show wpAny _ _ (call (Value.ref 273) _) _ _ _); refine hidT_intro ?_))
  k_with "call ref" => ((k_here; (with_reducible show wpAny _ _ (call (Value.ref 280) _) _ _ _); refine hidT_intro ?_))
  k_with "call ref" => ((k_here; (with_reducible show wpAny _ _ (call (Value.ref 158) [Value.str _ _, Value.str _ _]) _ _ _); k_dflt (refine' SpecV.use (sp_join _ _ _ _ _ (by first | with_reducible assumption | omega) (by first | with_reducible assumption | omega)) (by k_asm) (by k_asm) (by k_asm) (by k_asm) (by k_asm) (by first | exact rfl | assumption) (by ktr_room) (by ktr_units) ?_); intro r9Zk h9Zk tk9Zk F9Zk N9Zk hr9Zk; obtain ⟨u9Zk, hr9Zk⟩ := hr9Zk; subst hr9Zk; (try k_sweep); (try dsimp only); (try k_fold)))
  k_with "call ref" => ((k_here; (with_reducible show wpAny _ _ (call (Value.ref 179) [Value.str _ _]) _ _ _); k_dflt (refine' SpecV.use (sp_norm _ _ _ (by first | with_reducible assumption | omega) (by with_reducible assumption) (by with_reducible assumption) (by with_reducible assumption) (by with_reducible assumption) (by with_reducible assumption)) (by k_asm) (by k_asm) (by k_asm) (by k_asm) (by k_asm) (by first | exact rfl | assumption) (by ktr_room) (by ktr_units) ?_); intro r9Zk h9Zk tk9Zk F9Zk N9Zk hr9Zk; obtain ⟨u9Zk, hr9Zk⟩ := hr9Zk; subst hr9Zk; (try k_sweep); (try dsimp only); (try k_fold)))
  k_with "exec Assign cons DictComp" => ((k_here; refine hidT_intro ?_))
  k_with "eval ListComp" => ((k_here; refine hidT_intro ?_))
  k_with "call type:zip" => ((k_here; refine hidT_intro ?_))
  exact trivial

theorem law_p4 (w : World) {p : Program} {loose : List Str} {mean : ExcName → Option Value} {mg mb : Str → Option Value} {dp un : Nat} {gd : Option (List Code)} {cn : Str} {a : Addr} {ccd : Value} {outer : List Env} {A₀ : Around} {base h₀ : Heap} {L Ha Ra Pa Ma Na : Addr} {m : Str → Option Value} {s : Shared} {o5 o4 o3 o2 o1 : Obj} {v5 v4 v3 : Option Value} {nw : List (Addr × Obj)} {hs : List Home}
    {Q : Flow → Shared → Prop} {E : Value → Shared → Prop} (LF : LawFacts hs) (LF3 : LawFacts3 hs) (LF4 : ∀ i yk rk row, (placesF hs)[i]? = some yk → (rowsF hs)[i]? = some rk → row ∈ rowsF hs → TellOK hs i yk rk row) (hdl : ∀ y : Str, y.length ≤ 300 → (dirF y).length ≤ 300)
    (B : Below A₀ base outer h₀) (F : Fr h₀ L s.heap m) (X : (hd.heap_1 w.params).In h₀) (T : Top p loose mean mg mb h₀) (hkf : (lawScope w).kind = .function) (hd9 : dp + 100 < recursionLimit) (hu9 : un + 1000 < cLine)
    (N : News h₀ L s.heap (lawLed L o5 o4 o3 o2 o1 nw)) (d5 : o5.data = .cell v5) (d4 : o4.data = .cell v4) (d3 : o3.data = .cell v3) (d2 : o2.data = .cell (some (.ref Ma))) (d1 : o1.data = .cell (some (.ref Pa)))
    (q1 : m (Str.ofString "homes") = some (.ref Ha)) (q2 : m (Str.ofString "rows") = some (.ref Ra)) (q3 : m (Str.ofString "names") = some (.ref Na)) (LN : LawNw L nw hs Ha Ra Pa) (LM : LawMn nw hs Ma Na)
    (hE : PassesOwn (model PP w) (ktrTop dp un gd cn (lawScope w) L a ccd (lawCells L) outer) (envX cn (lawScope w) L a ccd (lawCells L)) E)
    (hret : ∀ h' tk m', Fr h₀ L h' m' → Q (.ret (.bool true)) { s with heap := h', toks := tk }) :
    wpAny (model PP w) (ktrTop dp un gd cn (lawScope w) L a ccd (lawCells L) outer) (execs ((lawBody w).drop 9) (envX cn (lawScope w) L a ccd (lawCells L))) Q E s := by
  (have : PySem.Challenge.rw_ik0073_01 = PySem.Challenge.rw_ik0073_01 ∧ Mine.hd.heap_1 = Mine.hd.heap_1 := (by k_fill; exact ⟨rfl, rfl⟩))
  clear this
  obtain ⟨key1, key2⟩ := law_lit (w := w) (by k_is)
  rw [key2] at hE
  rw [key1, key2]
  rw [key2] at hkf
  clear key1 key2
  simp only [List.drop]
  obtain ⟨u0, hm⟩ := over3 q1 q2 q3
  subst hm
  clear q1 q2 q3
  obtain ⟨sep, ⟨hv, hk, hHa, hT⟩, ⟨rv, rk, hRa, hR⟩, ⟨pv, pk, hPa, hP⟩⟩ := LN
  obtain ⟨⟨mv, mk, hMa, hM⟩, ⟨nv, nk, hNa, hN⟩⟩ := LM
  have hvl := hT.length
  have hlen := LF.len
  have hml := hM.length
  have hnl := hN.length
  rw [modesF, List.length_map] at hml
  rw [namesF, List.length_map] at hnl
  have hpl := hP.length
  rw [LF.pj, List.length_map, LF.rlen] at hpl
  have hrl := hR.length
  rw [LF.rlen] at hrl
  k_steps
  refine hidT_open (For_turns (by k_asm) ?_ (hE := hE))
  k_steps
  refine' iter_rangeT (n := hs.length) ?hh ?hr ?hs ?hz ?F ?N ?_
  case hh => rfl
  case hr => assumption
  case hs => exact PySem.small_one (by decide) (by decide) (by omega) (by omega)
  case hz => rw [rangeSize_nat]; omega
  case F => assumption
  case N => assumption
  intro I lI
  refine rest_indK (fun _ => PL L Ha Ra Na o2 o1 nw) ?_ ?_ ?_
  · exact ⟨_, ⟨o5, o4, o3, v5, v4, v3, ⟨rfl, rfl, rfl⟩, rfl, d5, d4, d3⟩, fun p hp => by repeat (first | exact hp | refine List.mem_cons_of_mem _ ?_)⟩
  · intro i e r m₁ n₁ hx hP IH
    obtain ⟨p5, p4, p3, w5, w4, w3, ⟨q1, q2, q3⟩, rfl, e5, e4, e3⟩ := hP
    obtain ⟨u, hm⟩ := over3 q1 q2 q3
    subst hm
    clear q1 q2 q3
    obtain ⟨hi, rfl⟩ := rangeAt hx
    have hpi : i < (placesF hs).length := by rw [← hP.length]; omega
    obtain ⟨yk, hyk⟩ : ∃ y, (placesF hs)[i]? = some y := ⟨_, List.getElem?_eq_getElem hpi⟩
    have hykm := List.mem_of_getElem? hyk
    obtain ⟨yv, hyv, yt, rfl⟩ := hP.get' hyk
    have hyv' : pv[(0 + (i : Int)).toNat]? = some (.str yk yt) := by rw [Int.zero_add, Int.toNat_natCast]; exact hyv
    obtain ⟨hk1, hk2, hk3⟩ := LF3.host yk hykm
    k_steps
    (rename News _ _ _ _ => N9)
    obtain ⟨NW, N8, hIm, sub1, sep8⟩ := law_push N9 (fun q hq => Nat.ne_of_lt (lI q hq)) sep
    have hPa8 := sub1 _ hPa
    have hRa8 := sub1 _ hRa
    have hNa8 := sub1 _ hNa
    have hMa8 := sub1 _ hMa
    clear N9
    k_steps
    refine hidT_open (ListComp_G (F₀ := by k_asm) (cl := _) (by with_unfolding_all rfl) (by decide) (by rfl) (by decide) ?_)
    k_steps
    (rename News _ _ _ _ => N9)
    have sub9 := law_sub N9
    refine hidT_open (comp_mapZ (fun p nm => sgF (hostF yk) (hostF p) ((0 + (i : Int)).fmod 2) nm) SV SV SV rfl rfl rfl rfl (by decide) (by k_asm) N9 (listAt N9 (sub9 _ hPa8)) (listAt N9 (sub9 _ hNa8)) (N9 (Pa, _) (sub9 _ hPa8)).2.1 (N9 (Na, _) (sub9 _ hNa8)).2.1 (by omega) hP hN (by rw [← hP.length, ← hN.length]; omega) ?zs ?zf)
    case zs =>
      intro gh j x y v1 v2 zs own C D oC m₂ h tk E' hx hy hv1 hv2 ma mb' hoC F' N'
      obtain ⟨u1, rfl⟩ := hv1
      obtain ⟨u2, rfl⟩ := hv2
      obtain ⟨hx1, hx2, hx3⟩ := LF3.host x (List.mem_of_getElem? hx)
      obtain ⟨g1, g2, g3, g4, c1, c2, c3, c4, c5, c6, c7⟩ := LF3.sign yk hykm x (List.mem_of_getElem? hx) y (List.mem_of_getElem? hy)
      try dsimp only
      k_steps
      all_goals (exact CEnd.same (by assumption) (by assumption) (fun p hp => hp) ⟨rfl, _, rfl⟩)
    case zf =>
      intro gh D zs hzs off
      unfold FinQ
      intro h8 tk8 F8 N8
      obtain ⟨NW2, N7, hDz, sub2, sep7⟩ := law_push N8 off sep8
      replace hPa8 := sub2 _ hPa8
      replace hRa8 := sub2 _ hRa8
      replace hMa8 := sub2 _ hMa8
      replace hIm := sub2 _ hIm
      clear N8 off hNa8 sub9 N9 sep8
      k_steps
      refine hidT_open (Assign_DictComp_R (F₀ := by k_asm) (by rfl) (by with_unfolding_all rfl) (cl := _) (by with_unfolding_all rfl) (by decide) (by rfl) (by decide) (by rfl) (by rfl) (by rfl) ?_)
      k_steps
      (rename News _ _ _ _ => N9)
      (rename Obj.data _ = Data.cell (some (Value.ref D)) => dz)
      have sub9 := law_sub N9
      have hzl := hzs.length
      have hpl2 := hP.length
      have hnl2 := hN.length
      rw [List.length_zipWith] at hzl
      refine ⟨_, 0, _, _, _, _, hs.length, _, TabInv _ (placesF hs) (isdL hs) (signsL hs yk i), rfl, rfl, (by assumption), PySem.small_one (by decide) (by decide) (by omega) (by omega), (by rw [rangeSize_nat]; omega), (by rw [sizeLine_eq]; omega), (by k_asm), N9, ⟨fun _ h => h, Nat.le_refl _, fun i y b z hi => absurd hi (Nat.not_lt_zero _)⟩, fun _ _ _ h => h.2.1, ?ds, ?df⟩
      case ds =>
        intro gh j tj kvs news' own C D' od oC m₂ h tk E' hj hmj inv hoC F' N'
        obtain ⟨yj, hyj⟩ : ∃ y, (placesF hs)[j]? = some y := ⟨_, List.getElem?_eq_getElem (by omega)⟩
        obtain ⟨mj, hmj'⟩ : ∃ y, (modesF hs)[j]? = some y := ⟨_, List.getElem?_eq_getElem (by rw [← hM.length]; omega)⟩
        obtain ⟨zj, hzj⟩ : ∃ y, (signsL hs yk i)[j]? = some y := ⟨_, List.getElem?_eq_getElem (by rw [signsL, List.length_zipWith]; omega)⟩
        obtain ⟨_, hyvj, ty, rfl⟩ := hP.get' hyj
        obtain ⟨_, hmvj, tm, rfl⟩ := hM.get' hmj'
        obtain ⟨_, hzvj, tz, rfl⟩ := hzs.get' hzj
        have ej : (0 + (j : Int)).toNat = j := by omega
        rw [← ej] at hyvj hmvj hzvj
        have hsub := inv.1
        have hPa' := hsub _ (sub9 _ hPa8)
        have hMa' := hsub _ (sub9 _ hMa8)
        have hDz' := hsub _ (sub9 _ hDz)
        have hPaF := List.mem_cons_of_mem (C, oC) (List.mem_cons_of_mem (D', od) (List.mem_append_left own hPa'))
        have hMaF := List.mem_cons_of_mem (C, oC) (List.mem_cons_of_mem (D', od) (List.mem_append_left own hMa'))
        have hDzF := List.mem_cons_of_mem (C, oC) (List.mem_cons_of_mem (D', od) (List.mem_append_left own hDz'))
        have hc1 := List.mem_cons_of_mem (C, oC) (List.mem_cons_of_mem (D', od) (List.mem_append_left own (hsub (L + 1, o1) (.tail _ (.tail _ (.tail _ (.tail _ (.head _))))))))
        have hc2 := List.mem_cons_of_mem (C, oC) (List.mem_cons_of_mem (D', od) (List.mem_append_left own (hsub (L + 1 + 1, o2) (.tail _ (.tail _ (.tail _ (.head _)))))))
        have hc5 := List.mem_cons_of_mem (C, oC) (List.mem_cons_of_mem (D', od) (List.mem_append_left own (hsub _ (List.mem_cons_self ..))))
        try dsimp only
        k_steps
        all_goals ((try k_unfold); (try dsimp only); exact DEnd.one (strKind_is _ _ yj ty) (by assumption) (by assumption) (by assumption) (inv.next LF3.nodup hyj (by rw [isdL, List.getElem?_map, hmj']; rfl) hzj rfl rfl))
      case df =>
        intro gh D' od kvs news' hod inv off
        unfold FinD
        intro h8 tk8 F8 N8
        have hsub := inv.1
        have hPa' := List.mem_cons_of_mem (D', od) (hsub _ (sub9 _ hPa8))
        have hMa' := List.mem_cons_of_mem (D', od) (hsub _ (sub9 _ hMa8))
        have hRa' := List.mem_cons_of_mem (D', od) (hsub _ (sub9 _ hRa8))
        have hIm' := List.mem_cons_of_mem (D', od) (hsub _ (sub9 _ hIm))
        have hRL := hR.mono fun _ _ q => RowIn.mono q fun p hp => List.mem_cons_of_mem (D', od) (hsub _ (sub9 _ (sub2 _ (sub1 _ hp))))
        have hc1 := List.mem_cons_of_mem (D', od) (hsub (L + 1, o1) (.tail _ (.tail _ (.tail _ (.tail _ (.head _))))))
        have hc2 := List.mem_cons_of_mem (D', od) (hsub (L + 1 + 1, o2) (.tail _ (.tail _ (.tail _ (.head _)))))
        have hc3 := List.mem_cons_of_mem (D', od) (hsub (L + 1 + 1 + 1, _) (.tail _ (.tail _ (.head _))))
        have hc4 := List.mem_cons_of_mem (D', od) (hsub (L + 1 + 1 + 1 + 1, _) (.tail _ (.head _)))
        have hc5 := List.mem_cons_of_mem (D', od) (hsub (L + 1 + 1 + 1 + 1 + 1, _) (.head _))
        have hnwS : ∀ p ∈ nw, p ∈ (D', od) :: news' := fun p hp => List.mem_cons_of_mem (D', od) (hsub _ (sub9 _ (sub2 _ (sub1 _ hp))))
        clear hT hHa hNa hN hRa hPa hMa hRa8 hPa8 hMa8 hDz hIm sub1 sub2 sub9 N9
        obtain ⟨rk', hrk'⟩ : ∃ y, (rowsF hs)[i]? = some y := ⟨_, List.getElem?_eq_getElem (by rw [LF.rlen]; omega)⟩
        obtain ⟨_, hrvk, ka, kus, kk', rfl, hkm, hkus⟩ := hRL.get' hrk'
        have ei : (0 + (i : Int)).toNat = i := by omega
        rw [← ei] at hrvk
        have hkl := strs_len hkus
        obtain ⟨hf1, hf2⟩ := fmod2_in (0 + (i : Int))
        have hkr := LF.rl rk' (List.mem_of_getElem? hrk')
        k_steps
        refine hidT_open (For_turns (by k_asm) ?_ (hE := hE))
        k_steps
        refine' iter_listTurns ?hh ?F ?N ?hm ?hc ?hd ?_
        case hh => rfl
        case F => assumption
        case N => exact N8
        case hm => exact hRa'
        case hc => exact rfl
        case hd => exact rfl
        intro I2 lI2
        refine rest_indK (fun _ _ m n => (m (Str.ofString "homes") = some (.ref Ha) ∧ m (Str.ofString "rows") = some (.ref Ra) ∧ m (Str.ofString "names") = some (.ref Na) ∧ m (Str.ofString "table") = some (.ref D')) ∧ n = (D', od) :: news') ?_ ?_ ?_
        · exact ⟨_, ⟨⟨rfl, rfl, rfl, rfl⟩, rfl⟩, fun p hp => hp⟩
        · intro i2 e2 r2 m2 n2 hx2 hP2 IH2
          obtain ⟨⟨q1, q2, q3, q4⟩, rfl⟩ := hP2
          obtain ⟨u2, hm⟩ := over4 q1 q2 q3 q4
          subst hm
          clear q1 q2 q3 q4
          obtain ⟨v, rfl, hv2⟩ := valItem hx2
          obtain ⟨row, hrow, ra, us, ku, rfl, hmem, hus⟩ := hRL.get hv2
          have hul := strs_len hus
          have hrr := LF.rl row (List.mem_of_getElem? hrow)
          k_steps
          have TO := LF4 i yk rk' row hyk hrk' (List.mem_of_getElem? hrow)
          obtain ⟨cw, cl', nl, n2, n3, n4, n5, n6, xl, hway, hway0, hix, heq⟩ := TO
          have en : ((kus.length : Int) + 1 + (0 + (i : Int)).fmod 2).toNat = crookN rk' i := by rw [hkl]; rfl
          (rename News _ _ _ _ => N9)
          rw [en] at N9
          refine' PyProof.Rows.join_listW (ys := crookL (crookN rk' i) row) (listAt N9 (List.mem_cons_self ..)) (strs_crook hus _) (by decide) cw ?_
          have hcr : Txt.join (Str.ofString "/") (crookL (crookN rk' i) row) = crookF rk' i row := rfl
          rw [hcr]
          clear hcr cw en
          generalize crookF rk' i row = cr at *
          have hyk5 : yk.length ≤ 500 := by omega
          intro t9 tk9
          k_steps
          (rename News _ _ _ _ => N7)
          have hDm : (D', od) ∈ (D', od) :: news' := List.mem_cons_self ..
          refine hidT_open (SpecG.use (sp_told w D' (normF (joinF yk cr)) _ (tabF hs yk i) xl hdl hway hway0) B (by k_asm) X (by k_asm) T rfl (by omega) (by omega) (tab_ok N7 (by repeat (first | exact List.mem_cons_self .. | with_reducible assumption | refine List.mem_cons_of_mem _ ?_)) (fun p hp => List.mem_cons_of_mem _ (List.mem_cons_of_mem _ (by repeat (first | exact hp | refine List.mem_cons_of_mem _ ?_)))) hod inv (by omega)) ?_)
          rintro r h9 tk9 F9 N6 ⟨u9, rfl⟩
          rw [heq]
          clear hway hway0 nl n2 n3 n4 n5 n6 xl heq
          try dsimp only
          k_steps
          (rename News _ _ _ _ => N7)
          refine hidT_open (SpecG.use (sp_due w Ma ka Ra ra (modesF hs) rk' (rowsF hs) row (by omega) (by omega) (by rw [LF.rlen]; omega) (by rw [modesF, List.length_map, LF.rlen]) hix (fun k => Nat.le_trans (LF.jn row (List.mem_of_getElem? hrow) k) (by decide))) B (by k_asm) X (by k_asm) T rfl (by omega) (by omega) ⟨⟨mv, listAt N7 (by repeat (first | exact List.mem_cons_self .. | with_reducible assumption | refine List.mem_cons_of_mem _ ?_)), ints_two hM⟩, ⟨kus, listAt N7 (by repeat (first | exact List.mem_cons_self .. | with_reducible assumption | refine List.mem_cons_of_mem _ ?_)), hkus⟩, ⟨rv, rk, (N7 (Ra, _) (by repeat (first | exact List.mem_cons_self .. | with_reducible assumption | refine List.mem_cons_of_mem _ ?_))).1, rows_are N7 (fun p hp => by repeat (first | exact hp | refine List.mem_cons_of_mem _ ?_)) hRL⟩, ⟨us, listAt N7 (by repeat (first | exact List.mem_cons_self .. | with_reducible assumption | refine List.mem_cons_of_mem _ ?_)), hus⟩⟩ ?_)
          rintro r h9 tk9 F9 N6 ⟨u9, rfl⟩
          have hne : (dueF (modesF hs) rk' (rowsF hs) row != dueF (modesF hs) rk' (rowsF hs) row) = false := by simp
          have hquick : QuickIte := True.intro
          try dsimp only
          k_steps
          all_goals (exact UnrEndW.own ((D', od) :: news') (by assumption) (by assumption) (fun p hp => by rw [List.mem_singleton.mp hp]; repeat (first | exact List.mem_cons_self .. | refine List.mem_cons_of_mem _ ?_)) (fun p hp => by repeat (first | exact hp | refine List.mem_cons_of_mem _ ?_)) (fun p hp q hq => by rw [List.mem_singleton.mp hq]; exact Nat.ne_of_lt (lI2 p hp)) ⟨And.intro hRa' trivial, IH2 _ _ ⟨⟨rfl, rfl, rfl, rfl⟩, rfl⟩⟩)
        · intro m2 n2 hP2
          obtain ⟨⟨q1, q2, q3, q4⟩, rfl⟩ := hP2
          obtain ⟨u2, hm⟩ := over4 q1 q2 q3 q4
          subst hm
          clear q1 q2 q3 q4
          k_steps
          all_goals (exact law_turn IH (by assumption) (by assumption) hIm' lI hc5 hc4 hc3 hc2 hc1 hnwS (by assumption) (by assumption) (by assumption) rfl rfl rfl)
  · intro m₁ n₁ hP
    obtain ⟨p5, p4, p3, w5, w4, w3, ⟨q1, q2, q3⟩, rfl, e5, e4, e3⟩ := hP
    obtain ⟨u, hm⟩ := over3 q1 q2 q3
    subst hm
    clear q1 q2 q3
    k_steps
    all_goals (exact hret _ _ _ (by assumption))
end
theorem kw_Qe_2 : True := by
  k_with_none
  k_with "ite" => (first | with_reducible refine tt_then ?_ | with_reducible refine ff_else ?_)
  k_with "call ref" => ((k_here; (with_reducible show wpAny _ _ (call (Value.ref 186) [Value.int _ _]) _ _ _); k_dflt (refine' SpecV.use (sp_isfmt _ _ _) (by k_asm) (by k_asm) (by k_asm) (by k_asm) (by k_asm) (by first | exact rfl | assumption) (by ktr_room) (by ktr_units) ?_); intro r9Zk h9Zk tk9Zk F9Zk N9Zk hr9Zk; obtain ⟨u9Zk, hr9Zk⟩ := hr9Zk; subst hr9Zk; (try k_sweep); (try dsimp only); (try k_fold)))
  k_with "getMethod ref" => ((k_here; (with_reducible show wpAny _ _ (getMethod (Value.ref 43) _ _) _ _ _); k_dflt (refine' re_method (by k_in) ?_)))
  k_with "call builtin:re.Pattern.search" => ((k_here; k_dflt (refine' re_search (by k_in) (by first | assumption | omega) (by with_reducible assumption) ?_)))
  k_with "call ref" => ((k_here; (with_reducible show wpAny _ _ (call (Value.ref 50) [Value.str _ _]) _ _ _); k_dflt (refine' SpecV.use (sp_hdn _ _ _ (by first | assumption | omega) (by with_reducible assumption)) (by k_asm) (by k_asm) (by k_asm) (by k_asm) (by k_asm) (by first | exact rfl | assumption) (by ktr_room) (by ktr_units) ?_); intro r9Zk h9Zk tk9Zk F9Zk N9Zk hr9Zk; subst hr9Zk; (try k_sweep); (try dsimp only); (try k_fold)))
  k_with "call ref" => ((k_here; (with_reducible show wpAny _ _ (call (Value.ref 151) [Value.str _ _]) _ _ _); k_dflt (refine' SpecV.use (sp_getsep _ _ _) (by k_asm) (by k_asm) (by k_asm) (by k_asm) (by k_asm) (by first | exact rfl | assumption) (by ktr_room) (by ktr_units) ?_); intro r9Zk h9Zk tk9Zk F9Zk N9Zk hr9Zk; obtain ⟨u9Zk, hr9Zk⟩ := hr9Zk; subst hr9Zk; (try k_sweep); (try dsimp only); (try k_fold)))
  k_with "call builtin:issubclass" => ((k_here; (with_reducible show wpAny _ _ (call (Value.builtin "issubclass") [Value.type "str", Value.ref _]) _ _ _); k_dflt (refine' call_issub (by exact News.get (by k_asm) (by k_mem)) (by exact rfl) (by exact rfl) ?_)))
  k_with "call ref" => ((k_here; (with_reducible show wpAny _ _ (call (Value.ref 137) [Value.str _ _]) _ _ _); k_dflt (refine' SpecV.use (sp_fspath _ _ _) (by k_asm) (by k_asm) (by k_asm) (by k_asm) (by k_asm) (by first | exact rfl | assumption) (by ktr_room) (by ktr_units) ?_); intro r9Zk h9Zk tk9Zk F9Zk N9Zk hr9Zk; obtain ⟨u9Zk, hr9Zk⟩ := hr9Zk; subst hr9Zk; (try k_sweep); (try dsimp only); (try k_fold)))
  k_with "call ref" => ((k_here; (with_reducible show wpAny _ _ (call (Value.ref 172) [Value.str _ _]) _ _ _); k_dflt (refine' SpecV.use (sp_dirname _ _ _ (by first | assumption | omega)) (by k_asm) (by k_asm) (by k_asm) (by k_asm) (by k_asm) (by first | exact rfl | assumption) (by ktr_room) (by ktr_units) ?_); intro r9Zk h9Zk tk9Zk F9Zk N9Zk hr9Zk; obtain ⟨u9Zk, hr9Zk⟩ := hr9Zk; subst hr9Zk; (try k_sweep); (try dsimp only); (try k_fold)))
  k_with "call ref" => ((k_here; (with_reducible show wpAny _ _ (call (Value.ref 165) [Value.str _ _]) _ _ _); k_dflt (refine' SpecO.use (sp_splitroot _ _ _ (by first | assumption | omega) (by assumption) (by assumption)) (by k_asm) (by k_asm) (by k_asm) (by k_asm) (by k_asm) (by first | exact rfl | assumption) (by ktr_room) (by ktr_units) ?_); intro b9Zk o9Zk h9Zk tk9Zk F9Zk N9Zk l9Zk hr9Zk; obtain ⟨t91Zk, t92Zk, t93Zk, n9Zk, hr9Zk⟩ := hr9Zk; subst hr9Zk; (try simp only [AllNe, and_true] at l9Zk); (try k_sweep); (try dsimp only); (try k_fold)))
  k_with "call ref" => ((k_here; (with_reducible show wpAny _ _ (call (Value.ref 158) [Value.str _ _, Value.str _ _]) _ _ _); k_dflt (refine' SpecV.use (sp_join _ _ _ _ _ (by first | assumption | omega) (by first | assumption | omega)) (by k_asm) (by k_asm) (by k_asm) (by k_asm) (by k_asm) (by first | exact rfl | assumption) (by ktr_room) (by ktr_units) ?_); intro r9Zk h9Zk tk9Zk F9Zk N9Zk hr9Zk; obtain ⟨u9Zk, hr9Zk⟩ := hr9Zk; subst hr9Zk; (try k_sweep); (try dsimp only); (try k_fold)))
  k_with "exec For Tuple Call cons nil" => ((k_here; (rename Fr _ _ _ _ => lFpZk); (with_unfolding_all refine' For_turns lFpZk ?_; k_whole)))
  k_with "call ref" => ((k_here; (with_reducible show wpAny _ _ (call (Value.ref 233) [Value.int _ _]) _ _ _); k_dflt (refine' SpecV.use (sp_filemode _ _ _) (by k_asm) (by k_asm) (by k_asm) (by k_asm) (by k_asm) (by first | exact rfl | assumption) (by ktr_room) (by ktr_units) ?_); intro r9Zk h9Zk tk9Zk F9Zk N9Zk hr9Zk; obtain ⟨u9Zk, hr9Zk⟩ := hr9Zk; subst hr9Zk; (try k_sweep); (try dsimp only); (try k_fold)))
  k_with "call ref" => ((k_here; (with_reducible show wpAny _ _ (call (Value.ref 193) [Value.int _ _]) _ _ _); k_dflt (refine' SpecV.use (sp_isdir _ _ _) (by k_asm) (by k_asm) (by k_asm) (by k_asm) (by k_asm) (by first | exact rfl | assumption) (by ktr_room) (by ktr_units) ?_); intro r9Zk h9Zk tk9Zk F9Zk N9Zk hr9Zk; subst hr9Zk; (try k_sweep); (try dsimp only); (try k_fold)))
  k_with "call ref" => ((k_here; (with_reducible show wpAny _ _ (call (Value.ref 64) [Value.str _ _]) _ _ _); k_dflt (refine' SpecV.use (sp_reach _ _ _ (by first | assumption | omega) (by with_reducible assumption)) (by k_asm) (by k_asm) (by k_asm) (by k_asm) (by k_asm) (by first | exact rfl | assumption) (by ktr_room) (by ktr_units) ?_); intro r9Zk h9Zk tk9Zk F9Zk N9Zk hr9Zk; obtain ⟨u9Zk, hr9Zk⟩ := hr9Zk; subst hr9Zk; (try k_sweep); (try dsimp only); (try k_fold)))
  k_with "call ref" => ((k_here; (with_reducible show wpAny _ _ (call (Value.ref 57) [Value.str _ _, Value.str _ _]) _ _ _); k_dflt (refine' SpecV.use (sp_dm _ _ _ _ _ (by first | assumption | omega) (by first | assumption | omega) (by with_reducible assumption) (by with_reducible assumption)) (by k_asm) (by k_asm) (by k_asm) (by k_asm) (by k_asm) (by first | exact rfl | assumption) (by ktr_room) (by ktr_units) ?_); intro r9Zk h9Zk tk9Zk F9Zk N9Zk hr9Zk; subst hr9Zk; (try k_sweep); (try dsimp only); (try k_fold)))
  k_with "call ref" => ((k_here; (with_reducible show wpAny _ _ (call (Value.ref 179) [Value.str _ _]) _ _ _); k_dflt (refine' SpecV.use (sp_norm _ _ _ (by first | assumption | omega) (by assumption) (by assumption) (by assumption) (by assumption) (by assumption)) (by k_asm) (by k_asm) (by k_asm) (by k_asm) (by k_asm) (by first | exact rfl | assumption) (by ktr_room) (by ktr_units) ?_); intro r9Zk h9Zk tk9Zk F9Zk N9Zk hr9Zk; obtain ⟨u9Zk, hr9Zk⟩ := hr9Zk; subst hr9Zk; (try k_sweep); (try dsimp only); (try k_fold)))
  k_with "call ref" => ((k_here; (with_reducible show wpAny _ _ (call (Value.ref 259) [Value.str _ _]) _ _ _); k_dflt (refine' SpecV.use (sp_host _ _ _ (by first | assumption | omega) (by with_reducible assumption) (by with_reducible assumption)) (by k_asm) (by k_asm) (by k_asm) (by k_asm) (by k_asm) (by first | exact rfl | assumption) (by ktr_room) (by ktr_units) ?_); intro r9Zk h9Zk tk9Zk F9Zk N9Zk hr9Zk; obtain ⟨u9Zk, hr9Zk⟩ := hr9Zk; subst hr9Zk; (try k_sweep); (try dsimp only); (try k_fold)))
  k_with "call ref" => ((k_here; (with_reducible show wpAny _ _ (call (Value.ref 266) [Value.str _ _, Value.str _ _, Value.int _ _, Value.str _ _]) _ _ _); k_dflt (refine' SpecV.use (sp_signs _ _ _ _ _ _ _ _ _ (by with_reducible assumption) (by with_reducible assumption) (by with_reducible assumption) (by with_reducible assumption) (by with_reducible assumption) (by with_reducible assumption) (by with_reducible assumption) (by with_reducible assumption) (by with_reducible assumption) (by with_reducible assumption) (by with_reducible assumption)) (by k_asm) (by k_asm) (by k_asm) (by k_asm) (by k_asm) (by first | exact rfl | assumption) (by ktr_room) (by ktr_units) ?_); intro r9Zk h9Zk tk9Zk F9Zk N9Zk hr9Zk; obtain ⟨u9Zk, hr9Zk⟩ := hr9Zk; subst hr9Zk; (try k_sweep); (try dsimp only); (try k_fold)))
  k_with "exec For Name Call cons nil" => ((k_here; refine hidT_intro ?_))
  k_with "exec For Name Subscript cons nil" => ((k_here; refine hidT_intro ?_))
  k_with "subscriptTail Name Slice ref ref" => ((k_here; (with_reducible show wpAny _ _ (subscriptTail _ (PySem.Expr.Slice _ _ none _) (Value.ref _) (Value.ref _)) _ _ _); k_dflt (refine' slice_strs (by k_asm) (by k_asm) (by kmk_list) (by kmk_part) (by kmk_part) (by assumption) (by first | assumption | omega) ?_ (by with_unfolding_all rfl) (by kmk_pure)); intro DpZk wspZk hpZk FpZk NpZk l1Zk hIpZk hNpZk; (try simp only [pick_to, pick_to1] at hIpZk); (try k_lt l1Zk); (try k_sweep); (try dsimp only)))
  k_with "subscriptTail Name Name ref str" => ((k_here; (with_reducible show wpAny _ _ (subscriptTail _ _ (Value.ref _) (Value.str _ _)) _ _ _); k_dflt (refine' told_get (by assumption) (by assumption) (by assumption) (by with_unfolding_all rfl) ?_); intro apZk typZk hTpZk))
  k_with "subscriptTail Subscript Name Name Constant ref int" => ((k_here; (with_reducible show wpAny _ _ (subscriptTail _ _ (Value.ref _) (Value.int 0 _)) _ _ _); k_dflt (refine' pair_item0 (by with_reducible assumption) (by with_reducible assumption) ?_ (by with_unfolding_all rfl))))
  k_with "subscriptTail Subscript Name Name Constant ref int" => ((k_here; (with_reducible show wpAny _ _ (subscriptTail _ _ (Value.ref _) (Value.int 1 _)) _ _ _); k_dflt (refine' pair_item1 (by with_reducible assumption) (by with_reducible assumption) ?_ (by with_unfolding_all rfl))))
  k_with "subscriptTail Name Constant ref int" => ((k_here; (with_reducible show wpAny _ _ (subscriptTail _ _ (Value.ref _) (Value.int _ _)) _ _ _); k_dflt (refine' item_at (v := Value.str _ _) (by exact News.isList (by with_reducible assumption) (by first | exact .head _ | exact .tail _ (.head _) | exact .tail _ (.tail _ (.head _)))) (by decide) (by first | omega | (simp only [List.length_cons]; omega)) (by rfl) ?_ (by with_unfolding_all rfl))))
  k_with "binaryOp Add ref ref" => ((k_here; (with_reducible show wpAny _ _ (binaryOp _ (Value.ref _) (Value.ref _)) _ _ _); k_dflt (refine' add_any (by with_reducible assumption) (by with_reducible assumption) (by exact News.isList (by with_reducible assumption) (by first | exact .head _ | exact .tail _ (.head _) | exact .tail _ (.tail _ (.head _)))) (by exact News.isList (by with_reducible assumption) (by first | exact .head _ | exact .tail _ (.head _) | exact .tail _ (.tail _ (.head _)))) (by first | omega | (simp only [List.length_cons, List.length_nil]; omega)) ?_); intro DpZk hpZk FpZk NpZk l1Zk; (try k_lt l1Zk); (try k_sweep); (try dsimp only)))
  k_with "execs nil" => (((with_reducible refine wpAny_execs_nil ?_); try dsimp only))
  k_with "execs cons" => (((with_reducible refine wpAny_execs_cons ?_); try dsimp only))
  k_with "compareOp Eq ref ref" => ((k_here; (with_reducible show wpAny _ _ (compareOp CmpOp.Eq (Value.ref _) (Value.ref _)) _ _ _); k_dflt (refine' due_eq (by kmk_list) (by kmk_list) (by assumption) (by assumption) (by ke_room) ?_)))
  k_with "call builtin:list.index" => ((k_here; (with_reducible show wpAny _ _ (call (Value.builtin _) [Value.ref _, Value.ref _]) _ _ _); k_dflt (refine' due_index (by assumption) (by assumption) (by assumption) (by assumption) (by k_mem) (by assumption) (by ke_room) (by first | assumption | omega) (by assumption) ?_)))
  k_with "getMethod ref" => ((k_here; (with_reducible show wpAny _ _ (getMethod (Value.ref _) (PySem.Str.ofString "index") _) _ _ _); k_dflt (refine' due_method (by assumption) (by assumption) PySem.F.slot_list_index PySem.F.type_list_index ?_)))
  k_with "subscriptTail Name Call ref int" => ((k_here; (with_reducible show wpAny _ _ (subscriptTail _ _ (Value.ref _) (Value.int _ _)) _ _ _); k_dflt (refine' due_item (by assumption) (by assumption) (by assumption) (by omega) (by assumption) ?_ (by with_unfolding_all rfl)); intro tpZk))
  k_with "exec If" => ((k_here; (with_reducible show wpAny _ _ (exec (PySem.Stmt.If (PySem.Expr.Compare _ [PySem.CmpOp.Eq] _ _) _ (_ :: _) _) _) _ _ _); refine hidT_intro ?_))
  k_with "ite" => (((rename QuickIte => hQuick9Zk); k_openite; first | (refine ite_pos (by with_reducible assumption) ?_) | (refine ite_neg (by with_reducible assumption) ?_) | (refine ite_isFalse (by with_reducible assumption) ?_) | with_reducible refine ite_tt ?_ | with_reducible refine ite_ff ?_ | (with_reducible refine split_ine ?_ ?_ <;> intro _) | (with_reducible refine split_ieq ?_ ?_ <;> intro _) | with_reducible refine split_not ?_ | (refine split_dec ?_ ?_ <;> intro _) | (refine split_bool ?_ ?_ <;> intro _)))
  k_with "binaryOp Add ref ref" => ((k_here; (with_reducible show wpAny _ _ (binaryOp _ (Value.ref _) (Value.ref _)) _ _ _); k_dflt (refine' add_any (by k_asm) (by k_asm) (by first | exact listAt (by k_asm) (by repeat (first | exact List.mem_cons_self .. | with_reducible assumption | refine List.mem_cons_of_mem _ ?_)) | kmk_list) (by first | exact listAt (by k_asm) (by repeat (first | exact List.mem_cons_self .. | with_reducible assumption | refine List.mem_cons_of_mem _ ?_)) | kmk_list) (by ((try simp only [List.length_append, List.length_cons, List.length_nil]); omega)) ?_); intro DpZk hpZk FpZk NpZk l1Zk; (try k_lt l1Zk); (try k_sweep); (try dsimp only)))
  k_with "subscriptTail Name Name ref int" => ((k_here; (with_reducible show wpAny _ _ (subscriptTail _ _ (Value.ref _) (Value.int _ _)) _ _ _); k_dflt (refine' item_at (by first | exact listAt (by k_asm) (by repeat (first | exact List.mem_cons_self .. | with_reducible assumption | refine List.mem_cons_of_mem _ ?_)) | kmk_list) (by omega) (by omega) (by with_reducible assumption) ?_ (by with_unfolding_all rfl))))
  k_with "exec For Tuple Subscript cons nil" => ((k_here; refine hidT_intro ?_))
  k_with "subscriptTail Name Slice ref ref" => ((k_here; (with_reducible show wpAny _ _ (subscriptTail _ (PySem.Expr.Slice _ _ none _) (Value.ref _) (Value.ref _)) _ _ _); k_dflt (refine' slice_any (by k_asm) (by k_asm) (by first | exact listAt (by k_asm) (by repeat (first | exact List.mem_cons_self .. | with_reducible assumption | refine List.mem_cons_of_mem _ ?_)) | kmk_list) (by first | assumption | omega) (by kmk_part) (by kmk_part) ?_ (by with_unfolding_all rfl) (by kmk_pure)); intro DpZk hpZk FpZk NpZk l1Zk; (try k_lt l1Zk); (try k_sweep); (try dsimp only)))
  k_with "assign Tuple" => ((k_here; (with_reducible show wpAny _ _ (assign (PySem.Expr.Tuple _ _ _) _ (Value.ref _)) _ _ _); k_dflt (refine' asgK (hL := (by rfl)) (by rfl) (by first | exact isTup_keep (by with_reducible assumption) (Fr.keep (by k_asm)) | exact isTup_news (by k_asm) (by repeat (first | exact List.mem_cons_self .. | with_reducible assumption | refine List.mem_cons_of_mem _ ?_)) (by with_reducible assumption) (by with_reducible assumption)) (by k_asm) (by k_asm) (by rfl) (by rfl) (by rfl) (by rfl) ?_); intro hpZk tkpZk FpZk NpZk; (try k_sweep)))
  k_with "subscriptTail Tuple cons BinOp ref int" => ((k_here; k_dflt (refine' menu3 (by exact News.isTup (by k_asm) (List.mem_cons_self ..)) ?_ (by with_unfolding_all rfl)); intro tpZk; (try dsimp only)))
  k_with "call builtin:len" => ((k_here; (with_reducible show wpAny _ _ (call (Value.builtin "len") [Value.ref _]) _ _ _); k_dflt (refine' len_any (by exact listAt (by k_asm) (by repeat (first | exact List.mem_cons_self .. | with_reducible assumption | refine List.mem_cons_of_mem _ ?_))) (by omega) ?_); (try dsimp only)))
  exact trivial


theorem fresh_Qf : True := by
  w_top off
  exact trivial
theorem law_walk (w : World) (P1 : ∀ hs, GoodH hs → LawFacts hs) (P2 : ∀ hs, GoodH hs → LawFacts2 hs) (P3 : ∀ hs, GoodH hs → LawFacts3 hs) (P4 : ∀ hs, GoodH hs → ∀ i yk rk row, (placesF hs)[i]? = some yk → (rowsF hs)[i]? = some rk → row ∈ rowsF hs → TellOK hs i yk rk row) (hdl : ∀ y : Str, y.length ≤ 300 → (dirF y).length ≤ 300)
    {p : Program} {loose : List Str} {mean : ExcName → Option Value} {mg mb : Str → Option Value} {dp un : Nat} {gd : Option (List Code)} {cn : Str} {a : Addr} {ccd : Value} {outer : List Env} {A₀ : Around} {base h₀ : Heap} {L ax : Addr} {m : Str → Option Value} {s : Shared} {o5 o4 o3 o2 o1 : Obj} {v5 v4 v3 v2 v1 : Option Value} {vs : List Value} {ns : List Int}
    {Q : Flow → Shared → Prop} {E : Value → Shared → Prop}
    (B : Below A₀ base outer h₀) (F : Fr h₀ L s.heap m) (X : (hd.heap_1 w.params).In h₀) (T : Top p loose mean mg mb h₀) (hkf : (lawScope w).kind = .function) (hd9 : dp + 100 < recursionLimit) (hu9 : un + 1000 < cLine)
    (N : News h₀ L s.heap (lawLed L o5 o4 o3 o2 o1 [])) (d5 : o5.data = .cell v5) (d4 : o4.data = .cell v4) (d3 : o3.data = .cell v3) (d2 : o2.data = .cell v2) (d1 : o1.data = .cell v1)
    (hs : m (Str.ofString "script") = some (.ref ax)) (hax : h₀.IsList ax vs.toArray) (hI : IntsAre vs ns) (hn : ns.length ≤ 63)
    (hE : PassesOwn (model PP w) (ktrTop dp un gd cn (lawScope w) L a ccd (lawCells L) outer) (envX cn (lawScope w) L a ccd (lawCells L)) E)
    (hret : ∀ h' tk m', Fr h₀ L h' m' → Q (.ret (.bool true)) { s with heap := h', toks := tk }) :
    wpAny (model PP w) (ktrTop dp un gd cn (lawScope w) L a ccd (lawCells L) outer) (execs (lawBody w) (envX cn (lawScope w) L a ccd (lawCells L))) Q E s := by
  refine law_p1 w P1 B F X T hkf hd9 hu9 N d5 d4 d3 d2 d1 hs hax hI hn ?_
  intro h1 tk1 m1 q1 nw1 hs Ha Ra Pa hG F1 e1 e2 N1 d1' LN1
  refine law_p2 w (P1 hs hG) B F1 X T hkf hd9 hu9 N1 d5 d4 d3 d2 d1' e1 e2 LN1 ?_
  intro h2 tk2 m2 q2 nw2 Ma Na F2 g1 g2 g3 N2 d2' LN2 LM2
  refine law_p3 w (P1 hs hG) (P2 hs hG) B F2 X T hkf hd9 hu9 N2 d2' g1 g2 g3 LN2 LM2 ?_
  intro h3 tk3 m3 F3 k1 k2 k3 N3
  exact law_p4 w (P1 hs hG) (P3 hs hG) (P4 hs hG) hdl B F3 X T hkf hd9 hu9 N3 d5 d4 d3 d2' d1' k1 k2 k3 LN2 LM2 hE fun h' tk m' F' => hret h' tk m' F'
local macro_rules | `(tactic| k_qdec) => `(tactic| decide +kernel)
theorem law_top (P1 : ∀ hs, GoodH hs → LawFacts hs) (P2 : ∀ hs, GoodH hs → LawFacts2 hs) (P3 : ∀ hs, GoodH hs → LawFacts3 hs) (P4 : ∀ hs, GoodH hs → ∀ i yk rk row, (placesF hs)[i]? = some yk → (rowsF hs)[i]? = some rk → row ∈ rowsF hs → TellOK hs i yk rk row) (hdl : ∀ y : Str, y.length ≤ 300 → (dirF y).length ≤ 300) : PySem.Challenge.rw_ik0073_01.Holds := by
  refine holds_law said0 fun said => ?_
  refine holds_open (q := vw) (loose := looseL) (Xt := xtL) (XP := XL vw []) (Yf := (kHook hd.heap_1 asL asE).obs) (Ya := (kHook hd.heap_1 asL asE).val) (YP := (kHook hd.heap_1 asL asE).says) (N := 3636) left0 (kHook hd.heap_1 asL asE).of (kHook hd.heap_1 asL asE).keeps (fun s e => xl_of s (Bool.and_eq_true_iff.mp e).1) XL.keeps (by rfl) (by rfl) (by rfl) (fun s e => recFacts_of (Bool.and_eq_true_iff.mp e).2) (by rfl) (by first | assumption | decide +kernel) (by decide +kernel) ⟨rfl, rfl, rfl, rfl, rfl, by decide +kernel⟩ ?hw ?hc
  case hw => w_witness2
  k_go0
  all_goals (try k_fold)
  (rename World => w9)
  have W := @law_walk w9 P1 P2 P3 P4 hdl
  obtain ⟨key1, key2⟩ := law_lit (w := w9) (by k_is)
  rw [key1, key2] at W
  clear key1 key2
  refine' W ?zB ?zF ?zX ?zT ?zk ?zd ?zu ?zN ?zd5 ?zd4 ?zd3 ?zd2 ?zd1 ?zs ?zax ?zI ?zn ?zE ?zr
  case zB => assumption
  case zF => assumption
  case zX => assumption
  case zT => assumption
  case zk => rfl
  case zN => assumption
  case zd5 => assumption
  case zd4 => assumption
  case zd3 => assumption
  case zd2 => assumption
  case zd1 => assumption
  case zs => rfl
  case zax => assumption
  case zI => assumption
  case zn => omega
  case zE => passes_own
  case zd => decide
  case zu =>
    have hcL9 := cLine_is
    simp only [units_caller]
    omega
  case zr =>
    intro h' tk m' F'
    k_unfold
    (try dsimp only)
    first | wrow_close | trace_state

theorem fresh_Qg : True := by
  w_top off
  exact trivial
theorem dir_len (y : Str) (h : y.length ≤ 300) : (dirF y).length ≤ 300 := by
  have a : (headF y).length ≤ y.length := by
    unfold headF
    have := PySem.Txt.slice_le y none (some (Txt.rfind y (Str.ofString "/") + 1))
    omega
  unfold dirF
  split
  · split
    · have := PyProof.Rows.len_rstripChars (headF y) (Str.ofString "/")
      omega
    · omega
  · omega
/-- the given shapes, by levels -/
def shBase : List (Int × Str) := [(0, Str.ofString "local"), (0, Str.ofString "a"), (1, Str.ofString "b")]
def shNames : List Str := [Str.ofString "a", Str.ofString "b", Str.ofString "ab"]
def shExt (l : List (Int × Str)) : List (List (Int × Str)) :=
  (((List.range l.length).flatMap fun (k : Nat) => shNames.map fun nm => (Int.ofNat k, nm)).filter fun x => decide (x ∉ l.drop 1)).map fun x => l ++ [x]
def shLev : Nat → List (List (Int × Str))
  | 0 => [shBase]
  | n + 1 => (shLev n).flatMap shExt
theorem shape_lev {l : List (Int × Str)} (h : Shape l) : l ∈ shLev (l.length - 3) := by
  induction h with
  | base => exact List.mem_cons_self
  | @add l k nm hl h5 h0 hk hn hd ih =>
    have h3 := (shape_len hl).1
    have e : (l ++ [(k, nm)]).length - 3 = (l.length - 3) + 1 := by
      rw [List.length_append]
      show l.length + 1 - 3 = _
      omega
    rw [e]
    show _ ∈ (shLev (l.length - 3)).flatMap shExt
    refine List.mem_flatMap.mpr ⟨l, ih, ?_⟩
    refine List.mem_map.mpr ⟨(k, nm), List.mem_filter.mpr ⟨List.mem_flatMap.mpr ⟨k.toNat, List.mem_range.mpr (by omega), List.mem_map.mpr ⟨nm, hn, ?_⟩⟩, decide_eq_true hd⟩, rfl⟩
    exact congrArg (·, nm) (Int.toNat_of_nonneg h0)
theorem shape_all {l : List (Int × Str)} (h : Shape l) : l ∈ shLev 0 ++ shLev 1 ++ shLev 2 := by
  have h1 := shape_lev h
  have h2 := shape_len h
  have h3 : l.length - 3 = 0 ∨ l.length - 3 = 1 ∨ l.length - 3 = 2 := by omega
  rcases h3 with e | e | e <;> rw [e] at h1 <;> simp only [List.mem_append, h1, true_or, or_true]
/-- rows and places hang on the shape alone -/
def rowsS : List (List Str) → List (Int × Str) → List (List Str)
  | rs, [] => rs
  | rs, x :: r => rowsS (rs ++ [rs.getD x.1.toNat [] ++ [x.2]]) r
def placesS : List Str → List (Int × Str) → List Str
  | ps, [] => ps
  | ps, x :: r => placesS (ps ++ [joinF (ps.getD x.1.toNat Str.empty) x.2]) r
def shOf (hs : List Home) : List (Int × Str) := hs.map fun h => (h.1, h.2.1)
theorem rows_sh (rs : List (List Str)) (hs : List Home) : rowsGo rs hs = rowsS rs (shOf hs) := by
  induction hs generalizing rs with
  | nil => rfl
  | cons x r ih => exact ih _
theorem places_sh (ps : List Str) (hs : List Home) : placesGo ps hs = placesS ps (shOf hs) := by
  induction hs generalizing ps with
  | nil => rfl
  | cons x r ih => exact ih _
theorem rowsF_sh (hs : List Home) : rowsF hs = rowsS [[]] ((shOf hs).drop 1) := by
  unfold rowsF
  rw [rows_sh]
  unfold shOf
  rw [List.map_drop]
theorem placesF_sh (hs : List Home) : placesF hs = placesS [Str.ofString "/local"] ((shOf hs).drop 1) := by
  unfold placesF
  rw [places_sh]
  unfold shOf
  rw [List.map_drop]

theorem fresh_Qh : True := by
  w_top off
  exact trivial
def shAll : List (List (Int × Str)) := shLev 0 ++ shLev 1 ++ shLev 2
def rowsAll : List (List Str) := (shAll.flatMap fun l => rowsS [[]] (l.drop 1)).eraseDups
def plF (r : List Str) : Str := Txt.join (Str.ofString "/") (Str.ofString "/local" :: r)
theorem rows_ok : ∀ l ∈ shAll, (rowsS [[]] (l.drop 1)).length = l.length ∧ (rowsS [[]] (l.drop 1)).Nodup ∧ ∀ r ∈ rowsS [[]] (l.drop 1), r.length ≤ 4 ∧ (∀ n ∈ r, n ∈ shNames) ∧ ∀ k ∈ List.range 4, r.take k ∈ rowsS [[]] (l.drop 1) := by decide +kernel
theorem count_rows : rowsAll.length = 31 := by decide +kernel
theorem places_ok : ∀ l ∈ shAll, placesS [Str.ofString "/local"] (l.drop 1) = (rowsS [[]] (l.drop 1)).map plF := by decide +kernel
theorem pl_len : ∀ r ∈ rowsAll, (plF r).length ≤ 40 := by decide +kernel
theorem pl_inj : (rowsAll.map plF).Nodup := by decide +kernel
theorem rows_in : ∀ l ∈ shAll, ∀ r ∈ rowsS [[]] (l.drop 1), r ∈ rowsAll := by decide +kernel
theorem row_lens : ∀ r ∈ rowsAll, ∀ k ∈ List.range 5, (((Str.ofString "/local" :: r.take k).map (·.length)).sum) + (Str.ofString "/local" :: r.take k).length ≤ 100 := by decide +kernel
theorem names_ok : ∀ nm ∈ Str.ofString "local" :: shNames, nm.length ≤ 100 ∧ reachF (nm ++ Str.ofString ".x") = nm ++ Str.ofString ".x" ∧ reNone (nm ++ Str.ofString ".x") = true := by decide +kernel
theorem above_ok : ∀ l ∈ shAll, (∀ x ∈ l, x.2 ∈ Str.ofString "local" :: shNames) ∧ ∀ i ∈ List.range 4, ∀ x, (l.drop 1)[i]? = some x → 0 ≤ x.1 ∧ x.1 < (i : Int) + 1 := by
  have h : ∀ l ∈ shAll, (∀ x ∈ l, x.2 ∈ Str.ofString "local" :: shNames) ∧ ∀ i ∈ List.range 4, (match (l.drop 1)[i]? with | some x => decide (0 ≤ x.1 ∧ x.1 < (i : Int) + 1) | none => true) = true := by decide +kernel
  intro l hl
  refine ⟨(h l hl).1, fun i hi x e => ?_⟩
  have := (h l hl).2 i hi
  rw [e] at this
  exact of_decide_eq_true this

theorem fresh_Qi : True := by
  w_top off
  exact trivial
theorem sh_all {hs : List Home} (G : GoodH hs) : shOf hs ∈ shAll := shape_all G.1
theorem sh_len (hs : List Home) : (shOf hs).length = hs.length := by
  unfold shOf
  rw [List.length_map]
theorem sh_drop_get (hs : List Home) (i : Nat) : ((shOf hs).drop 1)[i]? = ((hs.drop 1)[i]?).map fun h => (h.1, h.2.1) := by
  unfold shOf
  rw [← List.map_drop, List.getElem?_map]
theorem facts_rows {hs : List Home} (G : GoodH hs) : (rowsF hs).length = hs.length ∧ (rowsF hs).Nodup ∧ ∀ r ∈ rowsF hs, r ∈ rowsAll ∧ r.length ≤ 4 ∧ (∀ n ∈ r, n ∈ shNames) ∧ ∀ k : Nat, r.take k ∈ rowsF hs := by
  have h := rows_ok _ (sh_all G)
  have h2 := rows_in _ (sh_all G)
  rw [rowsF_sh]
  refine ⟨h.1.trans (sh_len hs), h.2.1, fun r hr => ⟨h2 r hr, (h.2.2 r hr).1, (h.2.2 r hr).2.1, fun k => ?_⟩⟩
  by_cases hk : k < 4
  · exact (h.2.2 r hr).2.2 k (List.mem_range.mpr hk)
  · rw [List.take_of_length_le (by have := (h.2.2 r hr).1; omega)]
    exact hr
theorem facts_places {hs : List Home} (G : GoodH hs) : placesF hs = (rowsF hs).map plF := by
  rw [placesF_sh, rowsF_sh]
  exact places_ok _ (sh_all G)
theorem facts_names {hs : List Home} (G : GoodH hs) : ∀ x ∈ hs, x.2.1 ∈ Str.ofString "local" :: shNames := by
  intro x hx
  exact (above_ok _ (sh_all G)).1 (x.1, x.2.1) (List.mem_map.mpr ⟨x, hx, rfl⟩)
theorem good_len {hs : List Home} (G : GoodH hs) : 3 ≤ hs.length ∧ hs.length ≤ 5 := by
  have := shape_len G.1
  rw [List.length_map] at this
  exact this
theorem pl_of {hs : List Home} (G : GoodH hs) {p : Str} (hp : p ∈ placesF hs) : ∃ r ∈ rowsAll, r ∈ rowsF hs ∧ plF r = p := by
  rw [facts_places G] at hp
  obtain ⟨r, hr, e⟩ := List.mem_map.mp hp
  exact ⟨r, ((facts_rows G).2.2 r hr).1, hr, e⟩
theorem law_facts (hs : List Home) (G : GoodH hs) : LawFacts hs where
  above := by
    intro i x e
    have h := (above_ok _ (sh_all G)).2 i
    have hi : i < (hs.drop 1).length := (List.getElem?_eq_some_iff.mp e).1
    rw [List.length_drop] at hi
    exact h (List.mem_range.mpr (by have := good_len G; omega)) (x.1, x.2.1) (by rw [sh_drop_get, e]; rfl)
  len := (good_len G).2
  plen := by
    intro p hp
    obtain ⟨r, hr, -, e⟩ := pl_of G hp
    have := pl_len r hr
    rw [e] at this
    omega
  nlen := fun x hx => (names_ok _ (facts_names G x hx)).1
  rlen := (facts_rows G).1
  rl := fun r hr => ((facts_rows G).2.2 r hr).2.1
  pj := facts_places G
  jn := by
    intro r hr k
    have a := (facts_rows G).2.2 r hr
    have h := row_lens r a.1
    by_cases hk : k < 5
    · have := h k (List.mem_range.mpr hk)
      omega
    · have e : r.take k = r.take 4 := by
        rw [List.take_of_length_le (by omega), List.take_of_length_le (by omega)]
      rw [e]
      have := h 4 (by decide)
      omega
theorem nodup_places (hs : List Home) (G : GoodH hs) : (placesF hs).Nodup := by
  rw [facts_places G]
  have a := facts_rows G
  refine List.Pairwise.map plF (R := fun x y => x ∈ rowsAll ∧ y ∈ rowsAll ∧ x ≠ y) ?_ ?_
  · intro x y h e
    have inj : ∀ l : List (List Str), (l.map plF).Nodup → x ∈ l → y ∈ l → x = y := by
      intro l
      induction l with
      | nil => intro _ h; cases h
      | cons c r ih =>
        intro hn hx hy
        rw [List.map_cons, List.nodup_cons] at hn
        rcases List.mem_cons.mp hx with rfl | hx
        · rcases List.mem_cons.mp hy with rfl | hy
          · rfl
          · exact absurd (List.mem_map.mpr ⟨y, hy, e.symm⟩) hn.1
        · rcases List.mem_cons.mp hy with e2 | hy
          · exact absurd (List.mem_map.mpr ⟨x, hx, e.trans (congrArg plF e2)⟩) hn.1
          · exact ih hn.2 hx hy
    exact h.2.2 (inj rowsAll pl_inj h.1 h.2.1)
  · refine List.Pairwise.imp_of_mem ?_ a.2.1
    intro x y hx hy hn
    exact ⟨(a.2.2 x hx).1, (a.2.2 y hy).1, hn⟩

theorem fresh_Qt : True := by
  w_top off
  exact trivial
theorem str_ext {x y : Str} (h : x.cps.toList = y.cps.toList) : x = y := by
  obtain ⟨⟨a⟩⟩ := x
  obtain ⟨⟨b⟩⟩ := y
  have e : a = b := h
  rw [e]
theorem app_cps (x y : Str) : (x ++ y).cps.toList = x.cps.toList ++ y.cps.toList := by
  show (x.cps ++ y.cps).toList = _
  simp
theorem free_cut {c : Nat} : ∀ {x y u v : List Nat}, c ∉ x → c ∉ y → x ++ c :: u = y ++ c :: v → x = y ∧ u = v
  | [], [], _, _, _, _, e => ⟨rfl, (List.cons.inj e).2⟩
  | [], b :: y, _, _, _, hy, e => absurd (by rw [(List.cons.inj e).1]; exact List.mem_cons_self) hy
  | a :: x, [], _, _, hx, _, e => absurd (by rw [← (List.cons.inj e).1]; exact List.mem_cons_self) hx
  | a :: x, b :: y, _, _, hx, hy, e => by
    have e2 := List.cons.inj e
    have h := free_cut (fun h => hx (List.mem_cons_of_mem _ h)) (fun h => hy (List.mem_cons_of_mem _ h)) e2.2
    exact ⟨by rw [e2.1, h.1], h.2⟩
theorem join_two (c : Nat) (x y : Str) (r : List Str) : (Str.join ⟨#[c]⟩ (x :: y :: r)).cps.toList = x.cps.toList ++ c :: (Str.join ⟨#[c]⟩ (y :: r)).cps.toList := by
  show (x ++ (⟨#[c]⟩ : Str) ++ Str.join ⟨#[c]⟩ (y :: r)).cps.toList = _
  rw [app_cps, app_cps, List.append_assoc]
  rfl
theorem join_free_inj {c : Nat} (l : List Str) : ∀ r : List Str, l ≠ [] → r ≠ [] → (∀ p ∈ l, c ∉ p.cps.toList) → (∀ p ∈ r, c ∉ p.cps.toList) → Str.join ⟨#[c]⟩ l = Str.join ⟨#[c]⟩ r → l = r := by
  induction l with
  | nil => intro r h; exact absurd rfl h
  | cons x l ih =>
    intro r _ hr fl fr e
    match l, r, hr with
    | [], [y], _ => rw [show x = y from e]
    | [], y :: z :: r, _ =>
      have e2 := congrArg (fun s : Str => s.cps.toList) e
      have e3 : x.cps.toList = y.cps.toList ++ c :: (Str.join ⟨#[c]⟩ (z :: r)).cps.toList := e2.trans (join_two c y z r)
      exact absurd (by rw [e3]; exact List.mem_append_right _ List.mem_cons_self) (fl x List.mem_cons_self)
    | w :: l, [y], _ =>
      have e2 := congrArg (fun s : Str => s.cps.toList) e
      have e3 : y.cps.toList = x.cps.toList ++ c :: (Str.join ⟨#[c]⟩ (w :: l)).cps.toList := e2.symm.trans (join_two c x w l)
      exact absurd (by rw [e3]; exact List.mem_append_right _ List.mem_cons_self) (fr y List.mem_cons_self)
    | w :: l, y :: z :: r, _ =>
      have e2 := congrArg (fun s : Str => s.cps.toList) e
      have e3 := ((join_two c x w l).symm.trans e2).trans (join_two c y z r)
      have h := free_cut (fl x List.mem_cons_self) (fr y List.mem_cons_self) e3
      rw [str_ext h.1, ih (z :: r) (List.cons_ne_nil _ _) (List.cons_ne_nil _ _) (fun p hp => fl p (List.mem_cons_of_mem _ hp)) (fun p hp => fr p (List.mem_cons_of_mem _ hp)) (str_ext h.2)]
theorem split_of_join (c : Nat) (l : List Str) (hn : l ≠ []) (hf : ∀ p ∈ l, c ∉ p.cps.toList) : Txt.split (Txt.join ⟨#[c]⟩ l) ⟨#[c]⟩ = l := by
  have e : Txt.join ⟨#[c]⟩ l = Str.join ⟨#[c]⟩ l := StrLaws.glued_eq_join _ _
  rw [e]
  refine join_free_inj (c := c) _ _ ?_ hn (StrLaws.split_free _ c) hf (StrLaws.join_split _ _)
  intro h
  have := PyProof.Rows.split_pos (Str.join ⟨#[c]⟩ l) ⟨#[c]⟩
  rw [h] at this
  exact absurd this (by decide)
theorem join_app (c : Nat) (l : List Str) : ∀ r : List Str, l ≠ [] → r ≠ [] → Str.join ⟨#[c]⟩ l ++ ((⟨#[c]⟩ : Str) ++ Str.join ⟨#[c]⟩ r) = Str.join ⟨#[c]⟩ (l ++ r) := by
  induction l with
  | nil => intro r h; exact absurd rfl h
  | cons x l ih =>
    intro r _ hr
    match l, r, hr with
    | [], y :: r, _ =>
      refine str_ext ?_
      rw [app_cps, app_cps]
      exact (join_two c x y r).symm
    | w :: l, r, hr =>
      refine str_ext ?_
      have h := congrArg (fun s : Str => s.cps.toList) (ih r (List.cons_ne_nil _ _) hr)
      rw [app_cps, join_two, List.append_assoc, List.cons_append, ← app_cps, show (Str.join ⟨#[c]⟩ (w :: l) ++ ((⟨#[c]⟩ : Str) ++ Str.join ⟨#[c]⟩ r)).cps.toList = _ from h]
      exact (join_two c x w (l ++ r)).symm
theorem slice_tail (c : Nat) (x : Str) : Txt.slice ((⟨#[c]⟩ : Str) ++ x) (some 1) none = x := by
  have hl : ((⟨#[c]⟩ : Str) ++ x).cps.toList = c :: x.cps.toList := app_cps _ _
  have e : (((⟨#[c]⟩ : Str) ++ x).length : Int) = (x.length : Int) + 1 := by
    rw [← PyProof.Rows.toList_len, hl, List.length_cons, ← PyProof.Rows.toList_len]
    rfl
  rw [PyProof.Rows.slice_from_eq (b := (x.length : Int) + 1) (by decide) (by omega) e.symm]
  refine str_ext ?_
  rw [hl]
  have e2 := PyProof.Rows.toList_len x
  show List.take _ x.cps.toList = _
  exact List.take_of_length_le (by omega)
theorem slice_head (c : Nat) (x : Str) : Txt.slice ((⟨#[c]⟩ : Str) ++ x) none (some 1) = ⟨#[c]⟩ := by
  have hl : ((⟨#[c]⟩ : Str) ++ x).cps.toList = c :: x.cps.toList := app_cps _ _
  have e : (((⟨#[c]⟩ : Str) ++ x).length : Int) = (x.length : Int) + 1 := by
    rw [← PyProof.Rows.toList_len, hl, List.length_cons, ← PyProof.Rows.toList_len]
    rfl
  rw [beq_iff_eq.mp (PyProof.Rows.slice_closes_toL (x := (⟨#[c]⟩ : Str) ++ x) (j := 1) (by decide) (by omega)), hl]
  rfl
theorem slice_snd (c d : Nat) (x : Str) : Txt.slice ((⟨#[c, d]⟩ : Str) ++ x) (some 1) (some 2) = ⟨#[d]⟩ := by
  have hl : ((⟨#[c, d]⟩ : Str) ++ x).cps.toList = c :: d :: x.cps.toList := app_cps _ _
  have e : (((⟨#[c, d]⟩ : Str) ++ x).length : Int) = (x.length : Int) + 2 := by
    rw [← PyProof.Rows.toList_len, hl, List.length_cons, List.length_cons, ← PyProof.Rows.toList_len]
    omega
  rw [beq_iff_eq.mp (PyProof.Rows.slice_closesL (x := (⟨#[c, d]⟩ : Str) ++ x) (i := 1) (j := 2) (by decide) (by decide) (by omega)), hl]
  rfl

theorem fresh_Qu : True := by
  w_top off
  exact trivial
theorem sum_len5 (b : Nat) : ∀ l : List Str, (∀ x ∈ l, x.length ≤ b) → (l.map (·.length)).sum ≤ b * l.length
  | [], _ => Nat.zero_le _
  | x :: r, h => by
    have h1 := h x List.mem_cons_self
    have h2 := sum_len5 b r fun y hy => h y (List.mem_cons_of_mem _ hy)
    rw [List.map_cons, List.sum_cons, List.length_cons, Nat.mul_succ]
    omega
theorem join_len5 (b : Nat) (l : List Str) (h : ∀ x ∈ l, x.length ≤ b) : (Txt.join (Str.ofString "/") l).length ≤ (b + 1) * l.length := by
  have e : Txt.join (Str.ofString "/") l = Str.join (Str.ofString "/") l := StrLaws.glued_eq_join _ _
  have h1 := StrLaws.join_length_le (Str.ofString "/") l
  have h2 := sum_len5 b l h
  rw [e]
  have e3 : (Str.ofString "/").length = 1 := by decide +kernel
  rw [e3] at h1
  rw [Nat.succ_mul]
  omega
theorem sep_is : Str.ofString "/" = ⟨#[47]⟩ := by decide +kernel
def crkAll (rk row : List Str) (n : Nat) : List Str := (Str.ofString "local" :: rk) ++ crookL n row
theorem crk_words : ∀ x ∈ Str.ofString "" :: Str.ofString "." :: Str.ofString ".." :: Str.ofString "local" :: shNames, x.length ≤ 5 ∧ 47 ∉ x.cps.toList := by decide +kernel
theorem crook_in {row : List Str} (hr : ∀ x ∈ row, x ∈ shNames) (n : Nat) : ∀ x ∈ crookL n row, x ∈ Str.ofString "" :: Str.ofString "." :: Str.ofString ".." :: Str.ofString "local" :: shNames := by
  intro x hx
  unfold crookL at hx
  rcases List.mem_append.mp hx with hx | hx
  · rcases List.mem_append.mp hx with hx | hx
    · rw [(List.mem_replicate.mp hx).2]
      exact .tail _ (.tail _ (.head _))
    · rcases List.mem_cons.mp hx with rfl | hx
      · exact .tail _ (.head _)
      rcases List.mem_cons.mp hx with rfl | hx
      · exact .head _
      rcases List.mem_cons.mp hx with rfl | hx
      · exact .tail _ (.tail _ (.tail _ (.head _)))
      · cases hx
  · exact .tail _ (.tail _ (.tail _ (.tail _ (hr x hx))))
theorem crk_in {rk row : List Str} (hk : ∀ x ∈ rk, x ∈ shNames) (hr : ∀ x ∈ row, x ∈ shNames) (n : Nat) : ∀ x ∈ crkAll rk row n, x ∈ Str.ofString "" :: Str.ofString "." :: Str.ofString ".." :: Str.ofString "local" :: shNames := by
  intro x hx
  rcases List.mem_append.mp hx with hx | hx
  · rcases List.mem_cons.mp hx with rfl | hx
    · exact .tail _ (.tail _ (.tail _ (.head _)))
    · exact .tail _ (.tail _ (.tail _ (.tail _ (hk x hx))))
  · exact crook_in hr n x hx
theorem crook_len (n : Nat) (row : List Str) : (crookL n row).length = n + 3 + row.length := by
  unfold crookL
  rw [List.length_append, List.length_append, List.length_replicate]
  rfl
theorem crk_len (rk row : List Str) (n : Nat) : (crkAll rk row n).length = rk.length + 1 + (n + 3 + row.length) := by
  unfold crkAll
  rw [List.length_append, crook_len, List.length_cons]
theorem pl_cut (r : List Str) : plF r = Str.ofString "/" ++ Txt.join (Str.ofString "/") (Str.ofString "local" :: r) := by
  have e : ∀ l, Txt.join (Str.ofString "/") l = Str.join (Str.ofString "/") l := fun l => StrLaws.glued_eq_join _ _
  have e2 : Str.ofString "/local" = Str.ofString "/" ++ Str.ofString "local" := by decide +kernel
  unfold plF
  rw [e, e, e2]
  cases r with
  | nil => rfl
  | cons y r =>
    refine str_ext ?_
    rw [sep_is, app_cps, join_two, join_two, app_cps, List.append_assoc]
/-- a step of normpath at an ordinary name -/
theorem norm_name {c : Str} (hc : c ∈ Str.ofString "local" :: shNames) (acc : List Str) : normStep acc c = acc ++ [c] := by
  have h : ∀ c ∈ Str.ofString "local" :: shNames, c.length ≠ 0 ∧ (c == Str.ofString ".") = false ∧ (c != Str.ofString "..") = true := by decide +kernel
  have a := h c hc
  unfold normStep
  rw [if_neg (by omega), if_neg (by rw [a.2.1]; decide), if_pos a.2.2]
theorem norm_names : ∀ (l acc : List Str), (∀ x ∈ l, x ∈ Str.ofString "local" :: shNames) → l.foldl normStep acc = acc ++ l
  | [], acc, _ => (List.append_nil acc).symm
  | x :: r, acc, h => by
    rw [List.foldl_cons, norm_name (h x List.mem_cons_self), norm_names r _ fun y hy => h y (List.mem_cons_of_mem _ hy), List.append_assoc]
    rfl
theorem norm_up (acc : List Str) : normStep acc (Str.ofString "..") = acc.dropLast := by
  unfold normStep
  rw [if_neg (by decide +kernel), if_neg (by decide +kernel), if_neg (by decide +kernel)]
theorem norm_ups : ∀ (n : Nat) (acc : List Str), acc.length ≤ n → (List.replicate n (Str.ofString "..")).foldl normStep acc = []
  | 0, acc, h => List.length_eq_zero_iff.mp (Nat.le_zero.mp h)
  | n + 1, acc, h => by
    rw [List.replicate_succ, List.foldl_cons, norm_up]
    exact norm_ups n _ (by rw [List.length_dropLast]; omega)
theorem norm_nil : normStep (normStep ([] : List Str) (Str.ofString ".")) (Str.ofString "") = [] := by decide +kernel
theorem norm_all {rk row : List Str} (hk : ∀ x ∈ rk, x ∈ shNames) (hr : ∀ x ∈ row, x ∈ shNames) {n : Nat} (hn : rk.length + 1 ≤ n) : (crkAll rk row n).foldl normStep [] = Str.ofString "local" :: row := by
  have h1 : (Str.ofString "local" :: rk).foldl normStep [] = Str.ofString "local" :: rk := norm_names (Str.ofString "local" :: rk) [] fun x hx => by
    rcases List.mem_cons.mp hx with rfl | hx
    · exact List.mem_cons_self
    · exact List.mem_cons_of_mem _ (hk x hx)
  unfold crkAll crookL
  rw [List.foldl_append, h1, List.foldl_append, List.foldl_append, norm_ups n _ (by rw [List.length_cons]; exact hn)]
  show row.foldl normStep (normStep (normStep (normStep [] (Str.ofString ".")) (Str.ofString "")) (Str.ofString "local")) = _
  rw [norm_nil, norm_name List.mem_cons_self, norm_names _ _ fun x hx => List.mem_cons_of_mem _ (hr x hx)]
  rfl
theorem join_crook {rk row : List Str} {n : Nat} (he : Txt.endswith (plF rk) (Str.ofString "/") = false) (hl : (plF rk).length ≠ 0) (hs : Txt.startswith (Txt.join (Str.ofString "/") (crookL n row)) (Str.ofString "/") = false) :
    joinF (plF rk) (Txt.join (Str.ofString "/") (crookL n row)) = Str.ofString "/" ++ Txt.join (Str.ofString "/") (crkAll rk row n) := by
  unfold joinF
  rw [if_neg (by rw [hs]; decide), if_neg (by omega), if_neg (by rw [he]; decide), pl_cut]
  have e : ∀ l, Txt.join (Str.ofString "/") l = Str.join (Str.ofString "/") l := fun l => StrLaws.glued_eq_join _ _
  have ne : crookL n row ≠ [] := by
    intro h
    have := crook_len n row
    rw [h] at this
    exact absurd this (by show 0 ≠ _; omega)
  rw [e, e, e, sep_is]
  unfold crkAll
  rw [← join_app 47 _ _ (List.cons_ne_nil _ _) ne]
  refine str_ext ?_
  simp only [app_cps, List.append_assoc]
theorem start_crook (n : Nat) (hn : 1 ≤ n) (row : List Str) : Txt.startswith (Txt.join (Str.ofString "/") (crookL n row)) (Str.ofString "/") = false := by
  obtain ⟨k, rfl⟩ : ∃ k, n = k + 1 := ⟨n - 1, by omega⟩
  have e : ∀ l, Txt.join (Str.ofString "/") l = Str.join (Str.ofString "/") l := fun l => StrLaws.glued_eq_join _ _
  have e1 : crookL (k + 1) row = Str.ofString ".." :: crookL k row := by
    unfold crookL
    rw [List.replicate_succ]
    rfl
  obtain ⟨y, r, h⟩ : ∃ y r, crookL k row = y :: r := by
    have := crook_len k row
    cases h : crookL k row with
    | nil => rw [h] at this; exact absurd this (by show 0 ≠ _; omega)
    | cons y r => exact ⟨y, r, rfl⟩
  rw [e1, h, e, sep_is]
  have e2 : (Str.join ⟨#[47]⟩ (Str.ofString ".." :: y :: r)).cps.toList = 46 :: (46 :: 47 :: (Str.join ⟨#[47]⟩ (y :: r)).cps.toList) := by
    rw [join_two]
    have : (Str.ofString "..").cps.toList = [46, 46] := by decide +kernel
    rw [this]
    rfl
  generalize Str.join ⟨#[47]⟩ (Str.ofString ".." :: y :: r) = z at e2
  cases hz : Txt.startswith z ⟨#[47]⟩ with
  | false => rfl
  | true =>
    exfalso
    unfold Txt.startswith at hz
    rw [Bool.and_eq_true] at hz
    have h1 := (StrLaws.subAt_one z 47 0).mp ⟨of_decide_eq_true hz.1, hz.2⟩
    rw [e2] at h1
    exact absurd (Option.some.inj h1) (by decide)

theorem fresh_Qj : True := by
  w_top off
  exact trivial
def hst (r : List Str) : Str := hostF (plF r)
def hq (r : List Str) : Str := Txt.join (Str.ofString ".") (Str.ofString "local" :: r).reverse
def rq (r : List Str) : Str := if r = [] then hq [] else Str.ofString "." ++ hq r.dropLast
theorem rows_names : ∀ r ∈ rowsAll, r.length ≤ 4 ∧ ∀ x ∈ r, x ∈ shNames := by decide +kernel
theorem comps_pl {r : List Str} (h : ∀ x ∈ r, x ∈ shNames) : compsF (plF r) = Str.ofString "local" :: r := by
  unfold compsF
  rw [pl_cut, sep_is, slice_tail]
  refine split_of_join 47 _ (List.cons_ne_nil _ _) fun x hx => ?_
  rcases List.mem_cons.mp hx with rfl | hx
  · exact (crk_words _ (.tail _ (.tail _ (.tail _ (.head _))))).2
  · exact (crk_words x (.tail _ (.tail _ (.tail _ (.tail _ (h x hx)))))).2
theorem hst_hq : ∀ r ∈ rowsAll, hst r = hq r := by
  intro r hr
  unfold hst hostF hq
  rw [comps_pl (rows_names r hr).2]
theorem host_ok : ∀ r ∈ rowsAll, (plF r).length ≤ 300 ∧ (compsF (plF r)).length ≤ 1000 ∧ ((compsF (plF r)).map (·.length)).sum + (compsF (plF r)).length ≤ 1048576 := by
  intro r hr
  have a := rows_names r hr
  have b := pl_len r hr
  rw [comps_pl a.2]
  have l3 : ∀ x ∈ Str.ofString "local" :: r, x.length ≤ 5 := by
    intro x hx
    rcases List.mem_cons.mp hx with rfl | hx
    · exact (crk_words _ (.tail _ (.tail _ (.tail _ (.head _))))).1
    · exact (crk_words x (.tail _ (.tail _ (.tail _ (.tail _ (a.2 x hx)))))).1
  have s3 := sum_len5 5 _ l3
  have c3 : (Str.ofString "local" :: r).length = r.length + 1 := rfl
  omega
theorem hq_reach : ∀ r ∈ rowsAll, reachF (hq r) = rq r := by decide +kernel
theorem hq_signs : ∀ r ∈ rowsAll, (hq r).length ≤ 40 ∧ (∀ c ∈ (hq r).cps.toList, c < 128 ∧ lo1 c = c ∧ up1 c < 128 ∧ lo1 (up1 c) = c) := by decide +kernel
theorem case_of {x : Str} (h : ∀ c ∈ x.cps.toList, c < 128 ∧ lo1 c = c ∧ up1 c < 128 ∧ lo1 (up1 c) = c) : Txt.lower x = x ∧ Txt.lower (Txt.upper x) = x := by
  have e1 := upper_ascii (x := x) fun c hc => (h c hc).1
  constructor
  · rw [lower_ascii fun c hc => (h c hc).1]
    refine str_ext ?_
    show (x.cps.map lo1).toList = x.cps.toList
    rw [Array.toList_map]
    conv => rhs; rw [← List.map_id x.cps.toList]
    exact List.map_congr_left fun c hc => (h c hc).2.1
  · rw [e1, lower_ascii (x := ⟨x.cps.map up1⟩) fun c hc => by
      have hc : c ∈ (x.cps.map up1).toList := hc
      rw [Array.toList_map] at hc
      obtain ⟨d, hd, e⟩ := List.mem_map.mp hc
      rw [← e]
      exact (h d hd).2.2.1]
    refine str_ext ?_
    show ((x.cps.map up1).map lo1).toList = x.cps.toList
    rw [Array.toList_map, Array.toList_map, List.map_map]
    conv => rhs; rw [← List.map_id x.cps.toList]
    exact List.map_congr_left fun c hc => (h c hc).2.2.2
theorem drop_in : ∀ r ∈ rowsAll, r.dropLast ∈ rowsAll := by decide +kernel
theorem rq_signs : ∀ r ∈ rowsAll, ∀ c ∈ (rq r).cps.toList, c < 128 ∧ lo1 c = c ∧ up1 c < 128 ∧ lo1 (up1 c) = c := by
  intro r hr c hc
  unfold rq at hc
  split at hc
  · exact (hq_signs [] (by decide +kernel)).2 c hc
  · rw [app_cps] at hc
    rcases List.mem_append.mp hc with hc | hc
    · have e : (Str.ofString ".").cps.toList = [46] := by decide +kernel
      rw [e] at hc
      rw [List.mem_singleton.mp hc]
      decide
    · exact (hq_signs _ (drop_in r hr)).2 c hc
theorem hst_eq : ∀ r ∈ rowsAll, hst r = hq r ∧ reachF (hst r) = rq r := by
  intro r hr
  rw [hst_hq r hr]
  exact ⟨rfl, hq_reach r hr⟩
theorem host_case : ∀ r ∈ rowsAll, Txt.lower (hst r) = hst r ∧ Txt.lower (Txt.upper (hst r)) = hst r ∧ Txt.lower (reachF (hst r)) = reachF (hst r) ∧ Txt.lower (Txt.upper (reachF (hst r))) = reachF (hst r) := by
  intro r hr
  have a := hst_eq r hr
  have b := case_of (hq_signs r hr).2
  have c := case_of (rq_signs r hr)
  rw [a.2, a.1]
  exact ⟨b.1, b.2, c.1, c.2⟩
theorem host_len : ∀ r ∈ rowsAll, (hostF (plF r)).length ≤ 40 := fun r hr => by
  have e : hostF (plF r) = hq r := hst_hq r hr
  rw [e]
  exact (hq_signs r hr).1
theorem none_hq : ∀ r ∈ rowsAll, reNone (hq r) = true ∧ reNone (Txt.slice (hq r) (some 1) none) = true := by decide +kernel
theorem dot_is : Str.ofString "." = ⟨#[46]⟩ := by decide +kernel
theorem none_rq : ∀ r ∈ rowsAll, reNone (Txt.slice (rq r) (some 1) none) = true ∧ (rq r).length ≤ 41 := by
  intro r hr
  unfold rq
  split
  · exact ⟨(none_hq [] (by decide +kernel)).2, Nat.le_trans (hq_signs [] (by decide +kernel)).1 (by decide)⟩
  · rw [dot_is, slice_tail]
    refine ⟨(none_hq _ (drop_in r hr)).1, ?_⟩
    rw [Str.length_append]
    have := (hq_signs _ (drop_in r hr)).1
    show 1 + _ ≤ 41
    omega
theorem sign_x : ∀ r ∈ rowsAll, (hostF (plF r)).length ≤ 100 ∧ reNone (Txt.lower (hostF (plF r))) = true ∧ reNone (Txt.lower (Txt.upper (hostF (plF r)))) = true := by
  intro r hr
  have a := host_case r hr
  have b := host_len r hr
  have e : hostF (plF r) = hq r := hst_hq r hr
  unfold hst at a
  rw [a.1, a.2.1]
  rw [e] at b ⊢
  exact ⟨by omega, (none_hq r hr).1, (none_hq r hr).1⟩
theorem sign_y1 : ∀ r ∈ rowsAll, (reachF (hostF (plF r))).length ≤ 100 ∧ reNone (hostF (plF r)) = true ∧ reNone (Txt.slice (Txt.lower (hostF (plF r))) (some 1) none) = true ∧ reNone (Txt.slice (Txt.lower (Txt.upper (hostF (plF r)))) (some 1) none) = true := by
  intro r hr
  have a := host_case r hr
  have e := hst_eq r hr
  unfold hst at a e
  rw [a.1, a.2.1, e.2, e.1]
  have n := none_hq r hr
  exact ⟨Nat.le_trans (none_rq r hr).2 (by decide), n.1, n.2, n.2⟩
theorem sign_y2 : ∀ r ∈ rowsAll, reNone (Txt.slice (Txt.lower (reachF (hostF (plF r)))) (some 1) none) = true ∧ reNone (Txt.slice (Txt.lower (Txt.upper (reachF (hostF (plF r))))) (some 1) none) = true := by
  intro r hr
  have a := host_case r hr
  have e := hst_eq r hr
  unfold hst at a e
  rw [a.2.2.1, a.2.2.2, e.2]
  exact ⟨(none_rq r hr).1, (none_rq r hr).1⟩
def dm0 (x y : Str) : Bool :=
  if x == y then true
  else if !hdnF x then false
  else if Txt.rfind x y = -1 then false
  else if Txt.rfind x y = 0 then false
  else if !Txt.startswith y (Str.ofString ".") then false
  else hdnF (Txt.slice y (some 1) none)
theorem dm_eq (x y : Str) : dmF x y = dm0 (Txt.lower x) (Txt.lower y) := rfl
theorem hq_host : ∀ r ∈ rowsAll, hdnF (hq r) = true ∧ Txt.startswith (hq r) (Str.ofString ".") = false := by decide +kernel
theorem hq_inj : ∀ r ∈ rowsAll, ∀ q ∈ rowsAll, (hq r == hq q) = decide (r = q) := by decide +kernel
theorem dm_same : ∀ r ∈ rowsAll, ∀ q ∈ rowsAll, dm0 (hq r) (hq q) = decide (r = q) := by
  intro r hr q hq2
  have a := hq_inj r hr q hq2
  unfold dm0
  rw [a]
  by_cases h : r = q
  · rw [if_pos (decide_eq_true h), decide_eq_true h]
  · rw [if_neg (by rw [decide_eq_false h]; decide), (hq_host r hr).1, (hq_host q hq2).2, decide_eq_false h, if_neg (by decide)]
    split
    · rfl
    split
    · rfl
    rfl
def dropsAll : List (List Str) := (rowsAll.map List.dropLast).eraseDups
theorem drops_in : ∀ r ∈ rowsAll, r.dropLast ∈ dropsAll := by decide +kernel
theorem near_find : ∀ d ∈ dropsAll, ∀ r ∈ rowsAll, decide (Txt.rfind (hq r) (Str.ofString "." ++ hq d) ≤ 0) = decide (¬ (d.length < r.length ∧ r.take d.length = d)) := by decide +kernel
theorem start_one (c : Nat) (x : Str) : Txt.startswith ((⟨#[c]⟩ : Str) ++ x) ⟨#[c]⟩ = true := by
  have hl : ((⟨#[c]⟩ : Str) ++ x).cps.toList = c :: x.cps.toList := app_cps _ _
  have h := (StrLaws.subAt_one ((⟨#[c]⟩ : Str) ++ x) c 0).mpr (by rw [hl]; rfl)
  unfold Txt.startswith
  rw [h.2, decide_eq_true h.1]
  rfl
theorem rfind_low (x y : Str) : -1 ≤ Txt.rfind x y := by
  unfold Txt.rfind
  split <;> omega
theorem dm_near : ∀ r ∈ rowsAll, ∀ q ∈ rowsAll, (dm0 (hq r) (rq q) = true) = (r = q ∧ q = [] ∨ 0 < q.length ∧ q.length ≤ r.length ∧ r.take (q.length - 1) = q.take (q.length - 1)) := by
  intro r hr q hq2
  unfold rq
  by_cases h : q = []
  · subst h
    rw [if_pos rfl, dm_same r hr [] hq2]
    simp
  rw [if_neg h]
  have h0 : 0 < q.length := List.length_pos_iff.mpr h
  have hd := drop_in q hq2
  have k := decide_eq_decide.mp (near_find _ (drops_in q hq2) r hr)
  have low := rfind_low (hq r) (Str.ofString "." ++ hq q.dropLast)
  have s1 : Txt.startswith (Str.ofString "." ++ hq q.dropLast) (Str.ofString ".") = true := by
    rw [dot_is]
    exact start_one 46 _
  have ne : (hq r == Str.ofString "." ++ hq q.dropLast) = false := by
    rw [beq_eq_false_iff_ne]
    intro e
    have := (hq_host r hr).2
    rw [e, s1] at this
    cases this
  have s2 : Txt.slice (Str.ofString "." ++ hq q.dropLast) (some 1) none = hq q.dropLast := by
    rw [dot_is]
    exact slice_tail 46 _
  have rhs : (r = q ∧ q = [] ∨ 0 < q.length ∧ q.length ≤ r.length ∧ r.take (q.length - 1) = q.take (q.length - 1)) = (q.dropLast.length < r.length ∧ r.take q.dropLast.length = q.dropLast) := by
    rw [List.length_dropLast, List.dropLast_eq_take]
    apply propext
    constructor
    · rintro (⟨-, e⟩ | ⟨-, a, b⟩)
      · exact absurd e h
      · exact ⟨by omega, b⟩
    · rintro ⟨a, b⟩
      exact .inr ⟨h0, by omega, b⟩
  rw [rhs]
  unfold dm0
  rw [ne, if_neg (by decide), (hq_host r hr).1, if_neg (by decide), s1, s2, (hq_host _ hd).1]
  generalize Txt.rfind (hq r) (Str.ofString "." ++ hq q.dropLast) = v at k low
  generalize (q.dropLast.length < r.length ∧ r.take q.dropLast.length = q.dropLast) = P at k
  apply propext
  by_cases hv : v ≤ 0
  · have hP := k.mp hv
    have : v = -1 ∨ v = 0 := by omega
    rcases this with rfl | rfl
    · exact ⟨fun e => absurd e (by decide), fun e => absurd e hP⟩
    · exact ⟨fun e => absurd e (by decide), fun e => absurd e hP⟩
  · have hP : P := Classical.byContradiction fun e => hv (k.mpr e)
    rw [if_neg (by omega), if_neg (by omega)]
    exact ⟨fun _ => hP, fun _ => rfl⟩

theorem fresh_Qk : True := by
  w_top off
  exact trivial
theorem band_nn (a b : Nat) : Builtin.bitAnd (a : Int) (b : Int) = ((a &&& b : Nat) : Int) := by
  rfl
theorem hit_bits (n k : Nat) : (n &&& k = k) ↔ ∀ i, k.testBit i = true → n.testBit i = true := by
  constructor
  · intro h i hi
    have := congrArg (Nat.testBit · i) h
    simp only [Nat.testBit_and, hi, Bool.and_true] at this
    exact this
  · intro h
    refine Nat.eq_of_testBit_eq fun i => ?_
    rw [Nat.testBit_and]
    cases hk : k.testBit i with
    | false => rw [Bool.and_false]
    | true => rw [h i hk]; rfl
theorem bit_div (n i : Nat) : n.testBit i = decide (n / 2 ^ i % 2 = 1) := Nat.testBit_eq_decide_div_mod_eq
theorem bit_of_two (i j k : Nat) : (2 ^ i ||| 2 ^ j : Nat).testBit k = (decide (i = k) || decide (j = k)) := by
  rw [Nat.testBit_or, Nat.testBit_two_pow, Nat.testBit_two_pow]
theorem hit1 (n i : Nat) : (n &&& 2 ^ i = 2 ^ i) ↔ n / 2 ^ i % 2 = 1 := by
  rw [hit_bits]
  constructor
  · intro h
    have := h i (by rw [Nat.testBit_two_pow]; exact decide_eq_true rfl)
    rw [bit_div] at this
    exact of_decide_eq_true this
  · intro h k hk
    rw [Nat.testBit_two_pow] at hk
    have e := of_decide_eq_true hk
    subst e
    rw [bit_div]
    exact decide_eq_true h
theorem hit2 (n i j : Nat) : (n &&& (2 ^ i ||| 2 ^ j) = (2 ^ i ||| 2 ^ j)) ↔ n / 2 ^ i % 2 = 1 ∧ n / 2 ^ j % 2 = 1 := by
  rw [hit_bits]
  constructor
  · intro h
    have a := h i (by rw [bit_of_two]; simp)
    have b := h j (by rw [bit_of_two]; simp)
    rw [bit_div] at a b
    exact ⟨of_decide_eq_true a, of_decide_eq_true b⟩
  · intro h k hk
    rw [bit_of_two, Bool.or_eq_true] at hk
    rw [bit_div]
    rcases hk with e | e <;> (have e := of_decide_eq_true e; subst e)
    · exact decide_eq_true h.1
    · exact decide_eq_true h.2
theorem top_bits (n : Nat) : n &&& 61440 = n / 4096 % 16 * 4096 := by
  have e : (61440 : Nat) = (2 ^ 4 - 1) * 2 ^ 12 := by decide
  rw [e]
  refine Nat.eq_of_testBit_eq fun i => ?_
  rw [Nat.testBit_and, Nat.testBit_mul_two_pow, show n / 4096 % 16 * 4096 = n / 2 ^ 12 % 2 ^ 4 * 2 ^ 12 from rfl, Nat.testBit_mul_two_pow, Nat.testBit_mod_two_pow, Nat.testBit_div_two_pow, Nat.testBit_two_pow_sub_one]
  by_cases h : 12 ≤ i
  · rw [Nat.sub_add_cancel h]
    by_cases h2 : i - 12 < 4 <;> simp [h, h2]
  · simp [h]

theorem fresh_Ql : True := by
  w_top off
  exact trivial
def cd (s : Str) : Nat := s.cps.getD 0 0
theorem one_cd {s : Str} (h : s.length = 1) : s = ⟨#[cd s]⟩ := by
  obtain ⟨⟨l⟩⟩ := s
  match l, h with
  | [a], _ => rfl
theorem join10 (a b c d e f g h i j : Nat) : Txt.join (Str.ofString "") [⟨#[a]⟩, ⟨#[b]⟩, ⟨#[c]⟩, ⟨#[d]⟩, ⟨#[e]⟩, ⟨#[f]⟩, ⟨#[g]⟩, ⟨#[h]⟩, ⟨#[i]⟩, ⟨#[j]⟩] = ⟨#[a, b, c, d, e, f, g, h, i, j]⟩ := by rfl
theorem slice10a (a b c d e f g h i j : Nat) : Txt.slice ⟨#[a, b, c, d, e, f, g, h, i, j]⟩ (some 1) (some 4) = ⟨#[b, c, d]⟩ := by rfl
theorem slice10b (a b c d e f g h i j : Nat) : Txt.slice ⟨#[a, b, c, d, e, f, g, h, i, j]⟩ (some 4) (some 7) = ⟨#[e, f, g]⟩ := by rfl
theorem slice10c (a b c d e f g h i j : Nat) : Txt.slice ⟨#[a, b, c, d, e, f, g, h, i, j]⟩ (some 7) (some 10) = ⟨#[h, i, j]⟩ := by rfl
theorem app3 (a b c : Nat) : (⟨#[a]⟩ : Str) ++ (⟨#[b]⟩ : Str) ++ (⟨#[c]⟩ : Str) = ⟨#[a, b, c]⟩ := by rfl
theorem item10 (a b c d e f g h i j : Nat) : Txt.item ⟨#[a, b, c, d, e, f, g, h, i, j]⟩ 0 = ⟨#[a]⟩ := by rfl
theorem item3 (a b c : Nat) : Txt.item ⟨#[a, b, c]⟩ 2 = ⟨#[c]⟩ := by rfl
def kd (x : Int) (i : Nat) : Nat := cd (signOf x (i : Int) (fmTabs.getD i []))
theorem sig_kd (x : Int) (i : Nat) (hi : i < 10) : signOf x (i : Int) (fmTabs.getD i []) = ⟨#[kd x i]⟩ := by
  refine one_cd (sign_len x _ _ ?_)
  have : ∀ i ∈ List.range 10, ∀ p ∈ fmTabs.getD i [], p.2.length = 1 := by decide +kernel
  exact this i (List.mem_range.mpr hi)
theorem fm_eq (x : Int) : fmF x = ⟨#[kd x 0, kd x 1, kd x 2, kd x 3, kd x 4, kd x 5, kd x 6, kd x 7, kd x 8, kd x 9]⟩ := by
  rw [← join10, ← sig_kd x 0 (by decide), ← sig_kd x 1 (by decide), ← sig_kd x 2 (by decide), ← sig_kd x 3 (by decide), ← sig_kd x 4 (by decide), ← sig_kd x 5 (by decide), ← sig_kd x 6 (by decide), ← sig_kd x 7 (by decide), ← sig_kd x 8 (by decide), ← sig_kd x 9 (by decide)]
  rfl

theorem fresh_Qm : True := by
  w_top off
  exact trivial
theorem fd_nat (n k : Nat) : (n : Int).fdiv (k : Int) = ((n / k : Nat) : Int) := by
  rw [Int.fdiv_eq_ediv_of_nonneg _ (Int.natCast_nonneg k)]
  rfl
theorem fm_nat (n k : Nat) : (n : Int).fmod (k : Int) = ((n % k : Nat) : Int) := by
  rw [Int.fmod_eq_emod_of_nonneg _ (Int.natCast_nonneg k)]
  rfl
theorem hit_nat (n i k : Nat) (hi : i ≠ 0) : hitF (n : Int) (i : Int) (k : Int) = decide (n &&& k = k) := by
  unfold hitF
  rw [if_neg (by omega), band_nn]
  by_cases h : n &&& k = k
  · rw [h, decide_eq_true rfl]
    exact beq_self_eq_true _
  · rw [decide_eq_false h]
    exact beq_eq_false_iff_ne.mpr fun e => h (Int.ofNat.inj e)
theorem sig1 (n i k : Nat) (ch : Str) (hi : i ≠ 0) : signOf (n : Int) (i : Int) [(((2 ^ k : Nat) : Int), ch)] = if n / 2 ^ k % 2 = 1 then ch else Str.ofString "-" := by
  unfold signOf signOf
  rw [hit_nat n i _ hi, if_neg (show ¬ (i : Int) = 0 by omega)]
  by_cases h : n / 2 ^ k % 2 = 1
  · rw [if_pos (decide_eq_true ((hit1 n k).mpr h)), if_pos h]
  · rw [if_neg (by rw [decide_eq_true_iff]; exact fun e => h ((hit1 n k).mp e)), if_neg h]
theorem sig3 (n i j k : Nat) (c1 c2 c3 : Str) (hi : i ≠ 0) : signOf (n : Int) (i : Int) [(((2 ^ j ||| 2 ^ k : Nat) : Int), c1), (((2 ^ j : Nat) : Int), c2), (((2 ^ k : Nat) : Int), c3)] =
    if n / 2 ^ j % 2 = 1 then (if n / 2 ^ k % 2 = 1 then c1 else c2) else (if n / 2 ^ k % 2 = 1 then c3 else Str.ofString "-") := by
  unfold signOf signOf signOf signOf
  rw [hit_nat n i _ hi, hit_nat n i _ hi, hit_nat n i _ hi, if_neg (show ¬ (i : Int) = 0 by omega)]
  simp only [decide_eq_true_iff, hit1, hit2]
  by_cases h : n / 2 ^ j % 2 = 1 <;> by_cases g : n / 2 ^ k % 2 = 1 <;> simp [h, g]
theorem item_r (k : Nat) (a b : Nat) (h : k < 2) : Txt.item ⟨#[a, b]⟩ (k : Int) = if k = 1 then ⟨#[b]⟩ else ⟨#[a]⟩ := by
  have : k = 0 ∨ k = 1 := by omega
  rcases this with rfl | rfl <;> rfl

theorem fresh_Qn : True := by
  w_top off
  exact trivial
theorem it_r (k : Nat) (h : k < 2) : Txt.item (Str.ofString "-r") (k : Int) = if k = 1 then Str.ofString "r" else Str.ofString "-" := by
  match k, h with
  | 0, _ => decide +kernel
  | 1, _ => decide +kernel
theorem it_w (k : Nat) (h : k < 2) : Txt.item (Str.ofString "-w") (k : Int) = if k = 1 then Str.ofString "w" else Str.ofString "-" := by
  match k, h with
  | 0, _ => decide +kernel
  | 1, _ => decide +kernel
theorem it_x (k : Nat) (h : k < 2) : Txt.item (Str.ofString "-x") (k : Int) = if k = 1 then Str.ofString "x" else Str.ofString "-" := by
  match k, h with
  | 0, _ => decide +kernel
  | 1, _ => decide +kernel
theorem it_Ss (k : Nat) (h : k < 2) : Txt.item (Str.ofString "Ss") (k : Int) = if k = 1 then Str.ofString "s" else Str.ofString "S" := by
  match k, h with
  | 0, _ => decide +kernel
  | 1, _ => decide +kernel
theorem it_Tt (k : Nat) (h : k < 2) : Txt.item (Str.ofString "Tt") (k : Int) = if k = 1 then Str.ofString "t" else Str.ofString "T" := by
  match k, h with
  | 0, _ => decide +kernel
  | 1, _ => decide +kernel
theorem m8a (m : Nat) : m % 8 / 4 = m / 4 % 2 := by omega
theorem m8b (m : Nat) : m % 8 / 2 % 2 = m / 2 % 2 := by omega
theorem m8c (m : Nat) : m % 8 % 2 = m % 2 := by omega
theorem nz1 {a : Nat} (h : a = 1) : ¬ (a : Int) = 0 := by subst h; decide
theorem z01 {a : Nat} (h : ¬ a = 1) (h2 : a < 2) : (a : Int) = 0 := by
  match a, h2 with
  | 0, _ => rfl
  | 1, _ => exact absurd rfl h
theorem due_any (n U B : Nat) (R : Str) (r0 r1 : Str) (hR : ∀ k : Nat, k < 2 → Txt.item R (k : Int) = if k = 1 then r1 else r0) :
    dueEnd (n : Int) (U : Int) (B : Int) R = (if n / U / 4 % 2 = 1 then Str.ofString "r" else Str.ofString "-") ++ (if n / U / 2 % 2 = 1 then Str.ofString "w" else Str.ofString "-") ++
      (if n / B % 2 = 1 then (if n / U % 2 = 1 then r1 else r0) else (if n / U % 2 = 1 then Str.ofString "x" else Str.ofString "-")) := by
  have t : ∀ m, m % 2 < 2 := fun m => Nat.mod_lt _ (by decide)
  unfold dueEnd
  rw [fd_nat n U, show ((n / U : Nat) : Int).fmod 8 = ((n / U % 8 : Nat) : Int) from fm_nat _ 8, show ((n / U % 8 : Nat) : Int).fdiv 4 = ((n / U % 8 / 4 : Nat) : Int) from fd_nat _ 4,
    show ((n / U % 8 : Nat) : Int).fdiv 2 = ((n / U % 8 / 2 : Nat) : Int) from fd_nat _ 2, show ((n / U % 8 / 2 : Nat) : Int).fmod 2 = ((n / U % 8 / 2 % 2 : Nat) : Int) from fm_nat _ 2, show ((n / U % 8 : Nat) : Int).fmod 2 = ((n / U % 8 % 2 : Nat) : Int) from fm_nat _ 2,
    fd_nat n B, show ((n / B : Nat) : Int).fmod 2 = ((n / B % 2 : Nat) : Int) from fm_nat _ 2, m8a, m8b, m8c, it_r _ (t _), it_w _ (t _)]
  by_cases g : n / B % 2 = 1
  · rw [if_neg (nz1 g), if_pos g, hR _ (t _)]
  · rw [if_pos (z01 g (t _)), if_neg g, it_x _ (t _)]
theorem due_c0 (n : Nat) : dueEnd (n : Int) 64 2048 (Str.ofString "Ss") = signOf (n : Int) ((1 : Nat) : Int) (fmTabs.getD 1 []) ++ signOf (n : Int) ((2 : Nat) : Int) (fmTabs.getD 2 []) ++ signOf (n : Int) ((3 : Nat) : Int) (fmTabs.getD 3 []) := by
  rw [show signOf (n : Int) ((1 : Nat) : Int) (fmTabs.getD 1 []) = _ from sig1 n 1 8 (Str.ofString "r") (by decide), show signOf (n : Int) ((2 : Nat) : Int) (fmTabs.getD 2 []) = _ from sig1 n 2 7 (Str.ofString "w") (by decide), show signOf (n : Int) ((3 : Nat) : Int) (fmTabs.getD 3 []) = _ from sig3 n 3 11 6 (Str.ofString "s") (Str.ofString "S") (Str.ofString "x") (by decide)]
  refine (due_any n 64 2048 _ _ _ it_Ss).trans ?_
  rw [Nat.div_div_eq_div_mul, Nat.div_div_eq_div_mul]
theorem due_c1 (n : Nat) : dueEnd (n : Int) 8 1024 (Str.ofString "Ss") = signOf (n : Int) ((4 : Nat) : Int) (fmTabs.getD 4 []) ++ signOf (n : Int) ((5 : Nat) : Int) (fmTabs.getD 5 []) ++ signOf (n : Int) ((6 : Nat) : Int) (fmTabs.getD 6 []) := by
  rw [show signOf (n : Int) ((4 : Nat) : Int) (fmTabs.getD 4 []) = _ from sig1 n 4 5 (Str.ofString "r") (by decide), show signOf (n : Int) ((5 : Nat) : Int) (fmTabs.getD 5 []) = _ from sig1 n 5 4 (Str.ofString "w") (by decide), show signOf (n : Int) ((6 : Nat) : Int) (fmTabs.getD 6 []) = _ from sig3 n 6 10 3 (Str.ofString "s") (Str.ofString "S") (Str.ofString "x") (by decide)]
  refine (due_any n 8 1024 _ _ _ it_Ss).trans ?_
  rw [Nat.div_div_eq_div_mul, Nat.div_div_eq_div_mul]
theorem due_c2 (n : Nat) : dueEnd (n : Int) 1 512 (Str.ofString "Tt") = signOf (n : Int) ((7 : Nat) : Int) (fmTabs.getD 7 []) ++ signOf (n : Int) ((8 : Nat) : Int) (fmTabs.getD 8 []) ++ signOf (n : Int) ((9 : Nat) : Int) (fmTabs.getD 9 []) := by
  rw [show signOf (n : Int) ((7 : Nat) : Int) (fmTabs.getD 7 []) = _ from sig1 n 7 2 (Str.ofString "r") (by decide), show signOf (n : Int) ((8 : Nat) : Int) (fmTabs.getD 8 []) = _ from sig1 n 8 1 (Str.ofString "w") (by decide), show signOf (n : Int) ((9 : Nat) : Int) (fmTabs.getD 9 []) = _ from sig3 n 9 9 0 (Str.ofString "t") (Str.ofString "T") (Str.ofString "x") (by decide)]
  refine (due_any n 1 512 _ _ _ it_Tt).trans ?_
  rw [Nat.div_div_eq_div_mul, Nat.div_div_eq_div_mul]

theorem fresh_Qo : True := by
  w_top off
  exact trivial
def tp (n : Nat) : Nat := n / 4096 % 16
theorem tp_lt (n : Nat) : tp n < 16 := Nat.mod_lt _ (by decide)
theorem tp_int (n : Nat) : ((n : Int).fdiv 4096).fmod 16 = ((tp n : Nat) : Int) := by
  rw [show (n : Int).fdiv 4096 = ((n / 4096 : Nat) : Int) from fd_nat n 4096]
  exact fm_nat _ 16
theorem top_int (n : Nat) : Builtin.bitAnd (n : Int) 61440 = ((tp n * 4096 : Nat) : Int) := by
  rw [show Builtin.bitAnd (n : Int) 61440 = ((n &&& 61440 : Nat) : Int) from band_nn n 61440, top_bits]
  rfl
theorem signs0 {x y : Int} (h : Builtin.bitAnd x 61440 = Builtin.bitAnd y 61440) : ∀ l : List (Int × Str), signOf x 0 l = signOf y 0 l
  | [] => rfl
  | (b, c) :: r => by
    have e : hitF x 0 b = hitF y 0 b := by
      unfold hitF
      rw [if_pos rfl, if_pos rfl, h]
    show (if hitF x 0 b = true then c else signOf x 0 r) = (if hitF y 0 b = true then c else signOf y 0 r)
    rw [e, signs0 h r]
theorem kind_all : ∀ t ∈ List.range 16, signOf ((t * 4096 : Nat) : Int) 0 (fmTabs.getD 0 []) = Txt.item (Str.ofString "?pc?d?b?-?l?s???") (t : Int) ∧ Builtin.bitAnd ((t * 4096 : Nat) : Int) 61440 = ((t * 4096 : Nat) : Int) ∧ ((((t * 4096 ^^^ 8192 : Nat) : Int) == 16384) = ((t : Int) == 6)) ∧ ((((t * 4096 : Nat) : Int) == 16384) = ((t : Int) == 4)) := by decide +kernel
theorem kind_of (n : Nat) : (fmF (n : Int)).length = 10 ∧ Txt.item (fmF (n : Int)) 0 = Txt.item (Str.ofString "?pc?d?b?-?l?s???") (((n : Int).fdiv 4096).fmod 16) := by
  have k := kind_all (tp n) (List.mem_range.mpr (tp_lt n))
  refine ⟨by rw [fm_eq]; rfl, ?_⟩
  rw [fm_eq, item10, ← sig_kd (n : Int) 0 (by decide), tp_int, ← k.1]
  refine signs0 ?_ _
  rw [top_int, k.2.1]
theorem isd_of (n : Nat) : (Builtin.bitAnd (Builtin.bitXor (n : Int) 8192) 61440 == 16384) = (((n : Int).fdiv 4096).fmod 16 == 6) := by
  have k := kind_all (tp n) (List.mem_range.mpr (tp_lt n))
  rw [tp_int, ← k.2.2.1, bitXor_pp (by omega) (by decide), show Builtin.bitAnd (((n : Int).toNat ^^^ (8192 : Int).toNat : Nat) : Int) 61440 = (((n ^^^ 8192) &&& 61440 : Nat) : Int) from band_nn _ 61440, Nat.and_xor_distrib_right, top_bits]
  rfl
theorem dir_of (n : Nat) : (Builtin.bitAnd (n : Int) 61440 == 16384) = (((n : Int).fdiv 4096).fmod 16 == 4) := by
  have k := kind_all (tp n) (List.mem_range.mpr (tp_lt n))
  rw [tp_int, ← k.2.2.2, top_int]
theorem law_facts2 (hs : List Home) (G : GoodH hs) : LawFacts2 hs where
  kind := by
    intro x hx
    have h := (G.2 x hx).1
    have e : ((x.2.2.toNat : Nat) : Int) = x.2.2 := Int.toNat_of_nonneg h
    rw [← e]
    exact kind_of _
  isd := by
    intro x hx
    have h := (G.2 x hx).1
    have e : ((x.2.2.toNat : Nat) : Int) = x.2.2 := Int.toNat_of_nonneg h
    rw [← e]
    exact isd_of _
  rx := fun x hx => (names_ok _ (facts_names G x hx)).2
theorem law_facts3 (hs : List Home) (G : GoodH hs) : LawFacts3 hs where
  host := by
    intro p hp
    obtain ⟨r, hr, -, e⟩ := pl_of G hp
    rw [← e]
    exact host_ok r hr
  sign := by
    intro p hp q hq z hz
    obtain ⟨r, hr, -, e⟩ := pl_of G hp
    obtain ⟨r2, hr2, -, e2⟩ := pl_of G hq
    obtain ⟨x, hx, e3⟩ := List.mem_map.mp hz
    have a := sign_x r hr
    have b := sign_y1 r2 hr2
    have c := sign_y2 r2 hr2
    have d := ((law_facts2 hs G).kind x hx).1
    have d2 := (sign_x r2 hr2).1
    rw [e3] at d
    rw [← e, ← e2]
    exact ⟨a.1, d2, by omega, b.1, b.2.1, a.2.1, a.2.2, b.2.2.1, b.2.2.2, c.1, c.2⟩
  nodup := nodup_places hs G

theorem fresh_Qp : True := by
  w_top off
  exact trivial
theorem way_ok : ∀ r ∈ rowsAll, wayF (plF r) = (List.range (r.length + 1)).map fun k => plF (r.take k) := by decide +kernel

theorem fresh_Qr : True := by
  w_top off
  exact trivial
def cutF (c : Nat) (nm : Str) : Str := match c with | 0 => Txt.slice nm (some 1) (some 4) | 1 => Txt.slice nm (some 4) (some 7) | _ => Txt.slice nm (some 7) (some 10)
theorem sg_cls {rk q : List Str} (hr : rk ∈ rowsAll) (hq2 : q ∈ rowsAll) (odd : Int) (nm : Str) : sgF (hst rk) (hst q) odd nm = cutF (clsF rk q q.length) nm := by
  have a := host_case rk hr
  have b := host_case q hq2
  have c := hst_eq rk hr
  have d := hst_eq q hq2
  have e1 := dm_same rk hr q hq2
  have e2 := dm_near rk hr q hq2
  have f1 : dmF (hst rk) (Txt.upper (hst q)) = decide (rk = q) := by rw [dm_eq, a.1, b.2.1, c.1, d.1, e1]
  have f2 : dmF (Txt.upper (hst rk)) (hst q) = decide (rk = q) := by rw [dm_eq, a.2.1, b.1, c.1, d.1, e1]
  have g1 : dmF (hst rk) (Txt.upper (reachF (hst q))) = dm0 (hq rk) (rq q) := by rw [dm_eq, a.1, b.2.2.2, c.1, d.2]
  have g2 : dmF (Txt.upper (hst rk)) (reachF (hst q)) = dm0 (hq rk) (rq q) := by rw [dm_eq, a.2.1, b.2.2.1, c.1, d.2]
  unfold sgF
  rw [f1, f2, g1, g2]
  have key : (if decide (rk = q) = true then Txt.slice nm (some 1) (some 4) else if dm0 (hq rk) (rq q) = true then Txt.slice nm (some 4) (some 7) else Txt.slice nm (some 7) (some 10)) = cutF (clsF rk q q.length) nm := by
    unfold clsF
    rw [List.take_length]
    by_cases h : rk = q
    · rw [if_pos (decide_eq_true h), if_pos h]
      rfl
    · rw [if_neg (by rw [decide_eq_true_iff]; exact h), if_neg h]
      by_cases g : 0 < q.length ∧ q.length ≤ rk.length ∧ rk.take (q.length - 1) = q.take (q.length - 1)
      · rw [if_pos (by rw [e2]; exact Or.inr g), if_pos g]
        rfl
      · rw [if_neg (by rw [e2]; exact fun x => x.elim (fun y => h y.1) g), if_neg g]
        rfl
  split <;> exact key

theorem fresh_Qs : True := by
  w_top off
  exact trivial
theorem cut_fm (n : Nat) (c : Nat) : cutF c (fmF (n : Int)) = dueEnd (n : Int) (unitF c) (aboveF c) (ranF c) := by
  unfold cutF unitF aboveF ranF
  match c with
  | 0 =>
    show Txt.slice (fmF (n : Int)) (some 1) (some 4) = dueEnd (n : Int) 64 2048 (Str.ofString "Ss")
    rw [due_c0, sig_kd _ 1 (by decide), sig_kd _ 2 (by decide), sig_kd _ 3 (by decide), fm_eq, slice10a, app3]
  | 1 =>
    show Txt.slice (fmF (n : Int)) (some 4) (some 7) = dueEnd (n : Int) 8 1024 (Str.ofString "Ss")
    rw [due_c1, sig_kd _ 4 (by decide), sig_kd _ 5 (by decide), sig_kd _ 6 (by decide), fm_eq, slice10b, app3]
  | _ + 2 =>
    show Txt.slice (fmF (n : Int)) (some 7) (some 10) = dueEnd (n : Int) 1 512 (Str.ofString "Tt")
    rw [due_c2, sig_kd _ 7 (by decide), sig_kd _ 8 (by decide), sig_kd _ 9 (by decide), fm_eq, slice10c, app3]
theorem cut_len (n : Nat) (c : Nat) : (cutF c (fmF (n : Int))).length = 3 := by
  unfold cutF
  rw [fm_eq]
  match c with
  | 0 => rw [slice10a]; rfl
  | 1 => rw [slice10b]; rfl
  | _ + 2 => rw [slice10c]; rfl
def inXst (z : Str) : Bool := !(Builtin.Str.occurrences (Str.ofString "xst") z 0 (Str.ofString "xst").length 1).isEmpty
theorem xst_all : inXst (Str.ofString "x") = true ∧ inXst (Str.ofString "s") = true ∧ inXst (Str.ofString "t") = true ∧ inXst (Str.ofString "S") = false ∧ inXst (Str.ofString "T") = false ∧ inXst (Str.ofString "-") = false := by decide +kernel
theorem cut_xst (n c : Nat) : inXst (Txt.item (cutF c (fmF (n : Int))) 2) = decide (((n : Int).fdiv (unitF c)).fmod 2 ≠ 0) := by
  obtain ⟨x1, x2, x3, x4, x5, x6⟩ := xst_all
  match c with
  | 0 =>
    show inXst (Txt.item (Txt.slice (fmF (n : Int)) (some 1) (some 4)) 2) = decide (((n : Int).fdiv 64).fmod 2 ≠ 0)
    rw [fm_eq, slice10a, item3, ← sig_kd _ 3 (by decide), show signOf (n : Int) ((3 : Nat) : Int) (fmTabs.getD 3 []) = _ from sig3 n 3 11 6 (Str.ofString "s") (Str.ofString "S") (Str.ofString "x") (by decide), show (n : Int).fdiv 64 = ((n / 2 ^ 6 : Nat) : Int) from fd_nat n 64, show ((n / 2 ^ 6 : Nat) : Int).fmod 2 = ((n / 2 ^ 6 % 2 : Nat) : Int) from fm_nat _ 2]
    by_cases g : n / 2 ^ 11 % 2 = 1 <;> by_cases h : n / 2 ^ 6 % 2 = 1 <;> simp [g, h, x1, x2, x4, x6] <;> omega
  | 1 =>
    show inXst (Txt.item (Txt.slice (fmF (n : Int)) (some 4) (some 7)) 2) = decide (((n : Int).fdiv 8).fmod 2 ≠ 0)
    rw [fm_eq, slice10b, item3, ← sig_kd _ 6 (by decide), show signOf (n : Int) ((6 : Nat) : Int) (fmTabs.getD 6 []) = _ from sig3 n 6 10 3 (Str.ofString "s") (Str.ofString "S") (Str.ofString "x") (by decide), show (n : Int).fdiv 8 = ((n / 2 ^ 3 : Nat) : Int) from fd_nat n 8, show ((n / 2 ^ 3 : Nat) : Int).fmod 2 = ((n / 2 ^ 3 % 2 : Nat) : Int) from fm_nat _ 2]
    by_cases g : n / 2 ^ 10 % 2 = 1 <;> by_cases h : n / 2 ^ 3 % 2 = 1 <;> simp [g, h, x1, x2, x4, x6] <;> omega
  | _ + 2 =>
    show inXst (Txt.item (Txt.slice (fmF (n : Int)) (some 7) (some 10)) 2) = decide (((n : Int).fdiv 1).fmod 2 ≠ 0)
    rw [fm_eq, slice10c, item3, ← sig_kd _ 9 (by decide), show signOf (n : Int) ((9 : Nat) : Int) (fmTabs.getD 9 []) = _ from sig3 n 9 9 0 (Str.ofString "t") (Str.ofString "T") (Str.ofString "x") (by decide), show (n : Int).fdiv 1 = ((n / 2 ^ 0 : Nat) : Int) from fd_nat n 1, show ((n / 2 ^ 0 : Nat) : Int).fmod 2 = ((n / 2 ^ 0 % 2 : Nat) : Int) from fm_nat _ 2]
    have hA : n / 2 ^ 0 % 2 < 2 := Nat.mod_lt _ (by decide)
    generalize n / 2 ^ 9 % 2 = A
    generalize n / 2 ^ 0 % 2 = B at hA
    by_cases g : A = 1 <;> by_cases h : B = 1 <;> simp [g, h, x1, x3, x5, x6] <;> omega

theorem fresh_Qv : True := by
  w_top off
  exact trivial
theorem lookup_zip {α : Type} : ∀ (P : List Str) (V : List α) (j : Nat) (k : Str) (v : α), P.Nodup → P[j]? = some k → V[j]? = some v → (P.zip V).lookup k = some v
  | [], _, _, _, _, _, h, _ => by simp at h
  | _ :: _, [], _, _, _, _, _, h => by simp at h
  | p :: P, w :: V, 0, k, v, _, h, g => by
    have e1 : p = k := by simpa using h
    have e2 : w = v := by simpa using g
    rw [List.zip_cons_cons, List.lookup_cons, e1, beq_self_eq_true, e2]
  | p :: P, w :: V, j + 1, k, v, hn, h, g => by
    have h' : P[j]? = some k := by simpa using h
    have g' : V[j]? = some v := by simpa using g
    rw [List.nodup_cons] at hn
    have ne : (k == p) = false := beq_eq_false_iff_ne.mpr fun e => hn.1 (e ▸ List.mem_of_getElem? h')
    rw [List.zip_cons_cons, List.lookup_cons, ne]
    exact lookup_zip P V j k v hn.2 h' g'
def modeOf (hs : List Home) (r : List Str) : Int := (modesF hs).getD ((rowsF hs).findIdx fun q => decide (q = r)) 0
theorem find_row {hs : List Home} {r : List Str} (hr : r ∈ rowsF hs) : (rowsF hs).findIdx (fun q => decide (q = r)) < (rowsF hs).length ∧ (rowsF hs)[(rowsF hs).findIdx fun q => decide (q = r)]? = some r := by
  have h : (rowsF hs).findIdx (fun q => decide (q = r)) < (rowsF hs).length := List.findIdx_lt_length_of_exists ⟨r, hr, decide_eq_true rfl⟩
  refine ⟨h, ?_⟩
  have e := List.findIdx_getElem (w := h)
  rw [List.getElem?_eq_getElem h]
  exact congrArg some (of_decide_eq_true e)
theorem mode_nat {hs : List Home} (G : GoodH hs) (r : List Str) : ∃ n : Nat, modeOf hs r = (n : Int) := by
  have h : ∀ m ∈ modesF hs, 0 ≤ m := by
    intro m hm
    obtain ⟨x, hx, e⟩ := List.mem_map.mp hm
    rw [← e]
    exact (G.2 x hx).1
  refine ⟨(modeOf hs r).toNat, (Int.toNat_of_nonneg ?_).symm⟩
  unfold modeOf
  rw [List.getD_eq_getElem?_getD]
  cases e : (modesF hs)[(rowsF hs).findIdx fun q => decide (q = r)]? with
  | none => exact Int.le_refl 0
  | some m => exact h m (List.mem_of_getElem? e)
theorem tab_at {hs : List Home} (G : GoodH hs) {yk : Str} {rk r : List Str} {i : Nat} (hy : yk = plF rk) (hk : rk ∈ rowsF hs) (hr : r ∈ rowsF hs) :
    tabF hs yk i (plF r) = some (Builtin.bitAnd (modeOf hs r) 61440 == 16384, cutF (clsF rk r r.length) (fmF (modeOf hs r))) := by
  have a := facts_rows G
  obtain ⟨hj, ej⟩ := find_row hr
  have hlen : (modesF hs).length = (rowsF hs).length := by
    rw [a.1]
    unfold modesF
    rw [List.length_map]
  have em : (modesF hs)[(rowsF hs).findIdx fun q => decide (q = r)]? = some (modeOf hs r) := by
    unfold modeOf
    rw [List.getD_eq_getElem?_getD, List.getElem?_eq_getElem (by rw [hlen]; exact hj)]
    rfl
  have ep : (placesF hs)[(rowsF hs).findIdx fun q => decide (q = r)]? = some (plF r) := by
    rw [facts_places G, List.getElem?_map, ej]
    rfl
  have en : (namesF hs)[(rowsF hs).findIdx fun q => decide (q = r)]? = some (fmF (modeOf hs r)) := by
    have e : namesF hs = (modesF hs).map fmF := by
      unfold namesF modesF
      rw [List.map_map]
      rfl
    rw [e, List.getElem?_map, em]
    rfl
  unfold tabF
  refine lookup_zip _ _ _ _ _ (nodup_places hs G) ep ?_
  have e1 : (isdL hs)[(rowsF hs).findIdx fun q => decide (q = r)]? = some (Builtin.bitAnd (modeOf hs r) 61440 == 16384) := by
    unfold isdL
    rw [List.getElem?_map, em]
    rfl
  have e2 : (signsL hs yk i)[(rowsF hs).findIdx fun q => decide (q = r)]? = some (cutF (clsF rk r r.length) (fmF (modeOf hs r))) := by
    unfold signsL
    rw [List.getElem?_zipWith, ep, en]
    show some (sgF (hostF yk) (hostF (plF r)) _ _) = _
    rw [hy]
    exact congrArg some (sg_cls (a.2.2 rk hk).1 (a.2.2 r hr).1 _ _)
  rw [List.getElem?_zip_eq_some]
  exact ⟨e1, e2⟩
theorem cls_take (rk row : List Str) (k : Nat) (h : k ≤ row.length) : clsF rk (row.take k) (row.take k).length = clsF rk row k := by
  unfold clsF
  rw [List.length_take, Nat.min_eq_left h, List.take_take, List.take_take, Nat.min_self, Nat.min_eq_left (Nat.sub_le k 1)]
theorem mode_take (hs : List Home) (row : List Str) (k : Nat) : modeF (modesF hs) (rowsF hs) row k = modeOf hs (row.take k) := rfl
theorem told_due {hs : List Home} (G : GoodH hs) {yk : Str} {rk row : List Str} {i : Nat} (hy : yk = plF rk) (hk : rk ∈ rowsF hs) (hr : row ∈ rowsF hs) :
    ∀ n k : Nat, k + n = row.length → toldF (tabF hs yk i) (plF row) ((List.range' k n).map fun k => plF (row.take k)) = dueGo (modesF hs) rk (rowsF hs) row (n + 1) k
  | 0, k, h => by
    have e : k = row.length := by omega
    obtain ⟨n, hn⟩ := mode_nat G row
    have t := tab_at (i := i) G hy hk hr
    rw [hn] at t
    have s0 : ¬ stopF (modesF hs) rk (rowsF hs) row k = true := by
      unfold stopF
      rw [decide_eq_false (by omega), Bool.false_and]
      exact Bool.false_ne_true
    rw [dueGo, if_neg s0, dueGo, mode_take, List.take_length, hn, ← cut_fm]
    show (match tabF hs yk i (plF row) with | some (_, y) => y | none => Str.empty) = _
    rw [t]
  | n + 1, k, h => by
    have hq : row.take k ∈ rowsF hs := ((facts_rows G).2.2 row hr).2.2.2 k
    obtain ⟨m, hm⟩ := mode_nat G (row.take k)
    have t := tab_at (i := i) G hy hk hq
    rw [hm, cls_take rk row k (by omega)] at t
    have ih := told_due G (i := i) hy hk hr n (k + 1) (by omega)
    have c := cut_xst m (clsF rk row k)
    unfold inXst at c
    rw [List.range'_succ, List.map_cons, dueGo]
    unfold stopF
    rw [mode_take, hm, decide_eq_true (show k < row.length by omega), Bool.true_and]
    show (match tabF hs yk i (plF (row.take k)) with
      | some (b, y) => if b = false then plF (row.take k) else if (Builtin.Str.occurrences (Str.ofString "xst") (Txt.item y 2) 0 (Str.ofString "xst").length 1).isEmpty = true then plF (row.take k) else toldF (tabF hs yk i) (plF row) ((List.range' (k + 1) n).map fun k => plF (row.take k))
      | none => Str.empty) = _
    rw [t, ih]
    show (if (Builtin.bitAnd (m : Int) 61440 == 16384) = false then plF (row.take k) else if (Builtin.Str.occurrences (Str.ofString "xst") (Txt.item (cutF (clsF rk row k) (fmF (m : Int))) 2) 0 (Str.ofString "xst").length 1).isEmpty = true then plF (row.take k) else _) = _
    rw [dir_of]
    generalize (Builtin.Str.occurrences (Str.ofString "xst") (Txt.item (cutF (clsF rk row k) (fmF (m : Int))) 2) 0 (Str.ofString "xst").length 1).isEmpty = B at c
    generalize (((m : Int).fdiv 4096).fmod 16) = X
    generalize (((m : Int).fdiv (unitF (clsF rk row k))).fmod 2) = Y at c
    generalize dueGo (modesF hs) rk (rowsF hs) row (n + 1) (k + 1) = D
    show _ = if _ then plF (row.take k) else D
    by_cases h1 : X = 4
    · rw [if_neg (by rw [h1]; decide)]
      by_cases h2 : Y = 0
      · have hB : B = true := by
          rw [decide_eq_false (fun h => h h2)] at c
          simpa using c
        rw [if_pos hB, if_pos (by rw [decide_eq_true h2, Bool.or_true])]
      · have hB : B = false := by
          rw [decide_eq_true h2] at c
          simpa using c
        rw [if_neg (by rw [hB]; decide), if_neg (by rw [decide_eq_false h2, decide_eq_false (fun h => h h1)]; decide)]
    · rw [if_pos (beq_eq_false_iff_ne.mpr h1), if_pos (by rw [decide_eq_true h1]; rfl)]
theorem pick_last {α : Type} (l : List α) (a : α) : pickL (l ++ [a]) none (some (-1)) = l := by
  unfold pickL
  have e1 : kms_lo none (l ++ [a]).length = 0 := rfl
  have e2 : kms_hi (some (-1)) (l ++ [a]).length = l.length := by
    rw [List.length_append]
    rfl
  rw [e1, e2, List.drop_zero, Nat.sub_zero, List.take_left']
  rfl
theorem crook_n (rk : List Str) (i : Nat) : crookN rk i = rk.length + 1 + i % 2 := by
  unfold crookN
  rw [show (0 + (i : Int)) = (i : Int) by omega, show ((i : Int).fmod 2) = ((i % 2 : Nat) : Int) from fm_nat i 2]
  omega
theorem pl_more : ∀ r ∈ rowsAll, Txt.endswith (plF r) (Str.ofString "/") = false ∧ (plF r).length ≠ 0 := by decide +kernel
theorem tell_ok {hs : List Home} (G : GoodH hs) (i : Nat) (yk : Str) (rk row : List Str) (hy : (placesF hs)[i]? = some yk) (hk : (rowsF hs)[i]? = some rk) (hr : row ∈ rowsF hs) : TellOK hs i yk rk row := by
  have a := facts_rows G
  have ey : yk = plF rk := by
    rw [facts_places G, List.getElem?_map, hk] at hy
    exact (Option.some.inj hy).symm
  have hkm := List.mem_of_getElem? hk
  obtain ⟨k1, k2, k3, k4⟩ := a.2.2 rk hkm
  obtain ⟨r1, r2, r3, r4⟩ := a.2.2 row hr
  have en := crook_n rk i
  have hm2 : i % 2 < 2 := Nat.mod_lt _ (by decide)
  generalize hn : crookN rk i = n at en
  have hnl : rk.length + 1 ≤ n := en ▸ Nat.le_add_right _ _
  have hn1 : 1 ≤ n := Nat.le_trans (Nat.le_add_left 1 _) hnl
  have hn6 : n ≤ 6 := en ▸ Nat.add_le_add (Nat.add_le_add k2 (Nat.le_refl 1)) (Nat.le_of_lt_succ hm2)
  have pm := pl_more rk k1
  have J : joinF yk (crookF rk i row) = Str.ofString "/" ++ Txt.join (Str.ofString "/") (crkAll rk row n) := by
    unfold crookF
    rw [ey, hn]
    exact join_crook pm.1 pm.2 (start_crook n hn1 row)
  have w1 := crook_in r3 n
  have w2 := crk_in k3 r3 n
  have l1 : ∀ x ∈ crookL n row, x.length ≤ 5 := fun x hx => (crk_words x (w1 x hx)).1
  have l2 : ∀ x ∈ crkAll rk row n, x.length ≤ 5 := fun x hx => (crk_words x (w2 x hx)).1
  have c1 := crook_len n row
  have c2 := crk_len rk row n
  have s1 := sum_len5 5 _ l1
  have j1 := join_len5 5 _ l1
  have j2 := join_len5 5 _ l2
  have one : (Str.ofString "/").length = 1 := by decide +kernel
  have d1 : (crookL n row).length ≤ 13 := by rw [c1]; exact Nat.add_le_add (Nat.add_le_add hn6 (Nat.le_refl 3)) r2
  have d2 : (crkAll rk row n).length ≤ 18 := by rw [c2]; exact Nat.add_le_add (Nat.add_le_add k2 (Nat.le_refl 1)) (Nat.add_le_add (Nat.add_le_add hn6 (Nat.le_refl 3)) r2)
  have C : compsF (joinF yk (crookF rk i row)) = crkAll rk row n := by
    rw [J]
    unfold compsF
    rw [sep_is, slice_tail]
    exact split_of_join 47 _ (by unfold crkAll; exact List.cons_ne_nil _ _) fun x hx => (crk_words x (w2 x hx)).2
  have L : normL (joinF yk (crookF rk i row)) = Str.ofString "local" :: row := by
    unfold normL
    rw [C]
    exact norm_all k3 r3 hnl
  have NF : normF (joinF yk (crookF rk i row)) = plF row := by
    unfold normF
    rw [L, pl_cut]
  have l3 : ∀ x ∈ Str.ofString "local" :: row, x.length ≤ 5 := by
    intro x hx
    rcases List.mem_cons.mp hx with rfl | hx
    · exact (crk_words _ (.tail _ (.tail _ (.tail _ (.head _))))).1
    · exact (crk_words x (.tail _ (.tail _ (.tail _ (.tail _ (r3 x hx)))))).1
  have s3 := sum_len5 5 _ l3
  have j3 := join_len5 5 _ l3
  have d3 : (Str.ofString "local" :: row).length ≤ 5 := Nat.add_le_add_right r2 1
  have W : wayF (plF row) = (List.range' 0 row.length).map (fun k => plF (row.take k)) ++ [plF row] := by
    rw [way_ok row r1, List.range_succ, List.map_append, List.range_eq_range']
    show _ ++ [plF (row.take row.length)] = _
    rw [List.take_length]
  have T : ∀ r ∈ rowsF hs, ∃ b z, tabF hs yk i (plF r) = some (b, z) ∧ 3 ≤ z.length := by
    intro r hr
    obtain ⟨m, hm⟩ := mode_nat G r
    have t := tab_at (i := i) G ey hkm hr
    rw [hm] at t
    exact ⟨_, _, t, by rw [cut_len]; exact Nat.le_refl 3⟩
  have jl : (joinF yk (crookF rk i row)).length ≤ 1000 := by
    rw [J, Str.length_append, one]
    exact Nat.le_trans (Nat.add_le_add_left (Nat.le_trans j2 (Nat.mul_le_mul_left 6 d2)) 1) (by decide)
  constructor
  case cw => rw [hn]; exact Nat.le_trans (Nat.add_le_add (Nat.le_trans s1 (Nat.mul_le_mul_left 5 d1)) d1) (by decide)
  case cl => unfold crookF; rw [hn]; exact Nat.le_trans j1 (Nat.le_trans (Nat.mul_le_mul_left 6 d1) (by decide))
  case nl => exact jl
  case n2 => rw [C]; exact Nat.le_trans d2 (by decide)
  case n3 => rw [L]; exact Nat.le_trans (Nat.add_le_add (Nat.le_trans s3 (Nat.mul_le_mul_left 5 d3)) d3) (by decide)
  case n4 => rw [L]; exact Nat.le_trans j3 (Nat.le_trans (Nat.mul_le_mul_left 6 d3) (by decide))
  case n5 => rw [J, sep_is, slice_head]; decide
  case n6 =>
    obtain ⟨z, hz⟩ : ∃ z, Str.ofString "/" ++ Txt.join (Str.ofString "/") (crkAll rk row n) = (⟨#[47, 108]⟩ : Str) ++ z := by
      have e : ∀ l, Txt.join (Str.ofString "/") l = Str.join (Str.ofString "/") l := fun l => StrLaws.glued_eq_join _ _
      have e2 : (Str.ofString "local").cps.toList = [108, 111, 99, 97, 108] := by decide +kernel
      obtain ⟨y, q, hq⟩ : ∃ y q, rk ++ crookL n row = y :: q := by
        cases h : rk ++ crookL n row with
        | nil =>
          have := congrArg List.length h
          rw [List.length_append, c1] at this
          exact absurd this (by show ¬ _ = 0; omega)
        | cons y q => exact ⟨y, q, rfl⟩
      refine ⟨⟨#[111, 99, 97, 108, 47]⟩ ++ Str.join ⟨#[47]⟩ (y :: q), ?_⟩
      refine str_ext ?_
      unfold crkAll
      rw [e, sep_is, List.cons_append, hq, app_cps, join_two, e2, app_cps, app_cps]
      rfl
    rw [J, hz, slice_snd]
    decide +kernel
  case xl =>
    rw [NF]
    exact Nat.le_trans (pl_len row r1) (by decide)
  case way =>
    intro y hy
    rw [NF, way_ok row r1] at hy
    obtain ⟨k, -, e⟩ := List.mem_map.mp hy
    rw [← e]
    exact T _ (r4 k)
  case way0 =>
    rw [NF]
    exact T row hr
  case hix => exact fun k _ => (find_row (r4 k)).1
  case eq =>
    rw [NF, W, pick_last, told_due G ey hkm hr row.length 0 (by omega)]
    rfl

end Mine
set_option maxRecDepth 100000 in
set_option maxHeartbeats 8000000 in
theorem PySem.Challenge.cw_ik0073_01_holds : PySem.Challenge.rw_ik0073_01.Holds :=
  Mine.law_top Mine.law_facts Mine.law_facts2 Mine.law_facts3 (fun _ G i yk rk row hy hk hr => Mine.tell_ok G i yk rk row hy hk hr) Mine.dir_len
